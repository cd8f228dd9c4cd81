import JvmDerived
import JvmDerived.Pilot.@@N@@Statement
import JvmDerived.Pilot.@@N@@Code
set_option linter.unusedVariables false
set_option linter.unusedSimpArgs false
/- laws to paste: Road.backV, Road.lenW, Road.chN, Road.eqW, Road.codOf (cut by pick.py; bodies as the Statement names them) -/
namespace Jvm.Pilot.@@N@@
namespace StrChars
open Jvm Sem ClassFile Op Lib Jvm.Stand Jvm.Free.XT Jvm.Free.ALB Jvm.Free.JM Jvm.Free
open Jvm.Lib.Cold (StaticIs)
/-- a char array whose places are chars -/
def Ch (a : Addr) (A : Cell) (U : State) : Prop := Arr .char a A U ∧ Typed .char A
theorem Ch.mv {a : Addr} {A : Cell} {U U' : State} (h : Ch a A U) (hal : U.vm.Alike U'.vm) (hh : U'.heap = U.heap) : Ch a A U' := ⟨h.1.mv hal hh, h.2⟩
theorem Ch.keep {a : Addr} {A : Cell} {U U' : State} (h : Ch a A U) (hal : U.vm.Alike U'.vm) (hk : U'.heap[a]? = some A) : Ch a A U' := ⟨h.1.keep hal hk, h.2⟩
/-- what place i of a char[]'s cell holds -/
def cv (A : Cell) (i : Nat) : Int32 := match A.slots[i]? with | some (.int x) => x | _ => 0
theorem Ch.get {a : Addr} {A : Cell} {U : State} (h : Ch a A U) {i : Nat} (hi : i < A.slots.size) : A.slots[i]? = some (.int (cv A i)) := by
  have e := Array.getElem?_eq_getElem hi
  have f := h.2 i _ e
  unfold cv; rw [e]
  generalize A.slots[i] = v at f
  cases v <;> simp [fits] at f ⊢
/-- the byte that i2b leaves of a char -/
def lo8 (x : Int32) : Int32 := x.toInt8.toInt32
theorem fits_lo8 (y : Int32) : fits .byte (.int (lo8 y)) = true := by
  have h1 := y.toInt8.le_toInt
  have h2 := y.toInt8.toInt_lt
  simp only [lo8, fits, Bool.and_eq_true, decide_eq_true_eq, Int32.le_iff_toInt_le, Int8.toInt_toInt32, show (-128 : Int32).toInt = -128 from by decide, show (127 : Int32).toInt = 127 from by decide]
  omega
/-- A' is A but that each place j of lo .. hi - 1 holds f j -/
def Laid (A A' : Cell) (lo hi : Nat) (f : Nat → Value) : Prop := A'.cls = A.cls ∧ A'.vm = A.vm ∧ A'.slots.size = A.slots.size ∧ ∀ i, A'.slots[i]? = if lo ≤ i ∧ i < hi then some (f i) else A.slots[i]?
theorem Laid.zero (A : Cell) (lo : Nat) (f : Nat → Value) : Laid A A lo (lo + 0) f := ⟨rfl, rfl, rfl, fun i => by rw [if_neg (by omega)]⟩
theorem Laid.step {A Ak : Cell} {lo k : Nat} {f : Nat → Value} {v : Value} (h : Laid A Ak lo k f) (hlo : lo ≤ k) (hk : k < Ak.slots.size) (hv : v = f k) : Laid A (Ak.setSlot k v) lo (k + 1) f := by
  refine ⟨h.1, h.2.1, by simpa [Cell.setSlot] using h.2.2.1, fun i => ?_⟩
  by_cases e : k = i
  · subst e; rw [Cell.slots_setSlot_self v hk, if_pos (by omega), hv]
  · rw [Cell.slots_setSlot_ne v e, h.2.2.2 i]
    by_cases q : lo ≤ i ∧ i < k
    · rw [if_pos q, if_pos (by omega)]
    · rw [if_neg q, if_neg (by omega)]
def U16 : String := "java/lang/StringUTF16"
namespace Cmp5
def yN : MethodName := ⟨"java/lang/StringUTF16", "compress", "([CI[BII)I"⟩
abbrev yB : ByteArray := jdk_52_method_21_code
theorem d0 : decode yB 0 = .ok (.iconst 0, 1) := by decide +kernel
theorem d1 : decode yB 1 = .ok (.istore 5, 2) := by decide +kernel
theorem d3 : decode yB 3 = .ok (.iload 5, 2) := by decide +kernel
theorem d5 : decode yB 5 = .ok (.iload 4, 2) := by decide +kernel
theorem d7 : decode yB 7 = .ok (.if_icmp (.ge) 37, 3) := by decide +kernel
theorem d10 : decode yB 10 = .ok (.aload_n 0, 1) := by decide +kernel
theorem d11 : decode yB 11 = .ok (.iload_n 1, 1) := by decide +kernel
theorem d12 : decode yB 12 = .ok (.caload, 1) := by decide +kernel
theorem d13 : decode yB 13 = .ok (.istore 6, 2) := by decide +kernel
theorem d15 : decode yB 15 = .ok (.iload 6, 2) := by decide +kernel
theorem d17 : decode yB 17 = .ok (.sipush 255, 3) := by decide +kernel
theorem d20 : decode yB 20 = .ok (.if_icmp (.le) 6, 3) := by decide +kernel
theorem d26 : decode yB 26 = .ok (.aload_n 2, 1) := by decide +kernel
theorem d27 : decode yB 27 = .ok (.iload_n 3, 1) := by decide +kernel
theorem d28 : decode yB 28 = .ok (.iload 6, 2) := by decide +kernel
theorem d30 : decode yB 30 = .ok (.i2b, 1) := by decide +kernel
theorem d31 : decode yB 31 = .ok (.bastore, 1) := by decide +kernel
theorem d32 : decode yB 32 = .ok (.iinc 1 1, 3) := by decide +kernel
theorem d35 : decode yB 35 = .ok (.iinc 3 1, 3) := by decide +kernel
theorem d38 : decode yB 38 = .ok (.iinc 5 1, 3) := by decide +kernel
theorem d41 : decode yB 41 = .ok (.goto (-38), 3) := by decide +kernel
theorem d44 : decode yB 44 = .ok (.iload 4, 2) := by decide +kernel
theorem d46 : decode yB 46 = .ok (.ireturn, 1) := by decide +kernel
def site : List Cond := []
def tab : Cond := tabOf yN yB 7 (some .int) site
def P (b : Addr) (A : Cell) (d : Addr) (B : Cell) (o q len : Nat) (args : Array Value) (s : State) : Prop := args = #[.ref b, .int (Int32.ofNat o), .ref d, .int (Int32.ofNat q), .int (Int32.ofNat len)] ∧ Ch b A s ∧ Arr .byte d B s ∧ b ≠ d ∧ o + len ≤ A.slots.size ∧ q + len ≤ B.slots.size ∧ ∀ i, i < len → ¬ 255 < cv A (o + i)
def E (b : Addr) (A : Cell) (d : Addr) (B : Cell) (o q len : Nat) (r : Option Value) (s u : State) : Prop := r = some (.int (Int32.ofNat len)) ∧ ∃ B', Put d B' s u ∧ Laid B B' q (q + len) (fun j => Value.int (lo8 (cv A (o + (j - q)))))
/-- no char of the range above 255: len; the places written hold each char's low byte -/
theorem law (l : Launch) (b : Addr) (A : Cell) (d : Addr) (B : Cell) (o q len : Nat) : Law l yN 5 5 0 0 yB 7 (some .int) site (P b A d B o q len) (E b A d B o q len) (copyLocs d q len) 0 0 := by
  refine Law.of_walk (plainFor_of_name (by decide +kernel)) (by decide +kernel) (by decide +kernel) (by decide) (fun _ _ h => by rw [h.1]; rfl) (fun _ U U' hal hh h => ⟨h.1, h.2.1.mv hal hh, h.2.2.1.mv hal hh, h.2.2.2⟩) (fun r U U' V V' h1 hal h2 h => ⟨h.1, h.2.elim fun B' q => ⟨B', q.1.mv h1 h2, q.2⟩⟩) ?_
  intro p e s m args below meth c s₁ X0 hexec hbytes hml hret hlk hnm hown hh0 W hP
  obtain ⟨rfl, hA, hB, hne, l1, l2, hp⟩ := hP
  have c1 : Steps p.tables e below (s₁.setTop (entryFrame m #[.ref b, .int (Int32.ofNat o), .ref d, .int (Int32.ofNat q), .int (Int32.ofNat len)] 7)) (s₁.setTop (mkF m 0 #[.val (.ref b), .val (.int (Int32.ofNat o)), .val (.ref d), .val (.int (Int32.ofNat q)), .val (.int (Int32.ofNat len)), .unset, .unset] [])) := entry rfl
  have hA0 := hA.1.mv X0.warmed.alike hh0
  have hB0 := hB.mv X0.warmed.alike hh0
  have a31 := hA.1.2.2.2
  have c2 : Steps p.tables e below (s₁.setTop (entryFrame m #[.ref b, .int (Int32.ofNat o), .ref d, .int (Int32.ofNat q), .int (Int32.ofNat len)] 7)) (s₁.setTop (mkF m 3 #[.val (.ref b), .val (.int (Int32.ofNat o)), .val (.ref d), .val (.int (Int32.ofNat q)), .val (.int (Int32.ofNat len)), .val (.int 0), .unset] [])) := c1.trans (by
    refine iconstV X0.here hexec rfl 0 (hb hbytes d0) (by decide) ?_
    refine XS.istore X0.here hexec rfl (hb hbytes d1) rfl rfl ?_
    exact Steps.refl _)
  have loop : ∀ (r i : Nat), i + r = len → ∀ (z : Slot), (z = .unset ∨ ∃ w, z = .val w ∧ w.category = 1) → ∀ (Tl : State) (Bk : Cell), Stand p l e { frames := 0, locals := 0, cells := 0, slots := 0 } s m #[.ref b, .int (Int32.ofNat o), .ref d, .int (Int32.ofNat q), .int (Int32.ofNat len)] below meth c Tl ([] ++ copyLocs d q i) 0 0 → Put d Bk s₁ Tl → Laid B Bk q (q + i) (fun j => Value.int (lo8 (cv A (o + (j - q))))) →
      Steps p.tables e below (s₁.setTop (entryFrame m #[.ref b, .int (Int32.ofNat o), .ref d, .int (Int32.ofNat q), .int (Int32.ofNat len)] 7)) (Tl.setTop (mkF m 3 #[.val (.ref b), .val (.int (Int32.ofNat (o + i))), .val (.ref d), .val (.int (Int32.ofNat (q + i))), .val (.int (Int32.ofNat len)), .val (.int (Int32.ofNat i)), z] [])) → ∃ (T' : State) (B' : Cell) (z' : Slot), Stand p l e { frames := 0, locals := 0, cells := 0, slots := 0 } s m #[.ref b, .int (Int32.ofNat o), .ref d, .int (Int32.ofNat q), .int (Int32.ofNat len)] below meth c T' ([] ++ copyLocs d q len) 0 0 ∧ Put d B' s₁ T' ∧ Laid B B' q (q + len) (fun j => Value.int (lo8 (cv A (o + (j - q))))) ∧
      Steps p.tables e below (s₁.setTop (entryFrame m #[.ref b, .int (Int32.ofNat o), .ref d, .int (Int32.ofNat q), .int (Int32.ofNat len)] 7)) (T'.setTop (mkF m 3 #[.val (.ref b), .val (.int (Int32.ofNat (o + len))), .val (.ref d), .val (.int (Int32.ofNat (q + len))), .val (.int (Int32.ofNat len)), .val (.int (Int32.ofNat len)), z'] [])) := by
    intro r
    induction r with
    | zero =>
      intro i hi z hz Tl Bk Xl pl fl cl
      have hil : i = len := by omega
      rw [hil] at Xl fl cl
      exact ⟨Tl, Bk, z, Xl, pl, fl, cl⟩
    | succ r ih =>
      intro i hi z hz Tl Bk Xl pl fl cl
      have all := X0.warmed.alike.symm.trans Xl.warmed.alike
      have hAl := hA0.keep all (pl.other hne hA0.1)
      have hBk := hB0.like all pl.1 fl.1 fl.2.1 fl.2.2.1
      have hlt : q + i < Bk.slots.size := by rw [fl.2.2.1]; omega
      have c3 : Steps p.tables e below (s₁.setTop (entryFrame m #[.ref b, .int (Int32.ofNat o), .ref d, .int (Int32.ofNat q), .int (Int32.ofNat len)] 7)) (Tl.setTop (mkF m 12 #[.val (.ref b), .val (.int (Int32.ofNat (o + i))), .val (.ref d), .val (.int (Int32.ofNat (q + i))), .val (.int (Int32.ofNat len)), .val (.int (Int32.ofNat i)), z] [.int (Int32.ofNat (o + i)), .ref b])) := cl.trans (by
        refine XS.iload Xl.here hexec rfl (hb hbytes d3) rfl ?_
        refine XS.iload Xl.here hexec rfl (hb hbytes d5) rfl ?_
        refine XS.icmpNo Xl.here hexec rfl (hb hbytes d7) rfl (ii_ge_f (lt32 (by omega) (by omega))) ?_
        refine XS.aloadN Xl.here hexec rfl (hb hbytes d10) rfl rfl ?_
        refine XS.iloadN Xl.here hexec rfl (hb hbytes d11) rfl ?_
        exact Steps.refl _)
      have c4 : Steps p.tables e below (s₁.setTop (entryFrame m #[.ref b, .int (Int32.ofNat o), .ref d, .int (Int32.ofNat q), .int (Int32.ofNat len)] 7)) (Tl.setTop (mkF m 13 #[.val (.ref b), .val (.int (Int32.ofNat (o + i))), .val (.ref d), .val (.int (Int32.ofNat (q + i))), .val (.int (Int32.ofNat len)), .val (.int (Int32.ofNat i)), z] [.int (cv A (o + i))])) := c3.trans (by
        refine Xl.aget hexec hAl rfl (hA.get (i := o + i) (by omega)) rfl rfl (hb hbytes d12) ?_
        exact Steps.refl _)
      have c5 : Steps p.tables e below (s₁.setTop (entryFrame m #[.ref b, .int (Int32.ofNat o), .ref d, .int (Int32.ofNat q), .int (Int32.ofNat len)] 7)) (Tl.setTop (mkF m 15 #[.val (.ref b), .val (.int (Int32.ofNat (o + i))), .val (.ref d), .val (.int (Int32.ofNat (q + i))), .val (.int (Int32.ofNat len)), .val (.int (Int32.ofNat i)), .val (.int (cv A (o + i)))] [])) := c4.trans (by
        refine XS.istoreS Xl.here hexec rfl (hb hbytes d13) rfl rfl hz ?_
        exact Steps.refl _)
      have c6 : Steps p.tables e below (s₁.setTop (entryFrame m #[.ref b, .int (Int32.ofNat o), .ref d, .int (Int32.ofNat q), .int (Int32.ofNat len)] 7)) (Tl.setTop (mkF m 31 #[.val (.ref b), .val (.int (Int32.ofNat (o + i))), .val (.ref d), .val (.int (Int32.ofNat (q + i))), .val (.int (Int32.ofNat len)), .val (.int (Int32.ofNat i)), .val (.int (cv A (o + i)))] [.int (lo8 (cv A (o + i))), .int (Int32.ofNat (q + i)), .ref d])) := c5.trans (by
        refine XS.iload Xl.here hexec rfl (hb hbytes d15) rfl ?_
        refine sipushV Xl.here hexec rfl 255 (hb hbytes d17) (by decide) ?_
        refine XS.icmpYes Xl.here hexec rfl (pc0 := 20) rfl (hb hbytes d20) rfl (ii_le_t (hp i (by omega))) (by decide) rfl ?_
        refine XS.aloadN Xl.here hexec rfl (hb hbytes d26) rfl rfl ?_
        refine XS.iloadN Xl.here hexec rfl (hb hbytes d27) rfl ?_
        refine XS.iload Xl.here hexec rfl (hb hbytes d28) rfl ?_
        refine i2b Xl.here hexec rfl (hb hbytes d30) rfl ?_
        exact Steps.refl _)
      obtain ⟨T7, X7, p7, st7⟩ := Xl.aput hexec hBk rfl hlt rfl (fits_lo8 (cv A (o + i))) (g := (mkF m 31 #[.val (.ref b), .val (.int (Int32.ofNat (o + i))), .val (.ref d), .val (.int (Int32.ofNat (q + i))), .val (.int (Int32.ofNat len)), .val (.int (Int32.ofNat i)), .val (.int (cv A (o + i)))] [.int (lo8 (cv A (o + i))), .int (Int32.ofNat (q + i)), .ref d])) rfl (rest := []) rfl (hb hbytes d31)
      have c8 : Steps p.tables e below (s₁.setTop (entryFrame m #[.ref b, .int (Int32.ofNat o), .ref d, .int (Int32.ofNat q), .int (Int32.ofNat len)] 7)) (T7.setTop (mkF m 32 #[.val (.ref b), .val (.int (Int32.ofNat (o + i))), .val (.ref d), .val (.int (Int32.ofNat (q + i))), .val (.int (Int32.ofNat len)), .val (.int (Int32.ofNat i)), .val (.int (cv A (o + i)))] [])) := c6.trans (st7 _ (Steps.refl _))
      have c9 : Steps p.tables e below (s₁.setTop (entryFrame m #[.ref b, .int (Int32.ofNat o), .ref d, .int (Int32.ofNat q), .int (Int32.ofNat len)] 7)) (T7.setTop (mkF m 3 #[.val (.ref b), .val (.int (Int32.ofNat (o + i) + 1)), .val (.ref d), .val (.int (Int32.ofNat (q + i) + 1)), .val (.int (Int32.ofNat len)), .val (.int (Int32.ofNat i + 1)), .val (.int (cv A (o + i)))] [])) := c8.trans (by
        refine iincV X7.here hexec rfl 1 (hb hbytes d32) (by decide) rfl rfl ?_
        refine iincV X7.here hexec rfl 1 (hb hbytes d35) (by decide) rfl rfl ?_
        refine iincV X7.here hexec rfl 1 (hb hbytes d38) (by decide) rfl rfl ?_
        refine XS.goto X7.here hexec rfl (pc0 := 41) rfl (hb hbytes d41) (by decide) rfl ?_
        exact Steps.refl _)
      have c10 : Steps p.tables e below (s₁.setTop (entryFrame m #[.ref b, .int (Int32.ofNat o), .ref d, .int (Int32.ofNat q), .int (Int32.ofNat len)] 7)) (T7.setTop (mkF m 3 #[.val (.ref b), .val (.int (Int32.ofNat (o + (i + 1)))), .val (.ref d), .val (.int (Int32.ofNat (q + (i + 1)))), .val (.int (Int32.ofNat len)), .val (.int (Int32.ofNat (i + 1))), .val (.int (cv A (o + i)))] [])) := by
        have := c9
        rw [succ32, succ32, succ32] at this
        exact this
      exact ih (i + 1) (by omega) _ (Or.inr ⟨_, rfl, rfl⟩) T7 _ (by rw [copyLocs_step, ← List.append_assoc]; exact X7) (pl.trans p7) (fl.step (by omega) hlt (by simp)) c10
  obtain ⟨T9, B9, z9, X9, p9, f9, g9⟩ := loop len 0 (by omega) .unset (Or.inl rfl) s₁ B (by simpa [copyLocs] using X0) ⟨hB0.1, fun _ _ => rfl, rfl⟩ (Laid.zero _ _ _) c2
  have c11 : Steps p.tables e below (s₁.setTop (entryFrame m #[.ref b, .int (Int32.ofNat o), .ref d, .int (Int32.ofNat q), .int (Int32.ofNat len)] 7)) (T9.setTop (mkF m 46 #[.val (.ref b), .val (.int (Int32.ofNat (o + len))), .val (.ref d), .val (.int (Int32.ofNat (q + len))), .val (.int (Int32.ofNat len)), .val (.int (Int32.ofNat len)), z9] [.int (Int32.ofNat len)])) := g9.trans (by
    refine XS.iload X9.here hexec rfl (hb hbytes d3) rfl ?_
    refine XS.iload X9.here hexec rfl (hb hbytes d5) rfl ?_
    refine XS.icmpYes X9.here hexec rfl (pc0 := 7) rfl (hb hbytes d7) rfl (ii_ge_t (nlt32 (by omega) (Nat.le_refl _))) (by decide) rfl ?_
    refine XS.iload X9.here hexec rfl (hb hbytes d44) rfl ?_
    exact Steps.refl _)
  exact ⟨T9, some (.int (Int32.ofNat len)), _, _, _, X9, by simp, rfl, rfl, (fun h => by cases h), ⟨rfl, B9, p9.from hh0, f9⟩, fun fs hl => c11.trans (X9.ireturnOut hexec hret rfl (Or.inl rfl) (hb hbytes d46) hl)⟩
end Cmp5
namespace Cmp3
def yN : MethodName := ⟨"java/lang/StringUTF16", "compress", "([CII)[B"⟩
abbrev yB : ByteArray := jdk_52_method_16_code
theorem d0 : decode yB 0 = .ok (.iload_n 2, 1) := by decide +kernel
theorem d1 : decode yB 1 = .ok (.newarray .byte, 2) := by decide +kernel
theorem d3 : decode yB 3 = .ok (.astore_n 3, 1) := by decide +kernel
theorem d4 : decode yB 4 = .ok (.aload_n 0, 1) := by decide +kernel
theorem d5 : decode yB 5 = .ok (.iload_n 1, 1) := by decide +kernel
theorem d6 : decode yB 6 = .ok (.aload_n 3, 1) := by decide +kernel
theorem d7 : decode yB 7 = .ok (.iconst 0, 1) := by decide +kernel
theorem d8 : decode yB 8 = .ok (.iload_n 2, 1) := by decide +kernel
theorem d9 : decode yB 9 = .ok (.invokestatic 115, 3) := by decide +kernel
theorem d12 : decode yB 12 = .ok (.istore 4, 2) := by decide +kernel
theorem d14 : decode yB 14 = .ok (.iload 4, 2) := by decide +kernel
theorem d16 : decode yB 16 = .ok (.iload_n 2, 1) := by decide +kernel
theorem d17 : decode yB 17 = .ok (.if_icmp (.eq) 40, 3) := by decide +kernel
theorem d57 : decode yB 57 = .ok (.aload_n 3, 1) := by decide +kernel
theorem d58 : decode yB 58 = .ok (.areturn, 1) := by decide +kernel
def site : List Cond := [.arrayClass .byte, Cmp5.tab] ++ staticW U16 115 Cmp5.yN
def tab : Cond := tabOf yN yB 6 (some (.array .byte)) site
def P (b : Addr) (A : Cell) (o len : Nat) (args : Array Value) (s : State) : Prop := args = #[.ref b, .int (Int32.ofNat o), .int (Int32.ofNat len)] ∧ Ch b A s ∧ o + len ≤ A.slots.size ∧ len ≤ 536870912 ∧ ∀ i, i < len → ¬ 255 < cv A (o + i)
def E (b : Addr) (A : Cell) (o len : Nat) (r : Option Value) (s u : State) : Prop := NewArr .byte "[B" len (fun j => .int (lo8 (cv A (o + j)))) r s u ∧ u.heap.size = s.heap.size + 1
/-- no char of the range above 255: a new byte[] of their low bytes -/
theorem law (l : Launch) (b : Addr) (A : Cell) (o len : Nat) : Law l yN 3 3 1 18 yB 6 (some (.array .byte)) site (P b A o len) (E b A o len) [] 1 len := by
  refine Law.of_walk (plainFor_of_name (by decide +kernel)) (by decide +kernel) (by decide +kernel) (by decide) (fun _ _ h => by rw [h.1]; rfl) (fun _ U U' hal hh h => ⟨h.1, h.2.1.mv hal hh, h.2.2⟩) (fun r U U' V V' h1 hal h2 h => ⟨NewArr.mv r U U' V V' h1 hal h2 h.1, by rw [h1, h2]; exact h.2⟩) ?_
  intro p e s m args below meth c s₁ X0 hexec hbytes hml hret hlk hnm hown hh0 W hP
  obtain ⟨rfl, hA, l1, l2, hp⟩ := hP
  have a31 := hA.1.2.2.2
  have c1 : Steps p.tables e below (s₁.setTop (entryFrame m #[.ref b, .int (Int32.ofNat o), .int (Int32.ofNat len)] 6)) (s₁.setTop (mkF m 0 #[.val (.ref b), .val (.int (Int32.ofNat o)), .val (.int (Int32.ofNat len)), .unset, .unset, .unset] [])) := entry rfl
  have c2 : Steps p.tables e below (s₁.setTop (entryFrame m #[.ref b, .int (Int32.ofNat o), .int (Int32.ofNat len)] 6)) (s₁.setTop (mkF m 1 #[.val (.ref b), .val (.int (Int32.ofNat o)), .val (.int (Int32.ofNat len)), .unset, .unset, .unset] [.int (Int32.ofNat len)])) := c1.trans (by
    refine XS.iloadN X0.here hexec rfl (hb hbytes d0) rfl ?_
    exact Steps.refl _)
  obtain ⟨T3, B3, X3, ba3, bs3, bv3, bh3, bf3, st3⟩ := X0.anew hexec (atype := .byte) (wk W (.arrayClass .byte)) rfl (by show len * 1 ≤ _; omega) (by omega) (g := (mkF m 1 #[.val (.ref b), .val (.int (Int32.ofNat o)), .val (.int (Int32.ofNat len)), .unset, .unset, .unset] [.int (Int32.ofNat len)])) rfl (hb hbytes d1) (rest := []) rfl (Nat.le_refl _) (by show 0 + len ≤ len; omega)
  rw [hh0] at ba3 st3
  have kp3 : XT.Kept s T3 := (XT.Kept.of_eq hh0).push bh3
  have hA3 := hA.keep X3.warmed.alike (kp3 _ _ hA.1.1)
  have hne : b ≠ s.heap.size := hA.1.ne
  have c4 : Steps p.tables e below (s₁.setTop (entryFrame m #[.ref b, .int (Int32.ofNat o), .int (Int32.ofNat len)] 6)) (T3.setTop (mkF m 3 #[.val (.ref b), .val (.int (Int32.ofNat o)), .val (.int (Int32.ofNat len)), .unset, .unset, .unset] [.ref s.heap.size])) := c2.trans (st3 _ (Steps.refl _))
  have c5 : Steps p.tables e below (s₁.setTop (entryFrame m #[.ref b, .int (Int32.ofNat o), .int (Int32.ofNat len)] 6)) (T3.setTop (mkF m 9 #[.val (.ref b), .val (.int (Int32.ofNat o)), .val (.int (Int32.ofNat len)), .val (.ref s.heap.size), .unset, .unset] [.int (Int32.ofNat len), .int 0, .ref s.heap.size, .int (Int32.ofNat o), .ref b])) := c4.trans (by
    refine XS.astoreN X3.here hexec rfl (hb hbytes d3) rfl rfl rfl ?_
    refine XS.aloadN X3.here hexec rfl (hb hbytes d4) rfl rfl ?_
    refine XS.iloadN X3.here hexec rfl (hb hbytes d5) rfl ?_
    refine XS.aloadN X3.here hexec rfl (hb hbytes d6) rfl rfl ?_
    refine iconstV X3.here hexec rfl 0 (hb hbytes d7) (by decide) ?_
    refine XS.iloadN X3.here hexec rfl (hb hbytes d8) rfl ?_
    exact Steps.refl _)
  obtain ⟨v6, T6, X6, E6, g6⟩ := X3.callS hexec (Cmp5.law l b A s.heap.size B3 o 0 len) hown (wks W (staticW U16 115 Cmp5.yN)) (wk W Cmp5.tab) (W := 0) (Nat.le_of_ble_eq_true rfl) (Nat.le_of_ble_eq_true rfl) (Nat.le_refl _) (by show 0 + len + 0 ≤ len; omega) (g := (mkF m 9 #[.val (.ref b), .val (.int (Int32.ofNat o)), .val (.int (Int32.ofNat len)), .val (.ref s.heap.size), .unset, .unset] [.int (Int32.ofNat len), .int (Int32.ofNat 0), .ref s.heap.size, .int (Int32.ofNat o), .ref b])) rfl (by rw [hml]; rfl) c5 (argsL := [.ref b, .int (Int32.ofNat o), .ref s.heap.size, .int (Int32.ofNat 0), .int (Int32.ofNat len)]) (rest := []) rfl rfl (by show 2 * 0 + 0 ≤ _; decide) (hb hbytes d9) (⟨rfl, hA3, ba3, hne, l1, by rw [bs3]; simp, hp⟩)
  obtain ⟨rfl, B6, p6, f6⟩ := E6
  have c7 : Steps p.tables e below (s₁.setTop (entryFrame m #[.ref b, .int (Int32.ofNat o), .int (Int32.ofNat len)] 6)) (T6.setTop (mkF m 12 #[.val (.ref b), .val (.int (Int32.ofNat o)), .val (.int (Int32.ofNat len)), .val (.ref s.heap.size), .unset, .unset] [.int (Int32.ofNat len)])) := g6
  have c8 : Steps p.tables e below (s₁.setTop (entryFrame m #[.ref b, .int (Int32.ofNat o), .int (Int32.ofNat len)] 6)) (T6.setTop (mkF m 58 #[.val (.ref b), .val (.int (Int32.ofNat o)), .val (.int (Int32.ofNat len)), .val (.ref s.heap.size), .val (.int (Int32.ofNat len)), .unset] [.ref s.heap.size])) := c7.trans (by
    refine XS.istore X6.here hexec rfl (hb hbytes d12) rfl rfl ?_
    refine XS.iload X6.here hexec rfl (hb hbytes d14) rfl ?_
    refine XS.iloadN X6.here hexec rfl (hb hbytes d16) rfl ?_
    refine XS.icmpYes X6.here hexec rfl (pc0 := 17) rfl (hb hbytes d17) rfl (ii_eq_t rfl) (by decide) rfl ?_
    refine XS.aloadN X6.here hexec rfl (hb hbytes d57) rfl rfl ?_
    exact Steps.refl _)
  have X8 := X6.wide (L' := []) (cells' := 1) (slots' := len) (fun x hx hlt => by
    simp only [List.nil_append, copyLocs, List.mem_map, List.mem_range] at hx
    obtain ⟨i, -, rfl⟩ := hx
    exact absurd hlt (Nat.lt_irrefl _)) (Nat.le_refl _) (by omega)
  exact ⟨T6, some (.ref s.heap.size), _, _, _, X8, rfl, rfl, rfl, (fun h => by cases h), ⟨⟨rfl, B6, ba3.like (X3.warmed.alike.symm.trans X6.warmed.alike) p6.1 f6.1 f6.2.1 f6.2.2.1, f6.2.1.trans bv3, by rw [X6.warmed.alike.findClass, f6.1]; exact bf3, by rw [f6.2.2.1, bs3]; simp, fun j hj => by rw [f6.2.2.2 j, if_pos (by omega)]; rfl, kp3.put p6 (Nat.le_refl _)⟩, by rw [p6.2.2, bh3, hh0]; simp⟩, fun fs hl => c8.trans (X8.areturnOut hexec rfl hret rfl (hb hbytes d58) hl)⟩
end Cmp3
namespace CodL
def yN : MethodName := ⟨"java/lang/StringUTF16", "coderFromArrayLen", "([BI)B"⟩
abbrev yB : ByteArray := jdk_52_method_15_code
theorem d0 : decode yB 0 = .ok (.iload_n 1, 1) := by decide +kernel
theorem d1 : decode yB 1 = .ok (.aload_n 0, 1) := by decide +kernel
theorem d2 : decode yB 2 = .ok (.arraylength, 1) := by decide +kernel
theorem d3 : decode yB 3 = .ok (.isub, 1) := by decide +kernel
theorem d4 : decode yB 4 = .ok (.bipush 31, 2) := by decide +kernel
theorem d6 : decode yB 6 = .ok (.iushr, 1) := by decide +kernel
theorem d7 : decode yB 7 = .ok (.i2b, 1) := by decide +kernel
theorem d8 : decode yB 8 = .ok (.ireturn, 1) := by decide +kernel
def site : List Cond := []
def tab : Cond := tabOf yN yB 2 (some .byte) site
def P (d : Addr) (B : Cell) (args : Array Value) (s : State) : Prop := args = #[.ref d, .int (Int32.ofNat B.slots.size)] ∧ Arr .byte d B s
def E (r : Option Value) (s u : State) : Prop := XT.PureE (some (.int 0)) r s u
/-- an array as long as the number of chars: LATIN1 -/
theorem law (l : Launch) (d : Addr) (B : Cell) : Law l yN 2 2 0 0 yB 2 (some .byte) site (P d B) E [] 0 0 := by
  refine Law.of_walk (plainFor_of_name (by decide +kernel)) (by decide +kernel) (by decide +kernel) (by decide) (fun _ _ h => by rw [h.1]; rfl) (fun _ U U' hal hh h => ⟨h.1, h.2.mv hal hh⟩) (fun r U U' V V' h1 hal h2 h => XT.PureE.mv r U U' V V' h1 hal h2 h) ?_
  intro p e s m args below meth c s₁ X0 hexec hbytes hml hret hlk hnm hown hh0 W hP
  obtain ⟨rfl, hB⟩ := hP
  have hB0 := hB.mv X0.warmed.alike hh0
  have c1 : Steps p.tables e below (s₁.setTop (entryFrame m #[.ref d, .int (Int32.ofNat B.slots.size)] 2)) (s₁.setTop (mkF m 0 #[.val (.ref d), .val (.int (Int32.ofNat B.slots.size))] [])) := entry rfl
  have c2 : Steps p.tables e below (s₁.setTop (entryFrame m #[.ref d, .int (Int32.ofNat B.slots.size)] 2)) (s₁.setTop (mkF m 2 #[.val (.ref d), .val (.int (Int32.ofNat B.slots.size))] [.ref d, .int (Int32.ofNat B.slots.size)])) := c1.trans (by
    refine XS.iloadN X0.here hexec rfl (hb hbytes d0) rfl ?_
    refine XS.aloadN X0.here hexec rfl (hb hbytes d1) rfl rfl ?_
    exact Steps.refl _)
  have c3 : Steps p.tables e below (s₁.setTop (entryFrame m #[.ref d, .int (Int32.ofNat B.slots.size)] 2)) (s₁.setTop (mkF m 8 #[.val (.ref d), .val (.int (Int32.ofNat B.slots.size))] [.int (lo8 (ushr (Int32.ofNat B.slots.size - Int32.ofNat B.slots.size) 31))])) := c2.trans (by
    refine X0.alen hexec hB0 rfl rfl (hb hbytes d2) ?_
    refine XS.isub X0.here hexec rfl (hb hbytes d3) rfl ?_
    refine bipushV X0.here hexec rfl 31 (hb hbytes d4) (by decide) ?_
    refine iushr X0.here hexec rfl (hb hbytes d6) rfl ?_
    refine i2b X0.here hexec rfl (hb hbytes d7) rfl ?_
    exact Steps.refl _)
  have e0 : lo8 (ushr (Int32.ofNat B.slots.size - Int32.ofNat B.slots.size) 31) = 0 := by rw [Int32.sub_self]; decide
  rw [e0] at c3
  exact ⟨s₁, some (.int 0), _, _, _, X0, rfl, rfl, rfl, (fun h => by cases h), ⟨rfl, hh0⟩, fun fs hl => c3.trans (X0.ireturnOut hexec hret rfl (Or.inr (Or.inr (Or.inl rfl))) (hb hbytes d8) hl)⟩
end CodL
/-- the String at a is Latin-1 over a new byte[] (the heap's one new cell): the low bytes of the len chars of A from o on; every cell but a is kept -/
def Got (a : Addr) (D : Cell) (fV fC : Field) (A : Cell) (o len : Nat) (r : Option Value) (s u : State) : Prop := r = none ∧ ∃ D' V : Cell, Blank "java/lang/String" a D' u ∧ Same D D' [fV.slot, fC.slot] ∧ D'.slots[fV.slot]? = some (.ref s.heap.size) ∧ D'.slots[fC.slot]? = some (.int 0) ∧ Arr .byte s.heap.size V u ∧ V.vm = .none ∧ u.vm.findClass "[B" = some V.cls ∧ V.slots.size = len ∧ (∀ j, j < len → V.slots[j]? = some (.int (lo8 (cv A (o + j))))) ∧ (∀ (y : Addr) (c : Cell), y ≠ a → s.heap[y]? = some c → u.heap[y]? = some c) ∧ u.heap.size = s.heap.size + 1
theorem Got.mv {a : Addr} {D A : Cell} {fV fC : Field} {o len : Nat} : ∀ r (U U' V V' : State), U'.heap = U.heap → V.vm.Alike V'.vm → V'.heap = V.heap → Got a D fV fC A o len r U V → Got a D fV fC A o len r U' V' :=
  fun r U U' V V' h1 hal h2 ⟨e0, D', X, a1, a2, a3, a4, a5, a6, a7, a8, a9, a10, a11⟩ => ⟨e0, D', X, a1.mv hal h2, a2, by rw [h1]; exact a3, a4, by rw [h1]; exact a5.mv hal h2, a6, by rw [hal.findClass]; exact a7, a8, a9, by rw [h1, h2]; exact a10, by rw [h1, h2]; exact a11⟩
namespace New4
def yN : MethodName := ⟨"java/lang/String", "<init>", "([CIILjava/lang/Void;)V"⟩
abbrev yB : ByteArray := jdk_42_method_149_code
theorem d0 : decode yB 0 = .ok (.aload_n 0, 1) := by decide +kernel
theorem d1 : decode yB 1 = .ok (.invokespecial 1, 3) := by decide +kernel
theorem d4 : decode yB 4 = .ok (.iload_n 3, 1) := by decide +kernel
theorem d5 : decode yB 5 = .ok (.ifCond (.ne) 22, 3) := by decide +kernel
theorem d27 : decode yB 27 = .ok (.getstatic 38, 3) := by decide +kernel
theorem d30 : decode yB 30 = .ok (.ifCond (.eq) 28, 3) := by decide +kernel
theorem d33 : decode yB 33 = .ok (.aload_n 1, 1) := by decide +kernel
theorem d34 : decode yB 34 = .ok (.iload_n 2, 1) := by decide +kernel
theorem d35 : decode yB 35 = .ok (.iload_n 3, 1) := by decide +kernel
theorem d36 : decode yB 36 = .ok (.invokestatic 177, 3) := by decide +kernel
theorem d39 : decode yB 39 = .ok (.astore 5, 2) := by decide +kernel
theorem d41 : decode yB 41 = .ok (.aload_n 0, 1) := by decide +kernel
theorem d42 : decode yB 42 = .ok (.aload 5, 2) := by decide +kernel
theorem d44 : decode yB 44 = .ok (.iload_n 3, 1) := by decide +kernel
theorem d45 : decode yB 45 = .ok (.invokestatic 47, 3) := by decide +kernel
theorem d48 : decode yB 48 = .ok (.putfield 15, 3) := by decide +kernel
theorem d51 : decode yB 51 = .ok (.aload_n 0, 1) := by decide +kernel
theorem d52 : decode yB 52 = .ok (.aload 5, 2) := by decide +kernel
theorem d54 : decode yB 54 = .ok (.putfield 9, 3) := by decide +kernel
theorem d57 : decode yB 57 = .ok (.return_, 1) := by decide +kernel
def site : List Cond := [.fieldLink "java/lang/String" 38 "java/lang/String" "COMPACT_STRINGS" "Z", Cmp3.tab, CodL.tab, .laysFinal "java/lang/String" "java/lang/String" "value" "[B", .fieldLink "java/lang/String" 9 "java/lang/String" "value" "[B", .laysFinal "java/lang/String" "java/lang/String" "coder" "B", .fieldLink "java/lang/String" 15 "java/lang/String" "coder" "B"] ++ objW "java/lang/String" 1 ++ staticW "java/lang/String" 177 Cmp3.yN ++ staticW "java/lang/String" 47 CodL.yN
def tab : Cond := tabOf yN yB 6 none site
def P (a : Addr) (D : Cell) (fV fC : Field) (b : Addr) (A : Cell) (z : Int32) (o len : Nat) (args : Array Value) (s : State) : Prop := args = #[.ref a, .ref b, .int (Int32.ofNat o), .int (Int32.ofNat len), .null] ∧ Blank "java/lang/String" a D s ∧ Found "java/lang/String" "value" "[B" fV s ∧ Found "java/lang/String" "coder" "B" fC s ∧ Ch b A s ∧ StaticIs s "java/lang/String" "COMPACT_STRINGS" "Z" (.int z) ∧ ¬ z = 0 ∧ 0 < len ∧ o + len ≤ A.slots.size ∧ len ≤ 536870912 ∧ ∀ i, i < len → ¬ 255 < cv A (o + i)
def E (a : Addr) (D : Cell) (fV fC : Field) (A : Cell) (o len : Nat) (r : Option Value) (s u : State) : Prop := Got a D fV fC A o len r s u
/-- len > 0, no char of the range above 255: a Latin-1 String of their low bytes -/
theorem law (l : Launch) (a : Addr) (D : Cell) (fV fC : Field) (b : Addr) (A : Cell) (z : Int32) (o len : Nat) : Law l yN 5 4 2 35 yB 6 none site (P a D fV fC b A z o len) (E a D fV fC A o len) [⟨a, fC.slot⟩, ⟨a, fV.slot⟩] 1 len := by
  refine Law.of_walk (plainFor_of_name (by decide +kernel)) (by decide +kernel) (by decide +kernel) (by decide) (fun _ _ h => by rw [h.1]; rfl) (fun _ U U' hal hh h => ⟨h.1, h.2.1.mv hal hh, h.2.2.1.al hal, h.2.2.2.1.al hal, h.2.2.2.2.1.mv hal hh, h.2.2.2.2.2.1.there hal hh, h.2.2.2.2.2.2⟩) (fun r U U' V V' h1 hal h2 h => Got.mv r U U' V V' h1 hal h2 h) ?_
  intro p e s m args below meth c s₁ X0 hexec hbytes hml hret hlk hnm hown hh0 W hP
  obtain ⟨rfl, hB, f1, f2, hA, s1, hz, l0, l1, l2, hp⟩ := hP
  have a31 := hA.1.2.2.2
  have c1 : Steps p.tables e below (s₁.setTop (entryFrame m #[.ref a, .ref b, .int (Int32.ofNat o), .int (Int32.ofNat len), .null] 6)) (s₁.setTop (mkF m 0 #[.val (.ref a), .val (.ref b), .val (.int (Int32.ofNat o)), .val (.int (Int32.ofNat len)), .val .null, .unset] [])) := entry rfl
  have c2 : Steps p.tables e below (s₁.setTop (entryFrame m #[.ref a, .ref b, .int (Int32.ofNat o), .int (Int32.ofNat len), .null] 6)) (s₁.setTop (mkF m 1 #[.val (.ref a), .val (.ref b), .val (.int (Int32.ofNat o)), .val (.int (Int32.ofNat len)), .val .null, .unset] [.ref a])) := c1.trans (by
    refine XS.aloadN X0.here hexec rfl (hb hbytes d0) rfl rfl ?_
    exact Steps.refl _)
  obtain ⟨T3, X3, q3, st3⟩ := X0.oinit hexec hown (wks W (objW "java/lang/String" 1)) (g := (mkF m 1 #[.val (.ref a), .val (.ref b), .val (.int (Int32.ofNat o)), .val (.int (Int32.ofNat len)), .val .null, .unset] [.ref a])) rfl (by rw [hml]; rfl) (rest := []) rfl (hb hbytes d1) (W := 0) (by show 2 * 0 + 0 ≤ _; decide) (Nat.le_of_ble_eq_true rfl) (Nat.le_of_ble_eq_true rfl)
  have hh3 := q3.trans hh0
  have c4 : Steps p.tables e below (s₁.setTop (entryFrame m #[.ref a, .ref b, .int (Int32.ofNat o), .int (Int32.ofNat len), .null] 6)) (T3.setTop (mkF m 27 #[.val (.ref a), .val (.ref b), .val (.int (Int32.ofNat o)), .val (.int (Int32.ofNat len)), .val .null, .unset] [])) := (c2.trans (st3 _ (Steps.refl _))).trans (by
    refine XS.iloadN X3.here hexec rfl (hb hbytes d4) rfl ?_
    refine XS.ifYes X3.here hexec rfl (pc0 := 5) rfl (hb hbytes d5) rfl (i0_ne_t (nz32 (by omega) l0)) (by decide) rfl ?_
    exact Steps.refl _)
  obtain ⟨T5, X5, q5, st5⟩ := X3.sget hexec hown (wk W (.fieldLink "java/lang/String" 38 "java/lang/String" "COMPACT_STRINGS" "Z")) s1 (fun _ _ h => by rw [hh3]; exact h) (g := (mkF m 27 #[.val (.ref a), .val (.ref b), .val (.int (Int32.ofNat o)), .val (.int (Int32.ofNat len)), .val .null, .unset] [])) rfl (hb hbytes d27)
  have hh5 := q5.trans hh3
  have c6 : Steps p.tables e below (s₁.setTop (entryFrame m #[.ref a, .ref b, .int (Int32.ofNat o), .int (Int32.ofNat len), .null] 6)) (T5.setTop (mkF m 30 #[.val (.ref a), .val (.ref b), .val (.int (Int32.ofNat o)), .val (.int (Int32.ofNat len)), .val .null, .unset] [.int z])) := c4.trans (st5 _ (Steps.refl _))
  have c7 : Steps p.tables e below (s₁.setTop (entryFrame m #[.ref a, .ref b, .int (Int32.ofNat o), .int (Int32.ofNat len), .null] 6)) (T5.setTop (mkF m 36 #[.val (.ref a), .val (.ref b), .val (.int (Int32.ofNat o)), .val (.int (Int32.ofNat len)), .val .null, .unset] [.int (Int32.ofNat len), .int (Int32.ofNat o), .ref b])) := c6.trans (by
    refine XS.ifNo X5.here hexec rfl (hb hbytes d30) rfl (i0_eq_f hz) ?_
    refine XS.aloadN X5.here hexec rfl (hb hbytes d33) rfl rfl ?_
    refine XS.iloadN X5.here hexec rfl (hb hbytes d34) rfl ?_
    refine XS.iloadN X5.here hexec rfl (hb hbytes d35) rfl ?_
    exact Steps.refl _)
  obtain ⟨v8, T8, X8, E8, g8⟩ := X5.callS hexec (Cmp3.law l b A o len) hown (wks W (staticW "java/lang/String" 177 Cmp3.yN)) (wk W Cmp3.tab) (W := 0) (Nat.le_of_ble_eq_true rfl) (Nat.le_of_ble_eq_true rfl) (Nat.le_refl _) (by show 0 + len ≤ len; omega) (g := (mkF m 36 #[.val (.ref a), .val (.ref b), .val (.int (Int32.ofNat o)), .val (.int (Int32.ofNat len)), .val .null, .unset] [.int (Int32.ofNat len), .int (Int32.ofNat o), .ref b])) rfl (by rw [hml]; rfl) c7 (argsL := [.ref b, .int (Int32.ofNat o), .int (Int32.ofNat len)]) (rest := []) rfl rfl (by show 2 * 0 + 0 ≤ _; decide) (hb hbytes d36) (⟨rfl, hA.mv X5.warmed.alike hh5, l1, l2, hp⟩)
  obtain ⟨e8, z8⟩ := E8
  obtain ⟨rfl, N, n1, n2, n3, n4, n5, n6⟩ := NewArr.mv _ T5 s _ _ hh5.symm (Vm.Alike.refl _) rfl e8
  rw [hh5] at z8
  have hB1 := hB.keep X8.warmed.alike (n6 _ _ hB.1)
  have hne : s.heap.size ≠ a := (Nat.ne_of_lt (Array.getElem?_eq_some_iff.mp hB.1).1).symm
  have c9 : Steps p.tables e below (s₁.setTop (entryFrame m #[.ref a, .ref b, .int (Int32.ofNat o), .int (Int32.ofNat len), .null] 6)) (T8.setTop (mkF m 39 #[.val (.ref a), .val (.ref b), .val (.int (Int32.ofNat o)), .val (.int (Int32.ofNat len)), .val .null, .unset] [.ref s.heap.size])) := g8
  have c10 : Steps p.tables e below (s₁.setTop (entryFrame m #[.ref a, .ref b, .int (Int32.ofNat o), .int (Int32.ofNat len), .null] 6)) (T8.setTop (mkF m 45 #[.val (.ref a), .val (.ref b), .val (.int (Int32.ofNat o)), .val (.int (Int32.ofNat len)), .val .null, .val (.ref s.heap.size)] [.int (Int32.ofNat N.slots.size), .ref s.heap.size, .ref a])) := by
    have hc : Steps p.tables e below (s₁.setTop (entryFrame m #[.ref a, .ref b, .int (Int32.ofNat o), .int (Int32.ofNat len), .null] 6)) (T8.setTop (mkF m 45 #[.val (.ref a), .val (.ref b), .val (.int (Int32.ofNat o)), .val (.int (Int32.ofNat len)), .val .null, .val (.ref s.heap.size)] [.int (Int32.ofNat len), .ref s.heap.size, .ref a])) := c9.trans (by
      refine XS.astore X8.here hexec rfl (hb hbytes d39) rfl rfl rfl ?_
      refine XS.aloadN X8.here hexec rfl (hb hbytes d41) rfl rfl ?_
      refine XS.aload X8.here hexec rfl (hb hbytes d42) rfl rfl ?_
      refine XS.iloadN X8.here hexec rfl (hb hbytes d44) rfl ?_
      exact Steps.refl _)
    rw [n4]; exact hc
  obtain ⟨v11, T11, X11, E11, g11⟩ := X8.callS hexec (CodL.law l s.heap.size N) hown (wks W (staticW "java/lang/String" 47 CodL.yN)) (wk W CodL.tab) (W := 1) (Nat.le_of_ble_eq_true rfl) (Nat.le_of_ble_eq_true rfl) (Nat.le_refl _) (by show 0 + len + 0 ≤ len; omega) (g := (mkF m 45 #[.val (.ref a), .val (.ref b), .val (.int (Int32.ofNat o)), .val (.int (Int32.ofNat len)), .val .null, .val (.ref s.heap.size)] [.int (Int32.ofNat N.slots.size), .ref s.heap.size, .ref a])) rfl (by rw [hml]; rfl) c10 (argsL := [.ref s.heap.size, .int (Int32.ofNat N.slots.size)]) (rest := [.ref a]) rfl rfl (by show 2 * 0 + (1 + 0) ≤ _; decide) (hb hbytes d45) (⟨rfl, n1⟩)
  obtain ⟨rfl, q11⟩ := E11
  have hB11 := hB1.mv (X8.warmed.alike.symm.trans X11.warmed.alike) q11
  have c12 : Steps p.tables e below (s₁.setTop (entryFrame m #[.ref a, .ref b, .int (Int32.ofNat o), .int (Int32.ofNat len), .null] 6)) (T11.setTop (mkF m 48 #[.val (.ref a), .val (.ref b), .val (.int (Int32.ofNat o)), .val (.int (Int32.ofNat len)), .val .null, .val (.ref s.heap.size)] [.int 0, .ref a])) := g11
  obtain ⟨T13, X13, p13, bl13, sl13, st13⟩ := X11.finit hexec hown (wk W (.fieldLink "java/lang/String" 15 "java/lang/String" "coder" "B")) (Or.inr ⟨_, (wk W (.laysFinal "java/lang/String" "java/lang/String" "coder" "B"))⟩) (Or.inl ⟨rfl, hnm⟩) f2 (Or.inl rfl) hB11 (t := .byte) (by decide +kernel) rfl (g := (mkF m 48 #[.val (.ref a), .val (.ref b), .val (.int (Int32.ofNat o)), .val (.int (Int32.ofNat len)), .val .null, .val (.ref s.heap.size)] [.int 0, .ref a])) rfl (rest := []) rfl (hb hbytes d48)
  have c14 : Steps p.tables e below (s₁.setTop (entryFrame m #[.ref a, .ref b, .int (Int32.ofNat o), .int (Int32.ofNat len), .null] 6)) (T13.setTop (mkF m 54 #[.val (.ref a), .val (.ref b), .val (.int (Int32.ofNat o)), .val (.int (Int32.ofNat len)), .val .null, .val (.ref s.heap.size)] [.ref s.heap.size, .ref a])) := (c12.trans (st13 _ (Steps.refl _))).trans (by
    refine XS.aloadN X13.here hexec rfl (hb hbytes d51) rfl rfl ?_
    refine XS.aload X13.here hexec rfl (hb hbytes d52) rfl rfl ?_
    exact Steps.refl _)
  obtain ⟨T15, X15, p15, bl15, sl15, st15⟩ := X13.finit hexec hown (wk W (.fieldLink "java/lang/String" 9 "java/lang/String" "value" "[B")) (Or.inr ⟨_, (wk W (.laysFinal "java/lang/String" "java/lang/String" "value" "[B"))⟩) (Or.inl ⟨rfl, hnm⟩) f1 (Or.inl rfl) bl13 (t := (.array .byte)) (by decide +kernel) rfl (g := (mkF m 54 #[.val (.ref a), .val (.ref b), .val (.int (Int32.ofNat o)), .val (.int (Int32.ofNat len)), .val .null, .val (.ref s.heap.size)] [.ref s.heap.size, .ref a])) rfl (rest := []) rfl (hb hbytes d54)
  have c16 : Steps p.tables e below (s₁.setTop (entryFrame m #[.ref a, .ref b, .int (Int32.ofNat o), .int (Int32.ofNat len), .null] 6)) (T15.setTop (mkF m 57 #[.val (.ref a), .val (.ref b), .val (.int (Int32.ofNat o)), .val (.int (Int32.ofNat len)), .val .null, .val (.ref s.heap.size)] [])) := c14.trans (st15 _ (Steps.refl _))
  have ap := apart (Or.inr ⟨_, (wk W (.laysFinal "java/lang/String" "java/lang/String" "value" "[B"))⟩) (Or.inr ⟨_, (wk W (.laysFinal "java/lang/String" "java/lang/String" "coder" "B"))⟩) f1 f2 (t₁ := .array .byte) (t₂ := .byte) (by decide +kernel) (by decide +kernel) (by decide)
  have al := X8.warmed.alike.symm.trans X15.warmed.alike
  have n7 : T11.heap[s.heap.size]? = some N := by rw [q11]; exact n1.1
  exact ⟨T15, none, _, _, _, X15, by simp, rfl, by omega, (fun _ => rfl), ⟨rfl, _, N, bl15, ((Same.refl D _).set _ (by simp)).set _ (by simp), sl15, (Cell.slots_setSlot_ne _ ap).trans sl13, n1.keep al (p15.other hne (p13.other hne n7)), n2, by rw [al.findClass]; exact n3, n4, n5, fun y c h1 h2 => p15.other h1 (p13.other h1 (by rw [q11]; exact n6 y c h2)), by rw [p15.2.2, p13.2.2, q11]; exact z8⟩, fun fs hl => c16.trans (X15.returnOut hexec hret (hb hbytes d57) hl)⟩
end New4
namespace New1
def yN : MethodName := ⟨"java/lang/String", "<init>", "([C)V"⟩
abbrev yB : ByteArray := jdk_42_method_3_code
theorem d0 : decode yB 0 = .ok (.aload_n 0, 1) := by decide +kernel
theorem d1 : decode yB 1 = .ok (.aload_n 1, 1) := by decide +kernel
theorem d2 : decode yB 2 = .ok (.iconst 0, 1) := by decide +kernel
theorem d3 : decode yB 3 = .ok (.aload_n 1, 1) := by decide +kernel
theorem d4 : decode yB 4 = .ok (.arraylength, 1) := by decide +kernel
theorem d5 : decode yB 5 = .ok (.aconst_null, 1) := by decide +kernel
theorem d6 : decode yB 6 = .ok (.invokespecial 27, 3) := by decide +kernel
theorem d9 : decode yB 9 = .ok (.return_, 1) := by decide +kernel
def site : List Cond := [New4.tab] ++ initW "java/lang/String" 27 New4.yN
def tab : Cond := tabOf yN yB 2 none site
def P (a : Addr) (D : Cell) (fV fC : Field) (b : Addr) (A : Cell) (z : Int32) (args : Array Value) (s : State) : Prop := args = #[.ref a, .ref b] ∧ Blank "java/lang/String" a D s ∧ Found "java/lang/String" "value" "[B" fV s ∧ Found "java/lang/String" "coder" "B" fC s ∧ Ch b A s ∧ StaticIs s "java/lang/String" "COMPACT_STRINGS" "Z" (.int z) ∧ ¬ z = 0 ∧ 0 < A.slots.size ∧ A.slots.size ≤ 536870912 ∧ ∀ i, i < A.slots.size → ¬ 255 < cv A i
def E (a : Addr) (D : Cell) (fV fC : Field) (A : Cell) (r : Option Value) (s u : State) : Prop := Got a D fV fC A 0 A.slots.size r s u
/-- new String(chars), not empty, no char above 255: a Latin-1 String of their low bytes -/
theorem law (l : Launch) (a : Addr) (D : Cell) (fV fC : Field) (b : Addr) (A : Cell) (z : Int32) : Law l yN 2 1 3 52 yB 2 none site (P a D fV fC b A z) (E a D fV fC A) [⟨a, fC.slot⟩, ⟨a, fV.slot⟩] 1 A.slots.size := by
  refine Law.of_walk (plainFor_of_name (by decide +kernel)) (by decide +kernel) (by decide +kernel) (by decide) (fun _ _ h => by rw [h.1]; rfl) (fun _ U U' hal hh h => ⟨h.1, h.2.1.mv hal hh, h.2.2.1.al hal, h.2.2.2.1.al hal, h.2.2.2.2.1.mv hal hh, h.2.2.2.2.2.1.there hal hh, h.2.2.2.2.2.2⟩) (fun r U U' V V' h1 hal h2 h => Got.mv r U U' V V' h1 hal h2 h) ?_
  intro p e s m args below meth c s₁ X0 hexec hbytes hml hret hlk hnm hown hh0 W hP
  obtain ⟨rfl, hB, f1, f2, hA, s1, hz, l0, l2, hp⟩ := hP
  have c1 : Steps p.tables e below (s₁.setTop (entryFrame m #[.ref a, .ref b] 2)) (s₁.setTop (mkF m 0 #[.val (.ref a), .val (.ref b)] [])) := entry rfl
  have c2 : Steps p.tables e below (s₁.setTop (entryFrame m #[.ref a, .ref b] 2)) (s₁.setTop (mkF m 6 #[.val (.ref a), .val (.ref b)] [.null, .int (Int32.ofNat A.slots.size), .int 0, .ref b, .ref a])) := c1.trans (by
    refine XS.aloadN X0.here hexec rfl (hb hbytes d0) rfl rfl ?_
    refine XS.aloadN X0.here hexec rfl (hb hbytes d1) rfl rfl ?_
    refine iconstV X0.here hexec rfl 0 (hb hbytes d2) (by decide) ?_
    refine XS.aloadN X0.here hexec rfl (hb hbytes d3) rfl rfl ?_
    refine X0.alen hexec (hA.1.mv X0.warmed.alike hh0) rfl rfl (hb hbytes d4) ?_
    refine XS.aconstNull X0.here hexec rfl (hb hbytes d5) ?_
    exact Steps.refl _)
  obtain ⟨v3, T3, X3, E3, g3⟩ := X0.callN hexec (New4.law l a D fV fC b A z 0 A.slots.size) rfl hown (wks W (initW "java/lang/String" 27 New4.yN)) (W New4.tab (by simp only [site, List.mem_cons, List.mem_append, true_or, or_true])) (W := 0) (Nat.le_of_ble_eq_true rfl) (Nat.le_of_ble_eq_true rfl) (Nat.le_refl _) (by show 0 + A.slots.size ≤ A.slots.size; omega) (g := (mkF m 6 #[.val (.ref a), .val (.ref b)] [.null, .int (Int32.ofNat A.slots.size), .int (Int32.ofNat 0), .ref b, .ref a])) rfl (by rw [hml]; rfl) c2 (argsL := [.ref b, .int (Int32.ofNat 0), .int (Int32.ofNat A.slots.size), .null]) (rest := []) rfl rfl (by show 2 * 0 + 0 ≤ _; decide) (hb hbytes d6) (⟨rfl, hB.mv X0.warmed.alike hh0, f1.al X0.warmed.alike, f2.al X0.warmed.alike, hA.mv X0.warmed.alike hh0, s1.there X0.warmed.alike hh0, hz, l0, by omega, l2, fun i hi => by rw [Nat.zero_add]; exact hp i hi⟩)
  have e0 := Got.mv _ s₁ s _ _ hh0.symm (Vm.Alike.refl _) rfl E3
  obtain rfl := e0.1
  have c4 : Steps p.tables e below (s₁.setTop (entryFrame m #[.ref a, .ref b] 2)) (T3.setTop (mkF m 9 #[.val (.ref a), .val (.ref b)] [])) := g3
  exact ⟨T3, none, _, _, _, X3, by simp, rfl, by omega, (fun _ => rfl), e0, fun fs hl => c4.trans (X3.returnOut hexec hret (hb hbytes d9) hl)⟩
theorem pays {l : Launch} {R : Room} {p : Program} {e : Env} {below : List Frame} {s : State} {sargs : Array Value} {len W : Nat} (a : Addr) (D : Cell) (fV fC : Field) (b : Addr) (A : Cell) (z : Int32) (htab : tab.before sargs s = true) (hfr : 4 ≤ R.frames) (hlo : W + 65 ≤ R.locals) :
    Back l R p e below s sargs yN len W (fun A₁ a₁ => A₁.cells + 1 ≤ R.cells ∧ A₁.slots + A.slots.size ≤ R.slots ∧ P a D fV fC b A z a₁ A₁.U) (fun A₁ _ v₁ B₁ => E a D fV fC A v₁ A₁.U B₁.U ∧ B₁.locs = A₁.locs ++ [⟨a, fC.slot⟩, ⟨a, fV.slot⟩] ∧ B₁.cells = A₁.cells + 1 ∧ B₁.slots = A₁.slots + A.slots.size) :=
  (law l a D fV fC b A z).pays htab hfr (by omega)
end New1
/-- the byte, read back as charAt reads it, is the char -/
theorem lo8_mask {x : Int32} (h0 : ¬ x < 0) (h1 : ¬ 255 < x) : lo8 x &&& 255 = x := by
  have t : ∀ k : Fin 256, lo8 (Int32.ofNat k.val) &&& 255 = Int32.ofNat k.val := by decide +kernel
  rw [Int32.lt_iff_toInt_lt] at h0 h1
  have e0 : (0 : Int32).toInt = 0 := rfl
  have e1 : (255 : Int32).toInt = 255 := rfl
  obtain ⟨k, hk⟩ : ∃ k : Nat, x.toInt = k := ⟨x.toInt.toNat, by omega⟩
  have hx : x = Int32.ofNat k := Int32.toInt_inj.mp (by rw [hk, Int32.toInt_ofNat_small (by omega)])
  rw [hx]
  exact t ⟨k, by omega⟩
end StrChars
namespace StrChars.Road
open Jvm Sem ClassFile Op Lib Jvm.Stand Jvm.Free Jvm.Free.XT
open Jvm.Lib.Cold (StaticIs)
abbrev ST : String := "java/lang/String"
/-- every table word that New1's law asks, flat -/
abbrev words : List Jvm.Cond := [.code New1.yN New1.yB 2 none, .initialized ST, .methodLink ST 27 New4.yN, .instanceMethod New4.yN,
  .code New4.yN New4.yB 6 none, .fieldLink ST 38 ST "COMPACT_STRINGS" "Z", .laysFinal ST ST "value" "[B", .fieldLink ST 9 ST "value" "[B", .laysFinal ST ST "coder" "B", .fieldLink ST 15 ST "coder" "B",
  .methodLink ST 1 Lib.objectInit, .instanceMethod Lib.objectInit, .code Lib.objectInit ⟨#[0xb1]⟩ 1 none, .methodLink ST 177 Cmp3.yN, .static Cmp3.yN, .methodLink ST 47 CodL.yN, .static CodL.yN,
  .code Cmp3.yN Cmp3.yB 6 (some (.array .byte)), .initialized U16, .arrayClass .byte, .methodLink U16 115 Cmp5.yN, .static Cmp5.yN, .code Cmp5.yN Cmp5.yB 7 (some .int), .code CodL.yN CodL.yB 2 (some .byte)]
theorem tab_of {a : Array Value} {s : State} (h : ∀ w ∈ words, w.before a s = true) : New1.tab.before a s = true := by
  have h5 : Cmp5.tab.before a s = true := unparts (wk h (.code Cmp5.yN Cmp5.yB 7 (some .int))) (wks h (.initialized Cmp5.yN.cls :: Cmp5.site))
  have hc : CodL.tab.before a s = true := unparts (wk h (.code CodL.yN CodL.yB 2 (some .byte))) (wks h (.initialized CodL.yN.cls :: CodL.site))
  have q5 : ∀ w ∈ Cmp5.tab :: words, w.before a s = true := fun w hw => (List.mem_cons.mp hw).elim (fun e => e ▸ h5) (h w)
  have h3 : Cmp3.tab.before a s = true := unparts (wk q5 (.code Cmp3.yN Cmp3.yB 6 (some (.array .byte)))) (wks q5 (.initialized Cmp3.yN.cls :: Cmp3.site))
  have q3 : ∀ w ∈ Cmp3.tab :: CodL.tab :: words, w.before a s = true := fun w hw => (List.mem_cons.mp hw).elim (fun e => e ▸ h3) fun hw => (List.mem_cons.mp hw).elim (fun e => e ▸ hc) (h w)
  have h4 : New4.tab.before a s = true := unparts (wk q3 (.code New4.yN New4.yB 6 none)) (wks q3 (.initialized New4.yN.cls :: New4.site))
  have q4 : ∀ w ∈ New4.tab :: words, w.before a s = true := fun w hw => (List.mem_cons.mp hw).elim (fun e => e ▸ h4) (h w)
  exact unparts (wk q4 (.code New1.yN New1.yB 2 none)) (wks q4 (.initialized New1.yN.cls :: New1.site))
/-- the words ride from the start Z to the walk's own state -/
theorem moved {Z s : State} {a0 args : Array Value} (hZ : Z.Warmed39 s.vm) (hw : ∀ d ∈ words, d.before a0 Z = true) : ∀ d ∈ words, d.before args s = true := fun d hd => by
  have q := hw d hd
  have t : ∀ d ∈ words, d = .arrayClass .byte ∨ (d.onTables && d.keepsFace) = true := by decide +kernel
  rcases t d hd with rfl | t
  · exact RoadKit.mvA hZ q
  · exact RoadKit.mv hZ q t
/-- WHAT COMES BACK, over the tables of the start Z: h the heap at the call, h' behind it -/
def Q (Z : State) (x : Addr) (A : Cell) (h : Heap) (v : Option Value) (h' : Heap) (L : List Loc) : Prop := v = none ∧ (∀ y ∈ L, y.base = x) ∧ RoadKit.Keep h h' [x] ∧ h'.size = h.size + 1 ∧ RoadKit.Exa Z h' x ST ∧ RoadKit.Fld Z h' x ST "value" "[B" (.ref h.size) ∧ RoadKit.Fld Z h' x ST "coder" "B" (.int 0) ∧
  (∃ V : Cell, RoadKit.Arr Z h' h.size V .byte ∧ V.vm = .none ∧ Z.vm.findClass "[B" = some V.cls ∧ V.slots.size = A.slots.size ∧ ∀ j, j < A.slots.size → V.slots[j]? = some (.int (lo8 (cv A j)))) ∧
  ∀ (O n d : String) (w : Value), RoadKit.Fld Z h x O n d w → RoadKit.slotOf Z O n d ≠ RoadKit.slotOf Z ST "value" "[B" → RoadKit.slotOf Z O n d ≠ RoadKit.slotOf Z ST "coder" "B" → RoadKit.Fld Z h' x O n d w
/-- **new String(chars) AT A CALL, IN THE ROAD'S FORM**: for specialBack behind newO: x the fresh String, b the char[] with the cell A -/
theorem back {p : Program} {l : Launch} {e : Env} {R : Room} {s : State} {args : Array Value} {below : List Frame} {len W : Nat} {Z : State} {a0 : Array Value} {h : Heap} (hZ : Z.Warmed39 s.vm) (hw : ∀ d ∈ words, d.before a0 Z = true) {kI : Nat} (wi : (Jvm.Cond.instantiable ST kI).before a0 Z = true)
    {x b : Addr} {A : Cell} {z : Int32} {v0 c0 : Value} (E : RoadKit.Exa Z h x ST) (V : RoadKit.Fld Z h x ST "value" "[B" v0) (C : RoadKit.Fld Z h x ST "coder" "B" c0) (K : RoadKit.Arr Z h b A .char) (hty : Typed .char A) (S : RoadKit.Sta Z h ST "COMPACT_STRINGS" "Z" (.int z)) (hz : ¬ z = 0)
    (l0 : 0 < A.slots.size) (l2 : A.slots.size ≤ 536870912) (hp : ∀ i, i < A.slots.size → ¬ 255 < cv A i) (hfr : 4 ≤ R.frames) (hlo : W + 65 ≤ R.locals) :
    Back l R p e below s args New1.yN len W (fun P a => a = #[.ref x, .ref b] ∧ P.U.heap = h ∧ P.cells + 1 ≤ R.cells ∧ P.slots + A.slots.size ≤ R.slots)
      (fun P _ v B => ∃ L, Q Z x A h v B.U.heap L ∧ B.locs = P.locs ++ L ∧ B.cells = P.cells + 1 ∧ B.slots = P.slots + A.slots.size) := by
  intro m meth c P g ig mk a X hg hsize hdg hW hn hp'
  obtain ⟨rfl, rfl, r1, r2⟩ := hp'
  have al : Z.vm.Alike P.U.vm := hZ.alike.trans X.warmed.alike
  obtain ⟨D, cfV, kV, iV, fV, hD, gV, stV, knV, obV, asV, slV⟩ := id V
  obtain ⟨D', cfC, kC, iC, fC, hD', gC, stC, -, -, asC, slC⟩ := id C
  cases hD.symm.trans hD'
  obtain ⟨D2, kD, e1, e2, e3, e4, e5⟩ := id E
  cases hD.symm.trans e1
  obtain ⟨c2, k2, i1, i2, i3, -⟩ := Cond.instantiable_spec wi
  cases e2.symm.trans i1
  cases e3.symm.trans i2
  obtain ⟨kU, u1, u2⟩ := al.2.2 _ _ e3
  have hB : Blank ST x D P.U := ⟨hD, ⟨knV, fun q hq => by rw [hq] at obV; cases obV⟩, by rw [al.findClass]; exact e2, kU, u1, by rw [u2]; exact i3, by rw [u2]; exact e5 i3⟩
  have F1 : Found ST "value" "[B" fV P.U := ⟨SBG.found_only al ⟨cfV, kV, iV, gV⟩, stV⟩
  have F2 : Found ST "coder" "B" fC P.U := ⟨SBG.found_only al ⟨cfC, kC, iC, gC⟩, stC⟩
  have hA : Ch b A P.U := ⟨⟨K.1, State.isArrayOf_alike al K.2.1, K.2.2, by omega⟩, hty⟩
  have hS : StaticIs P.U ST "COMPACT_STRINGS" "Z" (.int z) := by
    obtain ⟨cfS, iS, kS, fS, st, cS, t1, t2, t3, t4, t5, t6, t7⟩ := S
    exact StaticIs.there (s := { Z with heap := P.U.heap }) ⟨cfS, iS, kS, fS, st, cS, t1, t2, t3, t4, t5, (fun q => by rw [q] at t6; cases t6), t7⟩ al rfl
  obtain ⟨v, B, X', ⟨⟨hv, E', V', q1, q2, q3, q4, q5, q6, q7, q8, q9, q10, q11⟩, hl, hc, hs⟩, st⟩ := New1.pays x D fV fC b A z (tab_of (moved hZ hw)) hfr hlo m meth c P g ig mk _ X hg hsize hdg hW hn ⟨r1, r2, rfl, hB, F1, F2, hA, hS, hz, l0, l2, hp⟩
  have al' : Z.vm.Alike B.U.vm := hZ.alike.trans X'.warmed.alike
  have hsz : E'.slots.size = D.slots.size := by
    obtain ⟨-, -, -, kB, w1, w2, w3⟩ := q1
    obtain ⟨kB', y1, y2⟩ := al'.2.2 _ _ e3
    rw [q2.2.1] at w1
    cases w1.symm.trans y1
    rw [w3, e5 i3, y2]
  refine ⟨v, B, X', ⟨_, ⟨hv, ?_, ⟨by omega, fun y cy hy hn' => q10 y cy (by simpa using hn') hy, fun y cy hy => ?_⟩, q11, ⟨E', _, q1.1, by rw [q2.2.1]; exact e2, by rw [q2.2.1]; exact e3, by rw [q2.1]; exact obV, fun _ => by rw [hsz]; exact e5 i3⟩,
    ⟨E', cfV, kV, iV, fV, q1.1, gV, stV, by rw [q2.1]; exact knV, by rw [q2.1]; exact obV, by rw [q2.2.1]; exact asV, q3⟩, ⟨E', cfC, kC, iC, fC, q1.1, gC, stC, by rw [q2.1]; exact knV, by rw [q2.1]; exact obV, by rw [q2.2.1]; exact asC, q4⟩,
    ⟨V', ⟨q5.1, State.isArrayOf_alike al'.symm q5.2.1, q5.2.2.1⟩, q6, by rw [← al'.findClass]; exact q7, q8, fun j hj => by have := q9 j hj; rwa [Nat.zero_add] at this⟩, fun O n d w F n1 n2 => ?_⟩, hl, hc, hs⟩, st⟩
  · intro y hy
    simp only [List.mem_cons, List.not_mem_nil, or_false] at hy
    rcases hy with rfl | rfl <;> rfl
  · by_cases q : y = x
    · subst q
      cases hD.symm.trans hy
      exact ⟨E', q1.1, q2.2.1, q2.1, hsz⟩
    · exact ⟨cy, q10 y cy q hy, rfl, rfl, rfl⟩
  · obtain ⟨D3, cf, k, i, f, g1, g2, g3, g4, g5, g6, g7⟩ := F
    cases hD.symm.trans g1
    simp only [RoadKit.slotOf, g2, gV, gC, Option.map_some, Option.getD_some] at n1 n2
    exact ⟨E', cf, k, i, f, q1.1, g2, g3, by rw [q2.1]; exact g4, by rw [q2.1]; exact g5, by rw [q2.2.1]; exact g6, by rw [q2.2.2 f.slot (by simp [n1, n2])]; exact g7⟩
end StrChars.Road
namespace StrChars.Road
open Jvm Sem ClassFile Op Lib Jvm.Stand Jvm.Free Jvm.Free.XT
/-- WHAT COMES BACK, the byte[] as a list of values -/
def QA (Z : State) (x : Addr) (zn : Int32) (cs : List Int32) (h : Heap) (v : Option Value) (h' : Heap) (L : List Loc) : Prop := v = none ∧ (∀ y ∈ L, y.base = x) ∧ RoadKit.Keep h h' [x] ∧ h'.size = h.size + 1 ∧ RoadKit.Exa Z h' x ST ∧ RoadKit.Fld Z h' x ST "value" "[B" (.ref h.size) ∧ RoadKit.Fld Z h' x ST "coder" "B" (.int 0) ∧
  (∃ kb, Z.vm.findClass "[B" = some kb ∧ RoadKit.Arv Z h' h.size kb .byte zn (cs.map fun c => .int (lo8 c)) (.int 0)) ∧
  ∀ (O n d : String) (w : Value), RoadKit.Fld Z h x O n d w → RoadKit.slotOf Z O n d ≠ RoadKit.slotOf Z ST "value" "[B" → RoadKit.slotOf Z O n d ≠ RoadKit.slotOf Z ST "coder" "B" → RoadKit.Fld Z h' x O n d w
/-- **new String(chars) AT A CALL, THE ARRAYS AS LISTS**: the char[] at b holds cs, not empty, no char above 255 -/
theorem backArv {p : Program} {l : Launch} {e : Env} {R : Room} {s : State} {args : Array Value} {below : List Frame} {len W : Nat} {Z : State} {a0 : Array Value} {h : Heap} (hZ : Z.Warmed39 s.vm) (hw : ∀ d ∈ words, d.before a0 Z = true) {kI : Nat} (wi : (Jvm.Cond.instantiable ST kI).before a0 Z = true)
    {x b : Addr} {k : ClassId} {zn z : Int32} {cs : List Int32} {dv v0 c0 : Value} (E : RoadKit.Exa Z h x ST) (V : RoadKit.Fld Z h x ST "value" "[B" v0) (C : RoadKit.Fld Z h x ST "coder" "B" c0) (K : RoadKit.Arv Z h b k .char zn (cs.map Value.int) dv) (S : RoadKit.Sta Z h ST "COMPACT_STRINGS" "Z" (.int z)) (hz : ¬ z = 0)
    (hlen : zn.toNatClampNeg = cs.length) (h0 : 0 < cs.length) (hbig : cs.length ≤ 536870912) (hall : ∀ c ∈ cs, ¬ 255 < c) (hfr : 4 ≤ R.frames) (hlo : W + 65 ≤ R.locals) :
    Back l R p e below s args New1.yN len W (fun P a => a = #[.ref x, .ref b] ∧ P.U.heap = h ∧ P.cells + 1 ≤ R.cells ∧ P.slots + cs.length ≤ R.slots)
      (fun P _ v B => ∃ L, QA Z x zn cs h v B.U.heap L ∧ B.locs = P.locs ++ L ∧ B.cells = P.cells + 1 ∧ B.slots = P.slots + cs.length) := by
  obtain ⟨A, K1, K2, K3, K4, K5, K6⟩ := K
  have e : A.slots.size = cs.length := K3.trans hlen
  have hat : ∀ (i : Nat) (hi : i < cs.length), A.slots[i]? = some (.int cs[i]) := fun i hi => by rw [K5 i (by omega)]; simp [List.getD_eq_getElem?_getD, hi]
  have hcv : ∀ (i : Nat) (hi : i < cs.length), cv A i = cs[i] := fun i hi => by unfold cv; rw [hat i hi]
  have hty : Typed .char A := fun i v hv => by
    have hi : i < A.slots.size := (Array.getElem?_eq_some_iff.mp hv).1
    have q := K5 i hi
    rw [hv] at q
    rw [Option.some.inj q]
    exact K6 i hi
  refine Back.mono (back hZ hw wi E V C K1 hty S hz (by omega) (by omega) (fun i hi => by rw [hcv i (by omega)]; exact hall _ (List.getElem_mem _)) hfr hlo) (fun P a hp => ⟨hp.1, hp.2.1, hp.2.2.1, by rw [e]; exact hp.2.2.2⟩) (fun P a v B hp hq => ?_)
  obtain ⟨L, ⟨q1, q2, q3, q4, q5, q6, q7, ⟨V', v1, v2, v3, v4, v5⟩, q9⟩, hl, hc, hs⟩ := hq
  refine ⟨L, ⟨q1, q2, q3, q4, q5, q6, q7, ⟨V'.cls, v3, V', v1, rfl, by rw [v4, e, hlen], K4, fun i hi => ?_, fun i hi => ?_⟩, q9⟩, hl, hc, by rw [hs, e]⟩
  · have hi' : i < cs.length := by omega
    rw [v5 i (by omega), hcv i hi']; simp [List.getD_eq_getElem?_getD, hi']
  · have hi' : i < cs.length := by omega
    simp only [List.getD_eq_getElem?_getD, List.getElem?_map, List.getElem?_eq_getElem hi', Option.map_some, Option.getD_some]
    exact fits_lo8 _
end StrChars.Road
namespace StrChars.Road
open Jvm Sem ClassFile Op Lib Jvm.Stand Jvm.Free Jvm.Free.XT
/-- WHAT COMES BACK, in the writer's own shape -/
def QV (Z : State) (x : Addr) (N : Int32) (bs : List Int32) (h : Heap) (n0 : Nat) (v : Option Value) (h' : Heap) (L : List Loc) : Prop := v = none ∧ RoadKit.Fr n0 L ∧ RoadKit.Keep h h' [x] ∧ RoadKit.Exa Z h' x ST ∧ RoadKit.Fld Z h' x ST "coder" "B" (.int 0) ∧
  ∃ (t : Addr) (kb : ClassId), n0 ≤ t ∧ h.size ≤ t ∧ ¬ t = x ∧ RoadKit.Fld Z h' x ST "value" "[B" (.ref t) ∧ RoadKit.Arv Z h' t kb .byte N (bs.map Value.int) (.int 0)
/-- **new String(chars) AT A CALL, FOR THE WRITER**: a char[] of n known ints, each 0 to 255 -/
theorem backV {p : Program} {l : Launch} {e : Env} {R : Room} {s : State} {args : Array Value} {below : List Frame} {len W : Nat} {Z : State} {a0 : Array Value} {h : Heap} (hZ : Z.Warmed39 s.vm) (hw : ∀ d ∈ words, d.before a0 Z = true) {kI : Nat} (wi : (Jvm.Cond.instantiable ST kI).before a0 Z = true)
    {x b : Addr} {kC : ClassId} {cs bs : List Int32} {d v0 c0 : Value} {z N : Int32} {n n0 : Nat} (hx0 : n0 ≤ x) (hh0 : n0 ≤ h.size) (E : RoadKit.Exa Z h x ST) (V : RoadKit.Fld Z h x ST "value" "[B" v0) (C : RoadKit.Fld Z h x ST "coder" "B" c0) (K : RoadKit.Arv Z h b kC .char N (cs.map Value.int) d) (S : RoadKit.Sta Z h ST "COMPACT_STRINGS" "Z" (.int z)) (hz : ¬ z = 0)
    (hn : cs.length = n) (hN : N = Int32.ofNat n) (l0 : 0 < n) (l2 : n ≤ 4000) (hp : ∀ c ∈ cs, ¬ c < 0 ∧ ¬ (255 : Int32) < c) (hb : bs = cs.map (fun c => c.toInt8.toInt32)) (hfr : 4 ≤ R.frames) (hlo : W + 65 ≤ R.locals) :
    Back l R p e below s args (⟨"java/lang/String", "<init>", "([C)V"⟩ : MethodName) len W (fun P a => a = #[.ref x, .ref b] ∧ P.U.heap = h ∧ P.cells + 1 ≤ R.cells ∧ P.slots + n ≤ R.slots)
      (fun P _ v B => ∃ L, QV Z x N bs h n0 v B.U.heap L ∧ B.locs = P.locs ++ L ∧ B.cells = P.cells + 1 ∧ B.slots = P.slots + n) := by
  subst hn hN hb
  refine Back.mono (backArv hZ hw wi E V C K S hz (n32 (by omega)) l0 (by omega) (fun c hc => (hp c hc).2) hfr hlo) (fun P a hp => hp) (fun P a v B hp hq => ?_)
  obtain ⟨L, ⟨q1, q2, q3, q4, q5, q6, q7, ⟨kb, v1, v2⟩, q9⟩, hl, hc, hs⟩ := hq
  exact ⟨L, ⟨q1, fun y hy => by rw [q2 y hy]; exact hx0, q3, q5, q7, h.size, kb, hh0, Nat.le_refl _, Nat.ne_of_gt E.lt, q6, by rw [List.map_map]; exact v2⟩, hl, hc, hs⟩
end StrChars.Road
namespace StrChars
open Jvm Sem ClassFile Op Lib Jvm.Stand Jvm.Free.XT Jvm.Free.ALB Jvm.Free.JM Jvm.Free
open Jvm.Lib.Cold (StaticIs)
def hi8 (x : Int32) : Int32 := lo8 (x >>> ((8 : Int32) &&& 31))
/-- what StringUTF16.getChar makes of two bytes -/
def pairCh (u v : Int32) : Int32 := (((u &&& 255) <<< ((0 : Int32) &&& 31)) ||| ((v &&& 255) <<< ((8 : Int32) &&& 31))).toUInt32.toUInt16.toUInt32.toInt32
theorem shr0 (c : Int32) : c >>> ((0 : Int32) &&& 31) = c := by
  have e : ((0 : Int32) &&& 31) = 0 := by decide
  rw [e]
  apply Int32.toBitVec_inj.mp
  rw [Int32.toBitVec_shiftRight]
  have e1 : ((0 : Int32).toBitVec.smod 32) = 0#32 := by decide
  rw [e1, BitVec.sshiftRight_eq']
  exact BitVec.sshiftRight_zero
theorem lo8_and (x : Int32) : (lo8 x &&& 255).toBitVec.toNat = x.toBitVec.toNat % 256 := by
  have h : (lo8 x).toBitVec = (x.toBitVec.signExtend 8).signExtend 32 := by rw [lo8, Int8.toBitVec_toInt32, Int32.toBitVec_toInt8]
  rw [Int32.toBitVec_and, BitVec.toNat_and, h]
  have e : ((x.toBitVec.signExtend 8).signExtend 32).toNat % 256 = x.toBitVec.toNat % 256 := by
    rw [BitVec.toNat_signExtend]
    have hlt := x.toBitVec.isLt
    simp only [BitVec.toNat_setWidth, BitVec.toNat_signExtend]
    split <;> split <;> omega
  rw [← e]
  exact Nat.and_two_pow_sub_one_eq_mod _ 8
theorem pair_says {c : Int32} (h0 : ¬ c < 0) (h1 : ¬ 65535 < c) : pairCh (lo8 c) (hi8 c) = c := by
  rw [Int32.lt_iff_toInt_lt] at h0 h1
  have e0 : (0 : Int32).toInt = 0 := rfl
  have e1 : (65535 : Int32).toInt = 65535 := rfl
  have hc : c.toInt = c.toBitVec.toNat := by
    have := c.toBitVec.isLt
    have e : c.toInt = c.toBitVec.toInt := rfl
    rw [e] at h0 h1
    rw [e]
    rw [BitVec.toInt_eq_toNat_cond] at h0 h1 ⊢
    split at h0 <;> split <;> omega
  have hn : c.toBitVec.toNat < 65536 := by omega
  have a1 := lo8_and c
  have a2 : (hi8 c &&& 255).toBitVec.toNat = c.toBitVec.toNat / 256 := by
    rw [hi8, lo8_and]
    have e : ((8 : Int32) &&& 31) = 8 := by decide
    rw [e, Int32.toBitVec_shiftRight]
    have e2 : ((8 : Int32).toBitVec.smod 32) = 8#32 := by decide
    rw [e2, BitVec.sshiftRight_eq', BitVec.toNat_sshiftRight_of_msb_false (by rw [BitVec.msb_eq_false_iff_two_mul_lt]; omega)]
    show c.toBitVec.toNat >>> 8 % 256 = _
    rw [Nat.shiftRight_eq_div_pow]
    omega
  unfold pairCh
  apply Int32.toBitVec_inj.mp
  apply BitVec.eq_of_toNat_eq
  have f0 : ((0 : Int32) &&& 31) = 0 := by decide
  have f8 : ((8 : Int32) &&& 31) = 8 := by decide
  rw [f0, f8]
  have g : (((lo8 c &&& 255) <<< (0 : Int32)) ||| ((hi8 c &&& 255) <<< (8 : Int32))).toBitVec.toNat = c.toBitVec.toNat := by
    rw [Int32.toBitVec_or, Int32.toBitVec_shiftLeft, Int32.toBitVec_shiftLeft]
    have s0 : ((0 : Int32).toBitVec.smod 32) = 0#32 := by decide
    have s8 : ((8 : Int32).toBitVec.smod 32) = 8#32 := by decide
    rw [s0, s8, BitVec.toNat_or]
    simp only [BitVec.shiftLeft_eq', BitVec.toNat_shiftLeft, a1, a2]
    show (c.toBitVec.toNat % 256) <<< 0 % 2 ^ 32 ||| (c.toBitVec.toNat / 256) <<< 8 % 2 ^ 32 = _
    rw [Nat.shiftLeft_zero, Nat.mod_eq_of_lt (show c.toBitVec.toNat % 256 < 2 ^ 32 by omega), Nat.mod_eq_of_lt (show (c.toBitVec.toNat / 256) <<< 8 < 2 ^ 32 by rw [Nat.shiftLeft_eq]; omega), Nat.or_comm, ← Nat.shiftLeft_add_eq_or_of_lt (by omega), Nat.shiftLeft_eq]
    omega
  show BitVec.toNat (((((lo8 c &&& 255) <<< (0 : Int32)) ||| ((hi8 c &&& 255) <<< (8 : Int32))).toBitVec.setWidth 16).setWidth 32) = _
  rw [BitVec.toNat_setWidth, BitVec.toNat_setWidth, g]
  omega
end StrChars
namespace StrChars
open Jvm Sem ClassFile Op Lib Jvm.Stand Jvm.Free.XT Jvm.Free.ALB Jvm.Free.JM Jvm.Free
open Jvm.Lib.Cold (StaticIs)
theorem shr1 {n : Nat} (h : 2 * n < 2 ^ 31) : Int32.ofNat (2 * n) >>> ((1 : Int32) &&& 31) = Int32.ofNat n := by
  have e : ((1 : Int32) &&& 31) = 1 := by decide
  rw [e]
  apply Int32.toBitVec_inj.mp
  rw [Int32.toBitVec_shiftRight]
  have e1 : ((1 : Int32).toBitVec.smod 32) = 1#32 := by decide
  have hm : (BitVec.ofNat 32 (2 * n)).toNat = 2 * n := by rw [BitVec.toNat_ofNat, Nat.mod_eq_of_lt (by omega)]
  rw [e1, BitVec.sshiftRight_eq']
  apply BitVec.eq_of_toNat_eq
  show ((BitVec.ofNat 32 (2 * n)).sshiftRight 1).toNat = (BitVec.ofNat 32 n).toNat
  rw [BitVec.toNat_sshiftRight_of_msb_false (by rw [BitVec.msb_eq_false_iff_two_mul_lt, hm]; omega), hm, BitVec.toNat_ofNat, Nat.shiftRight_eq_div_pow]
  omega
/-- charAt's cast of a byte read back -/
def chr8 (u : Int32) : Int32 := (u &&& 255).toUInt32.toUInt16.toUInt32.toInt32
theorem chr8_lo8 {c : Int32} (h0 : ¬ c < 0) (h1 : ¬ 255 < c) : chr8 (lo8 c) = c := by
  have t : ∀ k : Fin 256, (Int32.ofNat k.val).toUInt32.toUInt16.toUInt32.toInt32 = Int32.ofNat k.val := by decide +kernel
  unfold chr8
  rw [lo8_mask h0 h1]
  rw [Int32.lt_iff_toInt_lt] at h0 h1
  have e0 : (0 : Int32).toInt = 0 := rfl
  have e1 : (255 : Int32).toInt = 255 := rfl
  obtain ⟨k, hk⟩ : ∃ k : Nat, c.toInt = k := ⟨c.toInt.toNat, by omega⟩
  have hx : c = Int32.ofNat k := Int32.toInt_inj.mp (by rw [hk, Int32.toInt_ofNat_small (by omega)])
  rw [hx]
  exact t ⟨k, by omega⟩
theorem narrow_ch {c : Int32} (h0 : ¬ c < 0) (h1 : ¬ 65535 < c) : narrow .char (.int c) = .int c := by
  have q : narrow .char (.int (pairCh (lo8 c) (hi8 c))) = .int (pairCh (lo8 c) (hi8 c)) := narrow_c _
  rwa [pair_says h0 h1] at q
/-- the array's cell V codes the n chars f 0 .. f (n - 1) by the coder cd, as the JDK does: coder 1 just where some char is above 255 -/
def Cod (cd : Int32) (n : Nat) (f : Nat → Int32) (V : Cell) : Prop := (cd = 0 ∧ V.slots.size = n ∧ ∀ j, j < n → V.slots[j]? = some (.int (lo8 (f j))) ∧ ¬ 255 < f j) ∨ (cd = 1 ∧ V.slots.size = 2 * n ∧ (∀ j, j < n → V.slots[2 * j]? = some (.int (lo8 (f j))) ∧ V.slots[2 * j + 1]? = some (.int (hi8 (f j)))) ∧ ∃ j, j < n ∧ 255 < f j)
theorem Cod.cd {cd : Int32} {n : Nat} {f : Nat → Int32} {V : Cell} (h : Cod cd n f V) : cd = 0 ∨ cd = 1 := h.imp (fun q => q.1) fun q => q.1
theorem Cod.len {cd : Int32} {n : Nat} {f : Nat → Int32} {V : Cell} (h : Cod cd n f V) (hs : V.slots.size < 2 ^ 31) : Int32.ofNat V.slots.size >>> (cd &&& 31) = Int32.ofNat n := by
  rcases h with ⟨rfl, h, -⟩ | ⟨rfl, h, -⟩
  · rw [shr0, h]
  · rw [h, shr1 (by omega)]
/-- **x is a String of the n chars f 0 .. f (n - 1)**, Latin-1 or UTF-16; its array at t has the cell V -/
def Txt (x t : Addr) (V : Cell) (cd : Int32) (n : Nat) (f : Nat → Int32) (U : State) : Prop := Exact "java/lang/String" x U ∧ Has x "java/lang/String" "value" "[B" (.ref t) U ∧ Has x "java/lang/String" "coder" "B" (.int cd) U ∧ XT.Arr .byte t V U ∧ Cod cd n f V ∧ ∀ j, j < n → ¬ f j < 0 ∧ ¬ 65535 < f j
theorem Txt.mv {x t : Addr} {V : Cell} {cd : Int32} {n : Nat} {f : Nat → Int32} {U U' : State} (h : Txt x t V cd n f U) (hal : U.vm.Alike U'.vm) (hh : U'.heap = U.heap) : Txt x t V cd n f U' := ⟨h.1.mv hal hh, h.2.1.mv hal hh, h.2.2.1.mv hal hh, h.2.2.2.1.mv hal hh, h.2.2.2.2⟩
namespace Cdr
def yN : MethodName := ⟨"java/lang/String", "coder", "()B"⟩
abbrev yB : ByteArray := jdk_42_method_152_code
theorem d0 : decode yB 0 = .ok (.getstatic 38, 3) := by decide +kernel
theorem d3 : decode yB 3 = .ok (.ifCond (.eq) 10, 3) := by decide +kernel
theorem d6 : decode yB 6 = .ok (.aload_n 0, 1) := by decide +kernel
theorem d7 : decode yB 7 = .ok (.getfield 15, 3) := by decide +kernel
theorem d10 : decode yB 10 = .ok (.goto 4, 3) := by decide +kernel
theorem d14 : decode yB 14 = .ok (.ireturn, 1) := by decide +kernel
def site : List Cond := [.fieldLink "java/lang/String" 38 "java/lang/String" "COMPACT_STRINGS" "Z", .fieldLink "java/lang/String" 15 "java/lang/String" "coder" "B"]
def tab : Cond := tabOf yN yB 1 (some .byte) site
def P (x : Addr) (cd z : Int32) (args : Array Value) (s : State) : Prop := args = #[.ref x] ∧ Has x "java/lang/String" "coder" "B" (.int cd) s ∧ (cd = 0 ∨ cd = 1) ∧ StaticIs s "java/lang/String" "COMPACT_STRINGS" "Z" (.int z) ∧ ¬ z = 0
def E (cd : Int32) (r : Option Value) (s u : State) : Prop := XT.PureE (some (.int cd)) r s u
theorem law (l : Launch) (x : Addr) (cd z : Int32) : Law l yN 1 0 0 0 yB 1 (some .byte) site (P x cd z) (E cd) [] 0 0 := by
  refine Law.of_walk (plainFor_of_name (by decide +kernel)) (by decide +kernel) (by decide +kernel) (by decide) (fun _ _ h => by rw [h.1]; rfl) (fun _ U U' hal hh h => ⟨h.1, h.2.1.mv hal hh, h.2.2.1, h.2.2.2.1.there hal hh, h.2.2.2.2⟩) (fun r U U' V V' h1 hal h2 h => XT.PureE.mv r U U' V V' h1 hal h2 h) ?_
  intro p e s m args below meth c s₁ X0 hexec hbytes hml hret hlk hnm hown hh0 W hP
  obtain ⟨rfl, hx, hc, s1, hz⟩ := hP
  have c1 : Steps p.tables e below (s₁.setTop (entryFrame m #[.ref x] 1)) (s₁.setTop (mkF m 0 #[.val (.ref x)] [])) := entry rfl
  obtain ⟨T2, X2, q2, st2⟩ := X0.sget hexec hown (wk W (.fieldLink "java/lang/String" 38 "java/lang/String" "COMPACT_STRINGS" "Z")) s1 (fun _ _ h => by rw [hh0]; exact h) (g := (mkF m 0 #[.val (.ref x)] [])) rfl (hb hbytes d0)
  have hh2 := q2.trans hh0
  have c3 : Steps p.tables e below (s₁.setTop (entryFrame m #[.ref x] 1)) (T2.setTop (mkF m 7 #[.val (.ref x)] [.ref x])) := (c1.trans (st2 _ (Steps.refl _))).trans (by
    refine XS.ifNo X2.here hexec rfl (hb hbytes d3) rfl (i0_eq_f hz) ?_
    refine XS.aloadN X2.here hexec rfl (hb hbytes d6) rfl rfl ?_
    exact Steps.refl _)
  obtain ⟨T4, X4, q4, st4⟩ := X2.hget hexec hown (wk W (.fieldLink "java/lang/String" 15 "java/lang/String" "coder" "B")) (hx.mv X2.warmed.alike hh2) (g := (mkF m 7 #[.val (.ref x)] [.ref x])) rfl (rest := []) rfl (hb hbytes d7)
  have c5 : Steps p.tables e below (s₁.setTop (entryFrame m #[.ref x] 1)) (T4.setTop (mkF m 14 #[.val (.ref x)] [.int cd])) := (c3.trans (st4 _ (Steps.refl _))).trans (by
    refine XS.goto X4.here hexec rfl (pc0 := 10) rfl (hb hbytes d10) (by decide) rfl ?_
    exact Steps.refl _)
  exact ⟨T4, some (.int cd), _, _, _, X4, rfl, rfl, rfl, (fun h => by cases h), ⟨rfl, q4.trans hh2⟩, fun fs hl => c5.trans (X4.ireturnOut hexec hret (by rcases hc with rfl | rfl <;> rfl) (Or.inr (Or.inr (Or.inl rfl))) (hb hbytes d14) hl)⟩
end Cdr
namespace Len
def yN : MethodName := ⟨"java/lang/String", "length", "()I"⟩
abbrev yB : ByteArray := jdk_42_method_54_code
theorem d0 : decode yB 0 = .ok (.aload_n 0, 1) := by decide +kernel
theorem d1 : decode yB 1 = .ok (.getfield 9, 3) := by decide +kernel
theorem d4 : decode yB 4 = .ok (.arraylength, 1) := by decide +kernel
theorem d5 : decode yB 5 = .ok (.aload_n 0, 1) := by decide +kernel
theorem d6 : decode yB 6 = .ok (.invokevirtual 335, 3) := by decide +kernel
theorem d9 : decode yB 9 = .ok (.ishr, 1) := by decide +kernel
theorem d10 : decode yB 10 = .ok (.ireturn, 1) := by decide +kernel
def site : List Cond := [.fieldLink "java/lang/String" 9 "java/lang/String" "value" "[B", Cdr.tab] ++ virtW "java/lang/String" 335 "java/lang/String" Cdr.yN Cdr.yN
def tab : Cond := tabOf yN yB 1 (some .int) site
def P (x t : Addr) (V : Cell) (cd : Int32) (n : Nat) (f : Nat → Int32) (z : Int32) (args : Array Value) (s : State) : Prop := args = #[.ref x] ∧ Txt x t V cd n f s ∧ StaticIs s "java/lang/String" "COMPACT_STRINGS" "Z" (.int z) ∧ ¬ z = 0
def E (n : Nat) (r : Option Value) (s u : State) : Prop := XT.PureE (some (.int (Int32.ofNat n))) r s u
/-- length() of a String of n chars, in either coding -/
theorem law (l : Launch) (x t : Addr) (V : Cell) (cd : Int32) (n : Nat) (f : Nat → Int32) (z : Int32) : Law l yN 1 0 1 13 yB 1 (some .int) site (P x t V cd n f z) (E n) [] 0 0 := by
  refine Law.of_walk (plainFor_of_name (by decide +kernel)) (by decide +kernel) (by decide +kernel) (by decide) (fun _ _ h => by rw [h.1]; rfl) (fun _ U U' hal hh h => ⟨h.1, h.2.1.mv hal hh, h.2.2.1.there hal hh, h.2.2.2⟩) (fun r U U' V V' h1 hal h2 h => XT.PureE.mv r U U' V V' h1 hal h2 h) ?_
  intro p e s m args below meth c s₁ X0 hexec hbytes hml hret hlk hnm hown hh0 W hP
  obtain ⟨rfl, hx, s1, hz⟩ := hP
  have v31 := hx.2.2.2.1.2.2.2
  have c1 : Steps p.tables e below (s₁.setTop (entryFrame m #[.ref x] 1)) (s₁.setTop (mkF m 1 #[.val (.ref x)] [.ref x])) := Steps.trans (entry rfl) (by
    show Steps p.tables e below (s₁.setTop (mkF m 0 #[.val (.ref x)] [])) _
    refine XS.aloadN X0.here hexec rfl (hb hbytes d0) rfl rfl ?_
    exact Steps.refl _)
  obtain ⟨T2, X2, q2, st2⟩ := X0.hget hexec hown (wk W (.fieldLink "java/lang/String" 9 "java/lang/String" "value" "[B")) (hx.mv X0.warmed.alike hh0).2.1 (g := (mkF m 1 #[.val (.ref x)] [.ref x])) rfl (rest := []) rfl (hb hbytes d1)
  have hh2 := q2.trans hh0
  have hx2 := hx.mv X2.warmed.alike hh2
  have c3 : Steps p.tables e below (s₁.setTop (entryFrame m #[.ref x] 1)) (T2.setTop (mkF m 6 #[.val (.ref x)] [.ref x, .int (Int32.ofNat V.slots.size)])) := (c1.trans (st2 _ (Steps.refl _))).trans (by
    refine X2.alen hexec hx2.2.2.2.1 rfl rfl (hb hbytes d4) ?_
    refine XS.aloadN X2.here hexec rfl (hb hbytes d5) rfl rfl ?_
    exact Steps.refl _)
  obtain ⟨v4, T4, X4, E4, g4⟩ := X2.callV hexec (Cdr.law l x cd z) hown (wks W (virtW "java/lang/String" 335 "java/lang/String" Cdr.yN Cdr.yN)) rfl (by decide) (wk W Cdr.tab) (W := 1) (Nat.le_of_ble_eq_true rfl) (Nat.le_of_ble_eq_true rfl) (Nat.le_refl _) (Nat.le_refl _) (hx2.1.fc X2.warmed.alike) hx2.1.is (g := (mkF m 6 #[.val (.ref x)] [.ref x, .int (Int32.ofNat V.slots.size)])) rfl (by rw [hml]; rfl) c3 (argsL := []) (rest := [.int (Int32.ofNat V.slots.size)]) rfl rfl (by show 2 * 0 + (1 + 0) ≤ _; decide) (hb hbytes d6) (⟨rfl, hx2.2.2.1, hx.2.2.2.2.1.cd, s1.there X2.warmed.alike hh2, hz⟩)
  obtain ⟨rfl, q4⟩ := E4
  have c5 : Steps p.tables e below (s₁.setTop (entryFrame m #[.ref x] 1)) (T4.setTop (mkF m 10 #[.val (.ref x)] [.int (Int32.ofNat V.slots.size >>> (cd &&& 31))])) := Steps.trans g4 (by
    refine ishr X4.here hexec rfl (hb hbytes d9) rfl ?_
    exact Steps.refl _)
  rw [hx.2.2.2.2.1.len v31] at c5
  exact ⟨T4, some (.int (Int32.ofNat n)), _, _, _, X4, rfl, rfl, rfl, (fun h => by cases h), ⟨rfl, q4.trans hh2⟩, fun fs hl => c5.trans (X4.ireturnOut hexec hret rfl (Or.inl rfl) (hb hbytes d10) hl)⟩
theorem pays {l : Launch} {R : Room} {p : Program} {e : Env} {below : List Frame} {s : State} {sargs : Array Value} {len W : Nat} (x t : Addr) (V : Cell) (cd : Int32) (n : Nat) (f : Nat → Int32) (z : Int32) (htab : tab.before sargs s = true) (hfr : 2 ≤ R.frames) (hlo : W + 25 ≤ R.locals) :
    Back l R p e below s sargs yN len W (fun A₁ a₁ => A₁.cells + 0 ≤ R.cells ∧ A₁.slots + 0 ≤ R.slots ∧ P x t V cd n f z a₁ A₁.U) (fun A₁ _ v₁ B₁ => E n v₁ A₁.U B₁.U ∧ B₁.locs = A₁.locs ++ [] ∧ B₁.cells = A₁.cells + 0 ∧ B₁.slots = A₁.slots + 0) :=
  (law l x t V cd n f z).pays htab hfr (by omega)
end Len
namespace IsL
def yN : MethodName := ⟨"java/lang/String", "isLatin1", "()Z"⟩
abbrev yB : ByteArray := jdk_42_method_154_code
theorem d0 : decode yB 0 = .ok (.getstatic 38, 3) := by decide +kernel
theorem d3 : decode yB 3 = .ok (.ifCond (.eq) 14, 3) := by decide +kernel
theorem d6 : decode yB 6 = .ok (.aload_n 0, 1) := by decide +kernel
theorem d7 : decode yB 7 = .ok (.getfield 15, 3) := by decide +kernel
theorem d10 : decode yB 10 = .ok (.ifCond (.ne) 7, 3) := by decide +kernel
theorem d13 : decode yB 13 = .ok (.iconst 1, 1) := by decide +kernel
theorem d14 : decode yB 14 = .ok (.goto 4, 3) := by decide +kernel
theorem d17 : decode yB 17 = .ok (.iconst 0, 1) := by decide +kernel
theorem d18 : decode yB 18 = .ok (.ireturn, 1) := by decide +kernel
def site : List Cond := [.fieldLink "java/lang/String" 38 "java/lang/String" "COMPACT_STRINGS" "Z", .fieldLink "java/lang/String" 15 "java/lang/String" "coder" "B"]
def tab : Cond := tabOf yN yB 1 (some .boolean) site
def P (x : Addr) (cd z : Int32) (args : Array Value) (s : State) : Prop := args = #[.ref x] ∧ Has x "java/lang/String" "coder" "B" (.int cd) s ∧ (cd = 0 ∨ cd = 1) ∧ StaticIs s "java/lang/String" "COMPACT_STRINGS" "Z" (.int z) ∧ ¬ z = 0
def E (cd : Int32) (r : Option Value) (s u : State) : Prop := XT.PureE (some (.int (1 - cd))) r s u
theorem law (l : Launch) (x : Addr) (cd z : Int32) : Law l yN 1 0 0 0 yB 1 (some .boolean) site (P x cd z) (E cd) [] 0 0 := by
  refine Law.of_walk (plainFor_of_name (by decide +kernel)) (by decide +kernel) (by decide +kernel) (by decide) (fun _ _ h => by rw [h.1]; rfl) (fun _ U U' hal hh h => ⟨h.1, h.2.1.mv hal hh, h.2.2.1, h.2.2.2.1.there hal hh, h.2.2.2.2⟩) (fun r U U' V V' h1 hal h2 h => XT.PureE.mv r U U' V V' h1 hal h2 h) ?_
  intro p e s m args below meth c s₁ X0 hexec hbytes hml hret hlk hnm hown hh0 W hP
  obtain ⟨rfl, hx, hc, s1, hz⟩ := hP
  have c1 : Steps p.tables e below (s₁.setTop (entryFrame m #[.ref x] 1)) (s₁.setTop (mkF m 0 #[.val (.ref x)] [])) := entry rfl
  obtain ⟨T2, X2, q2, st2⟩ := X0.sget hexec hown (wk W (.fieldLink "java/lang/String" 38 "java/lang/String" "COMPACT_STRINGS" "Z")) s1 (fun _ _ h => by rw [hh0]; exact h) (g := (mkF m 0 #[.val (.ref x)] [])) rfl (hb hbytes d0)
  have hh2 := q2.trans hh0
  have c3 : Steps p.tables e below (s₁.setTop (entryFrame m #[.ref x] 1)) (T2.setTop (mkF m 7 #[.val (.ref x)] [.ref x])) := (c1.trans (st2 _ (Steps.refl _))).trans (by
    refine XS.ifNo X2.here hexec rfl (hb hbytes d3) rfl (i0_eq_f hz) ?_
    refine XS.aloadN X2.here hexec rfl (hb hbytes d6) rfl rfl ?_
    exact Steps.refl _)
  obtain ⟨T4, X4, q4, st4⟩ := X2.hget hexec hown (wk W (.fieldLink "java/lang/String" 15 "java/lang/String" "coder" "B")) (hx.mv X2.warmed.alike hh2) (g := (mkF m 7 #[.val (.ref x)] [.ref x])) rfl (rest := []) rfl (hb hbytes d7)
  have c5 : Steps p.tables e below (s₁.setTop (entryFrame m #[.ref x] 1)) (T4.setTop (mkF m 10 #[.val (.ref x)] [.int cd])) := c3.trans (st4 _ (Steps.refl _))
  have c6 : Steps p.tables e below (s₁.setTop (entryFrame m #[.ref x] 1)) (T4.setTop (mkF m 18 #[.val (.ref x)] [.int (1 - cd)])) := by
    rcases hc with rfl | rfl
    · exact c5.trans (by
        refine XS.ifNo X4.here hexec rfl (hb hbytes d10) rfl (i0_ne_f rfl) ?_
        refine iconstV X4.here hexec rfl 1 (hb hbytes d13) (by decide) ?_
        refine XS.goto X4.here hexec rfl (pc0 := 14) rfl (hb hbytes d14) (by decide) rfl ?_
        exact Steps.refl _)
    · exact c5.trans (by
        refine XS.ifYes X4.here hexec rfl (pc0 := 10) rfl (hb hbytes d10) rfl (i0_ne_t (by decide)) (by decide) rfl ?_
        refine iconstV X4.here hexec rfl 0 (hb hbytes d17) (by decide) ?_
        exact Steps.refl _)
  exact ⟨T4, some (.int (1 - cd)), _, _, _, X4, rfl, rfl, rfl, (fun h => by cases h), ⟨rfl, q4.trans hh2⟩, fun fs hl => c6.trans (X4.ireturnOut hexec hret (by rcases hc with rfl | rfl <;> rfl) (Or.inr (Or.inl rfl)) (hb hbytes d18) hl)⟩
end IsL
namespace LChA
def yN : MethodName := ⟨"java/lang/StringLatin1", "charAt", "([BI)C"⟩
abbrev yB : ByteArray := jdk_43_method_2_code
theorem d0 : decode yB 0 = .ok (.iload_n 1, 1) := by decide +kernel
theorem d1 : decode yB 1 = .ok (.aload_n 0, 1) := by decide +kernel
theorem d2 : decode yB 2 = .ok (.arraylength, 1) := by decide +kernel
theorem d3 : decode yB 3 = .ok (.invokestatic 9, 3) := by decide +kernel
theorem d6 : decode yB 6 = .ok (.aload_n 0, 1) := by decide +kernel
theorem d7 : decode yB 7 = .ok (.iload_n 1, 1) := by decide +kernel
theorem d8 : decode yB 8 = .ok (.baload, 1) := by decide +kernel
theorem d9 : decode yB 9 = .ok (.sipush 255, 3) := by decide +kernel
theorem d12 : decode yB 12 = .ok (.iand, 1) := by decide +kernel
theorem d13 : decode yB 13 = .ok (.i2c, 1) := by decide +kernel
theorem d14 : decode yB 14 = .ok (.ireturn, 1) := by decide +kernel
def site : List Cond := [JO.Str_checkIndex.tab] ++ staticW "java/lang/StringLatin1" 9 JO.Str_checkIndex.yN
def tab : Cond := tabOf yN yB 2 (some .char) site
def P (t : Addr) (V : Cell) (i : Nat) (u : Int32) (fm : Value) (args : Array Value) (s : State) : Prop := args = #[.ref t, .int (Int32.ofNat i)] ∧ XT.Arr .byte t V s ∧ V.slots[i]? = some (.int u) ∧ (StaticIs s "jdk/internal/util/Preconditions" "SIOOBE_FORMATTER" "Ljava/util/function/BiFunction;" fm ∧ fm.isRef = true)
def E (u : Int32) (r : Option Value) (s w : State) : Prop := XT.PureE (some (.int (chr8 u))) r s w
theorem law (l : Launch) (t : Addr) (V : Cell) (i : Nat) (u : Int32) (fm : Value) : Law l yN 2 2 2 27 yB 2 (some .char) site (P t V i u fm) (E u) [] 0 0 := by
  refine Law.of_walk (plainFor_of_name (by decide +kernel)) (by decide +kernel) (by decide +kernel) (by decide) (fun _ _ h => by rw [h.1]; rfl) (fun _ U U' hal hh h => ⟨h.1, h.2.1.mv hal hh, h.2.2.1, h.2.2.2.1.there hal hh, h.2.2.2.2⟩) (fun r U U' V V' h1 hal h2 h => XT.PureE.mv r U U' V V' h1 hal h2 h) ?_
  intro p e s m args below meth c s₁ X0 hexec hbytes hml hret hlk hnm hown hh0 W hP
  obtain ⟨rfl, hV, hu, s1, rf⟩ := hP
  have v31 := hV.2.2.2
  have hi : i < V.slots.size := (Array.getElem?_eq_some_iff.mp hu).1
  have c1 : Steps p.tables e below (s₁.setTop (entryFrame m #[.ref t, .int (Int32.ofNat i)] 2)) (s₁.setTop (mkF m 0 #[.val (.ref t), .val (.int (Int32.ofNat i))] [])) := entry rfl
  have c2 : Steps p.tables e below (s₁.setTop (entryFrame m #[.ref t, .int (Int32.ofNat i)] 2)) (s₁.setTop (mkF m 3 #[.val (.ref t), .val (.int (Int32.ofNat i))] [.int (Int32.ofNat V.slots.size), .int (Int32.ofNat i)])) := c1.trans (by
    refine XS.iloadN X0.here hexec rfl (hb hbytes d0) rfl ?_
    refine XS.aloadN X0.here hexec rfl (hb hbytes d1) rfl rfl ?_
    refine X0.alen hexec (hV.mv X0.warmed.alike hh0) rfl rfl (hb hbytes d2) ?_
    exact Steps.refl _)
  obtain ⟨v3, T3, X3, E3, g3⟩ := X0.callS hexec (JO.Str_checkIndex.law l (Int32.ofNat i) (Int32.ofNat V.slots.size) fm) hown (wks W (staticW "java/lang/StringLatin1" 9 JO.Str_checkIndex.yN)) (wk W JO.Str_checkIndex.tab) (W := 0) (Nat.le_of_ble_eq_true rfl) (Nat.le_of_ble_eq_true rfl) (Nat.le_refl _) (Nat.le_refl _) (g := (mkF m 3 #[.val (.ref t), .val (.int (Int32.ofNat i))] [.int (Int32.ofNat V.slots.size), .int (Int32.ofNat i)])) rfl (by rw [hml]; rfl) c2 (argsL := [.int (Int32.ofNat i), .int (Int32.ofNat V.slots.size)]) (rest := []) rfl rfl (by show 2 * 0 + 0 ≤ _; decide) (hb hbytes d3) (⟨rfl, rf, s1.there X0.warmed.alike hh0, Int32.ofNat_not_neg (by omega), lt32 v31 hi⟩)
  obtain ⟨rfl, q3⟩ := E3
  have hh3 := q3.trans hh0
  have c4 : Steps p.tables e below (s₁.setTop (entryFrame m #[.ref t, .int (Int32.ofNat i)] 2)) (T3.setTop (mkF m 14 #[.val (.ref t), .val (.int (Int32.ofNat i))] [.int (chr8 u)])) := Steps.trans g3 (by
    refine XS.aloadN X3.here hexec rfl (hb hbytes d6) rfl rfl ?_
    refine XS.iloadN X3.here hexec rfl (hb hbytes d7) rfl ?_
    refine X3.aget hexec (hV.mv X3.warmed.alike hh3) rfl hu rfl rfl (hb hbytes d8) ?_
    refine sipushV X3.here hexec rfl 255 (hb hbytes d9) (by decide) ?_
    refine XS.iand X3.here hexec rfl (hb hbytes d12) rfl ?_
    refine i2c X3.here hexec rfl (hb hbytes d13) rfl ?_
    exact Steps.refl _)
  exact ⟨T3, some (.int (chr8 u)), _, _, _, X3, rfl, rfl, rfl, (fun h => by cases h), ⟨rfl, hh3⟩, fun fs hl => c4.trans (X3.ireturnOut hexec hret (narrow_c _) (Or.inr (Or.inr (Or.inr (Or.inl rfl)))) (hb hbytes d14) hl)⟩
end LChA
end StrChars
namespace StrChars.Road
open Jvm Sem ClassFile Op Lib Jvm.Stand Jvm.Free Jvm.Free.XT
open Jvm.Lib.Cold (StaticIs)
theorem consq {a : Array Value} {s : State} {c : Jvm.Cond} {L : List Jvm.Cond} (h0 : c.before a s = true) (h : ∀ w ∈ L, w.before a s = true) : ∀ w ∈ c :: L, w.before a s = true := fun w hw => (List.mem_cons.mp hw).elim (fun e => e ▸ h0) (h w)
/-- the words of String.length(), either coding -/
abbrev wordsLen : List Jvm.Cond := [.code Len.yN Len.yB 1 (some .int), .initialized ST, .fieldLink ST 9 ST "value" "[B", .fieldLink ST 38 ST "COMPACT_STRINGS" "Z", .fieldLink ST 15 ST "coder" "B", .code Cdr.yN Cdr.yB 1 (some .byte), .methodLink ST 335 Cdr.yN, .declares Cdr.yN, .selects ST Cdr.yN Cdr.yN, .instanceMethod Cdr.yN]
theorem tabLen_of {a : Array Value} {s : State} (h : ∀ w ∈ wordsLen, w.before a s = true) : Len.tab.before a s = true := by
  have hc : Cdr.tab.before a s = true := unparts (wk h (.code Cdr.yN Cdr.yB 1 (some .byte))) (wks h (.initialized Cdr.yN.cls :: Cdr.site))
  have q := consq hc h
  exact unparts (wk q (.code Len.yN Len.yB 1 (some .int))) (wks q (.initialized Len.yN.cls :: Len.site))
theorem movedLen {Z s : State} {a0 args : Array Value} (hZ : Z.Warmed39 s.vm) (hw : ∀ d ∈ wordsLen, d.before a0 Z = true) : ∀ d ∈ wordsLen, d.before args s = true := fun d hd => by
  have q := hw d hd
  have t : ∀ d ∈ wordsLen, d = .arrayClass .byte ∨ (d.onTables && d.keepsFace) = true := by decide +kernel
  rcases t d hd with rfl | t
  · exact RoadKit.mvA hZ q
  · exact RoadKit.mv hZ q t
/-- the bytes of the chars cs, low before high -/
def wideBytes : List Int32 → List Value
  | [] => []
  | c :: cs => .int (lo8 c) :: .int (hi8 c) :: wideBytes cs
theorem wide_lo (d : Value) : ∀ (cs : List Int32) (j : Nat), j < cs.length → (wideBytes cs).getD (2 * j) d = .int (lo8 (cs.getD j 0))
  | [], j, h => absurd h (Nat.not_lt_zero j)
  | c :: cs, 0, _ => rfl
  | c :: cs, j + 1, h => by
    have q := wide_lo d cs j (by simpa using h)
    rw [show 2 * (j + 1) = 2 * j + 1 + 1 from by omega]
    simpa [wideBytes] using q
theorem wide_hi (d : Value) : ∀ (cs : List Int32) (j : Nat), j < cs.length → (wideBytes cs).getD (2 * j + 1) d = .int (hi8 (cs.getD j 0))
  | [], j, h => absurd h (Nat.not_lt_zero j)
  | c :: cs, 0, _ => rfl
  | c :: cs, j + 1, h => by
    have q := wide_hi d cs j (by simpa using h)
    rw [show 2 * (j + 1) + 1 = 2 * j + 1 + 1 + 1 from by omega]
    simpa [wideBytes] using q
theorem low_at (d : Value) (cs : List Int32) (j : Nat) (h : j < cs.length) : (cs.map fun c => Value.int (lo8 c)).getD j d = .int (lo8 (cs.getD j 0)) := by
  simp [List.getD_eq_getElem?_getD, h]
/-- an array of N2 bytes vs codes the chars cs by the coder cd -/
def CodA (cs : List Int32) (cd N2 : Int32) (vs : List Value) : Prop := (cd = 0 ∧ N2 = Int32.ofNat cs.length ∧ vs = (cs.map fun c => Value.int (lo8 c)) ∧ ∀ c ∈ cs, ¬ 255 < c) ∨ (cd = 1 ∧ N2 = Int32.ofNat (2 * cs.length) ∧ vs = wideBytes cs ∧ ∃ c ∈ cs, 255 < c)
theorem CodA.cod {cs : List Int32} {cd N2 : Int32} {vs : List Value} {V : Cell} (h : CodA cs cd N2 vs) (hn : 2 * cs.length < 2 ^ 31) (hs : V.slots.size = N2.toNatClampNeg) (hv : RoadKit.Has V vs (.int 0)) : Cod cd cs.length (fun j => cs.getD j 0) V := by
  rcases h with ⟨rfl, rfl, rfl, h⟩ | ⟨rfl, rfl, rfl, c, hc, hw⟩
  · rw [n32 (by omega)] at hs
    exact Or.inl ⟨rfl, hs, fun j hj => ⟨by rw [hv j (by omega), low_at _ _ _ hj], by
      have e : cs.getD j 0 = cs[j] := by simp [List.getD_eq_getElem?_getD, hj]
      show ¬ 255 < cs.getD j 0
      rw [e]; exact h _ (List.getElem_mem _)⟩⟩
  · rw [n32 (by omega)] at hs
    obtain ⟨j, hj, rfl⟩ := List.getElem_of_mem hc
    exact Or.inr ⟨rfl, hs, fun j hj => ⟨by rw [hv _ (by omega), wide_lo _ _ _ hj], by rw [hv _ (by omega), wide_hi _ _ _ hj]⟩, j, hj, by
      have e : cs.getD j 0 = cs[j] := by simp [List.getD_eq_getElem?_getD, hj]
      show 255 < cs.getD j 0
      rw [e]; exact hw⟩
/-- an object of exactly java/lang/String, its two fields found: as the laws ask it -/
theorem strObj {Z U : State} {a0 : Array Value} {kI : Nat} (wi : (Jvm.Cond.instantiable ST kI).before a0 Z = true) (al : Z.vm.Alike U.vm) {x : Addr} {v0 c0 : Value} (E : RoadKit.Exa Z U.heap x ST) (V : RoadKit.Fld Z U.heap x ST "value" "[B" v0) (C : RoadKit.Fld Z U.heap x ST "coder" "B" c0) :
    ∃ (D : Cell) (fV fC : Field), Blank ST x D U ∧ Found ST "value" "[B" fV U ∧ Found ST "coder" "B" fC U ∧ D.slots[fV.slot]? = some v0 ∧ D.slots[fC.slot]? = some c0 ∧ RoadKit.slotOf Z ST "value" "[B" = fV.slot ∧ RoadKit.slotOf Z ST "coder" "B" = fC.slot := by
  obtain ⟨D, cfV, kV, iV, fV, hD, gV, stV, knV, obV, asV, slV⟩ := V
  obtain ⟨D', cfC, kC, iC, fC, hD', gC, stC, -, -, asC, slC⟩ := C
  cases hD.symm.trans hD'
  obtain ⟨D2, kD, e1, e2, e3, e4, e5⟩ := E
  cases hD.symm.trans e1
  obtain ⟨c2, k2, i1, i2, i3, -⟩ := Cond.instantiable_spec wi
  cases e2.symm.trans i1
  cases e3.symm.trans i2
  obtain ⟨kU, u1, u2⟩ := al.2.2 _ _ e3
  exact ⟨D, fV, fC, ⟨hD, ⟨knV, fun q hq => by rw [hq] at obV; cases obV⟩, by rw [al.findClass]; exact e2, kU, u1, by rw [u2]; exact i3, by rw [u2]; exact e5 i3⟩, ⟨SBG.found_only al ⟨cfV, kV, iV, gV⟩, stV⟩, ⟨SBG.found_only al ⟨cfC, kC, iC, gC⟩, stC⟩, slV, slC, by simp [RoadKit.slotOf, gV], by simp [RoadKit.slotOf, gC]⟩
theorem sta_is {Z U : State} (al : Z.vm.Alike U.vm) {C n d : String} {v : Value} (S : RoadKit.Sta Z U.heap C n d v) : StaticIs U C n d v := by
  obtain ⟨cfS, iS, kS, fS, st, cS, t1, t2, t3, t4, t5, t6, t7⟩ := S
  exact StaticIs.there (s := { Z with heap := U.heap }) ⟨cfS, iS, kS, fS, st, cS, t1, t2, t3, t4, t5, (fun q => by rw [q] at t6; cases t6), t7⟩ al rfl
/-- **length() OF SUCH A STRING** -/
theorem lenW {p : Program} {l : Launch} {e : Env} {R : Room} {s : State} {args : Array Value} {below : List Frame} {len W : Nat} {Z : State} {a0 : Array Value} {h : Heap} (hZ : Z.Warmed39 s.vm) (hw : ∀ d ∈ wordsLen, d.before a0 Z = true) {kI : Nat} (wi : (Jvm.Cond.instantiable ST kI).before a0 Z = true)
    {x t : Addr} {kb : ClassId} {cs : List Int32} {cd N2 z : Int32} {vs : List Value} (E : RoadKit.Exa Z h x ST) (V : RoadKit.Fld Z h x ST "value" "[B" (.ref t)) (C : RoadKit.Fld Z h x ST "coder" "B" (.int cd)) (K : RoadKit.Arv Z h t kb .byte N2 vs (.int 0)) (hc : CodA cs cd N2 vs) (hb : ∀ c ∈ cs, ¬ c < 0 ∧ ¬ (65535 : Int32) < c)
    (S : RoadKit.Sta Z h ST "COMPACT_STRINGS" "Z" (.int z)) (hz : ¬ z = 0) (l2 : cs.length ≤ 4000) (hfr : 2 ≤ R.frames) (hlo : W + 25 ≤ R.locals) :
    Back l R p e below s args (⟨"java/lang/String", "length", "()I"⟩ : MethodName) len W (fun P a => a = #[.ref x] ∧ P.U.heap = h ∧ P.cells + 0 ≤ R.cells ∧ P.slots + 0 ≤ R.slots)
      (fun P _ v B => ∃ L, (v = some (.int (Int32.ofNat cs.length)) ∧ L = [] ∧ B.U.heap = h) ∧ B.locs = P.locs ++ L ∧ B.cells = P.cells + 0 ∧ B.slots = P.slots + 0) := by
  obtain ⟨A, K1, K2, K3, K4, K5, K6⟩ := K
  have hcod := hc.cod (by omega) K3 K5
  intro m meth c P g ig mk a X hg hsize hdg hW hn hp'
  obtain ⟨rfl, rfl, r1, r2⟩ := hp'
  have al : Z.vm.Alike P.U.vm := hZ.alike.trans X.warmed.alike
  obtain ⟨D, fV, fC, hB, F1, F2, g1, g2, -, -⟩ := strObj wi al E V C
  have hx : Txt x t A cd cs.length (fun j => cs.getD j 0) P.U := ⟨⟨_, hB.2.2.1, D, hB.1, rfl, by cases q : D.vm <;> first | rfl | exact absurd q (hB.2.1.2 _)⟩, Has.of hB F1 g1, Has.of hB F2 g2, ⟨K1.1, State.isArrayOf_alike al K1.2.1, K1.2.2, by rcases hcod with ⟨-, q, -⟩ | ⟨-, q, -⟩ <;> omega⟩, hcod, fun j hj => by
    have e : cs.getD j 0 = cs[j] := by simp [List.getD_eq_getElem?_getD, hj]
    show ¬ cs.getD j 0 < 0 ∧ ¬ 65535 < cs.getD j 0
    rw [e]; exact hb _ (List.getElem_mem _)⟩
  obtain ⟨v, B, X', ⟨⟨hv, hh⟩, hl, hk, hs⟩, st⟩ := Len.pays x t A cd cs.length (fun j => cs.getD j 0) z (tabLen_of (movedLen hZ hw)) hfr hlo m meth c P g ig mk _ X hg hsize hdg hW hn ⟨r1, r2, rfl, hx, sta_is al S, hz⟩
  exact ⟨v, B, X', ⟨[], ⟨hv, rfl, hh⟩, hl, hk, hs⟩, st⟩
end StrChars.Road
namespace StrChars
open Jvm Sem ClassFile Op Lib Jvm.Stand Jvm.Free.XT Jvm.Free.ALB Jvm.Free.JM Jvm.Free
open Jvm.Lib.Cold (StaticIs)
/-- what place i of a byte[]'s cell holds -/
def yv (A : Cell) (i : Nat) : Int32 := match A.slots[i]? with | some (.int x) => x | _ => 0
theorem yv_get {a : Addr} {A : Cell} {U : State} (h : XT.Arr .byte a A U) (ht : Typed .byte A) {i : Nat} (hi : i < A.slots.size) : A.slots[i]? = some (.int (yv A i)) := by
  have e := Array.getElem?_eq_getElem hi
  have f := ht i _ e
  unfold yv; rw [e]
  generalize A.slots[i] = v at f
  cases v <;> simp [fits] at f ⊢
/-- the two arrays are equal, place for place -/
def EqC (A B : Cell) : Prop := A.slots.size = B.slots.size ∧ ∀ i, i < A.slots.size → yv A i = yv B i
/-- a boolean that says whether p -/
def Says01 (q : Prop) (r : Option Value) (s u : State) : Prop := ∃ v : Int32, r = some (.int v) ∧ u.heap = s.heap ∧ ((v = 1 ∧ q) ∨ (v = 0 ∧ ¬ q))
theorem Says01.mv {q : Prop} : ∀ r (U U' V V' : State), U'.heap = U.heap → V.vm.Alike V'.vm → V'.heap = V.heap → Says01 q r U V → Says01 q r U' V' :=
  fun r U U' V V' h1 _ h2 ⟨v, a, b, c⟩ => ⟨v, a, by rw [h1, h2]; exact b, c⟩
namespace LEq
def yN : MethodName := ⟨"java/lang/StringLatin1", "equals", "([B[B)Z"⟩
abbrev yB : ByteArray := jdk_43_method_13_code
theorem d0 : decode yB 0 = .ok (.aload_n 0, 1) := by decide +kernel
theorem d1 : decode yB 1 = .ok (.arraylength, 1) := by decide +kernel
theorem d2 : decode yB 2 = .ok (.aload_n 1, 1) := by decide +kernel
theorem d3 : decode yB 3 = .ok (.arraylength, 1) := by decide +kernel
theorem d4 : decode yB 4 = .ok (.if_icmp (.ne) 30, 3) := by decide +kernel
theorem d7 : decode yB 7 = .ok (.iconst 0, 1) := by decide +kernel
theorem d8 : decode yB 8 = .ok (.istore_n 2, 1) := by decide +kernel
theorem d9 : decode yB 9 = .ok (.iload_n 2, 1) := by decide +kernel
theorem d10 : decode yB 10 = .ok (.aload_n 0, 1) := by decide +kernel
theorem d11 : decode yB 11 = .ok (.arraylength, 1) := by decide +kernel
theorem d12 : decode yB 12 = .ok (.if_icmp (.ge) 20, 3) := by decide +kernel
theorem d15 : decode yB 15 = .ok (.aload_n 0, 1) := by decide +kernel
theorem d16 : decode yB 16 = .ok (.iload_n 2, 1) := by decide +kernel
theorem d17 : decode yB 17 = .ok (.baload, 1) := by decide +kernel
theorem d18 : decode yB 18 = .ok (.aload_n 1, 1) := by decide +kernel
theorem d19 : decode yB 19 = .ok (.iload_n 2, 1) := by decide +kernel
theorem d20 : decode yB 20 = .ok (.baload, 1) := by decide +kernel
theorem d21 : decode yB 21 = .ok (.if_icmp (.eq) 5, 3) := by decide +kernel
theorem d24 : decode yB 24 = .ok (.iconst 0, 1) := by decide +kernel
theorem d25 : decode yB 25 = .ok (.ireturn, 1) := by decide +kernel
theorem d26 : decode yB 26 = .ok (.iinc 2 1, 3) := by decide +kernel
theorem d29 : decode yB 29 = .ok (.goto (-20), 3) := by decide +kernel
theorem d32 : decode yB 32 = .ok (.iconst 1, 1) := by decide +kernel
theorem d33 : decode yB 33 = .ok (.ireturn, 1) := by decide +kernel
theorem d34 : decode yB 34 = .ok (.iconst 0, 1) := by decide +kernel
theorem d35 : decode yB 35 = .ok (.ireturn, 1) := by decide +kernel
def site : List Cond := []
def tab : Cond := tabOf yN yB 3 (some .boolean) site
def P (a : Addr) (A : Cell) (b : Addr) (B : Cell) (args : Array Value) (s : State) : Prop := args = #[.ref a, .ref b] ∧ XT.Arr .byte a A s ∧ Typed .byte A ∧ XT.Arr .byte b B s ∧ Typed .byte B
/-- whether two byte[] are equal, place for place -/
theorem law (l : Launch) (a : Addr) (A : Cell) (b : Addr) (B : Cell) : Law l yN 2 2 0 0 yB 3 (some .boolean) site (P a A b B) (Says01 (EqC A B)) [] 0 0 := by
  refine Law.of_walk (plainFor_of_name (by decide +kernel)) (by decide +kernel) (by decide +kernel) (by decide) (fun _ _ h => by rw [h.1]; rfl) (fun _ U U' hal hh h => ⟨h.1, h.2.1.mv hal hh, h.2.2.1, h.2.2.2.1.mv hal hh, h.2.2.2.2⟩) (fun r U U' V V' h1 hal h2 h => Says01.mv r U U' V V' h1 hal h2 h) ?_
  intro p e s m args below meth c s₁ X0 hexec hbytes hml hret hlk hnm hown hh0 W hP
  obtain ⟨rfl, hA, tA, hB, tB⟩ := hP
  have a31 := hA.2.2.2
  have b31 := hB.2.2.2
  have hA0 := hA.mv X0.warmed.alike hh0
  have hB0 := hB.mv X0.warmed.alike hh0
  have c1 : Steps p.tables e below (s₁.setTop (entryFrame m #[.ref a, .ref b] 3)) (s₁.setTop (mkF m 0 #[.val (.ref a), .val (.ref b), .unset] [])) := entry rfl
  have c2 : Steps p.tables e below (s₁.setTop (entryFrame m #[.ref a, .ref b] 3)) (s₁.setTop (mkF m 4 #[.val (.ref a), .val (.ref b), .unset] [.int (Int32.ofNat B.slots.size), .int (Int32.ofNat A.slots.size)])) := c1.trans (by
    refine XS.aloadN X0.here hexec rfl (hb hbytes d0) rfl rfl ?_
    refine X0.alen hexec hA0 rfl rfl (hb hbytes d1) ?_
    refine XS.aloadN X0.here hexec rfl (hb hbytes d2) rfl rfl ?_
    refine X0.alen hexec hB0 rfl rfl (hb hbytes d3) ?_
    exact Steps.refl _)
  by_cases hs : A.slots.size = B.slots.size
  · have c3 : Steps p.tables e below (s₁.setTop (entryFrame m #[.ref a, .ref b] 3)) (s₁.setTop (mkF m 9 #[.val (.ref a), .val (.ref b), .val (.int 0)] [])) := c2.trans (by
      refine XS.icmpNo X0.here hexec rfl (hb hbytes d4) rfl (ii_ne_f (by rw [hs])) ?_
      refine iconstV X0.here hexec rfl 0 (hb hbytes d7) (by decide) ?_
      refine XS.istoreN X0.here hexec rfl (hb hbytes d8) rfl rfl ?_
      exact Steps.refl _)
    have loop : ∀ (r i : Nat), i + r = A.slots.size → (∀ j, j < i → yv A j = yv B j) → Steps p.tables e below (s₁.setTop (entryFrame m #[.ref a, .ref b] 3)) (s₁.setTop (mkF m 9 #[.val (.ref a), .val (.ref b), .val (.int (Int32.ofNat i))] [])) → ∃ (pc : Nat) (Ls : Array Slot) (v : Int32), (pc = 25 ∨ pc = 33) ∧ ((v = 1 ∧ EqC A B) ∨ (v = 0 ∧ ¬ EqC A B)) ∧ Steps p.tables e below (s₁.setTop (entryFrame m #[.ref a, .ref b] 3)) (s₁.setTop (mkF m pc Ls [.int v])) := by
      intro r
      induction r with
      | zero =>
        intro i hi he cl
        exact ⟨33, _, 1, Or.inr rfl, Or.inl ⟨rfl, hs, fun j hj => he j (by omega)⟩, cl.trans (by
          refine XS.iloadN X0.here hexec rfl (hb hbytes d9) rfl ?_
          refine XS.aloadN X0.here hexec rfl (hb hbytes d10) rfl rfl ?_
          refine X0.alen hexec hA0 rfl rfl (hb hbytes d11) ?_
          refine XS.icmpYes X0.here hexec rfl (pc0 := 12) rfl (hb hbytes d12) rfl (ii_ge_t (nlt32 (by omega) (by omega))) (by decide) rfl ?_
          refine iconstV X0.here hexec rfl 1 (hb hbytes d32) (by decide) ?_
          exact Steps.refl _)⟩
      | succ r ih =>
        intro i hi he cl
        have c4 : Steps p.tables e below (s₁.setTop (entryFrame m #[.ref a, .ref b] 3)) (s₁.setTop (mkF m 21 #[.val (.ref a), .val (.ref b), .val (.int (Int32.ofNat i))] [.int (yv B i), .int (yv A i)])) := cl.trans (by
          refine XS.iloadN X0.here hexec rfl (hb hbytes d9) rfl ?_
          refine XS.aloadN X0.here hexec rfl (hb hbytes d10) rfl rfl ?_
          refine X0.alen hexec hA0 rfl rfl (hb hbytes d11) ?_
          refine XS.icmpNo X0.here hexec rfl (hb hbytes d12) rfl (ii_ge_f (lt32 (by omega) (by omega))) ?_
          refine XS.aloadN X0.here hexec rfl (hb hbytes d15) rfl rfl ?_
          refine XS.iloadN X0.here hexec rfl (hb hbytes d16) rfl ?_
          refine X0.aget hexec hA0 rfl (yv_get hA tA (i := i) (by omega)) rfl rfl (hb hbytes d17) ?_
          refine XS.aloadN X0.here hexec rfl (hb hbytes d18) rfl rfl ?_
          refine XS.iloadN X0.here hexec rfl (hb hbytes d19) rfl ?_
          refine X0.aget hexec hB0 rfl (yv_get hB tB (i := i) (by omega)) rfl rfl (hb hbytes d20) ?_
          exact Steps.refl _)
        by_cases hv : yv A i = yv B i
        · have c5 : Steps p.tables e below (s₁.setTop (entryFrame m #[.ref a, .ref b] 3)) (s₁.setTop (mkF m 9 #[.val (.ref a), .val (.ref b), .val (.int (Int32.ofNat i + 1))] [])) := c4.trans (by
            refine XS.icmpYes X0.here hexec rfl (pc0 := 21) rfl (hb hbytes d21) rfl (ii_eq_t hv) (by decide) rfl ?_
            refine iincV X0.here hexec rfl 1 (hb hbytes d26) (by decide) rfl rfl ?_
            refine XS.goto X0.here hexec rfl (pc0 := 29) rfl (hb hbytes d29) (by decide) rfl ?_
            exact Steps.refl _)
          rw [succ32] at c5
          exact ih (i + 1) (by omega) (fun j hj => by
            by_cases e : j = i
            · rw [e]; exact hv
            · exact he j (by omega)) c5
        · exact ⟨25, _, 0, Or.inl rfl, Or.inr ⟨rfl, fun q => hv (q.2 i (by omega))⟩, c4.trans (by
            refine XS.icmpNo X0.here hexec rfl (hb hbytes d21) rfl (ii_eq_f hv) ?_
            refine iconstV X0.here hexec rfl 0 (hb hbytes d24) (by decide) ?_
            exact Steps.refl _)⟩
    obtain ⟨pc, Ls, v, hpc, hv, cz⟩ := loop A.slots.size 0 (by omega) (fun j hj => absurd hj (Nat.not_lt_zero j)) c3
    have nv : narrow .boolean (.int v) = .int v := by rcases hv with ⟨rfl, -⟩ | ⟨rfl, -⟩ <;> rfl
    rcases hpc with rfl | rfl
    · exact ⟨s₁, some (.int v), _, _, _, X0, rfl, rfl, rfl, (fun h => by cases h), ⟨v, rfl, hh0, hv⟩, fun fs hl => cz.trans (X0.ireturnOut hexec hret nv (Or.inr (Or.inl rfl)) (hb hbytes d25) hl)⟩
    · exact ⟨s₁, some (.int v), _, _, _, X0, rfl, rfl, rfl, (fun h => by cases h), ⟨v, rfl, hh0, hv⟩, fun fs hl => cz.trans (X0.ireturnOut hexec hret nv (Or.inr (Or.inl rfl)) (hb hbytes d33) hl)⟩
  · have c3 : Steps p.tables e below (s₁.setTop (entryFrame m #[.ref a, .ref b] 3)) (s₁.setTop (mkF m 35 #[.val (.ref a), .val (.ref b), .unset] [.int 0])) := c2.trans (by
      refine XS.icmpYes X0.here hexec rfl (pc0 := 4) rfl (hb hbytes d4) rfl (ii_ne_t (ne32 a31 b31 hs)) (by decide) rfl ?_
      refine iconstV X0.here hexec rfl 0 (hb hbytes d34) (by decide) ?_
      exact Steps.refl _)
    exact ⟨s₁, some (.int 0), _, _, _, X0, rfl, rfl, rfl, (fun h => by cases h), ⟨0, rfl, hh0, Or.inr ⟨rfl, fun q => hs q.1⟩⟩, fun fs hl => c3.trans (X0.ireturnOut hexec hret rfl (Or.inr (Or.inl rfl)) (hb hbytes d35) hl)⟩
end LEq
theorem Cod.ty {cd : Int32} {n : Nat} {f : Nat → Int32} {V : Cell} (h : Cod cd n f V) : Typed .byte V := fun i v hv => by
  have hi : i < V.slots.size := (Array.getElem?_eq_some_iff.mp hv).1
  rcases h with ⟨-, k1, k2⟩ | ⟨-, k1, k2, -⟩
  · rw [(k2 i (by omega)).1] at hv; cases hv; exact fits_lo8 _
  · rcases Nat.mod_two_eq_zero_or_one i with e | e
    · obtain ⟨j, rfl⟩ : ∃ j, i = 2 * j := ⟨i / 2, by omega⟩
      rw [(k2 j (by omega)).1] at hv; cases hv; exact fits_lo8 _
    · obtain ⟨j, rfl⟩ : ∃ j, i = 2 * j + 1 := ⟨i / 2, by omega⟩
      rw [(k2 j (by omega)).2] at hv; cases hv; exact fits_lo8 _
/-- the same text -/
def SameT (n : Nat) (f : Nat → Int32) (k : Nat) (g : Nat → Int32) : Prop := n = k ∧ ∀ j, j < n → f j = g j
theorem lo8_inj {x y : Int32} (h0 : ¬ x < 0) (h1 : ¬ 255 < x) (k0 : ¬ y < 0) (k1 : ¬ 255 < y) (h : lo8 x = lo8 y) : x = y := by
  rw [← lo8_mask h0 h1, ← lo8_mask k0 k1, h]
/-- arrays coded by one coder are equal just where the texts are -/
theorem Cod.eqv {cd : Int32} {n k : Nat} {f g : Nat → Int32} {V V' : Cell} (h : Cod cd n f V) (h' : Cod cd k g V') (hf : ∀ j, j < n → ¬ f j < 0 ∧ ¬ 65535 < f j) (hg : ∀ j, j < k → ¬ g j < 0 ∧ ¬ 65535 < g j) : EqC V V' ↔ SameT n f k g := by
  have yvv : ∀ {W : Cell} {i : Nat} {x : Int32}, W.slots[i]? = some (.int x) → yv W i = x := fun q => by unfold yv; rw [q]
  rcases h with ⟨rfl, k1, k2⟩ | ⟨rfl, k1, k2, -⟩
  · rcases h' with ⟨-, m1, m2⟩ | ⟨e, -⟩
    · constructor
      · rintro ⟨e1, e2⟩
        refine ⟨by omega, fun j hj => ?_⟩
        have q := e2 j (by omega)
        rw [yvv (k2 j hj).1, yvv (m2 j (by omega)).1] at q
        exact lo8_inj (hf j hj).1 (k2 j hj).2 (hg j (by omega)).1 (m2 j (by omega)).2 q
      · rintro ⟨rfl, e2⟩
        refine ⟨by omega, fun j hj => ?_⟩
        rw [yvv (k2 j (by omega)).1, yvv (m2 j (by omega)).1, e2 j (by omega)]
    · exact absurd e (by decide)
  · rcases h' with ⟨e, -⟩ | ⟨-, m1, m2, -⟩
    · exact absurd e (by decide)
    · constructor
      · rintro ⟨e1, e2⟩
        refine ⟨by omega, fun j hj => ?_⟩
        have q1 := e2 (2 * j) (by omega)
        have q2 := e2 (2 * j + 1) (by omega)
        rw [yvv (k2 j hj).1, yvv (m2 j (by omega)).1] at q1
        rw [yvv (k2 j hj).2, yvv (m2 j (by omega)).2] at q2
        rw [← pair_says (hf j hj).1 (hf j hj).2, ← pair_says (hg j (by omega)).1 (hg j (by omega)).2, q1, q2]
      · rintro ⟨rfl, e2⟩
        refine ⟨by omega, fun i hi => ?_⟩
        rcases Nat.mod_two_eq_zero_or_one i with e | e
        · obtain ⟨j, rfl⟩ : ∃ j, i = 2 * j := ⟨i / 2, by omega⟩
          rw [yvv (k2 j (by omega)).1, yvv (m2 j (by omega)).1, e2 j (by omega)]
        · obtain ⟨j, rfl⟩ : ∃ j, i = 2 * j + 1 := ⟨i / 2, by omega⟩
          rw [yvv (k2 j (by omega)).2, yvv (m2 j (by omega)).2, e2 j (by omega)]
/-- two codings differ: so do the texts -/
theorem Cod.dif {cd cd' : Int32} {n k : Nat} {f g : Nat → Int32} {V V' : Cell} (h : Cod cd n f V) (h' : Cod cd' k g V') (hne : ¬ cd = cd') : ¬ SameT n f k g := by
  rintro ⟨rfl, e⟩
  rcases h with ⟨rfl, -, k2⟩ | ⟨rfl, -, -, j, hj, hw⟩
  · rcases h' with ⟨rfl, -⟩ | ⟨-, -, -, j, hj, hw⟩
    · exact hne rfl
    · exact (k2 j hj).2 (by rw [e j hj]; exact hw)
  · rcases h' with ⟨-, -, m2⟩ | ⟨rfl, -⟩
    · exact (m2 j hj).2 (by rw [← e j hj]; exact hw)
    · exact hne rfl
/-- an object of exactly C is an instance of C -/
theorem cinst {p : Program} {l : Launch} {e : Env} {R : Room} {s : State} {m : MethodId} {args : Array Value} {below : List Frame} {meth : Method} {c : Code} {T : State} {locs : List Loc} {cells slots : Nat} (X : Stand p l e R s m args below meth c T locs cells slots) (hexec : p.tables.exec = Jvm.exec) {own C : String} {index : Nat} (hown : s.vm.findClass own = some m.cls) (hlink : (Cond.classLink own index C).before args s = true) {a : Addr} (hE : Exact C a T)
    {g : JFrame} (hg : g.method = m) {rest : List Value} (hstack : g.stack = .ref a :: rest) (hdg : decode c.code g.pc = .ok (.instanceof index, 3)) :
    ∃ T', Stand p l e R s m args below meth c T' locs cells slots ∧ T'.heap = T.heap ∧ ∀ target, Steps p.tables e below (T'.setTop { g with pc := g.pc + 3, stack := .int 1 :: rest }) target → Steps p.tables e below (T.setTop g) target := by
  obtain ⟨cB, h1, D, h2, h3, h4⟩ := hE
  have h1' : s.vm.findClass C = some cB := by rw [← X.warmed.alike.findClass]; exact h1
  obtain ⟨vm', X', st⟩ := X.instanceofYes hexec hown hlink h2 h4 h1' (by rw [h3]; exact Jvm.Free.SB.assignable_self _ _) hg hstack hdg
  exact ⟨_, X', rfl, st⟩
theorem cself {p : Program} {l : Launch} {e : Env} {R : Room} {s : State} {m : MethodId} {args : Array Value} {below : List Frame} {meth : Method} {c : Code} {T : State} {locs : List Loc} {cells slots : Nat} (X : Stand p l e R s m args below meth c T locs cells slots) (hexec : p.tables.exec = Jvm.exec) {own C : String} {index : Nat} (hown : s.vm.findClass own = some m.cls) (hlink : (Cond.classLink own index C).before args s = true) {a : Addr} (hE : Exact C a T)
    {g : JFrame} (hg : g.method = m) {rest : List Value} (hstack : g.stack = .ref a :: rest) (hdg : decode c.code g.pc = .ok (.checkcast index, 3)) :
    ∃ T', Stand p l e R s m args below meth c T' locs cells slots ∧ T'.heap = T.heap ∧ ∀ target, Steps p.tables e below (T'.setTop { g with pc := g.pc + 3, stack := .ref a :: rest }) target → Steps p.tables e below (T.setTop g) target := by
  obtain ⟨cB, h1, D, h2, h3, h4⟩ := hE
  have h1' : s.vm.findClass C = some cB := by rw [← X.warmed.alike.findClass]; exact h1
  obtain ⟨vm', X', st⟩ := X.checkcastYes hexec hown hlink h2 h4 h1' (by rw [h3]; exact Jvm.Free.SB.assignable_self _ _) hg hstack hdg
  exact ⟨_, X', rfl, fun t h => st t (by rw [← hstack] at h; exact h)⟩
namespace SEq
def yN : MethodName := ⟨"java/lang/String", "equals", "(Ljava/lang/Object;)Z"⟩
abbrev yB : ByteArray := jdk_42_method_66_code
theorem d0 : decode yB 0 = .ok (.aload_n 0, 1) := by decide +kernel
theorem d1 : decode yB 1 = .ok (.aload_n 1, 1) := by decide +kernel
theorem d2 : decode yB 2 = .ok (.if_acmp (.ne) 5, 3) := by decide +kernel
theorem d5 : decode yB 5 = .ok (.iconst 1, 1) := by decide +kernel
theorem d6 : decode yB 6 = .ok (.ireturn, 1) := by decide +kernel
theorem d7 : decode yB 7 = .ok (.aload_n 1, 1) := by decide +kernel
theorem d8 : decode yB 8 = .ok (.instanceof 10, 3) := by decide +kernel
theorem d11 : decode yB 11 = .ok (.ifCond (.eq) 43, 3) := by decide +kernel
theorem d14 : decode yB 14 = .ok (.aload_n 1, 1) := by decide +kernel
theorem d15 : decode yB 15 = .ok (.checkcast 10, 3) := by decide +kernel
theorem d18 : decode yB 18 = .ok (.astore_n 2, 1) := by decide +kernel
theorem d19 : decode yB 19 = .ok (.getstatic 38, 3) := by decide +kernel
theorem d22 : decode yB 22 = .ok (.ifCond (.eq) 14, 3) := by decide +kernel
theorem d25 : decode yB 25 = .ok (.aload_n 0, 1) := by decide +kernel
theorem d26 : decode yB 26 = .ok (.getfield 15, 3) := by decide +kernel
theorem d29 : decode yB 29 = .ok (.aload_n 2, 1) := by decide +kernel
theorem d30 : decode yB 30 = .ok (.getfield 15, 3) := by decide +kernel
theorem d33 : decode yB 33 = .ok (.if_icmp (.ne) 21, 3) := by decide +kernel
theorem d36 : decode yB 36 = .ok (.aload_n 0, 1) := by decide +kernel
theorem d37 : decode yB 37 = .ok (.getfield 9, 3) := by decide +kernel
theorem d40 : decode yB 40 = .ok (.aload_n 2, 1) := by decide +kernel
theorem d41 : decode yB 41 = .ok (.getfield 9, 3) := by decide +kernel
theorem d44 : decode yB 44 = .ok (.invokestatic 541, 3) := by decide +kernel
theorem d47 : decode yB 47 = .ok (.ifCond (.eq) 7, 3) := by decide +kernel
theorem d50 : decode yB 50 = .ok (.iconst 1, 1) := by decide +kernel
theorem d51 : decode yB 51 = .ok (.goto 4, 3) := by decide +kernel
theorem d54 : decode yB 54 = .ok (.iconst 0, 1) := by decide +kernel
theorem d55 : decode yB 55 = .ok (.ireturn, 1) := by decide +kernel
def site : List Cond := [.classLink "java/lang/String" 10 "java/lang/String", .fieldLink "java/lang/String" 38 "java/lang/String" "COMPACT_STRINGS" "Z", .fieldLink "java/lang/String" 15 "java/lang/String" "coder" "B", .fieldLink "java/lang/String" 9 "java/lang/String" "value" "[B", LEq.tab] ++ staticW "java/lang/String" 541 LEq.yN
def tab : Cond := tabOf yN yB 3 (some .boolean) site
def P (x t : Addr) (V : Cell) (cd : Int32) (n : Nat) (f : Nat → Int32) (y t' : Addr) (V' : Cell) (cd' : Int32) (k : Nat) (g : Nat → Int32) (z : Int32) (args : Array Value) (s : State) : Prop := args = #[.ref x, .ref y] ∧ Txt x t V cd n f s ∧ Txt y t' V' cd' k g s ∧ StaticIs s "java/lang/String" "COMPACT_STRINGS" "Z" (.int z) ∧ ¬ z = 0
/-- equals(Object) of two Strings: whether the texts are the same -/
theorem law (l : Launch) (x t : Addr) (V : Cell) (cd : Int32) (n : Nat) (f : Nat → Int32) (y t' : Addr) (V' : Cell) (cd' : Int32) (k : Nat) (g : Nat → Int32) (z : Int32) : Law l yN 2 1 1 14 yB 3 (some .boolean) site (P x t V cd n f y t' V' cd' k g z) (Says01 (SameT n f k g)) [] 0 0 := by
  refine Law.of_walk (plainFor_of_name (by decide +kernel)) (by decide +kernel) (by decide +kernel) (by decide) (fun _ _ h => by rw [h.1]; rfl) (fun _ U U' hal hh h => ⟨h.1, h.2.1.mv hal hh, h.2.2.1.mv hal hh, h.2.2.2.1.there hal hh, h.2.2.2.2⟩) (fun r U U' V V' h1 hal h2 h => Says01.mv r U U' V V' h1 hal h2 h) ?_
  intro p e s m args below meth c s₁ X0 hexec hbytes hml hret hlk hnm hown hh0 W hP
  obtain ⟨rfl, hx, hy, s1, hz⟩ := hP
  have c1 : Steps p.tables e below (s₁.setTop (entryFrame m #[.ref x, .ref y] 3)) (s₁.setTop (mkF m 2 #[.val (.ref x), .val (.ref y), .unset] [.ref y, .ref x])) := Steps.trans (entry rfl) (by
    show Steps p.tables e below (s₁.setTop (mkF m 0 #[.val (.ref x), .val (.ref y), .unset] [])) _
    refine XS.aloadN X0.here hexec rfl (hb hbytes d0) rfl rfl ?_
    refine XS.aloadN X0.here hexec rfl (hb hbytes d1) rfl rfl ?_
    exact Steps.refl _)
  by_cases hxy : x = y
  · have c2 : Steps p.tables e below (s₁.setTop (entryFrame m #[.ref x, .ref y] 3)) (s₁.setTop (mkF m 6 #[.val (.ref x), .val (.ref y), .unset] [.int 1])) := c1.trans (by
      refine acmpNo X0.here hexec rfl (hb hbytes d2) rfl rfl rfl (by simp [acmp, hxy]) ?_
      refine iconstV X0.here hexec rfl 1 (hb hbytes d5) (by decide) ?_
      exact Steps.refl _)
    subst hxy
    have ec : cd = cd' := by
      obtain ⟨D, fd, a1, a2, a3⟩ := hx.2.2.1
      obtain ⟨D', fd', b1, b2, b3⟩ := hy.2.2.1
      cases a1.symm.trans b1
      obtain ⟨q1, q2, q3, q4⟩ := a2.1
      obtain ⟨r1, r2, r3, r4⟩ := b2.1
      cases q4.symm.trans r4
      cases a3.symm.trans b3; rfl
    have et : t = t' := by
      obtain ⟨D, fd, a1, a2, a3⟩ := hx.2.1
      obtain ⟨D', fd', b1, b2, b3⟩ := hy.2.1
      cases a1.symm.trans b1
      obtain ⟨q1, q2, q3, q4⟩ := a2.1
      obtain ⟨r1, r2, r3, r4⟩ := b2.1
      cases q4.symm.trans r4
      cases a3.symm.trans b3; rfl
    subst ec et
    have ev : V = V' := by cases hx.2.2.2.1.1.symm.trans hy.2.2.2.1.1; rfl
    subst ev
    have hs : SameT n f k g := (Cod.eqv hx.2.2.2.2.1 hy.2.2.2.2.1 hx.2.2.2.2.2 hy.2.2.2.2.2).mp ⟨rfl, fun _ _ => rfl⟩
    exact ⟨s₁, some (.int 1), _, _, _, X0, rfl, rfl, rfl, (fun h => by cases h), ⟨1, rfl, hh0, Or.inl ⟨rfl, hs⟩⟩, fun fs hl => c2.trans (X0.ireturnOut hexec hret rfl (Or.inr (Or.inl rfl)) (hb hbytes d6) hl)⟩
  · have c2 : Steps p.tables e below (s₁.setTop (entryFrame m #[.ref x, .ref y] 3)) (s₁.setTop (mkF m 8 #[.val (.ref x), .val (.ref y), .unset] [.ref y])) := c1.trans (by
      refine acmpYes X0.here hexec rfl (pc0 := 2) rfl (hb hbytes d2) rfl rfl rfl (by simp [acmp, hxy]) (by decide) rfl ?_
      refine XS.aloadN X0.here hexec rfl (hb hbytes d7) rfl rfl ?_
      exact Steps.refl _)
    obtain ⟨T3, X3, q3, st3⟩ := cinst X0 hexec hown (wk W (.classLink "java/lang/String" 10 "java/lang/String")) (hy.mv X0.warmed.alike hh0).1 (g := (mkF m 8 #[.val (.ref x), .val (.ref y), .unset] [.ref y])) rfl (rest := []) rfl (hb hbytes d8)
    have hh3 := q3.trans hh0
    have c4 : Steps p.tables e below (s₁.setTop (entryFrame m #[.ref x, .ref y] 3)) (T3.setTop (mkF m 15 #[.val (.ref x), .val (.ref y), .unset] [.ref y])) := (c2.trans (st3 _ (Steps.refl _))).trans (by
      refine XS.ifNo X3.here hexec rfl (hb hbytes d11) rfl (i0_eq_f (by decide)) ?_
      refine XS.aloadN X3.here hexec rfl (hb hbytes d14) rfl rfl ?_
      exact Steps.refl _)
    obtain ⟨T5, X5, q5, st5⟩ := cself X3 hexec hown (wk W (.classLink "java/lang/String" 10 "java/lang/String")) (hy.mv X3.warmed.alike hh3).1 (g := (mkF m 15 #[.val (.ref x), .val (.ref y), .unset] [.ref y])) rfl (rest := []) rfl (hb hbytes d15)
    have hh5 := q5.trans hh3
    have c6 : Steps p.tables e below (s₁.setTop (entryFrame m #[.ref x, .ref y] 3)) (T5.setTop (mkF m 19 #[.val (.ref x), .val (.ref y), .val (.ref y)] [])) := (c4.trans (st5 _ (Steps.refl _))).trans (by
      refine XS.astoreN X5.here hexec rfl (hb hbytes d18) rfl rfl rfl ?_
      exact Steps.refl _)
    obtain ⟨T7, X7, q7, st7⟩ := X5.sget hexec hown (wk W (.fieldLink "java/lang/String" 38 "java/lang/String" "COMPACT_STRINGS" "Z")) s1 (fun _ _ h => by rw [hh5]; exact h) (g := (mkF m 19 #[.val (.ref x), .val (.ref y), .val (.ref y)] [])) rfl (hb hbytes d19)
    have hh7 := q7.trans hh5
    have c8 : Steps p.tables e below (s₁.setTop (entryFrame m #[.ref x, .ref y] 3)) (T7.setTop (mkF m 26 #[.val (.ref x), .val (.ref y), .val (.ref y)] [.ref x])) := (c6.trans (st7 _ (Steps.refl _))).trans (by
      refine XS.ifNo X7.here hexec rfl (hb hbytes d22) rfl (i0_eq_f hz) ?_
      refine XS.aloadN X7.here hexec rfl (hb hbytes d25) rfl rfl ?_
      exact Steps.refl _)
    obtain ⟨T9, X9, q9, st9⟩ := X7.hget hexec hown (wk W (.fieldLink "java/lang/String" 15 "java/lang/String" "coder" "B")) (hx.mv X7.warmed.alike hh7).2.2.1 (g := (mkF m 26 #[.val (.ref x), .val (.ref y), .val (.ref y)] [.ref x])) rfl (rest := []) rfl (hb hbytes d26)
    have hh9 := q9.trans hh7
    have c10 : Steps p.tables e below (s₁.setTop (entryFrame m #[.ref x, .ref y] 3)) (T9.setTop (mkF m 30 #[.val (.ref x), .val (.ref y), .val (.ref y)] [.ref y, .int cd])) := (c8.trans (st9 _ (Steps.refl _))).trans (by
      refine XS.aloadN X9.here hexec rfl (hb hbytes d29) rfl rfl ?_
      exact Steps.refl _)
    obtain ⟨T11, X11, q11, st11⟩ := X9.hget hexec hown (wk W (.fieldLink "java/lang/String" 15 "java/lang/String" "coder" "B")) (hy.mv X9.warmed.alike hh9).2.2.1 (g := (mkF m 30 #[.val (.ref x), .val (.ref y), .val (.ref y)] [.ref y, .int cd])) rfl (rest := [.int cd]) rfl (hb hbytes d30)
    have hh11 := q11.trans hh9
    have c12 : Steps p.tables e below (s₁.setTop (entryFrame m #[.ref x, .ref y] 3)) (T11.setTop (mkF m 33 #[.val (.ref x), .val (.ref y), .val (.ref y)] [.int cd', .int cd])) := c10.trans (st11 _ (Steps.refl _))
    by_cases hcd : cd = cd'
    · subst hcd
      have c13 : Steps p.tables e below (s₁.setTop (entryFrame m #[.ref x, .ref y] 3)) (T11.setTop (mkF m 37 #[.val (.ref x), .val (.ref y), .val (.ref y)] [.ref x])) := c12.trans (by
        refine XS.icmpNo X11.here hexec rfl (hb hbytes d33) rfl (ii_ne_f rfl) ?_
        refine XS.aloadN X11.here hexec rfl (hb hbytes d36) rfl rfl ?_
        exact Steps.refl _)
      obtain ⟨T14, X14, q14, st14⟩ := X11.hget hexec hown (wk W (.fieldLink "java/lang/String" 9 "java/lang/String" "value" "[B")) (hx.mv X11.warmed.alike hh11).2.1 (g := (mkF m 37 #[.val (.ref x), .val (.ref y), .val (.ref y)] [.ref x])) rfl (rest := []) rfl (hb hbytes d37)
      have hh14 := q14.trans hh11
      have c15 : Steps p.tables e below (s₁.setTop (entryFrame m #[.ref x, .ref y] 3)) (T14.setTop (mkF m 41 #[.val (.ref x), .val (.ref y), .val (.ref y)] [.ref y, .ref t])) := (c13.trans (st14 _ (Steps.refl _))).trans (by
        refine XS.aloadN X14.here hexec rfl (hb hbytes d40) rfl rfl ?_
        exact Steps.refl _)
      obtain ⟨T16, X16, q16, st16⟩ := X14.hget hexec hown (wk W (.fieldLink "java/lang/String" 9 "java/lang/String" "value" "[B")) (hy.mv X14.warmed.alike hh14).2.1 (g := (mkF m 41 #[.val (.ref x), .val (.ref y), .val (.ref y)] [.ref y, .ref t])) rfl (rest := [.ref t]) rfl (hb hbytes d41)
      have hh16 := q16.trans hh14
      have c17 : Steps p.tables e below (s₁.setTop (entryFrame m #[.ref x, .ref y] 3)) (T16.setTop (mkF m 44 #[.val (.ref x), .val (.ref y), .val (.ref y)] [.ref t', .ref t])) := c15.trans (st16 _ (Steps.refl _))
      obtain ⟨v18, T18, X18, E18, g18⟩ := X16.callS hexec (LEq.law l t V t' V') hown (wks W (staticW "java/lang/String" 541 LEq.yN)) (wk W LEq.tab) (W := 0) (Nat.le_of_ble_eq_true rfl) (Nat.le_of_ble_eq_true rfl) (Nat.le_refl _) (Nat.le_refl _) (g := (mkF m 44 #[.val (.ref x), .val (.ref y), .val (.ref y)] [.ref t', .ref t])) rfl (by rw [hml]; rfl) c17 (argsL := [.ref t, .ref t']) (rest := []) rfl rfl (by show 2 * 0 + 0 ≤ _; decide) (hb hbytes d44) (⟨rfl, hx.2.2.2.1.mv X16.warmed.alike hh16, hx.2.2.2.2.1.ty, hy.2.2.2.1.mv X16.warmed.alike hh16, hy.2.2.2.2.1.ty⟩)
      obtain ⟨v, rfl, q18, hv⟩ := E18
      have iff := Cod.eqv hx.2.2.2.2.1 hy.2.2.2.2.1 hx.2.2.2.2.2 hy.2.2.2.2.2
      rcases hv with ⟨rfl, he⟩ | ⟨rfl, he⟩
      · have c19 : Steps p.tables e below (s₁.setTop (entryFrame m #[.ref x, .ref y] 3)) (T18.setTop (mkF m 55 #[.val (.ref x), .val (.ref y), .val (.ref y)] [.int 1])) := Steps.trans g18 (by
          refine XS.ifNo X18.here hexec rfl (hb hbytes d47) rfl (i0_eq_f (by decide)) ?_
          refine iconstV X18.here hexec rfl 1 (hb hbytes d50) (by decide) ?_
          refine XS.goto X18.here hexec rfl (pc0 := 51) rfl (hb hbytes d51) (by decide) rfl ?_
          exact Steps.refl _)
        exact ⟨T18, some (.int 1), _, _, _, X18, rfl, rfl, rfl, (fun h => by cases h), ⟨1, rfl, q18.trans hh16, Or.inl ⟨rfl, iff.mp he⟩⟩, fun fs hl => c19.trans (X18.ireturnOut hexec hret rfl (Or.inr (Or.inl rfl)) (hb hbytes d55) hl)⟩
      · have c19 : Steps p.tables e below (s₁.setTop (entryFrame m #[.ref x, .ref y] 3)) (T18.setTop (mkF m 55 #[.val (.ref x), .val (.ref y), .val (.ref y)] [.int 0])) := Steps.trans g18 (by
          refine XS.ifYes X18.here hexec rfl (pc0 := 47) rfl (hb hbytes d47) rfl (i0_eq_t rfl) (by decide) rfl ?_
          refine iconstV X18.here hexec rfl 0 (hb hbytes d54) (by decide) ?_
          exact Steps.refl _)
        exact ⟨T18, some (.int 0), _, _, _, X18, rfl, rfl, rfl, (fun h => by cases h), ⟨0, rfl, q18.trans hh16, Or.inr ⟨rfl, fun q => he (iff.mpr q)⟩⟩, fun fs hl => c19.trans (X18.ireturnOut hexec hret rfl (Or.inr (Or.inl rfl)) (hb hbytes d55) hl)⟩
    · have c13 : Steps p.tables e below (s₁.setTop (entryFrame m #[.ref x, .ref y] 3)) (T11.setTop (mkF m 55 #[.val (.ref x), .val (.ref y), .val (.ref y)] [.int 0])) := c12.trans (by
        refine XS.icmpYes X11.here hexec rfl (pc0 := 33) rfl (hb hbytes d33) rfl (ii_ne_t hcd) (by decide) rfl ?_
        refine iconstV X11.here hexec rfl 0 (hb hbytes d54) (by decide) ?_
        exact Steps.refl _)
      exact ⟨T11, some (.int 0), _, _, _, X11, rfl, rfl, rfl, (fun h => by cases h), ⟨0, rfl, hh11, Or.inr ⟨rfl, Cod.dif hx.2.2.2.2.1 hy.2.2.2.2.1 hcd⟩⟩, fun fs hl => c13.trans (X11.ireturnOut hexec hret rfl (Or.inr (Or.inl rfl)) (hb hbytes d55) hl)⟩
theorem pays {l : Launch} {R : Room} {p : Program} {e : Env} {below : List Frame} {s : State} {sargs : Array Value} {len W : Nat} (x t : Addr) (V : Cell) (cd : Int32) (n : Nat) (f : Nat → Int32) (y t' : Addr) (V' : Cell) (cd' : Int32) (k : Nat) (g : Nat → Int32) (z : Int32) (htab : tab.before sargs s = true) (hfr : 2 ≤ R.frames) (hlo : W + 28 ≤ R.locals) :
    Back l R p e below s sargs yN len W (fun A₁ a₁ => A₁.cells + 0 ≤ R.cells ∧ A₁.slots + 0 ≤ R.slots ∧ P x t V cd n f y t' V' cd' k g z a₁ A₁.U) (fun A₁ _ v₁ B₁ => Says01 (SameT n f k g) v₁ A₁.U B₁.U ∧ B₁.locs = A₁.locs ++ [] ∧ B₁.cells = A₁.cells + 0 ∧ B₁.slots = A₁.slots + 0) :=
  (law l x t V cd n f y t' V' cd' k g z).pays htab hfr (by omega)
end SEq
end StrChars
namespace StrChars.Road
open Jvm Sem ClassFile Op Lib Jvm.Stand Jvm.Free Jvm.Free.XT
open Jvm.Lib.Cold (StaticIs)
/-- the words of String.equals(Object) -/
abbrev wordsEq : List Jvm.Cond := [.code SEq.yN SEq.yB 3 (some .boolean), .initialized ST, .classLink ST 10 ST, .fieldLink ST 38 ST "COMPACT_STRINGS" "Z", .fieldLink ST 15 ST "coder" "B", .fieldLink ST 9 ST "value" "[B", .methodLink ST 541 LEq.yN, .static LEq.yN, .code LEq.yN LEq.yB 3 (some .boolean), .initialized "java/lang/StringLatin1"]
theorem tabEq_of {a : Array Value} {s : State} (h : ∀ w ∈ wordsEq, w.before a s = true) : SEq.tab.before a s = true := by
  have hl : LEq.tab.before a s = true := unparts (wk h (.code LEq.yN LEq.yB 3 (some .boolean))) (wks h (.initialized LEq.yN.cls :: LEq.site))
  have q := consq hl h
  exact unparts (wk q (.code SEq.yN SEq.yB 3 (some .boolean))) (wks q (.initialized SEq.yN.cls :: SEq.site))
theorem movedEq {Z s : State} {a0 args : Array Value} (hZ : Z.Warmed39 s.vm) (hw : ∀ d ∈ wordsEq, d.before a0 Z = true) : ∀ d ∈ wordsEq, d.before args s = true := fun d hd => by
  have t : ∀ d ∈ wordsEq, (d.onTables && d.keepsFace) = true := by decide +kernel
  exact RoadKit.mv hZ (hw d hd) (t d hd)
/-- the road's facts of a String, as the laws ask it -/
theorem txt_of {Z U : State} {a0 : Array Value} {kI : Nat} (wi : (Jvm.Cond.instantiable ST kI).before a0 Z = true) (al : Z.vm.Alike U.vm) {x t : Addr} {kb : ClassId} {cs : List Int32} {cd N2 : Int32} {vs : List Value} (E : RoadKit.Exa Z U.heap x ST) (V : RoadKit.Fld Z U.heap x ST "value" "[B" (.ref t)) (C : RoadKit.Fld Z U.heap x ST "coder" "B" (.int cd)) (K : RoadKit.Arv Z U.heap t kb .byte N2 vs (.int 0)) (hc : CodA cs cd N2 vs) (hb : ∀ c ∈ cs, ¬ c < 0 ∧ ¬ (65535 : Int32) < c) (l2 : cs.length ≤ 4000) :
    ∃ A, Txt x t A cd cs.length (fun j => cs.getD j 0) U := by
  obtain ⟨A, K1, K2, K3, K4, K5, K6⟩ := K
  have hcod := hc.cod (by omega) K3 K5
  obtain ⟨D, fV, fC, hB, F1, F2, g1, g2, -, -⟩ := strObj wi al E V C
  exact ⟨A, ⟨_, hB.2.2.1, D, hB.1, rfl, by cases q : D.vm <;> first | rfl | exact absurd q (hB.2.1.2 _)⟩, Has.of hB F1 g1, Has.of hB F2 g2, ⟨K1.1, State.isArrayOf_alike al K1.2.1, K1.2.2, by rcases hcod with ⟨-, q, -⟩ | ⟨-, q, -⟩ <;> omega⟩, hcod, fun j hj => by
    have e : cs.getD j 0 = cs[j] := by simp [List.getD_eq_getElem?_getD, hj]
    show ¬ cs.getD j 0 < 0 ∧ ¬ 65535 < cs.getD j 0
    rw [e]; exact hb _ (List.getElem_mem _)⟩
theorem same_list (cs ds : List Int32) : SameT cs.length (fun j => cs.getD j 0) ds.length (fun j => ds.getD j 0) ↔ cs = ds := by
  constructor
  · rintro ⟨e, q⟩
    refine List.ext_getElem e fun j h1 h2 => ?_
    have := q j h1
    simpa [List.getD_eq_getElem?_getD, h1, h2] using this
  · rintro rfl
    exact ⟨rfl, fun _ _ => rfl⟩
/-- **equals(Object) OF TWO SUCH STRINGS**: 1 just where the chars are the same -/
theorem eqW {p : Program} {l : Launch} {e : Env} {R : Room} {s : State} {args : Array Value} {below : List Frame} {len W : Nat} {Z : State} {a0 : Array Value} {h : Heap} (hZ : Z.Warmed39 s.vm) (hw : ∀ d ∈ wordsEq, d.before a0 Z = true) {kI : Nat} (wi : (Jvm.Cond.instantiable ST kI).before a0 Z = true)
    {x t : Addr} {kb : ClassId} {cs : List Int32} {cd N2 : Int32} {vs : List Value} (E : RoadKit.Exa Z h x ST) (V : RoadKit.Fld Z h x ST "value" "[B" (.ref t)) (C : RoadKit.Fld Z h x ST "coder" "B" (.int cd)) (K : RoadKit.Arv Z h t kb .byte N2 vs (.int 0)) (hc : CodA cs cd N2 vs) (hb : ∀ c ∈ cs, ¬ c < 0 ∧ ¬ (65535 : Int32) < c) (l2 : cs.length ≤ 4000)
    {y t' : Addr} {kb' : ClassId} {ds : List Int32} {cd' N2' : Int32} {vs' : List Value} (E' : RoadKit.Exa Z h y ST) (V' : RoadKit.Fld Z h y ST "value" "[B" (.ref t')) (C' : RoadKit.Fld Z h y ST "coder" "B" (.int cd')) (K' : RoadKit.Arv Z h t' kb' .byte N2' vs' (.int 0)) (hc' : CodA ds cd' N2' vs') (hb' : ∀ c ∈ ds, ¬ c < 0 ∧ ¬ (65535 : Int32) < c) (l2' : ds.length ≤ 4000)
    {z : Int32} (S : RoadKit.Sta Z h ST "COMPACT_STRINGS" "Z" (.int z)) (hz : ¬ z = 0) (hfr : 2 ≤ R.frames) (hlo : W + 28 ≤ R.locals) :
    Back l R p e below s args (⟨"java/lang/String", "equals", "(Ljava/lang/Object;)Z"⟩ : MethodName) len W (fun P a => a = #[.ref x, .ref y] ∧ P.U.heap = h ∧ P.cells + 0 ≤ R.cells ∧ P.slots + 0 ≤ R.slots)
      (fun P _ v B => ∃ L, (((v = some (.int 1) ∧ cs = ds) ∨ (v = some (.int 0) ∧ ¬ cs = ds)) ∧ L = [] ∧ B.U.heap = h) ∧ B.locs = P.locs ++ L ∧ B.cells = P.cells + 0 ∧ B.slots = P.slots + 0) := by
  intro m meth c P g ig mk a X hg hsize hdg hW hn hp'
  obtain ⟨rfl, rfl, r1, r2⟩ := hp'
  have al : Z.vm.Alike P.U.vm := hZ.alike.trans X.warmed.alike
  obtain ⟨A, hx⟩ := txt_of wi al E V C K hc hb l2
  obtain ⟨A', hy⟩ := txt_of wi al E' V' C' K' hc' hb' l2'
  obtain ⟨v, B, X', ⟨⟨w, hv, hh, hq⟩, hl, hk, hs⟩, st⟩ := SEq.pays x t A cd cs.length (fun j => cs.getD j 0) y t' A' cd' ds.length (fun j => ds.getD j 0) z (tabEq_of (movedEq hZ hw)) hfr hlo m meth c P g ig mk _ X hg hsize hdg hW hn ⟨r1, r2, rfl, hx, hy, sta_is al S, hz⟩
  refine ⟨v, B, X', ⟨[], ⟨?_, rfl, hh⟩, hl, hk, hs⟩, st⟩
  rcases hq with ⟨rfl, q⟩ | ⟨rfl, q⟩
  · exact Or.inl ⟨hv, (same_list cs ds).mp q⟩
  · exact Or.inr ⟨hv, fun e => q ((same_list cs ds).mpr e)⟩
end StrChars.Road
namespace StrChars
open Jvm Sem ClassFile Op Lib Jvm.Stand Jvm.Free.XT Jvm.Free.ALB Jvm.Free.JM Jvm.Free
open Jvm.Lib.Cold (StaticIs)
namespace ChN
def yN : MethodName := ⟨"java/lang/String", "charAt", "(I)C"⟩
abbrev yB : ByteArray := jdk_42_method_56_code
theorem d0 : decode yB 0 = .ok (.aload_n 0, 1) := by decide +kernel
theorem d1 : decode yB 1 = .ok (.invokevirtual 492, 3) := by decide +kernel
theorem d4 : decode yB 4 = .ok (.ifCond (.eq) 12, 3) := by decide +kernel
theorem d7 : decode yB 7 = .ok (.aload_n 0, 1) := by decide +kernel
theorem d8 : decode yB 8 = .ok (.getfield 9, 3) := by decide +kernel
theorem d11 : decode yB 11 = .ok (.iload_n 1, 1) := by decide +kernel
theorem d12 : decode yB 12 = .ok (.invokestatic 495, 3) := by decide +kernel
theorem d15 : decode yB 15 = .ok (.ireturn, 1) := by decide +kernel
def site : List Cond := [.fieldLink "java/lang/String" 9 "java/lang/String" "value" "[B", IsL.tab, LChA.tab] ++ virtW "java/lang/String" 492 "java/lang/String" IsL.yN IsL.yN ++ staticW "java/lang/String" 495 LChA.yN
def tab : Cond := tabOf yN yB 2 (some .char) site
def P (x t : Addr) (V : Cell) (n : Nat) (f : Nat → Int32) (z : Int32) (fm : Value) (i : Nat) (args : Array Value) (s : State) : Prop := args = #[.ref x, .int (Int32.ofNat i)] ∧ Txt x t V 0 n f s ∧ i < n ∧ StaticIs s "java/lang/String" "COMPACT_STRINGS" "Z" (.int z) ∧ ¬ z = 0 ∧ StaticIs s "jdk/internal/util/Preconditions" "SIOOBE_FORMATTER" "Ljava/util/function/BiFunction;" fm ∧ fm.isRef = true
def E (f : Nat → Int32) (i : Nat) (r : Option Value) (s u : State) : Prop := XT.PureE (some (.int (f i))) r s u
/-- charAt(i) of a Latin-1 String of n chars, i < n: f i -/
theorem law (l : Launch) (x t : Addr) (V : Cell) (n : Nat) (f : Nat → Int32) (z : Int32) (fm : Value) (i : Nat) : Law l yN 2 1 3 40 yB 2 (some .char) site (P x t V n f z fm i) (E f i) [] 0 0 := by
  refine Law.of_walk (plainFor_of_name (by decide +kernel)) (by decide +kernel) (by decide +kernel) (by decide) (fun _ _ h => by rw [h.1]; rfl) (fun _ U U' hal hh h => ⟨h.1, h.2.1.mv hal hh, h.2.2.1, h.2.2.2.1.there hal hh, h.2.2.2.2.1, h.2.2.2.2.2.1.there hal hh, h.2.2.2.2.2.2⟩) (fun r U U' V V' h1 hal h2 h => XT.PureE.mv r U U' V V' h1 hal h2 h) ?_
  intro p e s m args below meth c s₁ X0 hexec hbytes hml hret hlk hnm hown hh0 W hP
  obtain ⟨rfl, hx, hi, s1, hz, s3, rf⟩ := hP
  have v31 := hx.2.2.2.1.2.2.2
  have hr := hx.2.2.2.2.2 i hi
  have hx0 := hx.mv X0.warmed.alike hh0
  have c1 : Steps p.tables e below (s₁.setTop (entryFrame m #[.ref x, .int (Int32.ofNat i)] 2)) (s₁.setTop (mkF m 1 #[.val (.ref x), .val (.int (Int32.ofNat i))] [.ref x])) := Steps.trans (entry rfl) (by
    show Steps p.tables e below (s₁.setTop (mkF m 0 #[.val (.ref x), .val (.int (Int32.ofNat i))] [])) _
    refine XS.aloadN X0.here hexec rfl (hb hbytes d0) rfl rfl ?_
    exact Steps.refl _)
  obtain ⟨v2, T2, X2, E2, g2⟩ := X0.callV hexec (IsL.law l x 0 z) hown (wks W (virtW "java/lang/String" 492 "java/lang/String" IsL.yN IsL.yN)) rfl (by decide) (wk W IsL.tab) (W := 0) (Nat.le_of_ble_eq_true rfl) (Nat.le_of_ble_eq_true rfl) (Nat.le_refl _) (Nat.le_refl _) (hx0.1.fc X0.warmed.alike) hx0.1.is (g := (mkF m 1 #[.val (.ref x), .val (.int (Int32.ofNat i))] [.ref x])) rfl (by rw [hml]; rfl) c1 (argsL := []) (rest := []) rfl rfl (by show 2 * 0 + 0 ≤ _; decide) (hb hbytes d1) (⟨rfl, hx0.2.2.1, hx.2.2.2.2.1.cd, s1.there X0.warmed.alike hh0, hz⟩)
  obtain ⟨rfl, q2⟩ := E2
  have hh2 := q2.trans hh0
  have hx2 := hx.mv X2.warmed.alike hh2
  obtain ⟨-, k1, k2⟩ | ⟨k0, -⟩ := hx.2.2.2.2.1
  · have c3 : Steps p.tables e below (s₁.setTop (entryFrame m #[.ref x, .int (Int32.ofNat i)] 2)) (T2.setTop (mkF m 8 #[.val (.ref x), .val (.int (Int32.ofNat i))] [.ref x])) := Steps.trans g2 (by
      refine XS.ifNo X2.here hexec rfl (hb hbytes d4) rfl (i0_eq_f (by decide)) ?_
      refine XS.aloadN X2.here hexec rfl (hb hbytes d7) rfl rfl ?_
      exact Steps.refl _)
    obtain ⟨T4, X4, q4, st4⟩ := X2.hget hexec hown (wk W (.fieldLink "java/lang/String" 9 "java/lang/String" "value" "[B")) hx2.2.1 (g := (mkF m 8 #[.val (.ref x), .val (.int (Int32.ofNat i))] [.ref x])) rfl (rest := []) rfl (hb hbytes d8)
    have hh4 := q4.trans hh2
    have c5 : Steps p.tables e below (s₁.setTop (entryFrame m #[.ref x, .int (Int32.ofNat i)] 2)) (T4.setTop (mkF m 12 #[.val (.ref x), .val (.int (Int32.ofNat i))] [.int (Int32.ofNat i), .ref t])) := (c3.trans (st4 _ (Steps.refl _))).trans (by
      refine XS.iloadN X4.here hexec rfl (hb hbytes d11) rfl ?_
      exact Steps.refl _)
    obtain ⟨v6, T6, X6, E6, g6⟩ := X4.callS hexec (LChA.law l t V i (lo8 (f i)) fm) hown (wks W (staticW "java/lang/String" 495 LChA.yN)) (wk W LChA.tab) (W := 0) (Nat.le_of_ble_eq_true rfl) (Nat.le_of_ble_eq_true rfl) (Nat.le_refl _) (Nat.le_refl _) (g := (mkF m 12 #[.val (.ref x), .val (.int (Int32.ofNat i))] [.int (Int32.ofNat i), .ref t])) rfl (by rw [hml]; rfl) c5 (argsL := [.ref t, .int (Int32.ofNat i)]) (rest := []) rfl rfl (by show 2 * 0 + 0 ≤ _; decide) (hb hbytes d12) (⟨rfl, hx.2.2.2.1.mv X4.warmed.alike hh4, (k2 i hi).1, s3.there X4.warmed.alike hh4, rf⟩)
    obtain ⟨rfl, q6⟩ := E6
    rw [chr8_lo8 hr.1 (k2 i hi).2] at g6
    exact ⟨T6, some (.int (f i)), _, _, _, X6, rfl, rfl, rfl, (fun h => by cases h), ⟨rfl, q6.trans hh4⟩, fun fs hl => Steps.trans g6 (X6.ireturnOut hexec hret (narrow_ch hr.1 hr.2) (Or.inr (Or.inr (Or.inr (Or.inl rfl)))) (hb hbytes d15) hl)⟩
  · exact absurd k0 (by decide)
theorem pays {l : Launch} {R : Room} {p : Program} {e : Env} {below : List Frame} {s : State} {sargs : Array Value} {len W : Nat} (x t : Addr) (V : Cell) (n : Nat) (f : Nat → Int32) (z : Int32) (fm : Value) (i : Nat) (htab : tab.before sargs s = true) (hfr : 4 ≤ R.frames) (hlo : W + 53 ≤ R.locals) :
    Back l R p e below s sargs yN len W (fun A₁ a₁ => A₁.cells + 0 ≤ R.cells ∧ A₁.slots + 0 ≤ R.slots ∧ P x t V n f z fm i a₁ A₁.U) (fun A₁ _ v₁ B₁ => E f i v₁ A₁.U B₁.U ∧ B₁.locs = A₁.locs ++ [] ∧ B₁.cells = A₁.cells + 0 ∧ B₁.slots = A₁.slots + 0) :=
  (law l x t V n f z fm i).pays htab hfr (by omega)
end ChN
end StrChars
namespace StrChars.Road
open Jvm Sem ClassFile Op Lib Jvm.Stand Jvm.Free Jvm.Free.XT
open Jvm.Lib.Cold (StaticIs)
/-- the words of String.charAt(int), the Latin-1 road alone -/
abbrev wordsChN : List Jvm.Cond := [.code ChN.yN ChN.yB 2 (some .char), .initialized ST, .fieldLink ST 9 ST "value" "[B", .fieldLink ST 38 ST "COMPACT_STRINGS" "Z", .fieldLink ST 15 ST "coder" "B", .code IsL.yN IsL.yB 1 (some .boolean), .methodLink ST 492 IsL.yN, .declares IsL.yN, .selects ST IsL.yN IsL.yN, .instanceMethod IsL.yN,
  .methodLink ST 495 LChA.yN, .static LChA.yN, .code LChA.yN LChA.yB 2 (some .char), .initialized "java/lang/StringLatin1", .methodLink "java/lang/StringLatin1" 9 JO.Str_checkIndex.yN, .static JO.Str_checkIndex.yN, .code JO.Str_checkIndex.yN JO.Str_checkIndex.yB 2 none,
  .fieldLink ST 1053 "jdk/internal/util/Preconditions" "SIOOBE_FORMATTER" "Ljava/util/function/BiFunction;", .methodLink ST 1059 JC.PreCheck.yN, .static JC.PreCheck.yN, .code JC.PreCheck.yN JC.PreCheck.yB 3 (some .int), .initialized "jdk/internal/util/Preconditions"]
theorem tabChN_of {a : Array Value} {s : State} (h : ∀ w ∈ wordsChN, w.before a s = true) : ChN.tab.before a s = true := by
  have hp : JC.PreCheck.tab.before a s = true := unparts (wk h (.code JC.PreCheck.yN JC.PreCheck.yB 3 (some .int))) (wks h (.initialized JC.PreCheck.yN.cls :: JC.PreCheck.site))
  have qk := consq hp h
  have hk : JO.Str_checkIndex.tab.before a s = true := unparts (wk qk (.code JO.Str_checkIndex.yN JO.Str_checkIndex.yB 2 none)) (wks qk (.initialized JO.Str_checkIndex.yN.cls :: JO.Str_checkIndex.site))
  have ql := consq hk h
  have hl : LChA.tab.before a s = true := unparts (wk ql (.code LChA.yN LChA.yB 2 (some .char))) (wks ql (.initialized LChA.yN.cls :: LChA.site))
  have hi : IsL.tab.before a s = true := unparts (wk h (.code IsL.yN IsL.yB 1 (some .boolean))) (wks h (.initialized IsL.yN.cls :: IsL.site))
  have q := consq hi (consq hl h)
  exact unparts (wk q (.code ChN.yN ChN.yB 2 (some .char))) (wks q (.initialized ChN.yN.cls :: ChN.site))
theorem movedChN {Z s : State} {a0 args : Array Value} (hZ : Z.Warmed39 s.vm) (hw : ∀ d ∈ wordsChN, d.before a0 Z = true) : ∀ d ∈ wordsChN, d.before args s = true := fun d hd => by
  have t : ∀ d ∈ wordsChN, (d.onTables && d.keepsFace) = true := by decide +kernel
  exact RoadKit.mv hZ (hw d hd) (t d hd)
/-- **charAt(i) OF A LATIN-1 STRING**, i < n: the char -/
theorem chN {p : Program} {l : Launch} {e : Env} {R : Room} {s : State} {args : Array Value} {below : List Frame} {len W : Nat} {Z : State} {a0 : Array Value} {h : Heap} (hZ : Z.Warmed39 s.vm) (hw : ∀ d ∈ wordsChN, d.before a0 Z = true) {kI : Nat} (wi : (Jvm.Cond.instantiable ST kI).before a0 Z = true)
    {x t : Addr} {kb : ClassId} {cs : List Int32} {N2 z : Int32} {vs : List Value} {fm : Value} {i : Nat} {j : Int32} (E : RoadKit.Exa Z h x ST) (V : RoadKit.Fld Z h x ST "value" "[B" (.ref t)) (C : RoadKit.Fld Z h x ST "coder" "B" (.int 0)) (K : RoadKit.Arv Z h t kb .byte N2 vs (.int 0)) (hc : CodA cs 0 N2 vs) (hb : ∀ c ∈ cs, ¬ c < 0 ∧ ¬ (65535 : Int32) < c)
    (S : RoadKit.Sta Z h ST "COMPACT_STRINGS" "Z" (.int z)) (hz : ¬ z = 0) (F : RoadKit.Sta Z h "jdk/internal/util/Preconditions" "SIOOBE_FORMATTER" "Ljava/util/function/BiFunction;" fm) (rf : fm.isRef = true) (l2 : cs.length ≤ 4000) (hi : i < cs.length) (hj : j = Int32.ofNat i) (hfr : 4 ≤ R.frames) (hlo : W + 53 ≤ R.locals) :
    Back l R p e below s args (⟨"java/lang/String", "charAt", "(I)C"⟩ : MethodName) len W (fun P a => a = #[.ref x, .int j] ∧ P.U.heap = h ∧ P.cells + 0 ≤ R.cells ∧ P.slots + 0 ≤ R.slots)
      (fun P _ v B => ∃ L, (v = some (.int (cs.getD i 0)) ∧ L = [] ∧ B.U.heap = h) ∧ B.locs = P.locs ++ L ∧ B.cells = P.cells + 0 ∧ B.slots = P.slots + 0) := by
  subst hj
  intro m meth c P g ig mk a X hg hsize hdg hW hn hp'
  obtain ⟨rfl, rfl, r1, r2⟩ := hp'
  have al : Z.vm.Alike P.U.vm := hZ.alike.trans X.warmed.alike
  obtain ⟨A, hx⟩ := txt_of wi al E V C K hc hb l2
  obtain ⟨v, B, X', ⟨⟨hv, hh⟩, hl, hk, hs⟩, st⟩ := ChN.pays x t A cs.length (fun j => cs.getD j 0) z fm i (tabChN_of (movedChN hZ hw)) hfr hlo m meth c P g ig mk _ X hg hsize hdg hW hn ⟨r1, r2, rfl, hx, hi, sta_is al S, hz, sta_is al F, rf⟩
  exact ⟨v, B, X', ⟨[], ⟨hv, rfl, hh⟩, hl, hk, hs⟩, st⟩
/-- what backV says of its String, as the contracts of this text ask it: cs's low bytes, coder 0 -/
theorem codOf {cs : List Int32} {n : Nat} (hn : cs.length = n) (hb : ∀ c ∈ cs, ¬ 255 < c) : CodA cs 0 (Int32.ofNat n) ((cs.map lo8).map Value.int) := Or.inl ⟨rfl, by rw [hn], by simp [List.map_map, Function.comp_def], hb⟩
end StrChars.Road
end Jvm.Pilot.@@N@@
namespace Jvm.Pilot.@@N@@
open Jvm Jvm.ClassFile Sem Op Lib Jvm.Free Jvm.Stand Jvm.LawKit Jvm.RoadKit Bundle Jvm.Pilot.@@N@@.Jvm.D
section OwnKit
variable {p : Program} {l : Launch} {e : Env} {R : Room} {s : State} {m : MethodId} {args : Array Value} {below : List Frame} {meth : Method} {c : Code} {T T' : State} {locs : List Loc} {cells slots : Nat} {Z : State} {a0 : Array Value} {h h' : Heap} {EL : List (String × Nat)} {n0 k0 : Nat} {ws ws' sf : List Addr} {own : String} {vm0 vm1 : Vm} {Q : Outcome → State → Prop} {a b x : Addr} {v : Value} {sl : Nat}
/-- the run goes on from t to an end that Q takes -/
def Go (p : Program) (e : Env) (below : List Frame) (Q : Outcome → State → Prop) (t : State) : Prop := ∃ s₂ o, Steps p.tables e below t s₂ ∧ s₂.status = .running ∧ Ended s₂ below o ∧ Q o s₂
theorem Go.of {t t' : State} (k : ∀ z, Steps p.tables e below t' z → Steps p.tables e below t z) (g : Go p e below Q t') : Go p e below Q t := by
  obtain ⟨a, o, st, r⟩ := g
  exact ⟨a, o, k _ st, r⟩
theorem Go.on {t t' : State} (st : Steps p.tables e below t t') (g : Go p e below Q t') : Go p e below Q t := by
  obtain ⟨a, o, st', r⟩ := g
  exact ⟨a, o, st.trans st', r⟩
/-- where a walk stands: the tables at hand, the places written, all hidden -/
def Wk (p : Program) (l : Launch) (e : Env) (R : Room) (s : State) (m : MethodId) (args : Array Value) (below : List Frame) (meth : Method) (c : Code) (Z : State) (EL : List (String × Nat)) (n0 : Nat) (ws : List Addr) (own : String) (sf : List Addr) (T : State) (cells slots : Nat) (h : Heap) : Prop :=
  ∃ (vm0 : Vm) (locs : List Loc) (k0 : Nat), Stand p l e R (s.setVm vm0) m args below meth c T locs cells slots ∧ T.heap = h ∧ s.Since vm0 k0 ∧ k0 ≤ h.size ∧ Z.Warmed39 vm0 ∧ vm0.findClass own = some m.cls ∧ CHr Z EL s.vm s.heap vm0 h ∧ Fr n0 locs ∧ Keep s.heap h ws ∧ Old Z n0 h ∧ ∀ x ∈ sf, Safe Z EL vm0 h x ∧ x < h.size
theorem wk_wr (X : Stand p l e R (s.setVm vm0) m args below meth c T' (locs ++ [⟨a, sl⟩]) cells slots) (e' : T'.heap = h') (W : Wr h h' a sl v) (hS : s.Since vm0 k0) (hk : k0 ≤ h.size) (hZ : Z.Warmed39 vm0) (hown : vm0.findClass own = some m.cls) (hC : CHr Z EL s.vm s.heap vm0 h) (N : Fr n0 locs) (K : Keep s.heap h ws) (O : Old Z n0 h)
    (F : ∀ x ∈ sf, Safe Z EL vm0 h x ∧ x < h.size) (S : Safe Z EL vm0 h a) (ga : n0 ≤ a) (gw : a ∈ ws ∨ s.heap.size ≤ a) : Wk p l e R s m args below meth c Z EL n0 ws own sf T' cells slots h' :=
  ⟨vm0, _, k0, X, e', hS, by rw [Wr.size W]; exact hk, hZ, hown, hC.trans (CHr.wr W S hC.1), Fr.snoc X N ga, K.wr W gw, O.wr W ga, fun y hy => ⟨Safe.wr W S hC.1 (F y hy).1, by rw [Wr.size W]; exact (F y hy).2⟩⟩
theorem wk_new (X : Stand p l e R (s.setVm vm0) m args below meth c T' locs cells slots) (e' : T'.heap = h') (E : Ext h h') (hlt : h.size < h'.size) (hS : s.Since vm0 k0) (hk : k0 ≤ h.size) (hZ : Z.Warmed39 vm0) (hown : vm0.findClass own = some m.cls) (hC : CHr Z EL s.vm s.heap vm0 h) (N : Fr n0 locs) (K : Keep s.heap h ws) (O : Old Z n0 h)
    (F : ∀ x ∈ sf, Safe Z EL vm0 h x ∧ x < h.size) : Wk p l e R s m args below meth c Z EL n0 ws own (h.size :: sf) T' cells slots h' :=
  ⟨vm0, locs, k0, X, e', hS, Nat.le_trans hk E.1, hZ, hown, hC.trans (CHr.ext E hC.1), N, K.ext E, O.ext E, fun y hy => by
    rcases List.mem_cons.mp hy with rfl | hy
    · exact ⟨Safe.ext E hC.1 (Safe.new (Nat.le_refl _)), hlt⟩
    · exact ⟨Safe.ext E hC.1 (F y hy).1, Nat.lt_of_lt_of_le (F y hy).2 E.1⟩⟩
theorem Wk.here (W : Wk p l e R s m args below meth c Z EL n0 ws own sf T cells slots h) : At T m c below := by
  obtain ⟨_, _, _, X, _⟩ := W
  exact X.here
theorem Wk.n0le (W : Wk p l e R s m args below meth c Z EL n0 ws own sf T cells slots h) : n0 ≤ h.size := by
  obtain ⟨_, _, _, _, _, _, _, _, _, _, _, _, O, _⟩ := W
  exact O.1 ▸ O.2.1
theorem Wk.s0le (W : Wk p l e R s m args below meth c Z EL n0 ws own sf T cells slots h) : s.heap.size ≤ h.size := by
  obtain ⟨_, _, _, _, _, _, _, _, _, _, _, K, _, _⟩ := W
  exact K.1
theorem Wk.old (W : Wk p l e R s m args below meth c Z EL n0 ws own sf T cells slots h) : Old Z n0 h := by
  obtain ⟨_, _, _, _, _, _, _, _, _, _, _, _, O, _⟩ := W
  exact O
theorem Wk.more (W : Wk p l e R s m args below meth c Z EL n0 ws own sf T cells slots h) {cells' slots' : Nat} (hc : cells ≤ cells') (hs : slots ≤ slots') : Wk p l e R s m args below meth c Z EL n0 ws own sf T cells' slots' h := by
  obtain ⟨vm0, locs, k0, X, r⟩ := W
  exact ⟨vm0, locs, k0, X.more hc hs, r⟩
theorem Wk.sub {sf' : List Addr} (W : Wk p l e R s m args below meth c Z EL n0 ws own sf T cells slots h) (hs : ∀ x ∈ sf', x ∈ sf) : Wk p l e R s m args below meth c Z EL n0 ws own sf' T cells slots h := by
  obtain ⟨vm0, locs, k0, X, eT, hS, hk, hZ, hown, hC, N, K, O, F⟩ := W
  exact ⟨vm0, locs, k0, X, eT, hS, hk, hZ, hown, hC, N, K, O, fun y hy => F y (hs y hy)⟩
/-! single steps -/
theorem Wk.getF (W : Wk p l e R s m args below meth c Z EL n0 ws own sf T cells slots h) (hx : p.tables.exec = Jvm.exec) {R0 O n d host : String} {index : Nat} (w : (Cond.fieldLink own index R0 n d).before a0 Z = true ∨ (Cond.fieldLinkNest own index R0 n d host).before a0 Z = true) (via : Via Z R0 O n d)
    (F : Fld Z h a O n d v) {g : JFrame} (hg : g.method = m) {rest : List Value} (hs : g.stack = .ref a :: rest) (hd : decode c.code g.pc = .ok (.getfield index, 3))
    (k : ∀ T', Wk p l e R s m args below meth c Z EL n0 ws own sf T' cells slots h → Go p e below Q (T'.setTop { g with pc := g.pc + 3, stack := v :: rest })) : Go p e below Q (T.setTop g) := by
  obtain ⟨vm0, locs, k0, X, eT, hS, hk, hZ, hown, r⟩ := W
  obtain ⟨T', X', e', st⟩ := RoadKit.getF X hx hZ hown w via eT F hg hs hd
  exact Go.of st (k T' ⟨vm0, locs, k0, X', e', hS, hk, hZ, hown, r⟩)
theorem Wk.getS (W : Wk p l e R s m args below meth c Z EL n0 ws own sf T cells slots h) (hx : p.tables.exec = Jvm.exec) {R0 O n d host : String} {index : Nat} (w : (Cond.fieldLink own index R0 n d).before a0 Z = true ∨ (Cond.fieldLinkNest own index R0 n d host).before a0 Z = true) (via : Via Z R0 O n d)
    (F : Sta Z Z.heap O n d v) {g : JFrame} (hg : g.method = m) (hd : decode c.code g.pc = .ok (.getstatic index, 3))
    (k : ∀ T', Wk p l e R s m args below meth c Z EL n0 ws own sf T' cells slots h → Go p e below Q (T'.setTop { g with pc := g.pc + 3, stack := v :: g.stack })) : Go p e below Q (T.setTop g) := by
  have F' := F.ext W.old.2
  obtain ⟨vm0, locs, k0, X, eT, hS, hk, hZ, hown, r⟩ := W
  obtain ⟨T', X', e', st⟩ := RoadKit.getS2 X hx hZ hown w via eT F' hg hd
  exact Go.of st (k T' ⟨vm0, locs, k0, X', e', hS, hk, hZ, hown, r⟩)
theorem Wk.instNull (W : Wk p l e R s m args below meth c Z EL n0 ws own sf T cells slots h) (hx : p.tables.exec = Jvm.exec) {index : Nat} {g : JFrame} (hg : g.method = m) {rest : List Value} (hs : g.stack = .null :: rest) (hd : decode c.code g.pc = .ok (.instanceof index, 3))
    (k : Go p e below Q (T.setTop { g with pc := g.pc + 3, stack := .int 0 :: rest })) : Go p e below Q (T.setTop g) := by
  obtain ⟨vm0, locs, k0, X, eT, hS, hk, hZ, hown, r⟩ := W
  exact Go.of (X.instanceofNull hx hg hs hd) k
theorem Wk.initO (W : Wk p l e R s m args below meth c Z EL n0 ws own sf T cells slots h) (hx : p.tables.exec = Jvm.exec) {idx : Nat} (w1 : (Cond.methodLink own idx Lib.objectInit).before a0 Z = true) (w2 : (Cond.instanceMethod Lib.objectInit).before a0 Z = true)
    (w3 : (Cond.code Lib.objectInit ⟨#[0xb1]⟩ 1 none).before a0 Z = true) {g : JFrame} (hg : g.method = m) (hsize : g.locals.size = c.maxLocals) {rest : List Value} (hs : g.stack = .ref a :: rest) (hd : decode c.code g.pc = .ok (.invokespecial idx, 3))
    (hf : 1 ≤ R.frames) {Wd : Nat} (hW : 2 * g.monitorRoom + (rest.map fun v => v.category).sum ≤ Wd) (hl : Wd + 12 ≤ R.locals)
    (k : ∀ T', Wk p l e R s m args below meth c Z EL n0 ws own sf T' cells slots h → Go p e below Q (T'.setTop { g with pc := g.pc + 3, stack := rest })) : Go p e below Q (T.setTop g) := by
  obtain ⟨vm0, locs, k0, X, eT, hS, hk, hZ, hown, r⟩ := W
  obtain ⟨T', X', e', st⟩ := RoadKit.initO X hx hZ hown w1 w2 w3 eT hg hsize hs hd hf hW hl
  exact Go.of st (k T' ⟨vm0, locs, k0, X', e', hS, hk, hZ, hown, r⟩)
theorem Wk.newO (W : Wk p l e R s m args below meth c Z EL n0 ws own sf T cells slots h) (hx : p.tables.exec = Jvm.exec) {C : String} {index n : Nat} (w : (Cond.classLink own index C).before a0 Z = true) (wi : (Cond.instantiable C n).before a0 Z = true) (wz : (Cond.initialized C).before a0 Z = true)
    {g : JFrame} (hg : g.method = m) (hd : decode c.code g.pc = .ok (.new index, 3)) (hc : cells + 1 ≤ R.cells) (hl : slots + n ≤ R.slots)
    (k : ∀ T' h' b, b = h.size → n0 ≤ b ∧ s.heap.size ≤ b → Wk p l e R s m args below meth c Z EL n0 ws own (b :: sf) T' (cells + 1) (slots + n) h' → Keep h h' [] → Exa Z h' b C → (∀ {O nm d : String} {ty : FieldType}, Laid Z a0 C O nm d → parseFieldDescriptor d = some ty → Fld Z h' b O nm d (defaultValue ty)) →
      Go p e below Q (T'.setTop { g with pc := g.pc + 3, stack := .ref b :: g.stack })) : Go p e below Q (T.setTop g) := by
  have hle := W.n0le
  have hle' := W.s0le
  obtain ⟨vm0, locs, k0, X, eT, hS, hk, hZ, hown, hC, N, K, O, F⟩ := W
  obtain ⟨T', h', X', e', E, A, D, -, st⟩ := RoadKit.newO X hx hZ hown w wi wz eT hg hd hc hl
  exact Go.of st (k T' h' h.size rfl ⟨hle, hle'⟩ (wk_new X' e' E A.lt hS hk hZ hown hC N K O F) ((Keep.refl h []).ext E) A D)
theorem Wk.newP (W : Wk p l e R s m args below meth c Z EL n0 ws own sf T cells slots h) (hx : p.tables.exec = Jvm.exec) {aty : ArrayType} (w : (Cond.arrayClass (newarray.typeOf aty)).before a0 Z = true)
    {g : JFrame} (hg : g.method = m) (hd : decode c.code g.pc = .ok (.newarray aty, 2)) {n : Int32} {rest : List Value} (hs : g.stack = .int n :: rest)
    (hn : ¬ n < 0) {cap : Nat} (hcap : n.toNatClampNeg ≤ cap) (hb : cap * 8 ≤ 536870912) (hc : cells + 1 ≤ R.cells) (hl : slots + cap ≤ R.slots)
    (k : ∀ T' h' b kc, b = h.size → n0 ≤ b ∧ s.heap.size ≤ b → Wk p l e R s m args below meth c Z EL n0 ws own (b :: sf) T' (cells + 1) (slots + cap) h' → Keep h h' [] → Arv Z h' b kc (newarray.typeOf aty) n (List.replicate cap (defaultValue (newarray.typeOf aty))) (defaultValue (newarray.typeOf aty)) →
      Go p e below Q (T'.setTop { g with pc := g.pc + 2, stack := .ref b :: rest })) : Go p e below Q (T.setTop g) := by
  have hle := W.n0le
  have hle' := W.s0le
  obtain ⟨vm0, locs, k0, X, eT, hS, hk, hZ, hown, hC, N, K, O, F⟩ := W
  obtain ⟨T', h', kc, X', e', E, A, st⟩ := RoadKit.newP X hx hZ w eT hg hd hs hn hcap hb hc hl
  exact Go.of st (k T' h' h.size kc rfl ⟨hle, hle'⟩ (wk_new X' e' E A.lt hS hk hZ hown hC N K O F) ((Keep.refl h []).ext E) ((Arv.new A hn).pad (pad_rep [] _ cap)))
theorem Wk.putF (W : Wk p l e R s m args below meth c Z EL n0 ws own sf T cells slots h) (hx : p.tables.exec = Jvm.exec) {R0 O n d host C : String} {index kk : Nat} {ty : FieldType} (w : (Cond.fieldLink own index R0 n d).before a0 Z = true ∨ (Cond.fieldLinkNest own index R0 n d host).before a0 Z = true) (via : Via Z R0 O n d)
    {old : Value} (F : Fld Z h a O n d old) (E : Exa Z h a C) (L : (Cond.lays C O n d).before a0 Z = true ∨ ((Cond.laysFinal C O n d).before a0 Z = true ∧ own = O ∧ meth.name = "<init>")) (wi : (Cond.instantiable C kk).before a0 Z = true)
    (hty : parseFieldDescriptor d = some ty) (hn : narrow ty v = v) (hf : fits ty v = true) (ga : n0 ≤ a) (gw : a ∈ ws ∨ s.heap.size ≤ a) (sa : a ∈ sf ∨ (C ≠ "java/lang/String" ∧ C ≠ "[B")) {g : JFrame} (hg : g.method = m) {rest : List Value} (hs : g.stack = v :: .ref a :: rest) (hd : decode c.code g.pc = .ok (.putfield index, 3))
    (k : ∀ T' h', Wk p l e R s m args below meth c Z EL n0 ws own sf T' cells slots h' → Wr h h' a (RoadKit.slotOf Z O n d) v → Go p e below Q (T'.setTop { g with pc := g.pc + 3, stack := rest })) : Go p e below Q (T.setTop g) := by
  obtain ⟨vm0, locs, k0, X, eT, hS, hk, hZ, hown, hC, N, K, Ol, Fs⟩ := W
  have S : Safe Z EL vm0 h a := by
    rcases sa with q | ⟨q1, q2⟩
    · exact (Fs a q).1
    · exact Safe.exa hZ.alike E q1 q2
  obtain ⟨T', h', X', e', W', st⟩ := RoadKit.putF X hx hZ hown w via eT F E L wi hty hn hf hg hs hd
  exact Go.of st (k T' h' (wk_wr X' e' W' hS hk hZ hown hC N K Ol Fs S ga gw) W')
theorem Wk.stC (W : Wk p l e R s m args below meth c Z EL n0 ws own sf T cells slots h) (hx : p.tables.exec = Jvm.exec) {kc : ClassId} {z j y : Int32} {vs : List Value} {dv : Value} (V : Arv Z h a kc .char z vs dv) (hj : ¬ j < 0 ∧ j < z) (i : Nat) (hji : j.toNatClampNeg = i) (hi : i < vs.length) (ga : n0 ≤ a) (gw : a ∈ ws ∨ s.heap.size ≤ a)
    {g : JFrame} (hg : g.method = m) {rest : List Value} (hs : g.stack = .int y :: .int j :: .ref a :: rest) (hd : decode c.code g.pc = .ok (.castore, 1))
    (k : ∀ T' h', Wk p l e R s m args below meth c Z EL n0 ws own sf T' cells slots h' → Keep h h' [a] → Arv Z h' a kc .char z (vs.set i (.int (nar .char y))) dv → Go p e below Q (T'.setTop { g with pc := g.pc + 1, stack := rest })) : Go p e below Q (T.setTop g) := by
  obtain ⟨vm0, locs, k0, X, eT, hS, hk, hZ, hown, hC, N, K, Ol, Fs⟩ := W
  obtain ⟨cl, A, q1, S1, q3, H, G⟩ := V
  obtain ⟨T', h', X', e', W', st⟩ := RoadKit.stC X hx hZ eT A (j := j) (inb_of S1 hj) hg hs hd
  exact Go.of st (k T' h' (wk_wr X' e' W' hS hk hZ hown hC N K Ol Fs (Safe.arr hZ.alike A (by decide)) ga gw) (Keep.of_wr W') (Arv.set A q1 S1 q3 H G (fits_nar_char _) W' i hji hi))
theorem Wk.stB (W : Wk p l e R s m args below meth c Z EL n0 ws own sf T cells slots h) (hx : p.tables.exec = Jvm.exec) {kc : ClassId} {z j y : Int32} {vs : List Value} {dv : Value} (V : Arv Z h a kc .byte z vs dv) (hj : ¬ j < 0 ∧ j < z) (i : Nat) (hji : j.toNatClampNeg = i) (hi : i < vs.length) (ga : n0 ≤ a) (gw : a ∈ ws ∨ s.heap.size ≤ a) (sa : a ∈ sf)
    {g : JFrame} (hg : g.method = m) {rest : List Value} (hs : g.stack = .int y :: .int j :: .ref a :: rest) (hd : decode c.code g.pc = .ok (.bastore, 1))
    (k : ∀ T' h', Wk p l e R s m args below meth c Z EL n0 ws own sf T' cells slots h' → Keep h h' [a] → Arv Z h' a kc .byte z (vs.set i (.int (nar .byte y))) dv → Go p e below Q (T'.setTop { g with pc := g.pc + 1, stack := rest })) : Go p e below Q (T.setTop g) := by
  obtain ⟨vm0, locs, k0, X, eT, hS, hk, hZ, hown, hC, N, K, Ol, Fs⟩ := W
  obtain ⟨cl, A, q1, S1, q3, H, G⟩ := V
  obtain ⟨T', h', X', e', W', st⟩ := RoadKit.stB X hx hZ eT A (j := j) (inb_of S1 hj) hg hs hd
  exact Go.of st (k T' h' (wk_wr X' e' W' hS hk hZ hown hC N K Ol Fs (Fs a sa).1 ga gw) (Keep.of_wr W') (Arv.set A q1 S1 q3 H G (fits_nar_byte _) W' i hji hi))
theorem Wk.caload (W : Wk p l e R s m args below meth c Z EL n0 ws own sf T cells slots h) (hx : p.tables.exec = Jvm.exec) {kc : ClassId} {z j : Int32} {vs : List Value} {dv : Value} (V : Arv Z h a kc .char z vs dv) (hj : ¬ j < 0 ∧ j < z) (hv : vs.getD j.toNatClampNeg dv = v)
    {g : JFrame} (hg : g.method = m) {rest : List Value} (hs : g.stack = .int j :: .ref a :: rest) (hd : decode c.code g.pc = .ok (.caload, 1)) (k : Go p e below Q (T.setTop { g with pc := g.pc + 1, stack := v :: rest })) : Go p e below Q (T.setTop g) := by
  obtain ⟨vm0, locs, k0, X, eT, hS, hk, hZ, hown, r⟩ := W
  obtain ⟨cl, A, q1, S1, q3, H, G⟩ := V
  exact Go.of (fun t q => X.caload hx (by rw [eT]; exact A.1) (State.isArrayOf_alike hZ.alike A.2.1) A.2.2 (inb_of S1 hj) (H.at (inb_of S1 hj) hv) hg hs hd t q) k
theorem Wk.baload (W : Wk p l e R s m args below meth c Z EL n0 ws own sf T cells slots h) (hx : p.tables.exec = Jvm.exec) {kc : ClassId} {z j : Int32} {vs : List Value} {dv : Value} (V : Arv Z h a kc .byte z vs dv) (hj : ¬ j < 0 ∧ j < z) (hv : vs.getD j.toNatClampNeg dv = v)
    {g : JFrame} (hg : g.method = m) {rest : List Value} (hs : g.stack = .int j :: .ref a :: rest) (hd : decode c.code g.pc = .ok (.baload, 1)) (k : Go p e below Q (T.setTop { g with pc := g.pc + 1, stack := v :: rest })) : Go p e below Q (T.setTop g) := by
  obtain ⟨vm0, locs, k0, X, eT, hS, hk, hZ, hown, r⟩ := W
  obtain ⟨cl, A, q1, S1, q3, H, G⟩ := V
  exact Go.of (fun t q => X.baloadBytes hx (by rw [eT]; exact A.1) (State.isArrayOf_alike hZ.alike A.2.1) A.2.2 (inb_of S1 hj) (H.at (inb_of S1 hj) hv) hg hs hd t q) k
theorem Wk.alen (W : Wk p l e R s m args below meth c Z EL n0 ws own sf T cells slots h) (hx : p.tables.exec = Jvm.exec) {kc : ClassId} {z : Int32} {ty : FieldType} {vs : List Value} {dv : Value} (V : Arv Z h a kc ty z vs dv)
    {g : JFrame} (hg : g.method = m) {rest : List Value} (hs : g.stack = .ref a :: rest) (hd : decode c.code g.pc = .ok (.arraylength, 1)) (k : Go p e below Q (T.setTop { g with pc := g.pc + 1, stack := .int z :: rest })) : Go p e below Q (T.setTop g) := by
  obtain ⟨vm0, locs, k0, X, eT, hS, hk, hZ, hown, r⟩ := W
  obtain ⟨cl, A, q1, S1, q3, H, G⟩ := V
  exact Go.of (fun t q => X.arraylength hx (by rw [eT]; exact A.1) (State.isArrayOf_alike hZ.alike A.2.1) hg hs hd t (by rw [len_of S1 q3]; exact q)) k
theorem Wk.ldcI (W : Wk p l e R s m args below meth c Z EL n0 ws own sf T cells slots h) (hx : p.tables.exec = Jvm.exec) {index : Nat} {z : Int32} (w : (Cond.constant own index z).before a0 Z = true)
    {g : JFrame} (hg : g.method = m) (hd : decode c.code g.pc = .ok (.ldc index, 2)) (k : Go p e below Q (T.setTop { g with pc := g.pc + 2, stack := .int z :: g.stack })) : Go p e below Q (T.setTop g) := by
  obtain ⟨vm0, locs, k0, X, eT, hS, hk, hZ, hown, r⟩ := W
  exact Go.of (fun t q => X.ldcInt hx hown (mvT (s := s.setVm vm0) hZ w) hg hd t q) k
theorem Wk.ldcJ (W : Wk p l e R s m args below meth c Z EL n0 ws own sf T cells slots h) (hx : p.tables.exec = Jvm.exec) {index : Nat} {z : Int64} (w : (Cond.constantLong own index z).before a0 Z = true)
    {g : JFrame} (hg : g.method = m) (hd : decode c.code g.pc = .ok (.ldc2_w index, 3)) (k : Go p e below Q (T.setTop { g with pc := g.pc + 3, stack := .long z :: g.stack })) : Go p e below Q (T.setTop g) := by
  obtain ⟨vm0, locs, k0, X, eT, hS, hk, hZ, hown, r⟩ := W
  exact Go.of (fun t q => X.ldc2Long hx hown (mvT (s := s.setVm vm0) hZ w) hg hd t q) k
/-! String constants -/
theorem wk_tab {k1 : Nat} (X : Stand p l e R (s.setVm vm1) m args below meth c T' locs cells slots) (e' : T'.heap = h') (E : Keep h h' ws') (gws : ∀ x ∈ ws', n0 ≤ x ∧ (x ∈ ws ∨ s.heap.size ≤ x)) (hS : s.Since vm1 k1) (hk : k1 ≤ h'.size) (hZ : Z.Warmed39 vm1) (hown : vm1.findClass own = some m.cls) (A : CHr Z EL vm0 h vm1 h') (hC : CHr Z EL s.vm s.heap vm0 h) (N : Fr n0 locs) (K : Keep s.heap h ws) (O : Old Z n0 h)
    (F : ∀ x ∈ sf, Safe Z EL vm0 h x ∧ x < h.size) : Wk p l e R s m args below meth c Z EL n0 ws own sf T' cells slots h' :=
  ⟨vm1, locs, k1, X, e', hS, hk, hZ, hown, hC.trans A, N, K.trans E fun y hy => (gws y hy).2, O.keep E fun y hy => (gws y hy).1, fun y hy => ⟨CHr.safe A (F y hy).2 (F y hy).1, Nat.lt_of_lt_of_le (F y hy).2 E.1⟩⟩
theorem Wk.ldcC (W : Wk p l e R s m args below meth c Z EL n0 ws own sf T cells slots h) (hx : p.tables.exec = Jvm.exec) (hEL : EW Z a0 EL) {text : String} {index : Nat} (hmem : (own, index) ∈ EL) (w : (Cond.stringLink own index text).before a0 Z = true) (wS : ∀ a ∈ Bundle.stringAtoms, a.before a0 Z = true)
    (vs : List Value) (z : Int32) (ht : (∀ c ∈ text.toList, c.toNat < 256) ∧ text.toList.map (fun c => Value.int (Jvm.Lit.byteI c.toNat.toUInt16)) = vs) (hz : ¬ z < 0) (hl : z.toNatClampNeg = vs.length)
    {g : JFrame} (hg : g.method = m) (hd : decode c.code g.pc = .ok (.ldc index, 2)) {n : Nat} (hn : 4 * text.toList.length ≤ n) (hbig : n ≤ 536870912) (hc : cells + 2 ≤ R.cells) (hsl : slots + (n + 4) ≤ R.slots)
    (k : ∀ T' h' b t kb, Wk p l e R s m args below meth c Z EL n0 ws own sf T' (cells + 2) (slots + (n + 4)) h' → Keep h h' [] → Exa Z h' b "java/lang/String" → Fld Z h' b "java/lang/String" "value" "[B" (.ref t) → Fld Z h' b "java/lang/String" "coder" "B" (.int 0) → Arv Z h' t kb .byte z vs (.int 0) → (∀ x ∈ sf, x ≠ b ∧ x ≠ t) → Go p e below Q (T'.setTop { g with pc := g.pc + 2, stack := .ref b :: g.stack })) : Go p e below Q (T.setTop g) := by
  obtain ⟨vm0, locs, k0, X, eT, hS, hk, hZ, hown, hC, N, K, Ol, Fs⟩ := W
  obtain ⟨b, T', h', k1, t, kb, X', e', E, hS', hk', hZ', hown', E1, F1, F2, A1, -, -, A, -, hne, st⟩ := ldcCH X hx hZ hown w wS eT hS hk hEL hmem hC.1 ht hz hl hg hd hn hbig hc hsl
  have K1 : Keep h h' [] := (Keep.refl h []).ext E
  exact Go.of st (k T' h' b t kb (wk_tab X' e' K1 all0 hS' hk' hZ' hown' A hC N K Ol Fs) K1 E1 F2 F1 A1 (fun x hx => hne x (CHr.safe A (Fs x hx).2 (Fs x hx).1)))
/-! contracts -/
def Met (l : Launch) (Z : State) (EL : List (String × Nat)) (n0 : Nat) (y : MethodName) (bytes : ByteArray) (maxL : Nat) (ret : Option FieldType) (wl : List Cond) (rm : Room) (as' : Array Value) (h : Heap) (ws sf : List Addr) (Qv : Option Value → Heap → (Addr → Prop) → Prop) : Prop :=
  MetFree l y (head1 (Cond.code y bytes maxL ret :: wl) rm) (fun a U => a = as' ∧ Z.Warmed39 U.vm ∧ U.heap = h ∧ CHv Z EL U.vm h ∧ ∀ x ∈ sf, Safe Z EL U.vm h x ∧ x < h.size) (fun _ _ _ _ _ => True)
    (fun _ U o U' => ∃ v L, o = .returned v ∧ (Qv v U'.heap (fun x => Safe Z EL U'.vm U'.heap x ∧ x < U'.heap.size) ∧ Fr n0 L ∧ Keep h U'.heap ws) ∧ CHr Z EL U.vm U.heap U'.vm U'.heap ∧ ReturnedEndW U o U' L rm.cells rm.slots)
def Fend (Z : State) (EL : List (String × Nat)) (n0 : Nat) (s : State) (h : Heap) (ws : List Addr) (Qv : Option Value → Heap → (Addr → Prop) → Prop) (rm : Room) (o : Outcome) (t : State) : Prop :=
  ∃ v L, o = .returned v ∧ (Qv v t.heap (fun x => Safe Z EL t.vm t.heap x ∧ x < t.heap.size) ∧ Fr n0 L ∧ Keep h t.heap ws) ∧ CHr Z EL s.vm s.heap t.vm t.heap ∧ ReturnedEndW s o t L rm.cells rm.slots
variable {y : MethodName} {bytes : ByteArray} {maxL : Nat} {ret : Option FieldType} {wl : List Cond} {rm : Room} {as' : Array Value} {Qv : Option Value → Heap → (Addr → Prop) → Prop}
theorem Met.of (hy : plainFor y = true) (O : Old Z n0 h) (body : ∀ (p : Program) (e : Env) (s : State) (m : MethodId) (below : List Frame) (meth : Method) (c : Code) (T : State), p.tables.exec = Jvm.exec → c.code = bytes → c.maxLocals = maxL → meth.sig.returnType = ret → meth.locks = false → meth.name = y.name → s.heap = h →
      Wk p l e rm s m as' below meth c Z EL n0 ws y.cls sf T 0 0 h → Go p e below (Fend Z EL n0 s h ws Qv rm) (T.setTop (entryFrame m as' maxL))) : Met l Z EL n0 y bytes maxL ret wl rm as' h ws sf Qv := by
  refine MetFree.of_bodySF hy hisR ?_
  intro p e s m args below meth c s₁ Bd hml0 hP hK
  obtain ⟨rfl, hZ, hh, hC, hF⟩ := hP
  subst hh
  have e0 : s₁.heap = s.heap := by rw [Bd.state]; rfl
  have hown := findClass_of_methodNamed Bd.named
  have X0 : Stand p l e rm s m args below meth c s₁ [] 0 0 := Stand.of_body Bd
  obtain ⟨s₂, o, st, r1, r2, q⟩ := body p e s m below meth c s₁ Bd.exec Bd.bytes hml0 Bd.returns Bd.notSynchronized (name_of_methodNamed Bd.named Bd.method).1 rfl ⟨s.vm, [], 0, X0, e0, (State.WarmedH.refl s).since 0, Nat.zero_le _, hZ, hown, CHr.refl hC, Fr.nil n0, Keep.refl _ _, O, hF⟩
  exact ⟨s₂, o, st, r1, r2, q⟩
theorem Wk.fin {g : JFrame} (W : Wk p l e rm s m args below meth c Z EL n0 ws own sf T cells slots h') (hEL : EW Z a0 EL) (hs : s.heap = h) (hlk : meth.locks = false) (hc : cells ≤ rm.cells) (hl : slots ≤ rm.slots) {w : Option Value} (hv : meth.sig.returnType = none → w = none) (hq : ∀ S : Addr → Prop, (∀ x ∈ sf, S x) → Qv w h' S)
    (k : ∀ (vm0 : Vm) (locs : List Loc) (fs : List Frame), Stand p l e rm (s.setVm vm0) m args below meth c T locs cells slots → (∀ (f : JFrame) (acts : List Action), f.method = m → f.locked = none → f.entered = [] → (doReturn e (T.setTop f) acts w).1 = T.setFrames fs) → Steps p.tables e below (T.setTop g) (T.setFrames fs)) : Go p e below (Fend Z EL n0 s h ws Qv rm) (T.setTop g) := by
  obtain ⟨vm0, locs, k0, X, eT, hS, hk, hZ, hown, hC, N, K, Ol, Fs⟩ := W
  subst hs eT
  obtain ⟨fs, hr, hrun, hended, q1, q2, q3, q4⟩ := X.leaveW hS hk hv hlk
  refine ⟨T.setFrames fs, .returned w, k vm0 locs fs X hr, hrun, hended, w, locs, rfl, ⟨hq _ (fun x hx => (show Safe Z EL T.vm T.heap x ∧ x < T.heap.size from ⟨CHr.safe (CHv.at X hZ hEL hC.1) (Fs x hx).2 (Fs x hx).1, (Fs x hx).2⟩)), N, K⟩, (show CHr Z EL s.vm s.heap T.vm T.heap from hC.trans (CHv.at X hZ hEL hC.1)), q1, q2, q3, q4.mono hc hl⟩
theorem Wk.retG (W : Wk p l e rm s m args below meth c Z EL n0 ws own sf T cells slots h') (hx : p.tables.exec = Jvm.exec) (hEL : EW Z a0 EL) (hs : s.heap = h) (hlk : meth.locks = false) (hc : cells ≤ rm.cells) (hl : slots ≤ rm.slots) {pc : Nat} {Ls : Array Slot} {w : Value} {t : FieldType} {i : Instr} {rest : List Value} (hret : meth.sig.returnType = some t) (hn : narrow t w = w)
    (hi : (i = .ireturn ∧ (t = .int ∨ t = .boolean ∨ t = .byte ∨ t = .char ∨ t = .short) ∧ ∃ z, w = .int z) ∨ (i = .lreturn ∧ t = .long ∧ ∃ z, w = .long z) ∨ (i = .dreturn ∧ t = .double ∧ ∃ z, w = .double z) ∨ (i = .freturn ∧ t = .float ∧ ∃ z, w = .float z) ∨ (i = .areturn ∧ t.isReference = true ∧ w.isRef = true))
    (hd : decode c.code pc = .ok (i, 1)) (hq : ∀ S : Addr → Prop, (∀ x ∈ sf, S x) → Qv (some w) h' S) : Go p e below (Fend Z EL n0 s h ws Qv rm) (T.setTop (mkF m pc Ls (w :: rest))) :=
  W.fin hEL hs hlk hc hl (w := some w) (fun q => by rw [hret] at q; cases q) hq (fun vm0 locs fs X hr => RoadKit.retOut X hx hret hn hi hd hr)
theorem Wk.retI (W : Wk p l e rm s m args below meth c Z EL n0 ws own sf T cells slots h') (hx : p.tables.exec = Jvm.exec) (hEL : EW Z a0 EL) (hs : s.heap = h) (hlk : meth.locks = false) (hc : cells ≤ rm.cells) (hl : slots ≤ rm.slots) {pc : Nat} {Ls : Array Slot} {w : Int32} {t : FieldType} {rest : List Value} (hret : meth.sig.returnType = some t) (ht : t = .int ∨ t = .boolean ∨ t = .byte ∨ t = .char ∨ t = .short) (hn : narrow t (.int w) = .int w)
    (hd : decode c.code pc = .ok (.ireturn, 1)) (hq : ∀ S : Addr → Prop, (∀ x ∈ sf, S x) → Qv (some (.int w)) h' S) : Go p e below (Fend Z EL n0 s h ws Qv rm) (T.setTop (mkF m pc Ls (.int w :: rest))) :=
  W.retG hx hEL hs hlk hc hl hret hn (Or.inl ⟨rfl, ht, w, rfl⟩) hd hq
theorem Wk.retA (W : Wk p l e rm s m args below meth c Z EL n0 ws own sf T cells slots h') (hx : p.tables.exec = Jvm.exec) (hEL : EW Z a0 EL) (hs : s.heap = h) (hlk : meth.locks = false) (hc : cells ≤ rm.cells) (hl : slots ≤ rm.slots) {pc : Nat} {Ls : Array Slot} {w : Value} {t : FieldType} {rest : List Value} (hret : meth.sig.returnType = some t) (ht : t.isReference = true) (hw : w.isRef = true)
    (hd : decode c.code pc = .ok (.areturn, 1)) (hq : ∀ S : Addr → Prop, (∀ x ∈ sf, S x) → Qv (some w) h' S) : Go p e below (Fend Z EL n0 s h ws Qv rm) (T.setTop (mkF m pc Ls (w :: rest))) :=
  W.retG hx hEL hs hlk hc hl hret (by cases t <;> cases w <;> first | rfl | cases ht | cases hw) (Or.inr (Or.inr (Or.inr (Or.inr ⟨rfl, ht, hw⟩)))) hd hq
theorem Wk.retV (W : Wk p l e rm s m args below meth c Z EL n0 ws own sf T cells slots h') (hx : p.tables.exec = Jvm.exec) (hEL : EW Z a0 EL) (hs : s.heap = h) (hlk : meth.locks = false) (hc : cells ≤ rm.cells) (hl : slots ≤ rm.slots) {pc : Nat} {Ls : Array Slot} (hret : meth.sig.returnType = none)
    (hd : decode c.code pc = .ok (.return_, 1)) (hq : ∀ S : Addr → Prop, (∀ x ∈ sf, S x) → Qv none h' S) : Go p e below (Fend Z EL n0 s h ws Qv rm) (T.setTop (mkF m pc Ls [])) :=
  W.fin hEL hs hlk hc hl (w := none) (fun _ => rfl) hq (fun vm0 locs fs X hr => X.returnOut hx hret hd hr)
/-! calls of what has a contract -/
/-- Wk with the tables named -/
def WkAt (p : Program) (l : Launch) (e : Env) (R : Room) (s : State) (m : MethodId) (args : Array Value) (below : List Frame) (meth : Method) (c : Code) (Z : State) (EL : List (String × Nat)) (n0 : Nat) (ws : List Addr) (own : String) (sf : List Addr) (T : State) (cells slots : Nat) (h : Heap) (vm0 : Vm) : Prop :=
  ∃ (locs : List Loc) (k0 : Nat), Stand p l e R (s.setVm vm0) m args below meth c T locs cells slots ∧ T.heap = h ∧ s.Since vm0 k0 ∧ k0 ≤ h.size ∧ Z.Warmed39 vm0 ∧ vm0.findClass own = some m.cls ∧ CHr Z EL s.vm s.heap vm0 h ∧ Fr n0 locs ∧ Keep s.heap h ws ∧ Old Z n0 h ∧ ∀ x ∈ sf, Safe Z EL vm0 h x ∧ x < h.size
theorem wk_tabAt {k1 : Nat} (X : Stand p l e R (s.setVm vm1) m args below meth c T' locs cells slots) (e' : T'.heap = h') (E : Keep h h' ws') (gws : ∀ x ∈ ws', n0 ≤ x ∧ (x ∈ ws ∨ s.heap.size ≤ x)) (hS : s.Since vm1 k1) (hk : k1 ≤ h'.size) (hZ : Z.Warmed39 vm1) (hown : vm1.findClass own = some m.cls) (A : CHr Z EL vm0 h vm1 h') (hC : CHr Z EL s.vm s.heap vm0 h) (N : Fr n0 locs) (K : Keep s.heap h ws) (O : Old Z n0 h)
    (F : ∀ x ∈ sf, Safe Z EL vm0 h x ∧ x < h.size) : WkAt p l e R s m args below meth c Z EL n0 ws own sf T' cells slots h' vm1 :=
  ⟨locs, k1, X, e', hS, hk, hZ, hown, hC.trans A, N, K.trans E fun y hy => (gws y hy).2, O.keep E fun y hy => (gws y hy).1, fun y hy => ⟨CHr.safe A (F y hy).2 (F y hy).1, Nat.lt_of_lt_of_le (F y hy).2 E.1⟩⟩
theorem wk_more {sfx : List Addr} (W : WkAt p l e R s m args below meth c Z EL n0 ws own sf T cells slots h vm0) (hx : ∀ x ∈ sfx, Safe Z EL vm0 h x ∧ x < h.size) : Wk p l e R s m args below meth c Z EL n0 ws own (sfx ++ sf) T cells slots h := by
  obtain ⟨locs, k0, X, eT, hS, hk, hZ, hown, hC, N, K, O, F⟩ := W
  exact ⟨vm0, locs, k0, X, eT, hS, hk, hZ, hown, hC, N, K, O, fun y hy => (List.mem_append.mp hy).elim (hx y) (F y)⟩
theorem wk_call {U : State} {L : List Loc} {rcells rslots : Nat} (X : Stand p l e R (s.setVm vm0) m args below meth c T locs cells slots) (X' : Stand p l e R ((s.setVm vm0).setVm U.vm) m args below meth c U (locs ++ L) (cells + rcells) (slots + rslots)) (hS' : (s.setVm vm0).Since U.vm U.heap.size) (hle : T.heap.size ≤ U.heap.size) (eT : T.heap = h) (N' : Fr n0 L) (K' : Keep h U.heap ws') (A : CHr Z EL vm0 h U.vm U.heap) (gws : ∀ x ∈ ws', n0 ≤ x ∧ (x ∈ ws ∨ s.heap.size ≤ x))
    (hS : s.Since vm0 k0) (hk : k0 ≤ h.size) (hZ : Z.Warmed39 vm0) (hown : vm0.findClass own = some m.cls) (hC : CHr Z EL s.vm s.heap vm0 h) (N : Fr n0 locs) (K : Keep s.heap h ws) (O : Old Z n0 h) (F : ∀ x ∈ sf, Safe Z EL vm0 h x ∧ x < h.size) : WkAt p l e R s m args below meth c Z EL n0 ws own sf U (cells + rcells) (slots + rslots) U.heap U.vm :=
  wk_tabAt (T' := U) (h' := U.heap) (vm1 := U.vm) (locs := locs ++ L) X' rfl K' gws (hS.trans hS' (Nat.le_trans hk (eT ▸ hle))) (Nat.le_refl _) (State.Warmed39.trans (t := s.setVm vm0) hZ hS'.1) ((hS'.1.alike.findClass _ _).trans hown) A hC (N.app N') K O F
theorem Met.pay {sf' : List Addr} {len Wd : Nat} (M : Met l Z EL n0 y bytes maxL ret [] rm as' h ws' sf' Qv) (hZ : Z.Warmed39 vm0) (wc : (Cond.code y bytes maxL ret).before a0 Z = true) (wz : (Cond.initialized y.cls).before a0 Z = true) (hf : rm.frames + 1 ≤ R.frames) (hl : Wd + (maxL + 11) + rm.locals ≤ R.locals) (hEL : EW Z a0 EL) (H : CHv Z EL vm0 h) (HS : ∀ x ∈ sf', Safe Z EL vm0 h x ∧ x < h.size) :
    BackS l R p e below (s.setVm vm0) args y len Wd (fun A a => a = as' ∧ A.U.heap = h ∧ A.cells + rm.cells ≤ R.cells ∧ A.slots + rm.slots ≤ R.slots)
      (fun A _ v B => ∃ L, (Qv v B.U.heap (fun x => Safe Z EL B.U.vm B.U.heap x ∧ x < B.U.heap.size) ∧ Fr n0 L ∧ Keep h B.U.heap ws') ∧ B.locs = A.locs ++ L ∧ B.cells = A.cells + rm.cells ∧ B.slots = A.slots + rm.slots ∧ CHr Z EL vm0 h B.U.vm B.U.heap) := by
  refine BackS.of_freeW (bytes := bytes) (maxL := maxL) (ret := ret) (E := fun _ first o t L k n => k = rm.cells ∧ n = rm.slots ∧ (∃ v, o = .returned v ∧ (Qv v t.heap (fun x => Safe Z EL t.vm t.heap x ∧ x < t.heap.size) ∧ Fr n0 L ∧ Keep h t.heap ws')) ∧ CHr Z EL first.vm first.heap t.vm t.heap) M hf hl ?_ ?_ (fun _ _ _ _ _ _ _ _ _ => trivial) ?_ ?_
  · intro m meth c A a Y hp
    have hU : Z.Warmed39 A.U.vm := wtrans (s := s.setVm vm0) hZ Y.warmed
    exact ⟨by show (Cond.and _ .tt).before a A.U = true; rw [Cond.before_and, mv hU wc]; rfl, mv hU wc, mv hU wz, hp.2.2.1, hp.2.2.2⟩
  · intro m meth c A a g mk Y hp
    have C0 := CHv.at Y hZ hEL H
    exact ⟨hp.1, wtrans (s := s.setVm vm0) hZ Y.warmed, hp.2.1, C0.1, fun x hx => ⟨C0.safe (HS x hx).2 (HS x hx).1, (HS x hx).2⟩⟩
  · rintro _ _ _ _ ⟨v, L, h1, h2, h3, h4⟩
    exact ⟨L, _, _, h4, rfl, rfl, ⟨v, h1, h2⟩, h3⟩
  · rintro m meth c A a g mk v t L k n Y hp _ _ ⟨e1, e2, ⟨v', e3, e4⟩, e5⟩
    cases e3; subst e1 e2
    refine ⟨L, e4, rfl, rfl, rfl, (CHv.at Y hZ hEL H).trans ?_⟩
    rw [← hp.2.1]; exact e5
theorem Wk.callS (W : Wk p l e R s m args below meth c Z EL n0 ws own sf T cells slots h) (hx : p.tables.exec = Jvm.exec) (hEL : EW Z a0 EL) {index : Nat} (w1 : (Cond.methodLink own index y).before a0 Z = true) (w2 : (Cond.static y).before a0 Z = true) (w3 : (Cond.initialized y.cls).before a0 Z = true) (w4 : (Cond.code y bytes maxL ret).before a0 Z = true)
    (hy : y.cls ≠ "java/lang/invoke/MethodHandle" ∧ y.cls ≠ "java/lang/invoke/VarHandle") {argsL rest : List Value} {sf' : List Addr} (M : Met l Z EL n0 y bytes maxL ret [] rm argsL.toArray h ws' sf' Qv) (hsf : ∀ x ∈ sf', x ∈ sf) (hf : rm.frames + 1 ≤ R.frames) {Wd : Nat} (hl : Wd + (maxL + 11) + rm.locals ≤ R.locals) (hc : cells + rm.cells ≤ R.cells) (hsl : slots + rm.slots ≤ R.slots)
    (gws : ∀ x ∈ ws', n0 ≤ x ∧ (x ∈ ws ∨ s.heap.size ≤ x)) {g : JFrame} (hg : g.method = m) (hsize : g.locals.size = c.maxLocals) (hlen : ∀ sig, parseMethodDescriptor y.desc = some sig → argsL.length = sig.parameters.length) (hstack : g.stack = argsL.reverse ++ rest) (hW : 2 * g.monitorRoom + (rest.map fun v => v.category).sum ≤ Wd)
    (hd : decode c.code g.pc = .ok (.invokestatic index, 3)) (k : ∀ T' h' v (S : Addr → Prop), (∀ sfx : List Addr, (∀ x ∈ sfx, S x) → Wk p l e R s m args below meth c Z EL n0 ws own (sfx ++ sf) T' (cells + rm.cells) (slots + rm.slots) h') → Keep h h' ws' → Qv v h' S → Go p e below Q (T'.setTop { g with pc := g.pc + 3, stack := v.toList ++ rest })) : Go p e below Q (T.setTop g) := by
  obtain ⟨vm0, locs, k0, X, eT, hS, hk, hZ, hown, hC, N, K, Ol, Fs⟩ := W
  obtain ⟨v, vm₁, ⟨U, Lb, kb, nb⟩, hw, X', hS', hle, ⟨L, ⟨q, N', K'⟩, e1, e2, e3, A⟩, st⟩ := callSS X hx hown (mvT (s := s.setVm vm0) hZ w1) (mvT (s := s.setVm vm0) hZ w2) (mvT (s := s.setVm vm0) hZ w3) (mvT (s := s.setVm vm0) hZ w4) hy (Met.pay (s := s) (Wd := Wd) M hZ w4 w3 hf hl hEL hC.1 (fun x hx => Fs x (hsf x hx))) hg hsize hlen hstack hW hd (fun _ _ => ⟨rfl, eT, hc, hsl⟩)
  dsimp only [Pt.U, Pt.locs, Pt.cells, Pt.slots] at X' hS' hle q K' e1 e2 e3 A st
  subst e1 e2 e3
  exact Go.on st (k U U.heap v _ (fun sfx hx => wk_more (wk_call X X' hS' hle eT N' K' A gws hS hk hZ hown hC N K Ol Fs) hx) K' q)
theorem Wk.callP (W : Wk p l e R s m args below meth c Z EL n0 ws own sf T cells slots h) (hx : p.tables.exec = Jvm.exec) (hEL : EW Z a0 EL) {index : Nat} (hy1 : y.name = "<init>") (w1 : (Cond.methodLink own index y).before a0 Z = true) (w2 : (Cond.instanceMethod y).before a0 Z = true) (w3 : (Cond.initialized y.cls).before a0 Z = true) (w4 : (Cond.code y bytes maxL none).before a0 Z = true)
    (hy : y.cls ≠ "java/lang/invoke/MethodHandle" ∧ y.cls ≠ "java/lang/invoke/VarHandle") {argsL rest : List Value} {sf' : List Addr} (M : Met l Z EL n0 y bytes maxL none [] rm (.ref a :: argsL).toArray h ws' sf' Qv) (hsf : ∀ x ∈ sf', x ∈ sf) (hf : rm.frames + 1 ≤ R.frames) {Wd : Nat} (hl : Wd + (maxL + 11) + rm.locals ≤ R.locals) (hc : cells + rm.cells ≤ R.cells) (hsl : slots + rm.slots ≤ R.slots)
    (gws : ∀ x ∈ ws', n0 ≤ x ∧ (x ∈ ws ∨ s.heap.size ≤ x)) {g : JFrame} (hg : g.method = m) (hsize : g.locals.size = c.maxLocals) (hlen : ∀ sig, parseMethodDescriptor y.desc = some sig → argsL.length = sig.parameters.length) (hstack : g.stack = argsL.reverse ++ .ref a :: rest) (hW : 2 * g.monitorRoom + (rest.map fun v => v.category).sum ≤ Wd)
    (hd : decode c.code g.pc = .ok (.invokespecial index, 3)) (k : ∀ T' h' v (S : Addr → Prop), (∀ sfx : List Addr, (∀ x ∈ sfx, S x) → Wk p l e R s m args below meth c Z EL n0 ws own (sfx ++ sf) T' (cells + rm.cells) (slots + rm.slots) h') → Keep h h' ws' → Qv v h' S → Go p e below Q (T'.setTop { g with pc := g.pc + 3, stack := v.toList ++ rest })) : Go p e below Q (T.setTop g) := by
  obtain ⟨vm0, locs, k0, X, eT, hS, hk, hZ, hown, hC, N, K, Ol, Fs⟩ := W
  obtain ⟨v, vm₁, ⟨U, Lb, kb, nb⟩, hw, X', hS', hle, ⟨L, ⟨q, N', K'⟩, e1, e2, e3, A⟩, st⟩ := X.specialBackS hx hy1 hown (mvT (s := s.setVm vm0) hZ w1) (mvT (s := s.setVm vm0) hZ w2) (mvT (s := s.setVm vm0) hZ w4) hy (Met.pay (s := s) (Wd := Wd) M hZ w4 w3 hf hl hEL hC.1 (fun x hx => Fs x (hsf x hx))) hg hsize (Steps.refl _) hlen hstack hW hd (fun _ _ => ⟨rfl, eT, hc, hsl⟩)
  dsimp only [Pt.U, Pt.locs, Pt.cells, Pt.slots] at X' hS' hle q K' e1 e2 e3 A st
  subst e1 e2 e3
  exact Go.on st (k U U.heap v _ (fun sfx hx => wk_more (wk_call X X' hS' hle eT N' K' A gws hS hk hZ hown hC N K Ol Fs) hx) K' q)
theorem Wk.callV (W : Wk p l e R s m args below meth c Z EL n0 ws own sf T cells slots h) (hx : p.tables.exec = Jvm.exec) (hEL : EW Z a0 EL) {index : Nat} {C : String} (w1 : (Cond.methodLink own index y).before a0 Z = true) (w2 : (Cond.declares y).before a0 Z = true) (w5 : (Cond.selects C y y).before a0 Z = true) (w6 : (Cond.instanceMethod y).before a0 Z = true) (w3 : (Cond.initialized y.cls).before a0 Z = true) (w4 : (Cond.code y bytes maxL ret).before a0 Z = true)
    (hy : y.cls ≠ "java/lang/invoke/MethodHandle" ∧ y.cls ≠ "java/lang/invoke/VarHandle") (Ea : Exa Z h a C) {argsL rest : List Value} {sf' : List Addr} (M : Met l Z EL n0 y bytes maxL ret [] rm (.ref a :: argsL).toArray h ws' sf' Qv) (hsf : ∀ x ∈ sf', x ∈ sf) (hf : rm.frames + 1 ≤ R.frames) {Wd : Nat} (hl : Wd + (maxL + 11) + rm.locals ≤ R.locals) (hc : cells + rm.cells ≤ R.cells) (hsl : slots + rm.slots ≤ R.slots)
    (gws : ∀ x ∈ ws', n0 ≤ x ∧ (x ∈ ws ∨ s.heap.size ≤ x)) {g : JFrame} (hg : g.method = m) (hsize : g.locals.size = c.maxLocals) (hlen : ∀ sig, parseMethodDescriptor y.desc = some sig → argsL.length = sig.parameters.length) (hstack : g.stack = argsL.reverse ++ .ref a :: rest) (hW : 2 * g.monitorRoom + (rest.map fun v => v.category).sum ≤ Wd)
    (hd : decode c.code g.pc = .ok (.invokevirtual index, 3)) (k : ∀ T' h' v (S : Addr → Prop), (∀ sfx : List Addr, (∀ x ∈ sfx, S x) → Wk p l e R s m args below meth c Z EL n0 ws own (sfx ++ sf) T' (cells + rm.cells) (slots + rm.slots) h') → Keep h h' ws' → Qv v h' S → Go p e below Q (T'.setTop { g with pc := g.pc + 3, stack := v.toList ++ rest })) : Go p e below Q (T.setTop g) := by
  obtain ⟨vm0, locs, k0, X, eT, hS, hk, hZ, hown, hC, N, K, Ol, Fs⟩ := W
  obtain ⟨cB, kB, qa, qb, qc⟩ := isOf (s := s.setVm vm0) hZ eT Ea
  obtain ⟨v, vm₁, ⟨U, Lb, kb, nb⟩, hw, X', hS', hle, ⟨L, ⟨q, N', K'⟩, e1, e2, e3, A⟩, st⟩ := X.virtualBackS hx (z := y) hown (mvT (s := s.setVm vm0) hZ w1) (mvT (s := s.setVm vm0) hZ w2) (notFace_of_selects (args := #[]) (mvT (s := s.setVm vm0) hZ w5)) (mvT (s := s.setVm vm0) hZ w5) (mvT (s := s.setVm vm0) hZ w6) hy (Met.pay (s := s) (Wd := Wd) M hZ w4 w3 hf hl hEL hC.1 (fun x hx => Fs x (hsf x hx))) qa qc hg hsize (Steps.refl _) hlen hstack hW hd (fun _ _ => ⟨rfl, eT, hc, hsl⟩)
  dsimp only [Pt.U, Pt.locs, Pt.cells, Pt.slots] at X' hS' hle q K' e1 e2 e3 A st
  subst e1 e2 e3
  exact Go.on st (k U U.heap v _ (fun sfx hx => wk_more (wk_call X X' hS' hle eT N' K' A gws hS hk hZ hown hC N K Ol Fs) hx) K' q)
/-! calls: a private method by invokevirtual; a method that lands elsewhere; super's -/
/-! calls that a law of the JDK pays -/
theorem wk_keep (X : Stand p l e R (s.setVm vm0) m args below meth c T' locs cells slots) (e' : T'.heap = h') (E : Keep h h' ws') (gws : ∀ x ∈ ws', n0 ≤ x ∧ (x ∈ ws ∨ s.heap.size ≤ x)) (sws : ∀ x ∈ ws', x ∈ sf) (hS : s.Since vm0 k0) (hk : k0 ≤ h.size) (hZ : Z.Warmed39 vm0) (hown : vm0.findClass own = some m.cls) (hC : CHr Z EL s.vm s.heap vm0 h) (N : Fr n0 locs) (K : Keep s.heap h ws) (O : Old Z n0 h)
    (F : ∀ x ∈ sf, Safe Z EL vm0 h x ∧ x < h.size) : Wk p l e R s m args below meth c Z EL n0 ws own sf T' cells slots h' :=
  wk_tab X e' E gws hS (Nat.le_trans hk E.1) hZ hown (CHr.keep E (fun y hy => (F y (sws y hy)).1) hC.1) hC N K O F
variable {Q1 : Option Value → Heap → List Loc → Prop} {kk nn : Nat} {Qp : Option Value → Heap → Prop}
theorem Wk.specB (W : Wk p l e R s m args below meth c Z EL n0 ws own sf T cells slots h) (hx : p.tables.exec = Jvm.exec) {index : Nat} (hy1 : y.name = "<init>") (w1 : (Cond.methodLink own index y).before a0 Z = true) (w2 : (Cond.instanceMethod y).before a0 Z = true) (w4 : (Cond.code y bytes maxL none).before a0 Z = true)
    (hy : y.cls ≠ "java/lang/invoke/MethodHandle" ∧ y.cls ≠ "java/lang/invoke/VarHandle") {argsL rest : List Value} {Wd : Nat} (hK : ∀ s' : State, Z.Warmed39 s'.vm → Back l R p e below s' args y 3 Wd (fun A as => as = (.ref a :: argsL).toArray ∧ A.U.heap = h ∧ A.cells + kk ≤ R.cells ∧ A.slots + nn ≤ R.slots) (fun A _ v B => ∃ L, Q1 v B.U.heap L ∧ B.locs = A.locs ++ L ∧ B.cells = A.cells + kk ∧ B.slots = A.slots + nn))
    (hq : ∀ v h' L, Q1 v h' L → Fr n0 L ∧ Keep h h' ws' ∧ Qp v h') (hc : cells + kk ≤ R.cells) (hsl : slots + nn ≤ R.slots)
    (gws : ∀ x ∈ ws', n0 ≤ x ∧ (x ∈ ws ∨ s.heap.size ≤ x)) (sws : ∀ x ∈ ws', x ∈ sf) {g : JFrame} (hg : g.method = m) (hsize : g.locals.size = c.maxLocals) (hlen : ∀ sig, parseMethodDescriptor y.desc = some sig → argsL.length = sig.parameters.length) (hstack : g.stack = argsL.reverse ++ .ref a :: rest) (hW : 2 * g.monitorRoom + (rest.map fun v => v.category).sum ≤ Wd)
    (hd : decode c.code g.pc = .ok (.invokespecial index, 3)) (k : ∀ T' h' v, Wk p l e R s m args below meth c Z EL n0 ws own sf T' (cells + kk) (slots + nn) h' → Keep h h' ws' → Qp v h' → Go p e below Q (T'.setTop { g with pc := g.pc + 3, stack := v.toList ++ rest })) : Go p e below Q (T.setTop g) := by
  obtain ⟨vm0, locs, k0, X, eT, hS, hk, hZ, hown, hC, N, K, Ol, Fs⟩ := W
  obtain ⟨v, vm₁, ⟨U, Lb, kb, nb⟩, hw, X', ⟨L, q, e1, e2, e3⟩, st⟩ := X.specialBack hx hy1 hown (mvT (s := s.setVm vm0) hZ w1) (mvT (s := s.setVm vm0) hZ w2) (mvT (s := s.setVm vm0) hZ w4) hy (hK (s.setVm vm0) hZ) hg hsize (Steps.refl _) hlen hstack hW hd (fun _ _ => ⟨rfl, eT, hc, hsl⟩)
  dsimp only [Pt.U, Pt.locs, Pt.cells, Pt.slots] at X' q e1 e2 e3 st
  subst e1 e2 e3
  obtain ⟨N', K', q'⟩ := hq _ _ _ q
  exact Go.on st (k U U.heap v (wk_keep X' rfl K' gws sws hS hk hZ hown hC (N.app N') K Ol Fs) K' q')
theorem Wk.virtB (W : Wk p l e R s m args below meth c Z EL n0 ws own sf T cells slots h) (hx : p.tables.exec = Jvm.exec) {index : Nat} {C : String} (w1 : (Cond.methodLink own index y).before a0 Z = true) (w2 : (Cond.declares y).before a0 Z = true) (w5 : (Cond.selects C y y).before a0 Z = true) (w6 : (Cond.instanceMethod y).before a0 Z = true)
    (hy : y.cls ≠ "java/lang/invoke/MethodHandle" ∧ y.cls ≠ "java/lang/invoke/VarHandle") (Ea : Exa Z h a C) {argsL rest : List Value} {Wd : Nat} (hK : ∀ s' : State, Z.Warmed39 s'.vm → Back l R p e below s' args y 3 Wd (fun A as => as = (.ref a :: argsL).toArray ∧ A.U.heap = h ∧ A.cells + kk ≤ R.cells ∧ A.slots + nn ≤ R.slots) (fun A _ v B => ∃ L, Q1 v B.U.heap L ∧ B.locs = A.locs ++ L ∧ B.cells = A.cells + kk ∧ B.slots = A.slots + nn))
    (hq : ∀ v h' L, Q1 v h' L → Fr n0 L ∧ Keep h h' ws' ∧ Qp v h') (hc : cells + kk ≤ R.cells) (hsl : slots + nn ≤ R.slots)
    (gws : ∀ x ∈ ws', n0 ≤ x ∧ (x ∈ ws ∨ s.heap.size ≤ x)) (sws : ∀ x ∈ ws', x ∈ sf) {g : JFrame} (hg : g.method = m) (hsize : g.locals.size = c.maxLocals) (hlen : ∀ sig, parseMethodDescriptor y.desc = some sig → argsL.length = sig.parameters.length) (hstack : g.stack = argsL.reverse ++ .ref a :: rest) (hW : 2 * g.monitorRoom + (rest.map fun v => v.category).sum ≤ Wd)
    (hd : decode c.code g.pc = .ok (.invokevirtual index, 3)) (k : ∀ T' h' v, Wk p l e R s m args below meth c Z EL n0 ws own sf T' (cells + kk) (slots + nn) h' → Keep h h' ws' → Qp v h' → Go p e below Q (T'.setTop { g with pc := g.pc + 3, stack := v.toList ++ rest })) : Go p e below Q (T.setTop g) := by
  obtain ⟨vm0, locs, k0, X, eT, hS, hk, hZ, hown, hC, N, K, Ol, Fs⟩ := W
  obtain ⟨cB, kB, qa, qb, qc⟩ := isOf (s := s.setVm vm0) hZ eT Ea
  obtain ⟨v, vm₁, ⟨U, Lb, kb, nb⟩, hw, X', ⟨L, q, e1, e2, e3⟩, st⟩ := X.virtualBack hx (z := y) hown (mvT (s := s.setVm vm0) hZ w1) (mvT (s := s.setVm vm0) hZ w2) (notFace_of_selects (args := #[]) (mvT (s := s.setVm vm0) hZ w5)) (mvT (s := s.setVm vm0) hZ w5) (mvT (s := s.setVm vm0) hZ w6) hy (hK (s.setVm vm0) hZ) qa qc hg hsize (Steps.refl _) hlen hstack hW hd (fun _ _ => ⟨rfl, eT, hc, hsl⟩)
  dsimp only [Pt.U, Pt.locs, Pt.cells, Pt.slots] at X' q e1 e2 e3 st
  subst e1 e2 e3
  obtain ⟨N', K', q'⟩ := hq _ _ _ q
  exact Go.on st (k U U.heap v (wk_keep X' rfl K' gws sws hS hk hZ hown hC (N.app N') K Ol Fs) K' q')
theorem Wk.aaload (W : Wk p l e R s m args below meth c Z EL n0 ws own sf T cells slots h) (hx : p.tables.exec = Jvm.exec) {kc : ClassId} {ty : FieldType} {z j : Int32} {vs : List Value} {dv : Value} (V : Arv Z h a kc ty z vs dv) (hty : ty.isReference = true) (hj : ¬ j < 0 ∧ j < z) (hv : vs.getD j.toNatClampNeg dv = v)
    {g : JFrame} (hg : g.method = m) {rest : List Value} (hs : g.stack = .int j :: .ref a :: rest) (hd : decode c.code g.pc = .ok (.aaload, 1)) (k : Go p e below Q (T.setTop { g with pc := g.pc + 1, stack := v :: rest })) : Go p e below Q (T.setTop g) := by
  obtain ⟨vm0, locs, k0, X, eT, hS, hk, hZ, hown, r⟩ := W
  obtain ⟨cl, A, q1, S1, q3, H, G⟩ := V
  exact Go.of (fun t q => X.aaload hx (by rw [eT]; exact A.1) (State.isArrayOf_alike hZ.alike A.2.1) hty A.2.2 (inb_of S1 hj) (H.at (inb_of S1 hj) hv) hg hs hd t q) k
theorem ne_of_born {h h1 : Heap} (hb : h.size ≤ b) (hlt : a < h1.size) (hle : h1.size ≤ h.size) : a ≠ b := Nat.ne_of_lt (Nat.lt_of_lt_of_le hlt (Nat.le_trans hle hb))
theorem all1 {P : Addr → Prop} (q : P a) : ∀ x ∈ [a], P x := allS q all0
theorem all0i {P : Int32 → Prop} : ∀ x ∈ ([] : List Int32), P x := fun _ q => nomatch q
theorem allSi {P : Int32 → Prop} {y : Int32} {L : List Int32} (q : P y) (r : ∀ x ∈ L, P x) : ∀ x ∈ y :: L, P x := fun x z => (List.mem_cons.mp z).elim (fun u => u ▸ q) (r x)
theorem fin256 {P : Int32 → Prop} (t : ∀ k : Fin 256, P (Int32.ofNat k.val)) {q : Int32} (hq : ¬ q < 0 ∧ ¬ (255 : Int32) < q) : P q := by
  have h0 : ¬ q.toInt < 0 := fun z => hq.1 (by rw [Int32.lt_iff_toInt_lt]; exact z)
  have h1 : ¬ 255 < q.toInt := fun z => hq.2 (by rw [Int32.lt_iff_toInt_lt]; exact z)
  have e : q = Int32.ofNat q.toInt.toNat := by
    apply Int32.toInt_inj.mp
    rw [Int32.toInt_ofNat_of_lt (by omega)]
    omega
  rw [e]
  exact t ⟨q.toInt.toNat, by omega⟩
theorem and255 (x : Int32) : ¬ (x &&& (255 : Int32)) < 0 ∧ ¬ (255 : Int32) < (x &&& (255 : Int32)) := by
  have t : ∀ k : Fin 256, ¬ (Int32.ofNat k.val) < 0 ∧ ¬ (255 : Int32) < (Int32.ofNat k.val) := by decide +kernel
  have h : (x &&& 255).toBitVec.toNat < 256 := by
    simp only [Int32.toBitVec_and, BitVec.toNat_and]
    exact Nat.lt_succ_of_le Nat.and_le_right
  have e : (x &&& 255) = Int32.ofNat (x &&& 255).toBitVec.toNat := by
    apply Int32.toBitVec_inj.mp
    show _ = BitVec.ofNat 32 _
    rw [BitVec.ofNat_toNat]; simp
  rw [e]
  exact t ⟨_, h⟩
theorem snd255 {cs : List Int32} (h : ∀ c ∈ cs, ¬ c < 0 ∧ ¬ (255 : Int32) < c) : ∀ c ∈ cs, ¬ (255 : Int32) < c := fun c hc => (h c hc).2
theorem char_id {q : Int32} (hq : ¬ q < 0 ∧ ¬ (255 : Int32) < q) : q.toUInt32.toUInt16.toUInt32.toInt32 = q := fin256 (P := fun q => q.toUInt32.toUInt16.toUInt32.toInt32 = q) (by decide +kernel) hq
theorem char255 (x : Int32) : ∃ q : Int32, (x &&& (255 : Int32)).toUInt32.toUInt16.toUInt32.toInt32 = q ∧ (¬ q < 0 ∧ ¬ (255 : Int32) < q) ∧ q = x &&& (255 : Int32) := ⟨x &&& 255, char_id (and255 x), and255 x, rfl⟩
theorem nar_char {q : Int32} (hq : ¬ q < 0 ∧ ¬ (255 : Int32) < q) : nar .char q = q := fin256 (P := fun q => nar .char q = q) (by decide +kernel) hq
theorem and3 (x : Int32) : (x &&& (3 : Int32)) = (0 : Int32) ∨ (x &&& (3 : Int32)) = (1 : Int32) ∨ (x &&& (3 : Int32)) = (2 : Int32) ∨ (x &&& (3 : Int32)) = (3 : Int32) := by
  have t : ∀ k : Fin 4, (Int32.ofNat k.val) = (0 : Int32) ∨ (Int32.ofNat k.val) = (1 : Int32) ∨ (Int32.ofNat k.val) = (2 : Int32) ∨ (Int32.ofNat k.val) = (3 : Int32) := by decide +kernel
  have h : (x &&& 3).toBitVec.toNat < 4 := by
    simp only [Int32.toBitVec_and, BitVec.toNat_and]
    exact Nat.lt_succ_of_le Nat.and_le_right
  have e : (x &&& 3) = Int32.ofNat (x &&& 3).toBitVec.toNat := by
    apply Int32.toBitVec_inj.mp
    show _ = BitVec.ofNat 32 _
    rw [BitVec.ofNat_toNat]; simp
  rw [e]
  exact t ⟨_, h⟩
theorem and7 (x : Int32) : (x &&& (7 : Int32)) = (0 : Int32) ∨ (x &&& (7 : Int32)) = (1 : Int32) ∨ (x &&& (7 : Int32)) = (2 : Int32) ∨ (x &&& (7 : Int32)) = (3 : Int32) ∨ (x &&& (7 : Int32)) = (4 : Int32) ∨ (x &&& (7 : Int32)) = (5 : Int32) ∨ (x &&& (7 : Int32)) = (6 : Int32) ∨ (x &&& (7 : Int32)) = (7 : Int32) := by
  have t : ∀ k : Fin 8, (Int32.ofNat k.val) = (0 : Int32) ∨ (Int32.ofNat k.val) = (1 : Int32) ∨ (Int32.ofNat k.val) = (2 : Int32) ∨ (Int32.ofNat k.val) = (3 : Int32) ∨ (Int32.ofNat k.val) = (4 : Int32) ∨ (Int32.ofNat k.val) = (5 : Int32) ∨ (Int32.ofNat k.val) = (6 : Int32) ∨ (Int32.ofNat k.val) = (7 : Int32) := by decide +kernel
  have h : (x &&& 7).toBitVec.toNat < 8 := by
    simp only [Int32.toBitVec_and, BitVec.toNat_and]
    exact Nat.lt_succ_of_le Nat.and_le_right
  have e : (x &&& 7) = Int32.ofNat (x &&& 7).toBitVec.toNat := by
    apply Int32.toBitVec_inj.mp
    show _ = BitVec.ofNat 32 _
    rw [BitVec.ofNat_toNat]; simp
  rw [e]
  exact t ⟨_, h⟩
theorem nar_byte (x : Int32) : nar .byte (x.toInt8.toInt32) = x.toInt8.toInt32 := by
  show x.toInt8.toInt32.toInt8.toInt32 = x.toInt8.toInt32
  simp
end OwnKit
end Jvm.Pilot.@@N@@
namespace Jvm.Pilot.@@N@@
open Jvm Jvm.ClassFile Sem Op Lib Jvm.Free Jvm.Stand Jvm.LawKit Jvm.RoadKit Bundle Jvm.Pilot.@@N@@.Jvm.D
section OwnStr
variable {p : Program} {l : Launch} {e : Env} {R : Room} {s : State} {m : MethodId} {args : Array Value} {below : List Frame} {meth : Method} {c : Code} {T T' : State} {locs : List Loc} {cells slots : Nat} {Z : State} {a0 : Array Value} {h h' : Heap} {EL : List (String × Nat)} {n0 k0 : Nat} {ws ws' sf : List Addr} {own : String} {Q : Outcome → State → Prop} {a b x : Addr} {v : Value} {sl : Nat}
variable {y : MethodName} {bytes : ByteArray} {maxL : Nat} {zc : Int32} {cs ds : List Int32} {kC : ClassId} {N : Int32} {d : Value} {n : Nat} {v0 c0 : Value} {index : Nat} {Wd : Nat} {g : JFrame} {rest : List Value}
/-- a String at x that spells cs -/
def Str (Z : State) (h : Heap) (x : Addr) (cs : List Int32) : Prop := ∃ (t : Addr) (kb : ClassId) (cd N2 : Int32) (vs : List Value), Exa Z h x "java/lang/String" ∧ Fld Z h x "java/lang/String" "value" "[B" (.ref t) ∧ Fld Z h x "java/lang/String" "coder" "B" (.int cd) ∧ Arv Z h t kb .byte N2 vs (.int 0) ∧ StrChars.Road.CodA cs cd N2 vs ∧ (∀ c ∈ cs, ¬ c < 0 ∧ ¬ (65535 : Int32) < c) ∧ cs.length ≤ 4000
theorem Str.exa (S : Str Z h x cs) : Exa Z h x "java/lang/String" := by
  obtain ⟨_, _, _, _, _, E, _⟩ := S
  exact E
theorem Str.keep0 (S : Str Z h x cs) (K : Keep h h' []) : Str Z h' x cs := by
  obtain ⟨t, kb, cd, N2, vs, E, V, C, A, r⟩ := S
  exact ⟨t, kb, cd, N2, vs, E.keep K, V.keep K nin0, C.keep K nin0, A.keep K nin0, r⟩
theorem Str.ext (S : Str Z h x cs) (E : Ext h h') : Str Z h' x cs := S.keep0 ((Keep.refl h []).ext E)
theorem Str.open_ (S : Str Z h x cs) (hlat : ∀ c ∈ cs, ¬ (255 : Int32) < c) : ∃ (t : Addr) (kb : ClassId), Exa Z h x "java/lang/String" ∧ Fld Z h x "java/lang/String" "value" "[B" (.ref t) ∧ Fld Z h x "java/lang/String" "coder" "B" (.int 0) ∧ Arv Z h t kb .byte (Int32.ofNat cs.length) (cs.map fun c => Value.int (StrChars.lo8 c)) (.int 0) := by
  obtain ⟨t, kb, cd, N2, vs, E, V, C, A, hc, -, -⟩ := S
  rcases hc with ⟨rfl, rfl, rfl, -⟩ | ⟨-, -, -, c, hc, hw⟩
  · exact ⟨t, kb, E, V, C, A⟩
  · exact absurd hw (hlat c hc)
theorem up255 (h : ∀ c ∈ cs, ¬ c < 0 ∧ ¬ (255 : Int32) < c) : ∀ c ∈ cs, ¬ c < 0 ∧ ¬ (65535 : Int32) < c := fun c hc => ⟨(h c hc).1, fun q => (h c hc).2 (by rw [Int32.lt_iff_toInt_lt] at q ⊢; have e1 : (65535 : Int32).toInt = 65535 := rfl; have e2 : (255 : Int32).toInt = 255 := rfl; omega)⟩
theorem pdChars : parseMethodDescriptor "([C)V" = some ⟨[.array .char], none⟩ := by decide +kernel
theorem Wk.newStr (W : Wk p l e R s m args below meth c Z EL n0 ws own sf T cells slots h) (hx : p.tables.exec = Jvm.exec) (hws : ∀ d ∈ StrChars.Road.words, d.before a0 Z = true) (wi : (Cond.instantiable "java/lang/String" 4).before a0 Z = true) (SC : Sta Z Z.heap "java/lang/String" "COMPACT_STRINGS" "Z" (.int zc)) (hz : ¬ zc = 0)
    (w1 : (Cond.methodLink own index ⟨"java/lang/String", "<init>", "([C)V"⟩).before a0 Z = true) (w2 : (Cond.instanceMethod ⟨"java/lang/String", "<init>", "([C)V"⟩).before a0 Z = true) (w4 : (Cond.code ⟨"java/lang/String", "<init>", "([C)V"⟩ bytes maxL none).before a0 Z = true)
    (Ex : Exa Z h x "java/lang/String") (V : Fld Z h x "java/lang/String" "value" "[B" v0) (C : Fld Z h x "java/lang/String" "coder" "B" c0) (A : Arv Z h b kC .char N (cs.map Value.int) d) (hn : cs.length = n) (hN : N = Int32.ofNat n) (l0 : 0 < n) (l2 : n ≤ 4000) (hp : ∀ c ∈ cs, ¬ c < 0 ∧ ¬ (255 : Int32) < c) (gx : n0 ≤ x) (gw : x ∈ ws ∨ s.heap.size ≤ x) (sx : x ∈ sf)
    (hfr : 4 ≤ R.frames) (hlo : Wd + 65 ≤ R.locals) (hc : cells + 1 ≤ R.cells) (hsl : slots + n ≤ R.slots) (hg : g.method = m) (hsize : g.locals.size = c.maxLocals) (hstack : g.stack = .ref b :: .ref x :: rest) (hW : 2 * g.monitorRoom + (rest.map fun v => v.category).sum ≤ Wd) (hd : decode c.code g.pc = .ok (.invokespecial index, 3))
    (k : ∀ T' h', Wk p l e R s m args below meth c Z EL n0 ws own sf T' (cells + 1) (slots + n) h' → Keep h h' [x] → Str Z h' x cs → Go p e below Q (T'.setTop { g with pc := g.pc + 3, stack := rest })) : Go p e below Q (T.setTop g) := by
  have hle := W.n0le
  have hO := W.old
  refine W.specB hx (y := ⟨"java/lang/String", "<init>", "([C)V"⟩) rfl w1 w2 w4 (by decide) (kk := 1) (nn := n) (ws' := [x]) (a := x) (Qp := fun v h' => v = none ∧ Str Z h' x cs) (Q1 := fun v h' L => StrChars.Road.QV Z x N (cs.map fun c => c.toInt8.toInt32) h n0 v h' L) (argsL := [.ref b]) (rest := rest) (Wd := Wd)
    (fun s' hZ' => StrChars.Road.backV (W := Wd) hZ' hws wi gx hle Ex V C A (SC.ext hO.2) hz hn hN l0 l2 hp rfl hfr hlo) (fun v h' L q => ?_) hc hsl (all1 ⟨gx, gw⟩) (all1 sx) hg hsize (lenOf pdChars rfl) hstack hW hd (fun T' h' v W' K' q => ?_)
  · obtain ⟨rfl, q1, q2, q3, q4, t, kb, -, -, -, q5, q6⟩ := q
    refine ⟨q1, q2, rfl, t, kb, 0, N, _, q3, q5, q4, q6, ?_, up255 hp, by omega⟩
    subst hN
    exact StrChars.Road.codOf hn (fun c hc => (hp c hc).2)
  · obtain ⟨rfl, S⟩ := q
    exact k T' h' W' K' S
end OwnStr
end Jvm.Pilot.@@N@@
namespace Jvm.Pilot.@@N@@
open Jvm Jvm.ClassFile Sem Op Lib Jvm.Free Jvm.Stand Jvm.LawKit Jvm.RoadKit Bundle Jvm.Pilot.@@N@@.Jvm.D
section OwnStrMore
variable {p : Program} {l : Launch} {e : Env} {R : Room} {s : State} {m : MethodId} {args : Array Value} {below : List Frame} {meth : Method} {c : Code} {T T' : State} {cells slots : Nat} {Z : State} {a0 : Array Value} {h h' : Heap} {EL : List (String × Nat)} {n0 : Nat} {ws sf : List Addr} {own : String} {Q : Outcome → State → Prop} {a b x y : Addr}
variable {zc : Int32} {cs ds : List Int32} {n : Nat} {index : Nat} {Wd : Nat} {g : JFrame} {rest : List Value} {fm : Value}
theorem pdStrLen : parseMethodDescriptor "()I" = some ⟨[], some .int⟩ := by decide +kernel
theorem Wk.strLen (W : Wk p l e R s m args below meth c Z EL n0 ws own sf T cells slots h) (hx : p.tables.exec = Jvm.exec) (hsw : ∀ d ∈ StrChars.Road.wordsLen, d.before a0 Z = true) (wi : (Cond.instantiable "java/lang/String" 4).before a0 Z = true) (SC : Sta Z Z.heap "java/lang/String" "COMPACT_STRINGS" "Z" (.int zc)) (hz : ¬ zc = 0) (S : Str Z h x cs)
    (w1 : (Cond.methodLink own index ⟨"java/lang/String", "length", "()I"⟩).before a0 Z = true) (w2 : (Cond.declares ⟨"java/lang/String", "length", "()I"⟩).before a0 Z = true) (w5 : (Cond.selects "java/lang/String" ⟨"java/lang/String", "length", "()I"⟩ ⟨"java/lang/String", "length", "()I"⟩).before a0 Z = true) (w6 : (Cond.instanceMethod ⟨"java/lang/String", "length", "()I"⟩).before a0 Z = true)
    (hfr : 2 ≤ R.frames) (hlo : Wd + 25 ≤ R.locals) (hc : cells ≤ R.cells) (hsl : slots ≤ R.slots) (hg : g.method = m) (hsize : g.locals.size = c.maxLocals) (hstack : g.stack = .ref x :: rest) (hW : 2 * g.monitorRoom + (rest.map fun v => v.category).sum ≤ Wd) (hd : decode c.code g.pc = .ok (.invokevirtual index, 3))
    (k : ∀ T', Wk p l e R s m args below meth c Z EL n0 ws own sf T' cells slots h → Go p e below Q (T'.setTop { g with pc := g.pc + 3, stack := (.int (Int32.ofNat cs.length)) :: rest })) : Go p e below Q (T.setTop g) := by
  have hO := W.old
  have hEx := S.exa
  obtain ⟨t, kb, cd, N2, vs, E1, V1, C1, A1, hcd, hbd, hln⟩ := S
  refine W.virtB hx w1 w2 w5 w6 (by decide) hEx (kk := 0) (nn := 0) (ws' := []) (Qp := fun v h' => v = some (.int (Int32.ofNat cs.length)) ∧ h = h') (Q1 := fun v h' L => v = some (.int (Int32.ofNat cs.length)) ∧ L = [] ∧ h' = h) (argsL := []) (rest := rest) (Wd := Wd)
    (fun s' hZ' => StrChars.Road.lenW (W := Wd) hZ' hsw wi E1 V1 C1 A1 hcd hbd (SC.ext hO.2) hz hln hfr hlo) (fun v h' L q => ?_) hc hsl all0 all0 hg hsize (lenOf pdStrLen rfl) hstack hW hd (fun T' h' v W' K' q => ?_)
  · obtain ⟨q1, rfl, rfl⟩ := q
    exact ⟨Fr.nil n0, Keep.refl _ _, q1, rfl⟩
  · obtain ⟨q1, rfl⟩ := q
    subst q1
    exact k T' W'
end OwnStrMore
end Jvm.Pilot.@@N@@
namespace Jvm.Pilot.@@N@@
open Jvm Jvm.ClassFile Sem Op Lib Jvm.Free Jvm.Stand Jvm.LawKit Jvm.RoadKit Bundle Jvm.Pilot.@@N@@.Jvm.D
section OwnStrMore
variable {p : Program} {l : Launch} {e : Env} {R : Room} {s : State} {m : MethodId} {args : Array Value} {below : List Frame} {meth : Method} {c : Code} {T T' : State} {cells slots : Nat} {Z : State} {a0 : Array Value} {h h' : Heap} {EL : List (String × Nat)} {n0 : Nat} {ws sf : List Addr} {own : String} {Q : Outcome → State → Prop} {a b x y : Addr}
variable {zc : Int32} {cs ds : List Int32} {n : Nat} {index : Nat} {Wd : Nat} {g : JFrame} {rest : List Value} {fm : Value}
theorem lat0 {cd N2 : Int32} {vs : List Value} {i : Nat} (hlat : ∀ c ∈ cs, ¬ (255 : Int32) < c) (hc : StrChars.Road.CodA cs cd N2 vs) (hi : i < cs.length) : cd = 0 := by
  rcases hc with ⟨h1, -⟩ | ⟨-, -, -, c, hc, hw⟩
  · exact h1
  · exact absurd hw (hlat c hc)
theorem pdStrChar : parseMethodDescriptor "(I)C" = some ⟨[.int], some .char⟩ := by decide +kernel
theorem Wk.strChar (W : Wk p l e R s m args below meth c Z EL n0 ws own sf T cells slots h) (hx : p.tables.exec = Jvm.exec) (hsw : ∀ d ∈ StrChars.Road.wordsChN, d.before a0 Z = true) (wi : (Cond.instantiable "java/lang/String" 4).before a0 Z = true) (SC : Sta Z Z.heap "java/lang/String" "COMPACT_STRINGS" "Z" (.int zc)) (hz : ¬ zc = 0) (SF : Sta Z Z.heap "jdk/internal/util/Preconditions" "SIOOBE_FORMATTER" "Ljava/util/function/BiFunction;" fm) (rf : fm.isRef = true) (S : Str Z h x cs) (hlat : ∀ c ∈ cs, ¬ (255 : Int32) < c) {i : Nat} {j : Int32} (hi : i < cs.length) (hj : j = Int32.ofNat i)
    (w1 : (Cond.methodLink own index ⟨"java/lang/String", "charAt", "(I)C"⟩).before a0 Z = true) (w2 : (Cond.declares ⟨"java/lang/String", "charAt", "(I)C"⟩).before a0 Z = true) (w5 : (Cond.selects "java/lang/String" ⟨"java/lang/String", "charAt", "(I)C"⟩ ⟨"java/lang/String", "charAt", "(I)C"⟩).before a0 Z = true) (w6 : (Cond.instanceMethod ⟨"java/lang/String", "charAt", "(I)C"⟩).before a0 Z = true)
    (hfr : 4 ≤ R.frames) (hlo : Wd + 53 ≤ R.locals) (hc : cells ≤ R.cells) (hsl : slots ≤ R.slots) (hg : g.method = m) (hsize : g.locals.size = c.maxLocals) (hstack : g.stack = .int j :: .ref x :: rest) (hW : 2 * g.monitorRoom + (rest.map fun v => v.category).sum ≤ Wd) (hd : decode c.code g.pc = .ok (.invokevirtual index, 3))
    (k : ∀ T', Wk p l e R s m args below meth c Z EL n0 ws own sf T' cells slots h → Go p e below Q (T'.setTop { g with pc := g.pc + 3, stack := (.int (cs.getD i 0)) :: rest })) : Go p e below Q (T.setTop g) := by
  have hO := W.old
  have hEx := S.exa
  obtain ⟨t, kb, cd, N2, vs, E1, V1, C1, A1, hcd, hbd, hln⟩ := S
  obtain rfl : cd = 0 := lat0 hlat hcd hi
  refine W.virtB hx w1 w2 w5 w6 (by decide) hEx (kk := 0) (nn := 0) (ws' := []) (Qp := fun v h' => v = some (.int (cs.getD i 0)) ∧ h = h') (Q1 := fun v h' L => v = some (.int (cs.getD i 0)) ∧ L = [] ∧ h' = h) (argsL := [.int j]) (rest := rest) (Wd := Wd)
    (fun s' hZ' => StrChars.Road.chN (W := Wd) (i := i) (j := j) hZ' hsw wi E1 V1 C1 A1 hcd hbd (SC.ext hO.2) hz (SF.ext hO.2) rf hln hi hj hfr hlo) (fun v h' L q => ?_) hc hsl all0 all0 hg hsize (lenOf pdStrChar rfl) hstack hW hd (fun T' h' v W' K' q => ?_)
  · obtain ⟨q1, rfl, rfl⟩ := q
    exact ⟨Fr.nil n0, Keep.refl _ _, q1, rfl⟩
  · obtain ⟨q1, rfl⟩ := q
    subst q1
    exact k T' W'
end OwnStrMore
end Jvm.Pilot.@@N@@
namespace Jvm.Pilot.@@N@@
open Jvm Jvm.ClassFile Sem Op Lib Jvm.Free Jvm.Stand Jvm.LawKit Jvm.RoadKit Bundle Jvm.Pilot.@@N@@.Jvm.D
section OwnStrMore
variable {p : Program} {l : Launch} {e : Env} {R : Room} {s : State} {m : MethodId} {args : Array Value} {below : List Frame} {meth : Method} {c : Code} {T T' : State} {cells slots : Nat} {Z : State} {a0 : Array Value} {h h' : Heap} {EL : List (String × Nat)} {n0 : Nat} {ws sf : List Addr} {own : String} {Q : Outcome → State → Prop} {a b x y : Addr}
variable {zc : Int32} {cs ds : List Int32} {n : Nat} {index : Nat} {Wd : Nat} {g : JFrame} {rest : List Value} {fm : Value}
theorem pdStrEq : parseMethodDescriptor "(Ljava/lang/Object;)Z" = some ⟨[.object "java/lang/Object"], some .boolean⟩ := by decide +kernel
theorem Wk.strEq (W : Wk p l e R s m args below meth c Z EL n0 ws own sf T cells slots h) (hx : p.tables.exec = Jvm.exec) (hsw : ∀ d ∈ StrChars.Road.wordsEq, d.before a0 Z = true) (wi : (Cond.instantiable "java/lang/String" 4).before a0 Z = true) (SC : Sta Z Z.heap "java/lang/String" "COMPACT_STRINGS" "Z" (.int zc)) (hz : ¬ zc = 0) (S : Str Z h x cs) (S' : Str Z h y ds)
    (w1 : (Cond.methodLink own index ⟨"java/lang/String", "equals", "(Ljava/lang/Object;)Z"⟩).before a0 Z = true) (w2 : (Cond.declares ⟨"java/lang/String", "equals", "(Ljava/lang/Object;)Z"⟩).before a0 Z = true) (w5 : (Cond.selects "java/lang/String" ⟨"java/lang/String", "equals", "(Ljava/lang/Object;)Z"⟩ ⟨"java/lang/String", "equals", "(Ljava/lang/Object;)Z"⟩).before a0 Z = true) (w6 : (Cond.instanceMethod ⟨"java/lang/String", "equals", "(Ljava/lang/Object;)Z"⟩).before a0 Z = true)
    (hfr : 2 ≤ R.frames) (hlo : Wd + 28 ≤ R.locals) (hc : cells ≤ R.cells) (hsl : slots ≤ R.slots) (hg : g.method = m) (hsize : g.locals.size = c.maxLocals) (hstack : g.stack = .ref y :: .ref x :: rest) (hW : 2 * g.monitorRoom + (rest.map fun v => v.category).sum ≤ Wd) (hd : decode c.code g.pc = .ok (.invokevirtual index, 3))
    (k : ∀ T' (r : Int32), (r = 1 ∧ cs = ds ∨ r = 0 ∧ ¬ cs = ds) → Wk p l e R s m args below meth c Z EL n0 ws own sf T' cells slots h → Go p e below Q (T'.setTop { g with pc := g.pc + 3, stack := .int r :: rest })) : Go p e below Q (T.setTop g) := by
  have hO := W.old
  have hEx := S.exa
  obtain ⟨t, kb, cd, N2, vs, E1, V1, C1, A1, hcd, hbd, hln⟩ := S
  obtain ⟨t', kb', cd', N2', vs', E1', V1', C1', A1', hcd', hbd', hln'⟩ := S'
  refine W.virtB hx w1 w2 w5 w6 (by decide) hEx (kk := 0) (nn := 0) (ws' := []) (Qp := fun v h' => ((v = some (.int 1) ∧ cs = ds) ∨ (v = some (.int 0) ∧ ¬ cs = ds)) ∧ h = h') (Q1 := fun v h' L => ((v = some (.int 1) ∧ cs = ds) ∨ (v = some (.int 0) ∧ ¬ cs = ds)) ∧ L = [] ∧ h' = h) (argsL := [.ref y]) (rest := rest) (Wd := Wd)
    (fun s' hZ' => StrChars.Road.eqW (W := Wd) hZ' hsw wi E1 V1 C1 A1 hcd hbd hln E1' V1' C1' A1' hcd' hbd' hln' (SC.ext hO.2) hz hfr hlo) (fun v h' L q => ?_) hc hsl all0 all0 hg hsize (lenOf pdStrEq rfl) hstack hW hd (fun T' h' v W' K' q => ?_)
  · obtain ⟨q1, rfl, rfl⟩ := q
    exact ⟨Fr.nil n0, Keep.refl _ _, q1, rfl⟩
  · obtain ⟨q1, rfl⟩ := q
    rcases q1 with ⟨rfl, q1⟩ | ⟨rfl, q1⟩
    · exact k T' 1 (Or.inl ⟨rfl, q1⟩) W'
    · exact k T' 0 (Or.inr ⟨rfl, q1⟩) W'
end OwnStrMore
end Jvm.Pilot.@@N@@
namespace Jvm.Pilot.@@N@@
open Jvm Jvm.ClassFile Sem Op Lib Jvm.Free Jvm.Stand Jvm.LawKit Jvm.RoadKit Bundle Jvm.Pilot.@@N@@.Jvm.D
open Jvm.Free.XT (cmpL)
/-! plain steps by evaluation -/
abbrev Tb := List (Nat × Instr × Nat)
def tAt : Tb → Nat → Option (Instr × Nat)
  | [], _ => none
  | q :: t, pc => bif Nat.beq q.1 pc then some q.2 else tAt t pc
abbrev TOk (b : ByteArray) (t : Tb) : Prop := ∀ q ∈ t, decode b q.1 = .ok q.2
theorem tAt_mem : ∀ {t : Tb} {q : Nat} {r : Instr × Nat}, tAt t q = some r → (q, r) ∈ t
  | [], _, _, h => nomatch h
  | (a, b) :: t, q, r, h => by
    unfold tAt at h
    cases hb : Nat.beq a q with
    | true =>
      simp only [hb, cond_true, Option.some.injEq] at h
      have := Nat.eq_of_beq_eq_true hb
      subst this; subst h
      exact List.mem_cons_self
    | false =>
      simp only [hb, cond_false] at h
      exact List.mem_cons_of_mem _ (tAt_mem h)
theorem tk {c : Code} {b : ByteArray} {t : Tb} (hby : c.code = b) (K : TOk b t) (q : Nat) {r : Instr × Nat} (h : tAt t q = some r) : decode c.code q = .ok r := by
  have k := K _ (tAt_mem h)
  rw [hby]
  exact k
def sAt : List Slot → Nat → Option Slot
  | [], _ => none
  | a :: _, 0 => some a
  | _ :: l, k + 1 => sAt l k
theorem sAt_eq : ∀ (l : List Slot) (k : Nat), l.toArray[k]? = sAt l k := by
  intro l k
  rw [List.getElem?_toArray]
  induction l generalizing k with
  | nil => rfl
  | cons a l ih =>
    cases k with
    | zero => rfl
    | succ k => rw [List.getElem?_cons_succ]; exact ih k
def st1 : List Slot → Nat → Value → Option (List Slot)
  | [], _, _ => none
  | .unset :: l, 0, v => some (.val v :: l)
  | .val w :: l, 0, v => bif Nat.beq w.category 1 then some (.val v :: l) else none
  | .second :: _, 0, _ => none
  | o :: l, k + 1, v => match st1 l k v with
    | some l' => some (o :: l')
    | none => none
theorem st1_eq : ∀ {l : List Slot} {k : Nat} {v : Value} {l' : List Slot}, st1 l k v = some l' → ∃ o, l[k]? = some o ∧ (o = .unset ∨ ∃ w, o = .val w ∧ w.category = 1) ∧ l' = l.set k (.val v) := by
  intro l
  induction l with
  | nil => intro k v l' h; simp [st1] at h
  | cons a l ih =>
    intro k v l' h
    cases k with
    | zero =>
      cases a with
      | unset => simp only [st1, Option.some.injEq] at h; subst h; exact ⟨_, rfl, Or.inl rfl, rfl⟩
      | second => simp [st1] at h
      | val w =>
        unfold st1 at h
        cases hb : Nat.beq w.category 1 with
        | false => simp [hb] at h
        | true => simp only [hb, cond_true, Option.some.injEq] at h; subst h; exact ⟨_, rfl, Or.inr ⟨w, rfl, Nat.eq_of_beq_eq_true hb⟩, rfl⟩
    | succ k =>
      unfold st1 at h
      cases hs : st1 l k v with
      | none => simp [hs] at h
      | some l2 =>
        simp only [hs, Option.some.injEq] at h
        obtain ⟨o, h1, h2, h3⟩ := ih hs
        subst h; subst h3
        exact ⟨o, by rw [List.getElem?_cons_succ]; exact h1, h2, rfl⟩
theorem st1_ok {l : List Slot} {k : Nat} {v : Value} {l' : List Slot} (hv : v.category = 1) (h : st1 l k v = some l') : storeLocals l.toArray k v = some l'.toArray := by
  obtain ⟨o, h1, h2, rfl⟩ := st1_eq h
  rw [XS.store1 (by rw [List.getElem?_toArray]; exact h1) h2 hv, List.setIfInBounds_toArray]
def jT (pc : Nat) (o : Int) : Option Nat := match Int.add (Int.ofNat pc) o with
  | .ofNat q => some q
  | .negSucc _ => none
theorem jT_ok {pc : Nat} {o : Int} {q : Nat} (h : jT pc o = some q) : 0 ≤ (pc : Int) + o ∧ ((pc : Int) + o).toNat = q := by
  unfold jT at h
  have e : (pc : Int) + o = Int.add (Int.ofNat pc) o := rfl
  rw [e]
  cases hz : Int.add (Int.ofNat pc) o with
  | ofNat z => rw [hz] at h; simp only [Option.some.injEq] at h; subst h; exact ⟨Int.natCast_nonneg _, rfl⟩
  | negSucc z => rw [hz] at h; exact nomatch h
abbrev PF := Nat × Nat × List Slot × List Value
def ldI (n pc : Nat) (l : List Slot) (s : List Value) (k : Nat) : Option PF := match sAt l k with
  | some (.val (.int v)) => some (n, pc + n, l, .int v :: s)
  | _ => none
def ldL (n pc : Nat) (l : List Slot) (s : List Value) (k : Nat) : Option PF := match sAt l k with
  | some (.val (.long v)) => some (n, pc + n, l, .long v :: s)
  | _ => none
def ldA (n pc : Nat) (l : List Slot) (s : List Value) (k : Nat) : Option PF := match sAt l k with
  | some (.val (.ref v)) => some (n, pc + n, l, .ref v :: s)
  | some (.val .null) => some (n, pc + n, l, .null :: s)
  | _ => none
def stB (n pc : Nat) (r : List Value) : Option (List Slot) → Option PF
  | some l' => some (n, pc + n, l', r)
  | none => none
def stI (n pc : Nat) (l : List Slot) (s : List Value) (k : Nat) : Option PF := match s with
  | .int v :: r => stB n pc r (st1 l k (.int v))
  | _ => none
def stA (n pc : Nat) (l : List Slot) (s : List Value) (k : Nat) : Option PF := match s with
  | .ref v :: r => stB n pc r (st1 l k (.ref v))
  | .null :: r => stB n pc r (st1 l k .null)
  | _ => none
def stL (n pc : Nat) (l : List Slot) (s : List Value) (k : Nat) : Option PF := match s with
  | .long v :: r => match storeLocals l.toArray k (.long v) with
    | some l' => some (n, pc + n, l'.toList, r)
    | none => none
  | _ => none
def i1 (pc : Nat) (l : List Slot) (s : List Value) (f : Int32 → Value) : Option PF := match s with
  | .int x :: r => some (1, pc + 1, l, f x :: r)
  | _ => none
def l1 (pc : Nat) (l : List Slot) (s : List Value) (f : Int64 → Value) : Option PF := match s with
  | .long x :: r => some (1, pc + 1, l, f x :: r)
  | _ => none
def i2 (pc : Nat) (l : List Slot) (s : List Value) (f : Int32 → Int32 → Value) : Option PF := match s with
  | .int y :: .int x :: r => some (1, pc + 1, l, f x y :: r)
  | _ => none
def l2 (pc : Nat) (l : List Slot) (s : List Value) (f : Int64 → Int64 → Value) : Option PF := match s with
  | .long y :: .long x :: r => some (1, pc + 1, l, f x y :: r)
  | _ => none
/-- a plain step: its length, and the frame behind it -/
def pS (pc : Nat) (l : List Slot) (s : List Value) : Instr → Option PF
  | .iload k => ldI 2 pc l s k
  | .iload_n k => ldI 1 pc l s k.val
  | .lload k => ldL 2 pc l s k
  | .lload_n k => ldL 1 pc l s k.val
  | .aload k => ldA 2 pc l s k
  | .aload_n k => ldA 1 pc l s k.val
  | .istore k => stI 2 pc l s k
  | .istore_n k => stI 1 pc l s k.val
  | .lstore k => stL 2 pc l s k
  | .lstore_n k => stL 1 pc l s k.val
  | .astore k => stA 2 pc l s k
  | .astore_n k => stA 1 pc l s k.val
  | .iconst i => some (1, pc + 1, l, .int (Int32.ofInt i) :: s)
  | .bipush i => some (2, pc + 2, l, .int (Int8.ofInt i).toInt32 :: s)
  | .sipush i => some (3, pc + 3, l, .int (Int16.ofInt i).toInt32 :: s)
  | .lconst k => some (1, pc + 1, l, .long (Int64.ofNat k) :: s)
  | .aconst_null => some (1, pc + 1, l, .null :: s)
  | .iadd => i2 pc l s fun x y => .int (x + y)
  | .isub => i2 pc l s fun x y => .int (x - y)
  | .imul => i2 pc l s fun x y => .int (x * y)
  | .iand => i2 pc l s fun x y => .int (x &&& y)
  | .ior => i2 pc l s fun x y => .int (x ||| y)
  | .ishl => i2 pc l s fun x y => .int (x <<< (y &&& 31))
  | .ishr => i2 pc l s fun x y => .int (x >>> (y &&& 31))
  | .iushr => i2 pc l s fun x y => .int ((x.toUInt32 >>> (y &&& 31).toUInt32).toInt32)
  | .lsub => l2 pc l s fun x y => .long (x - y)
  | .ladd => l2 pc l s fun x y => .long (x + y)
  | .lmul => l2 pc l s fun x y => .long (x * y)
  | .land => l2 pc l s fun x y => .long (x &&& y)
  | .lcmp => l2 pc l s fun x y => .int (XT.cmpL x y)
  | .lushr => match s with
    | .int y :: .long x :: r => some (1, pc + 1, l, .long ((x.toUInt64 >>> (y &&& 0x3f).toInt64.toUInt64).toInt64) :: r)
    | _ => none
  | .ineg => i1 pc l s fun x => .int (-x)
  | .i2b => i1 pc l s fun x => .int (x.toInt8.toInt32)
  | .i2c => i1 pc l s fun x => .int (x.toUInt32.toUInt16.toUInt32.toInt32)
  | .i2l => i1 pc l s fun x => .long x.toInt64
  | .l2i => l1 pc l s fun x => .int x.toInt32
  | .lneg => l1 pc l s fun x => .long (-x)
  | .dup => match s with
    | .int x :: r => some (1, pc + 1, l, .int x :: .int x :: r)
    | .ref x :: r => some (1, pc + 1, l, .ref x :: .ref x :: r)
    | .null :: r => some (1, pc + 1, l, .null :: .null :: r)
    | _ => none
  | .pop => match s with
    | .int _ :: r => some (1, pc + 1, l, r)
    | .ref _ :: r => some (1, pc + 1, l, r)
    | .null :: r => some (1, pc + 1, l, r)
    | _ => none
  | .iinc k i => match sAt l k with
    | some (.val (.int x)) => match st1 l k (.int (x + Int32.ofInt i)) with
      | some l' => some (3, pc + 3, l', s)
      | none => none
    | _ => none
  | .goto o => match jT pc o with
    | some q => some (3, q, l, s)
    | none => none
  | .ifnull o => match s with
    | .null :: r => match jT pc o with
      | some q => some (3, q, l, r)
      | none => none
    | .ref _ :: r => some (3, pc + 3, l, r)
    | _ => none
  | .ifnonnull o => match s with
    | .ref _ :: r => match jT pc o with
      | some q => some (3, q, l, r)
      | none => none
    | .null :: r => some (3, pc + 3, l, r)
    | _ => none
  | _ => none
theorem ld0 {n pc : Nat} {l : List Slot} {s : List Value} {k n' pc' : Nat} {l' : List Slot} {s' : List Value} (h : ldI n pc l s k = some (n', pc', l', s')) : ∃ v, l.toArray[k]? = some (.val (.int v)) ∧ n' = n ∧ pc' = pc + n ∧ l' = l ∧ s' = .int v :: s := by
  rw [sAt_eq]
  unfold ldI at h
  split at h
  · rename_i v hv; cases h; exact ⟨v, hv, rfl, rfl, rfl, rfl⟩
  · cases h
theorem ld1 {n pc : Nat} {l : List Slot} {s : List Value} {k n' pc' : Nat} {l' : List Slot} {s' : List Value} (h : ldL n pc l s k = some (n', pc', l', s')) : ∃ v, l.toArray[k]? = some (.val (.long v)) ∧ n' = n ∧ pc' = pc + n ∧ l' = l ∧ s' = .long v :: s := by
  rw [sAt_eq]
  unfold ldL at h
  split at h
  · rename_i v hv; cases h; exact ⟨v, hv, rfl, rfl, rfl, rfl⟩
  · cases h
theorem ld2 {n pc : Nat} {l : List Slot} {s : List Value} {k n' pc' : Nat} {l' : List Slot} {s' : List Value} (h : ldA n pc l s k = some (n', pc', l', s')) : ∃ v, l.toArray[k]? = some (.val v) ∧ v.isRef = true ∧ n' = n ∧ pc' = pc + n ∧ l' = l ∧ s' = v :: s := by
  rw [sAt_eq]
  unfold ldA at h
  split at h
  · rename_i v hv; cases h; exact ⟨_, hv, rfl, rfl, rfl, rfl, rfl⟩
  · rename_i hv; cases h; exact ⟨_, hv, rfl, rfl, rfl, rfl, rfl⟩
  · cases h
theorem sB {n pc : Nat} {r : List Value} {o : Option (List Slot)} {n' pc' : Nat} {l' : List Slot} {s' : List Value} (h : stB n pc r o = some (n', pc', l', s')) : o = some l' ∧ n' = n ∧ pc' = pc + n ∧ s' = r := by
  cases o with
  | none => cases h
  | some l' => cases h; exact ⟨rfl, rfl, rfl, rfl⟩
theorem so0 {n pc : Nat} {l : List Slot} {s : List Value} {k n' pc' : Nat} {l' : List Slot} {s' : List Value} (h : stI n pc l s k = some (n', pc', l', s')) : ∃ v, s = .int v :: s' ∧ storeLocals l.toArray k (.int v) = some l'.toArray ∧ n' = n ∧ pc' = pc + n := by
  unfold stI at h
  split at h
  · rename_i v r
    obtain ⟨hv, rfl, rfl, rfl⟩ := sB h
    exact ⟨_, rfl, st1_ok rfl hv, rfl, rfl⟩
  · cases h
theorem so1 {n pc : Nat} {l : List Slot} {s : List Value} {k n' pc' : Nat} {l' : List Slot} {s' : List Value} (h : stL n pc l s k = some (n', pc', l', s')) : ∃ v, s = .long v :: s' ∧ storeLocals l.toArray k (.long v) = some l'.toArray ∧ n' = n ∧ pc' = pc + n := by
  unfold stL at h
  split at h
  · split at h
    · rename_i hv; cases h; exact ⟨_, rfl, by rw [hv, Array.toArray_toList], rfl, rfl⟩
    · cases h
  · cases h
theorem so2 {n pc : Nat} {l : List Slot} {s : List Value} {k n' pc' : Nat} {l' : List Slot} {s' : List Value} (h : stA n pc l s k = some (n', pc', l', s')) : ∃ v, s = v :: s' ∧ v.isRef = true ∧ storeLocals l.toArray k v = some l'.toArray ∧ n' = n ∧ pc' = pc + n := by
  unfold stA at h
  split at h
  · rename_i v r
    obtain ⟨hv, rfl, rfl, rfl⟩ := sB h
    exact ⟨_, rfl, rfl, st1_ok rfl hv, rfl, rfl⟩
  · rename_i r
    obtain ⟨hv, rfl, rfl, rfl⟩ := sB h
    exact ⟨_, rfl, rfl, st1_ok rfl hv, rfl, rfl⟩
  · cases h
theorem i1o {pc : Nat} {l : List Slot} {s : List Value} {f : Int32 → Value} {n' pc' : Nat} {l' : List Slot} {s' : List Value} (h : i1 pc l s f = some (n', pc', l', s')) : ∃ x r, s = .int x :: r ∧ n' = 1 ∧ pc' = pc + 1 ∧ l' = l ∧ s' = f x :: r := by
  unfold i1 at h
  split at h
  · cases h; exact ⟨_, _, rfl, rfl, rfl, rfl, rfl⟩
  · cases h
theorem l1o {pc : Nat} {l : List Slot} {s : List Value} {f : Int64 → Value} {n' pc' : Nat} {l' : List Slot} {s' : List Value} (h : l1 pc l s f = some (n', pc', l', s')) : ∃ x r, s = .long x :: r ∧ n' = 1 ∧ pc' = pc + 1 ∧ l' = l ∧ s' = f x :: r := by
  unfold l1 at h
  split at h
  · cases h; exact ⟨_, _, rfl, rfl, rfl, rfl, rfl⟩
  · cases h
theorem i2o {pc : Nat} {l : List Slot} {s : List Value} {f : Int32 → Int32 → Value} {n' pc' : Nat} {l' : List Slot} {s' : List Value} (h : i2 pc l s f = some (n', pc', l', s')) : ∃ x y r, s = .int y :: .int x :: r ∧ n' = 1 ∧ pc' = pc + 1 ∧ l' = l ∧ s' = f x y :: r := by
  unfold i2 at h
  split at h
  · cases h; exact ⟨_, _, _, rfl, rfl, rfl, rfl, rfl⟩
  · cases h
theorem l2o {pc : Nat} {l : List Slot} {s : List Value} {f : Int64 → Int64 → Value} {n' pc' : Nat} {l' : List Slot} {s' : List Value} (h : l2 pc l s f = some (n', pc', l', s')) : ∃ x y r, s = .long y :: .long x :: r ∧ n' = 1 ∧ pc' = pc + 1 ∧ l' = l ∧ s' = f x y :: r := by
  unfold l2 at h
  split at h
  · cases h; exact ⟨_, _, _, rfl, rfl, rfl, rfl, rfl⟩
  · cases h
section
variable {p : Program} {e : Env} {below : List Frame} {m : MethodId} {c : Code} {T : State} {pc : Nat} {l : List Slot} {s : List Value}
abbrev Goes (p : Program) (e : Env) (below : List Frame) (m : MethodId) (T : State) (pc : Nat) (l : List Slot) (s : List Value) (pc' : Nat) (l' : List Slot) (s' : List Value) : Prop := ∀ z, Steps p.tables e below (T.setTop (mkF m pc' l'.toArray s')) z → Steps p.tables e below (T.setTop (mkF m pc l.toArray s)) z
theorem pS_ok (h : At T m c below) (hx : p.tables.exec = Jvm.exec) {i : Instr} {n pc' : Nat} {l' : List Slot} {s' : List Value} (hd : decode c.code pc = .ok (i, n)) (hp : pS pc l s i = some (n, pc', l', s')) : Goes p e below m T pc l s pc' l' s' := by
  intro z kk
  cases i
  case iload k =>
    obtain ⟨v, e1, rfl, rfl, rfl, rfl⟩ := ld0 hp
    exact XS.iload h hx rfl hd e1 kk
  case iload_n k =>
    obtain ⟨v, e1, rfl, rfl, rfl, rfl⟩ := ld0 hp
    exact XS.iloadN h hx rfl hd e1 kk
  case lload k =>
    obtain ⟨v, e1, rfl, rfl, rfl, rfl⟩ := ld1 hp
    exact XS.lload h hx rfl hd e1 kk
  case lload_n k =>
    obtain ⟨v, e1, rfl, rfl, rfl, rfl⟩ := ld1 hp
    exact XS.lloadN h hx rfl hd e1 kk
  case aload k =>
    obtain ⟨v, e1, e2, rfl, rfl, rfl, rfl⟩ := ld2 hp
    exact XS.aload h hx rfl hd e1 e2 kk
  case aload_n k =>
    obtain ⟨v, e1, e2, rfl, rfl, rfl, rfl⟩ := ld2 hp
    exact XS.aloadN h hx rfl hd e1 e2 kk
  case istore k =>
    obtain ⟨v, rfl, e1, rfl, rfl⟩ := so0 hp
    exact XS.istore h hx rfl hd rfl e1 kk
  case istore_n k =>
    obtain ⟨v, rfl, e1, rfl, rfl⟩ := so0 hp
    exact XS.istoreN h hx rfl hd rfl e1 kk
  case lstore k =>
    obtain ⟨v, rfl, e1, rfl, rfl⟩ := so1 hp
    exact XS.lstore h hx rfl hd rfl e1 kk
  case lstore_n k =>
    obtain ⟨v, rfl, e1, rfl, rfl⟩ := so1 hp
    exact XS.lstoreN h hx rfl hd rfl e1 kk
  case astore k =>
    obtain ⟨v, rfl, e2, e1, rfl, rfl⟩ := so2 hp
    exact XS.astore h hx rfl hd rfl e2 e1 kk
  case astore_n k =>
    obtain ⟨v, rfl, e2, e1, rfl, rfl⟩ := so2 hp
    exact XS.astoreN h hx rfl hd rfl e2 e1 kk
  case iconst k =>
    cases hp
    exact XS.iconst h hx rfl hd kk
  case bipush k =>
    cases hp
    exact XS.bipush h hx rfl hd kk
  case sipush k =>
    cases hp
    exact XS.sipush h hx rfl hd kk
  case lconst k =>
    cases hp
    exact XS.lconst h hx rfl hd kk
  case aconst_null =>
    cases hp
    exact XS.aconstNull h hx rfl hd kk
  case iadd =>
    obtain ⟨x, y, r, rfl, rfl, rfl, rfl, rfl⟩ := i2o hp
    exact XS.iadd h hx rfl hd rfl kk
  case isub =>
    obtain ⟨x, y, r, rfl, rfl, rfl, rfl, rfl⟩ := i2o hp
    exact XS.isub h hx rfl hd rfl kk
  case imul =>
    obtain ⟨x, y, r, rfl, rfl, rfl, rfl, rfl⟩ := i2o hp
    exact XS.imul h hx rfl hd rfl kk
  case iand =>
    obtain ⟨x, y, r, rfl, rfl, rfl, rfl, rfl⟩ := i2o hp
    exact XS.iand h hx rfl hd rfl kk
  case ior =>
    obtain ⟨x, y, r, rfl, rfl, rfl, rfl, rfl⟩ := i2o hp
    exact XS.ior h hx rfl hd rfl kk
  case ishl =>
    obtain ⟨x, y, r, rfl, rfl, rfl, rfl, rfl⟩ := i2o hp
    exact XS.ishl h hx rfl hd rfl kk
  case ishr =>
    obtain ⟨x, y, r, rfl, rfl, rfl, rfl, rfl⟩ := i2o hp
    exact XS.ishr h hx rfl hd rfl kk
  case iushr =>
    obtain ⟨x, y, r, rfl, rfl, rfl, rfl, rfl⟩ := i2o hp
    exact XS.iushr h hx rfl hd rfl kk
  case lsub =>
    obtain ⟨x, y, r, rfl, rfl, rfl, rfl, rfl⟩ := l2o hp
    exact XS.lsub h hx rfl hd rfl kk
  case ladd =>
    obtain ⟨x, y, r, rfl, rfl, rfl, rfl, rfl⟩ := l2o hp
    exact XS.ladd h hx rfl hd rfl kk
  case lmul =>
    obtain ⟨x, y, r, rfl, rfl, rfl, rfl, rfl⟩ := l2o hp
    exact XS.lmul h hx rfl hd rfl kk
  case land =>
    obtain ⟨x, y, r, rfl, rfl, rfl, rfl, rfl⟩ := l2o hp
    exact XS.land h hx rfl hd rfl kk
  case lcmp =>
    obtain ⟨x, y, r, rfl, rfl, rfl, rfl, rfl⟩ := l2o hp
    exact XT.lcmp h hx rfl hd rfl kk
  case ineg =>
    obtain ⟨x, r, rfl, rfl, rfl, rfl, rfl⟩ := i1o hp
    exact XS.ineg h hx rfl hd rfl kk
  case i2b =>
    obtain ⟨x, r, rfl, rfl, rfl, rfl, rfl⟩ := i1o hp
    exact XS.i2b h hx rfl hd rfl kk
  case i2c =>
    obtain ⟨x, r, rfl, rfl, rfl, rfl, rfl⟩ := i1o hp
    exact XS.i2c h hx rfl hd rfl kk
  case i2l =>
    obtain ⟨x, r, rfl, rfl, rfl, rfl, rfl⟩ := i1o hp
    exact XS.i2l h hx rfl hd rfl kk
  case l2i =>
    obtain ⟨x, r, rfl, rfl, rfl, rfl, rfl⟩ := l1o hp
    exact XS.l2i h hx rfl hd rfl kk
  case lneg =>
    obtain ⟨x, r, rfl, rfl, rfl, rfl, rfl⟩ := l1o hp
    exact XS.lneg h hx rfl hd rfl kk
  case lushr =>
    unfold pS at hp
    dsimp only at hp
    split at hp
    · cases hp; exact XS.lushr h hx rfl hd rfl kk
    · cases hp
  case dup =>
    unfold pS at hp
    dsimp only at hp
    split at hp
    · cases hp; exact XS.dup h hx rfl hd rfl rfl kk
    · cases hp; exact XS.dup h hx rfl hd rfl rfl kk
    · cases hp; exact XS.dup h hx rfl hd rfl rfl kk
    · cases hp
  case pop =>
    unfold pS at hp
    dsimp only at hp
    split at hp
    · cases hp; exact XS.pop h hx rfl hd rfl rfl kk
    · cases hp; exact XS.pop h hx rfl hd rfl rfl kk
    · cases hp; exact XS.pop h hx rfl hd rfl rfl kk
    · cases hp
  case iinc k i =>
    unfold pS at hp
    dsimp only at hp
    split at hp
    · rename_i hv
      split at hp
      · rename_i hw; cases hp; exact XS.iinc h hx rfl hd (by rw [show (mkF m pc l.toArray s).locals = l.toArray from rfl, sAt_eq]; exact hv) (st1_ok rfl hw) kk
      · cases hp
    · cases hp
  case goto o =>
    unfold pS at hp
    dsimp only at hp
    split at hp
    · rename_i hv; cases hp; exact XS.goto h hx rfl rfl hd (jT_ok hv).1 (jT_ok hv).2 kk
    · cases hp
  case ifnull o =>
    unfold pS at hp
    dsimp only at hp
    split at hp
    · split at hp
      · rename_i hv; cases hp; exact XS.ifnullYes h hx rfl rfl hd rfl (jT_ok hv).1 (jT_ok hv).2 kk
      · cases hp
    · cases hp; exact XS.ifnullNo h hx rfl hd rfl kk
    · cases hp
  case ifnonnull o =>
    unfold pS at hp
    dsimp only at hp
    split at hp
    · split at hp
      · rename_i hv; cases hp; exact XS.ifnonnullYes h hx rfl rfl hd rfl (jT_ok hv).1 (jT_ok hv).2 kk
      · cases hp
    · cases hp; exact XS.ifnonnullNo h hx rfl hd rfl kk
    · cases hp
  all_goals cases (show none = some _ from hp)
/-- n plain steps -/
def pN (t : Tb) : Nat → Nat → List Slot → List Value → Option (Nat × List Slot × List Value)
  | 0, pc, l, s => some (pc, l, s)
  | k + 1, pc, l, s => match tAt t pc with
    | some (i, n) => match pS pc l s i with
      | some (n', pc', l', s') => bif Nat.beq n n' then pN t k pc' l' s' else none
      | none => none
    | none => none
theorem pN_ok {t : Tb} (h : At T m c below) (hx : p.tables.exec = Jvm.exec) (D : ∀ (q : Nat) {r : Instr × Nat}, tAt t q = some r → decode c.code q = .ok r) : ∀ (k : Nat) {pc : Nat} {l : List Slot} {s : List Value} {pc' : Nat} {l' : List Slot} {s' : List Value}, pN t k pc l s = some (pc', l', s') → Goes p e below m T pc l s pc' l' s'
  | 0, _, _, _, _, _, _, hp => by cases hp; exact fun _ kk => kk
  | k + 1, pc, l, s, pc', l', s', hp => by
    unfold pN at hp
    split at hp
    · rename_i i n hi
      split at hp
      · rename_i n' pc2 l2 s2 h2
        cases hb : Nat.beq n n' with
        | false => rw [hb] at hp; cases hp
        | true =>
          rw [hb] at hp
          have := Nat.eq_of_beq_eq_true hb
          subst this
          exact fun z kk => pS_ok h hx (D pc hi) h2 z (pN_ok h hx D k hp z kk)
      · cases hp
    · cases hp
/-- plain steps with branches between, each taken as told -/
def pR (t : Tb) : List (Nat × Bool) → Nat → Nat → List Slot → List Value → Prop → Option (Prop × Nat × List Slot × List Value)
  | [], n, pc, l, s, P => match pN t n pc l s with
    | some r => some (P, r)
    | none => none
  | (k, b) :: bs, n, pc, l, s, P => match pN t k pc l s with
    | some (pc, l, s) => match tAt t pc, s with
      | some (.ifCond cd o, 3), .int x :: r => match b with
        | true => match jT pc o with
          | some q => pR t bs n q l r (P ∧ ifCond.holds cd x = true)
          | none => none
        | false => pR t bs n (pc + 3) l r (P ∧ ifCond.holds cd x = false)
      | some (.if_icmp cd o, 3), .int y :: .int x :: r => match b with
        | true => match jT pc o with
          | some q => pR t bs n q l r (P ∧ if_icmp.holds cd x y = true)
          | none => none
        | false => pR t bs n (pc + 3) l r (P ∧ if_icmp.holds cd x y = false)
      | _, _ => none
    | none => none
theorem pR_ok {t : Tb} (h : At T m c below) (hx : p.tables.exec = Jvm.exec) (D : ∀ (q : Nat) {r : Instr × Nat}, tAt t q = some r → decode c.code q = .ok r) (n : Nat) : ∀ (bs : List (Nat × Bool)) {pc : Nat} {l : List Slot} {s : List Value} {P P' : Prop} {pc' : Nat} {l' : List Slot} {s' : List Value}, pR t bs n pc l s P = some (P', pc', l', s') → P' → P ∧ Goes p e below m T pc l s pc' l' s'
  | [], pc, l, s, P, P', pc', l', s', hp, q => by
    unfold pR at hp
    split at hp
    · rename_i r hr; cases hp; exact ⟨q, pN_ok h hx D n hr⟩
    · cases hp
  | (k, b) :: bs, pc, l, s, P, P', pc', l', s', hp, q => by
    unfold pR at hp
    split at hp
    · rename_i pc2 l2 s2 h2
      have g := pN_ok (p := p) (e := e) h hx D k h2
      split at hp
      · rename_i cd o x r hd
        cases b with
        | true =>
          dsimp only at hp
          split at hp
          · rename_i q1 hj
            obtain ⟨⟨q2, q3⟩, g2⟩ := pR_ok h hx D n bs hp q
            exact ⟨q2, fun z kk => g z (XS.ifYes h hx rfl rfl (D _ hd) rfl q3 (jT_ok hj).1 (jT_ok hj).2 (g2 z kk))⟩
          · cases hp
        | false =>
          dsimp only at hp
          obtain ⟨⟨q2, q3⟩, g2⟩ := pR_ok h hx D n bs hp q
          exact ⟨q2, fun z kk => g z (XS.ifNo h hx rfl (D _ hd) rfl q3 (g2 z kk))⟩
      · rename_i cd o y x r hd
        cases b with
        | true =>
          dsimp only at hp
          split at hp
          · rename_i q1 hj
            obtain ⟨⟨q2, q3⟩, g2⟩ := pR_ok h hx D n bs hp q
            exact ⟨q2, fun z kk => g z (XS.icmpYes h hx rfl rfl (D _ hd) rfl q3 (jT_ok hj).1 (jT_ok hj).2 (g2 z kk))⟩
          · cases hp
        | false =>
          dsimp only at hp
          obtain ⟨⟨q2, q3⟩, g2⟩ := pR_ok h hx D n bs hp q
          exact ⟨q2, fun z kk => g z (XS.icmpNo h hx rfl (D _ hd) rfl q3 (g2 z kk))⟩
      · cases hp
    · cases hp
variable {l : Launch} {R : Room} {s : State} {args : Array Value} {meth : Method} {Z : State} {EL : List (String × Nat)} {n0 : Nat} {ws : List Addr} {own : String} {sf : List Addr} {cells slots : Nat} {h : Heap} {Q : Outcome → State → Prop} {t : Tb} {ls : List Slot} {vs : List Value}
theorem Wk.pv (W : Wk p l e R s m args below meth c Z EL n0 ws own sf T cells slots h) (hx : p.tables.exec = Jvm.exec) (D : ∀ (q : Nat) {r : Instr × Nat}, tAt t q = some r → decode c.code q = .ok r) (pc n pc' : Nat) (ls' : List Slot) (vs' : List Value) (hr : pN t n pc ls vs = some (pc', ls', vs')) (g : Go p e below Q (T.setTop (mkF m pc' ls'.toArray vs'))) : Go p e below Q (T.setTop (mkF m pc ls.toArray vs)) := Go.of (pN_ok W.here hx D n hr) g
theorem Wk.pu (W : Wk p l e R s m args below meth c Z EL n0 ws own sf T cells slots h) (hx : p.tables.exec = Jvm.exec) (D : ∀ (q : Nat) {r : Instr × Nat}, tAt t q = some r → decode c.code q = .ok r) (pc : Nat) (bs : List (Nat × Bool)) (n pc' : Nat) (ls' : List Slot) (vs' : List Value) {P : Prop} (hr : pR t bs n pc ls vs True = some (P, pc', ls', vs')) (hP : P) (g : Go p e below Q (T.setTop (mkF m pc' ls'.toArray vs'))) : Go p e below Q (T.setTop (mkF m pc ls.toArray vs)) := Go.of (pR_ok W.here hx D n bs hr hP).2 g
end

abbrev EL0 : List (String × Nat) := [("com/example/grantwork/grantwork/store/EffectOfPinLaw", 7), ("com/example/grantwork/grantwork/store/EffectOfPinLaw", 9), ("com/example/grantwork/grantwork/store/EffectOfPinLaw", 11), ("com/example/grantwork/grantwork/store/EffectOfPinLaw", 42)]
set_option maxRecDepth 65536 in
theorem sa_in : ∀ d ∈ Bundle.stringAtoms, d ∈ tables_1 := by decide +kernel
set_option maxRecDepth 65536 in
theorem ws_in : ∀ d ∈ StrChars.Road.words, d ∈ tables_1 := by decide +kernel
set_option maxRecDepth 65536 in
theorem ln_in : ∀ d ∈ StrChars.Road.wordsLen, d ∈ tables_1 := by decide +kernel
set_option maxRecDepth 65536 in
theorem ch_in : ∀ d ∈ StrChars.Road.wordsChN, d ∈ tables_1 := by decide +kernel
set_option maxRecDepth 65536 in
theorem eq_in : ∀ d ∈ StrChars.Road.wordsEq, d ∈ tables_1 := by decide +kernel
abbrev EV (l : Launch) (Z : State) (a0 : Array Value) (zc : Int32) (fm : Value) : Prop := (∀ d ∈ tables_1, d.before a0 Z = true) ∧ EW Z a0 EL0 ∧ Sta Z Z.heap "java/lang/String" "COMPACT_STRINGS" "Z" (.int zc) ∧ ¬ zc = 0 ∧ Sta Z Z.heap "jdk/internal/util/Preconditions" "SIOOBE_FORMATTER" "Ljava/util/function/BiFunction;" fm ∧ fm.isRef = true
variable {l : Launch} {Z : State} {a0 : Array Value} {zc : Int32} {fm : Value}
theorem eq_eval {s : State} {args : Array Value} {a b : Term} {v : Value} (h : (Cond.eq a b).value args s none s [] = some true) (hb : b.eval args s none [] s = some v) : a.eval args s none [] s = some v := by
  cases ha : a.eval args s none [] s with
  | none => simp [Cond.value, ha, hb] at h
  | some w => cases w <;> cases v <;> simp [Cond.value, ha, hb] at h <;> simp [h]
theorem arvStart {s : State} {args : Array Value} {t : Term} {ty : FieldType} {a : Addr} {z : Int32} {vs : List Value} {dv : Value} (hf : Fit s) (ev : t.eval args s none [] s = some (.ref a)) (ha : (Cond.arrayOf t ty).value args s none s [] = some true) (hl : (Cond.eq (.length t) (.int z)).value args s none s [] = some true) (hz : ¬ z < 0) (hn : z.toNatClampNeg = vs.length) (H : ∀ c, s.arrayAt? a = some c → HasL c 0 vs) :
    ∃ k, Arv s s.heap a k ty z vs dv ∧ ∀ cl, Arr s s.heap a cl ty → FitC s cl := by
  obtain ⟨c, A⟩ := Arr.start ev ha
  have hA : s.arrayAt? a = some c := Arr.fin (Vm.Alike.refl _) A
  by_cases hs : c.slots.size < 2 ^ 31
  · have e := len_f ev hA hs
    have e2 := gotT (Cond.eq_ints e (Term.int_eval z)) hl
    exact ⟨c.cls, Arv.start hf A hs e2 hz hn (H c hA), fun cl A' => FitC.start hf A'⟩
  · simp [Cond.value, Term.eval, ev, hA, hs] at hl
theorem fitOld {Z : State} {h : Heap} {a : Addr} {k : ClassId} {ty : FieldType} {z : Int32} {vs : List Value} {dv : Value} (V0 : Arv Z Z.heap a k ty z vs dv) (E : Ext Z.heap h) (hF : ∀ cl, Arr Z Z.heap a cl ty → FitC Z cl) : ∀ cl, Arr Z h a cl ty → FitC Z cl := fun cl A => by
  obtain ⟨c, A0, -⟩ := V0
  cases (E.2 _ _ A0.1).symm.trans A.1
  exact hF _ A0
theorem wide16 (x : Int32) : ∃ q : Int32, x.toUInt32.toUInt16.toUInt32.toInt32 = q ∧ (¬ q < 0 ∧ ¬ (65535 : Int32) < q) := by
  refine ⟨_, rfl, ?_⟩
  have h := x.toUInt32.toUInt16.toNat_lt
  have e : x.toUInt32.toUInt16.toUInt32.toInt32.toInt = (x.toUInt32.toUInt16.toNat : Int) := by
    have e1 : x.toUInt32.toUInt16.toUInt32.toInt32.toInt = x.toUInt32.toUInt16.toUInt32.toBitVec.toInt := rfl
    have e2 : x.toUInt32.toUInt16.toUInt32.toBitVec.toNat = x.toUInt32.toUInt16.toNat := UInt16.toNat_toUInt32 _
    rw [e1, BitVec.toInt_eq_toNat_cond, e2]
    split
    · rfl
    · omega
  constructor
  · rw [Int32.lt_iff_toInt_lt, e]
    show ¬ (x.toUInt32.toUInt16.toNat : Int) < 0
    omega
  · rw [Int32.lt_iff_toInt_lt, e]
    show ¬ (65535 : Int) < (x.toUInt32.toUInt16.toNat : Int)
    omega
theorem nar_wide {q : Int32} (hq : ¬ q < 0 ∧ ¬ (65535 : Int32) < q) : nar .char q = q := by
  have e := StrChars.pair_says hq.1 hq.2
  rw [← e]
  exact Value.int.inj (Jvm.Free.XT.narrow_c _)
theorem nar_retw {q : Int32} (hq : ¬ q < 0 ∧ ¬ (65535 : Int32) < q) : narrow .char (.int q) = .int q := by
  have e := StrChars.pair_says hq.1 hq.2
  rw [← e]
  exact Jvm.Free.XT.narrow_c _
theorem char255L (x : Int64) : ∃ q : Int32, (x &&& (255 : Int64)).toInt32.toUInt32.toUInt16.toUInt32.toInt32 = q ∧ (¬ q < 0 ∧ ¬ (255 : Int32) < q) := by
  have e : (x &&& (255 : Int64)).toInt32 = x.toInt32 &&& (255 : Int32) := by rw [Int64.toInt32_and]; rfl
  obtain ⟨q, h1, h2, -⟩ := char255 x.toInt32
  exact ⟨q, by rw [e]; exact h1, h2⟩
theorem posm (x : Int32) : 0 ≤ (x &&& (2147483647 : Int32)).toInt := by
  have e1 : (x &&& (2147483647 : Int32)).toInt = (x.toBitVec &&& (2147483647#32)).toInt := rfl
  have e2 : (x.toBitVec &&& (2147483647#32)).msb = false := by rw [BitVec.msb_and, show (2147483647#32).msb = false from by decide, Bool.and_false]
  rw [e1, BitVec.toInt_eq_msb_cond, e2]
  simp
theorem modp {x y : Int32} (n : Nat) (hy : y.toInt = n) (hn : 0 < n) (hx : 0 ≤ x.toInt) : ∃ k : Nat, k < n ∧ (x % y).toInt = k := by
  have e : (x % y).toInt = x.toInt.tmod y.toInt := Int32.toInt_mod ..
  rw [hy, Int.tmod_eq_emod_of_nonneg hx] at e
  have h1 := Int.emod_nonneg x.toInt (b := (n : Int)) (by omega)
  have h2 := Int.emod_lt_of_pos x.toInt (b := (n : Int)) (by omega)
  exact ⟨(x.toInt % (n : Int)).toNat, by omega, by omega⟩
theorem mod5p (x : Int32) : ((x &&& (2147483647 : Int32)) % (5 : Int32)) = (0 : Int32) ∨ ((x &&& (2147483647 : Int32)) % (5 : Int32)) = (1 : Int32) ∨ ((x &&& (2147483647 : Int32)) % (5 : Int32)) = (2 : Int32) ∨ ((x &&& (2147483647 : Int32)) % (5 : Int32)) = (3 : Int32) ∨ ((x &&& (2147483647 : Int32)) % (5 : Int32)) = (4 : Int32) := by
  obtain ⟨k, hk, e⟩ := modp (y := (5 : Int32)) 5 (by decide) (by decide) (posm x)
  have hk' : k = 0 ∨ k = 1 ∨ k = 2 ∨ k = 3 ∨ k = 4 := by omega
  rcases hk' with rfl | rfl | rfl | rfl | rfl
  · exact Or.inl (Int32.toInt_inj.mp (by rw [e]; decide))
  · exact Or.inr (Or.inl (Int32.toInt_inj.mp (by rw [e]; decide)))
  · exact Or.inr (Or.inr (Or.inl (Int32.toInt_inj.mp (by rw [e]; decide))))
  · exact Or.inr (Or.inr (Or.inr (Or.inl (Int32.toInt_inj.mp (by rw [e]; decide)))))
  · exact Or.inr (Or.inr (Or.inr (Or.inr (Int32.toInt_inj.mp (by rw [e]; decide)))))
theorem mod4p (x : Int32) : ((x &&& (2147483647 : Int32)) % (4 : Int32)) = (0 : Int32) ∨ ((x &&& (2147483647 : Int32)) % (4 : Int32)) = (1 : Int32) ∨ ((x &&& (2147483647 : Int32)) % (4 : Int32)) = (2 : Int32) ∨ ((x &&& (2147483647 : Int32)) % (4 : Int32)) = (3 : Int32) := by
  obtain ⟨k, hk, e⟩ := modp (y := (4 : Int32)) 4 (by decide) (by decide) (posm x)
  have hk' : k = 0 ∨ k = 1 ∨ k = 2 ∨ k = 3 := by omega
  rcases hk' with rfl | rfl | rfl | rfl
  · exact Or.inl (Int32.toInt_inj.mp (by rw [e]; decide))
  · exact Or.inr (Or.inl (Int32.toInt_inj.mp (by rw [e]; decide)))
  · exact Or.inr (Or.inr (Or.inl (Int32.toInt_inj.mp (by rw [e]; decide))))
  · exact Or.inr (Or.inr (Or.inr (Int32.toInt_inj.mp (by rw [e]; decide))))
def wrOf (e0 e1 e2 : Addr) (cs : List Int32) : Value := if [(97 : Int32), (108 : Int32), (108 : Int32), (111 : Int32), (119 : Int32)] = cs then .ref e0 else if [(100 : Int32), (101 : Int32), (110 : Int32), (121 : Int32)] = cs then .ref e1 else if [(108 : Int32), (105 : Int32), (109 : Int32), (105 : Int32), (116 : Int32)] = cs then .ref e2 else .null
theorem up1 {c : Int32} (h : ¬ c < 0 ∧ ¬ (255 : Int32) < c) : ¬ c < 0 ∧ ¬ (65535 : Int32) < c := up255 (cs := [c]) (allSi h all0i) c (List.mem_of_getElem? (i := 0) rfl)
theorem wrOf_ref (e0 e1 e2 : Addr) (cs : List Int32) : (wrOf e0 e1 e2 cs).isRef = true := by
  unfold wrOf
  repeat (first | rfl | split)
theorem pn0 : plainName "java/lang/StringUTF16" = true := by first | (simp [plainName, overriddenIn]; done) | decide +kernel
theorem pn1 : plainName "java/lang/String" = true := by first | (simp [plainName, overriddenIn]; done) | decide +kernel
theorem pn2 : plainName "java/lang/StringLatin1" = true := by first | (simp [plainName, overriddenIn]; done) | decide +kernel
theorem pn3 : plainName "com/example/grantwork/grantwork/store/EffectOfPinLaw" = true := by first | (simp [plainName, overriddenIn]; done) | decide +kernel
theorem pn4 : plainName "com/example/grantwork/grantwork/store/Effect" = true := by first | (simp [plainName, overriddenIn]; done) | decide +kernel
theorem pd0 : parseMethodDescriptor "([BII)V" = some ⟨[(.array .byte), .int, .int], none⟩ := by decide +kernel
theorem pd1 : parseMethodDescriptor "(I)I" = some ⟨[.int], (some .int)⟩ := by decide +kernel
theorem pd2 : parseMethodDescriptor "(I)[B" = some ⟨[.int], (some (.array .byte))⟩ := by decide +kernel
theorem pd3 : parseMethodDescriptor "([CI[BII)I" = some ⟨[(.array .char), .int, (.array .byte), .int, .int], (some .int)⟩ := by decide +kernel
theorem pd4 : parseMethodDescriptor "([CII)[B" = some ⟨[(.array .char), .int, .int], (some (.array .byte))⟩ := by decide +kernel
theorem pd5 : parseMethodDescriptor "([BI)C" = some ⟨[(.array .byte), .int], (some .char)⟩ := by decide +kernel
theorem pd6 : parseMethodDescriptor "([BI)B" = some ⟨[(.array .byte), .int], (some .byte)⟩ := by decide +kernel
theorem pd7 : parseMethodDescriptor "([CIILjava/lang/Void;)V" = some ⟨[(.array .char), .int, .int, (.object "java/lang/Void")], none⟩ := by decide +kernel
theorem pd8 : parseMethodDescriptor "(C)Z" = some ⟨[.char], (some .boolean)⟩ := by decide +kernel
theorem pd9 : parseMethodDescriptor "(C)[B" = some ⟨[.char], (some (.array .byte))⟩ := by decide +kernel
theorem pd10 : parseMethodDescriptor "([BB)V" = some ⟨[(.array .byte), .byte], none⟩ := by decide +kernel
theorem pd11 : parseMethodDescriptor "([C)V" = some ⟨[(.array .char)], none⟩ := by decide +kernel
theorem pd12 : parseMethodDescriptor "(Ljava/lang/Object;)Z" = some ⟨[(.object "java/lang/Object")], (some .boolean)⟩ := by decide +kernel
theorem pd13 : parseMethodDescriptor "(Ljava/lang/String;)Lcom/example/grantwork/grantwork/store/Effect;" = some ⟨[(.object "java/lang/String")], (some (.object "com/example/grantwork/grantwork/store/Effect"))⟩ := by decide +kernel
theorem pd14 : parseMethodDescriptor "(Ljava/lang/String;IC)Ljava/lang/String;" = some ⟨[(.object "java/lang/String"), .int, .char], (some (.object "java/lang/String"))⟩ := by decide +kernel
theorem pd15 : parseMethodDescriptor "(J)Ljava/lang/String;" = some ⟨[.long], (some (.object "java/lang/String"))⟩ := by decide +kernel
theorem pd16 : parseMethodDescriptor "(Ljava/lang/String;C)Ljava/lang/String;" = some ⟨[(.object "java/lang/String"), .char], (some (.object "java/lang/String"))⟩ := by decide +kernel
theorem pd17 : parseMethodDescriptor "(Ljava/lang/String;)Ljava/lang/String;" = some ⟨[(.object "java/lang/String")], (some (.object "java/lang/String"))⟩ := by decide +kernel
theorem pd18 : parseMethodDescriptor "(C)Ljava/lang/String;" = some ⟨[.char], (some (.object "java/lang/String"))⟩ := by decide +kernel
abbrev rO (f c s l : Nat) : Room := { frames := f, cells := c, slots := s, locals := l }
theorem mI {α : Type} {l : List α} {a : α} (i : Nat) (h : l[i]? = some a) : a ∈ l := List.mem_of_getElem? h
abbrev vi (x : Int32) : Slot := .val (.int x)
abbrev vr (a : Addr) : Slot := .val (.ref a)
abbrev vN : Slot := .val .null
abbrev U0 : Slot := .unset
abbrev S0 : Slot := .second
theorem gof {p : Program} {e : Env} {below : List Frame} {Q : Outcome → State → Prop} {t : State} (T : State) (m : MethodId) (pc : Nat) (L : Array Slot) (S : List Value) (k : ∀ z, Steps p.tables e below (T.setTop (mkF m pc L S)) z → Steps p.tables e below t z) (g : Go p e below Q (T.setTop (mkF m pc L S))) : Go p e below Q t := Go.of k g
abbrev DD (b : ByteArray) (p : Nat) (i : Instr) (n : Nat) : Prop := decode b p = .ok (i, n)
abbrev sq0 (Z : State) : Prop := Sta Z Z.heap "java/lang/StringUTF16" "$assertionsDisabled" "Z" (.int (1 : Int32))
abbrev sq1 (Z : State) : Prop := Sta Z Z.heap "java/lang/StringUTF16" "HI_BYTE_SHIFT" "I" (.int (0 : Int32))
abbrev sq2 (Z : State) : Prop := Sta Z Z.heap "java/lang/StringUTF16" "LO_BYTE_SHIFT" "I" (.int (8 : Int32))
def tb0 : Tb := [(0, .getstatic 44, 3), (3, .ifCond .ne 25, 3), (28, .iload_n 1, 1), (29, .iconst 1, 1), (30, .ishl, 1), (31, .istore_n 1, 1), (32, .aload_n 0, 1), (33, .iload_n 1, 1), (34, .iinc 1 1, 3), (37, .iload_n 2, 1), (38, .getstatic 59, 3), (41, .ishr, 1), (42, .i2b, 1), (43, .bastore, 1), (44, .aload_n 0, 1), (45, .iload_n 1, 1), (46, .iload_n 2, 1), (47, .getstatic 63, 3), (50, .ishr, 1), (51, .i2b, 1), (52, .bastore, 1), (53, .return_, 1)]
theorem tk0 : TOk jdk_52_method_4_code tb0 := by decide +kernel
def tb1 : Tb := [(0, .iconst 2, 1), (1, .newarray .byte, 2), (3, .astore_n 1, 1), (4, .aload_n 1, 1), (5, .iconst 0, 1), (6, .iload_n 0, 1), (7, .invokestatic 111, 3), (10, .aload_n 1, 1), (11, .areturn, 1)]
theorem tk1 : TOk jdk_52_method_24_code tb1 := by decide +kernel
def tb2 : Tb := [(0, .iload_n 0, 1), (1, .ifCond .ge 11, 3), (12, .iload_n 0, 1), (13, .ldc 20, 2), (15, .if_icmp .lt 40, 3), (55, .iload_n 0, 1), (56, .iconst 1, 1), (57, .ishl, 1), (58, .ireturn, 1)]
theorem tk2 : TOk jdk_52_method_3_code tb2 := by decide +kernel
def tb3 : Tb := [(0, .iload_n 0, 1), (1, .invokestatic 11, 3), (4, .newarray .byte, 2), (6, .areturn, 1)]
theorem tk3 : TOk jdk_52_method_2_code tb3 := by decide +kernel
def tb4 : Tb := [(0, .iload_n 2, 1), (1, .invokestatic 107, 3), (4, .astore_n 3, 1), (5, .iconst 0, 1), (6, .istore 4, 2), (8, .iload 4, 2), (10, .iload_n 2, 1), (11, .if_icmp .ge 21, 3), (14, .aload_n 3, 1), (15, .iload 4, 2), (17, .aload_n 0, 1), (18, .iload_n 1, 1), (19, .caload, 1), (20, .invokestatic 111, 3), (23, .iinc 1 1, 3), (26, .iinc 4 1, 3), (29, .goto (-21), 3), (32, .aload_n 3, 1), (33, .areturn, 1)]
theorem tk4 : TOk jdk_52_method_14_code tb4 := by decide +kernel
def tb5 : Tb := [(0, .iload_n 1, 1), (1, .aload_n 0, 1), (2, .arraylength, 1), (3, .isub, 1), (4, .bipush 31, 2), (6, .iushr, 1), (7, .i2b, 1), (8, .ireturn, 1)]
theorem tk5 : TOk jdk_52_method_15_code tb5 := by decide +kernel
def tb6 : Tb := [(0, .iconst 0, 1), (1, .istore 5, 2), (3, .iload 5, 2), (5, .iload 4, 2), (7, .if_icmp .ge 37, 3), (10, .aload_n 0, 1), (11, .iload_n 1, 1), (12, .caload, 1), (13, .istore 6, 2), (15, .iload 6, 2), (17, .sipush 255, 3), (20, .if_icmp .le 6, 3), (23, .iload 5, 2), (25, .ireturn, 1), (26, .aload_n 2, 1), (27, .iload_n 3, 1), (28, .iload 6, 2), (30, .i2b, 1), (31, .bastore, 1), (32, .iinc 1 1, 3), (35, .iinc 3 1, 3), (38, .iinc 5 1, 3), (41, .goto (-38), 3)]
theorem tk6 : TOk jdk_52_method_21_code tb6 := by decide +kernel
def tb7 : Tb := [(0, .getstatic 44, 3), (3, .ifCond .ne 25, 3), (28, .iload_n 1, 1), (29, .iconst 1, 1), (30, .ishl, 1), (31, .istore_n 1, 1), (32, .aload_n 0, 1), (33, .iload_n 1, 1), (34, .iinc 1 1, 3), (37, .baload, 1), (38, .sipush 255, 3), (41, .iand, 1), (42, .getstatic 59, 3), (45, .ishl, 1), (46, .aload_n 0, 1), (47, .iload_n 1, 1), (48, .baload, 1), (49, .sipush 255, 3), (52, .iand, 1), (53, .getstatic 63, 3), (56, .ishl, 1), (57, .ior, 1), (58, .i2c, 1), (59, .ireturn, 1)]
theorem tk7 : TOk jdk_52_method_5_code tb7 := by decide +kernel
def tb8 : Tb := [(0, .iload_n 2, 1), (1, .newarray .byte, 2), (3, .astore_n 3, 1), (4, .aload_n 0, 1), (5, .iload_n 1, 1), (6, .aload_n 3, 1), (7, .iconst 0, 1), (8, .iload_n 2, 1), (9, .invokestatic 115, 3), (12, .istore 4, 2), (14, .iload 4, 2), (16, .iload_n 2, 1), (17, .if_icmp .eq 40, 3), (20, .aload_n 0, 1), (21, .iload_n 1, 1), (22, .iload_n 2, 1), (23, .invokestatic 119, 3), (26, .astore 5, 2), (28, .aload 5, 2), (30, .iload 4, 2), (32, .invokestatic 71, 3), (35, .sipush 255, 3), (38, .if_icmp .gt 16, 3), (54, .aload 5, 2), (56, .areturn, 1)]
theorem tk8 : TOk jdk_52_method_16_code tb8 := by decide +kernel
def tb9 : Tb := [(0, .aload_n 0, 1), (1, .invokespecial 1, 3), (4, .iload_n 3, 1), (5, .ifCond .ne 22, 3), (27, .getstatic 38, 3), (30, .ifCond .eq 28, 3), (33, .aload_n 1, 1), (34, .iload_n 2, 1), (35, .iload_n 3, 1), (36, .invokestatic 177, 3), (39, .astore 5, 2), (41, .aload_n 0, 1), (42, .aload 5, 2), (44, .iload_n 3, 1), (45, .invokestatic 47, 3), (48, .putfield 15, 3), (51, .aload_n 0, 1), (52, .aload 5, 2), (54, .putfield 9, 3), (57, .return_, 1)]
theorem tk9 : TOk jdk_42_method_149_code tb9 := by decide +kernel
def tb10 : Tb := [(0, .aload_n 0, 1), (1, .aload_n 1, 1), (2, .iconst 0, 1), (3, .aload_n 1, 1), (4, .arraylength, 1), (5, .aconst_null, 1), (6, .invokespecial 27, 3), (9, .return_, 1)]
theorem tk10 : TOk jdk_42_method_3_code tb10 := by decide +kernel
def tb11 : Tb := [(0, .iload_n 0, 1), (1, .sipush 255, 3), (4, .if_icmp .gt 7, 3), (7, .iconst 1, 1), (8, .goto 4, 3), (11, .iconst 0, 1), (12, .ireturn, 1)]
theorem tk11 : TOk jdk_43_method_3_code tb11 := by decide +kernel
def tb12 : Tb := [(0, .iconst 1, 1), (1, .newarray .byte, 2), (3, .dup, 1), (4, .iconst 0, 1), (5, .iload_n 0, 1), (6, .i2b, 1), (7, .bastore, 1), (8, .areturn, 1)]
theorem tk12 : TOk jdk_43_method_46_code tb12 := by decide +kernel
def tb13 : Tb := [(0, .aload_n 0, 1), (1, .invokespecial 1, 3), (4, .aload_n 0, 1), (5, .aload_n 1, 1), (6, .putfield 9, 3), (9, .aload_n 0, 1), (10, .iload_n 2, 1), (11, .putfield 15, 3), (14, .return_, 1)]
theorem tk13 : TOk jdk_42_method_151_code tb13 := by decide +kernel
def tb14 : Tb := [(0, .getstatic 38, 3), (3, .ifCond .eq 23, 3), (6, .iload_n 0, 1), (7, .invokestatic 1015, 3), (10, .ifCond .eq 16, 3), (13, .new 10, 3), (16, .dup, 1), (17, .iload_n 0, 1), (18, .invokestatic 1018, 3), (21, .iconst 0, 1), (22, .invokespecial 209, 3), (25, .areturn, 1), (26, .new 10, 3), (29, .dup, 1), (30, .iload_n 0, 1), (31, .invokestatic 1021, 3), (34, .iconst 1, 1), (35, .invokespecial 209, 3), (38, .areturn, 1)]
theorem tk14 : TOk jdk_42_method_139_code tb14 := by decide +kernel
def tb15 : Tb := [(0, .aload_n 0, 1), (1, .invokevirtual 15, 3), (4, .iconst 4, 1), (5, .if_icmp .ne 52, 3), (8, .iconst 4, 1), (9, .newarray .char, 2), (11, .astore_n 3, 1), (12, .aload_n 3, 1), (13, .iconst 0, 1), (14, .aload_n 0, 1), (15, .iconst 0, 1), (16, .invokevirtual 71, 3), (19, .castore, 1), (20, .aload_n 3, 1), (21, .iconst 1, 1), (22, .aload_n 0, 1), (23, .iconst 1, 1), (24, .invokevirtual 71, 3), (27, .castore, 1), (28, .aload_n 3, 1), (29, .iconst 2, 1), (30, .aload_n 0, 1), (31, .iconst 2, 1), (32, .invokevirtual 71, 3), (35, .castore, 1), (36, .aload_n 3, 1), (37, .iconst 3, 1), (38, .aload_n 0, 1), (39, .iconst 3, 1), (40, .invokevirtual 71, 3), (43, .castore, 1), (44, .aload_n 3, 1), (45, .iload_n 1, 1), (46, .iload_n 2, 1), (47, .castore, 1), (48, .new 16, 3), (51, .dup, 1), (52, .aload_n 3, 1), (53, .invokespecial 75, 3), (56, .areturn, 1), (57, .iconst 5, 1), (58, .newarray .char, 2), (60, .astore_n 3, 1), (61, .aload_n 3, 1), (62, .iconst 0, 1), (63, .aload_n 0, 1), (64, .iconst 0, 1), (65, .invokevirtual 71, 3), (68, .castore, 1), (69, .aload_n 3, 1), (70, .iconst 1, 1), (71, .aload_n 0, 1), (72, .iconst 1, 1), (73, .invokevirtual 71, 3), (76, .castore, 1), (77, .aload_n 3, 1), (78, .iconst 2, 1), (79, .aload_n 0, 1), (80, .iconst 2, 1), (81, .invokevirtual 71, 3), (84, .castore, 1), (85, .aload_n 3, 1), (86, .iconst 3, 1), (87, .aload_n 0, 1), (88, .iconst 3, 1), (89, .invokevirtual 71, 3), (92, .castore, 1), (93, .aload_n 3, 1), (94, .iconst 4, 1), (95, .aload_n 0, 1), (96, .iconst 4, 1), (97, .invokevirtual 71, 3), (100, .castore, 1), (101, .aload_n 3, 1), (102, .iload_n 1, 1), (103, .iload_n 2, 1), (104, .castore, 1), (105, .new 16, 3), (108, .dup, 1), (109, .aload_n 3, 1), (110, .invokespecial 75, 3), (113, .areturn, 1)]
theorem tk15 : TOk method_4_code tb15 := by decide +kernel
def tb16 : Tb := [(0, .aload_n 0, 1), (1, .invokevirtual 15, 3), (4, .iconst 4, 1), (5, .if_icmp .ne 52, 3), (8, .iconst 5, 1), (9, .newarray .char, 2), (11, .astore_n 2, 1), (12, .aload_n 2, 1), (13, .iconst 0, 1), (14, .aload_n 0, 1), (15, .iconst 0, 1), (16, .invokevirtual 71, 3), (19, .castore, 1), (20, .aload_n 2, 1), (21, .iconst 1, 1), (22, .aload_n 0, 1), (23, .iconst 1, 1), (24, .invokevirtual 71, 3), (27, .castore, 1), (28, .aload_n 2, 1), (29, .iconst 2, 1), (30, .aload_n 0, 1), (31, .iconst 2, 1), (32, .invokevirtual 71, 3), (35, .castore, 1), (36, .aload_n 2, 1), (37, .iconst 3, 1), (38, .aload_n 0, 1), (39, .iconst 3, 1), (40, .invokevirtual 71, 3), (43, .castore, 1), (44, .aload_n 2, 1), (45, .iconst 4, 1), (46, .iload_n 1, 1), (47, .castore, 1), (48, .new 16, 3), (51, .dup, 1), (52, .aload_n 2, 1), (53, .invokespecial 75, 3), (56, .areturn, 1), (57, .bipush 6, 2), (59, .newarray .char, 2), (61, .astore_n 2, 1), (62, .aload_n 2, 1), (63, .iconst 0, 1), (64, .aload_n 0, 1), (65, .iconst 0, 1), (66, .invokevirtual 71, 3), (69, .castore, 1), (70, .aload_n 2, 1), (71, .iconst 1, 1), (72, .aload_n 0, 1), (73, .iconst 1, 1), (74, .invokevirtual 71, 3), (77, .castore, 1), (78, .aload_n 2, 1), (79, .iconst 2, 1), (80, .aload_n 0, 1), (81, .iconst 2, 1), (82, .invokevirtual 71, 3), (85, .castore, 1), (86, .aload_n 2, 1), (87, .iconst 3, 1), (88, .aload_n 0, 1), (89, .iconst 3, 1), (90, .invokevirtual 71, 3), (93, .castore, 1), (94, .aload_n 2, 1), (95, .iconst 4, 1), (96, .aload_n 0, 1), (97, .iconst 4, 1), (98, .invokevirtual 71, 3), (101, .castore, 1), (102, .aload_n 2, 1), (103, .iconst 5, 1), (104, .iload_n 1, 1), (105, .castore, 1), (106, .new 16, 3), (109, .dup, 1), (110, .aload_n 2, 1), (111, .invokespecial 75, 3), (114, .areturn, 1)]
theorem tk16 : TOk method_5_code tb16 := by decide +kernel
def tb17 : Tb := [(0, .aload_n 0, 1), (1, .invokevirtual 15, 3), (4, .iconst 4, 1), (5, .if_icmp .ne 40, 3), (8, .iconst 3, 1), (9, .newarray .char, 2), (11, .astore_n 1, 1), (12, .aload_n 1, 1), (13, .iconst 0, 1), (14, .aload_n 0, 1), (15, .iconst 0, 1), (16, .invokevirtual 71, 3), (19, .castore, 1), (20, .aload_n 1, 1), (21, .iconst 1, 1), (22, .aload_n 0, 1), (23, .iconst 1, 1), (24, .invokevirtual 71, 3), (27, .castore, 1), (28, .aload_n 1, 1), (29, .iconst 2, 1), (30, .aload_n 0, 1), (31, .iconst 2, 1), (32, .invokevirtual 71, 3), (35, .castore, 1), (36, .new 16, 3), (39, .dup, 1), (40, .aload_n 1, 1), (41, .invokespecial 75, 3), (44, .areturn, 1), (45, .iconst 4, 1), (46, .newarray .char, 2), (48, .astore_n 1, 1), (49, .aload_n 1, 1), (50, .iconst 0, 1), (51, .aload_n 0, 1), (52, .iconst 0, 1), (53, .invokevirtual 71, 3), (56, .castore, 1), (57, .aload_n 1, 1), (58, .iconst 1, 1), (59, .aload_n 0, 1), (60, .iconst 1, 1), (61, .invokevirtual 71, 3), (64, .castore, 1), (65, .aload_n 1, 1), (66, .iconst 2, 1), (67, .aload_n 0, 1), (68, .iconst 2, 1), (69, .invokevirtual 71, 3), (72, .castore, 1), (73, .aload_n 1, 1), (74, .iconst 3, 1), (75, .aload_n 0, 1), (76, .iconst 3, 1), (77, .invokevirtual 71, 3), (80, .castore, 1), (81, .new 16, 3), (84, .dup, 1), (85, .aload_n 1, 1), (86, .invokespecial 75, 3), (89, .areturn, 1)]
theorem tk17 : TOk method_6_code tb17 := by decide +kernel
def tb18 : Tb := [(0, .iconst 4, 1), (1, .newarray .char, 2), (3, .astore_n 2, 1), (4, .aload_n 2, 1), (5, .iconst 0, 1), (6, .lload_n 0, 1), (7, .ldc2_w 78, 3), (10, .land, 1), (11, .l2i, 1), (12, .i2c, 1), (13, .castore, 1), (14, .aload_n 2, 1), (15, .iconst 1, 1), (16, .lload_n 0, 1), (17, .bipush 8, 2), (19, .lushr, 1), (20, .ldc2_w 78, 3), (23, .land, 1), (24, .l2i, 1), (25, .i2c, 1), (26, .castore, 1), (27, .aload_n 2, 1), (28, .iconst 2, 1), (29, .lload_n 0, 1), (30, .bipush 16, 2), (32, .lushr, 1), (33, .ldc2_w 78, 3), (36, .land, 1), (37, .l2i, 1), (38, .i2c, 1), (39, .castore, 1), (40, .aload_n 2, 1), (41, .iconst 3, 1), (42, .lload_n 0, 1), (43, .bipush 24, 2), (45, .lushr, 1), (46, .ldc2_w 78, 3), (49, .land, 1), (50, .l2i, 1), (51, .i2c, 1), (52, .castore, 1), (53, .new 16, 3), (56, .dup, 1), (57, .aload_n 2, 1), (58, .invokespecial 75, 3), (61, .areturn, 1)]
theorem tk18 : TOk method_8_code tb18 := by decide +kernel
def tb19 : Tb := [(0, .iconst 5, 1), (1, .newarray .char, 2), (3, .astore_n 2, 1), (4, .aload_n 2, 1), (5, .iconst 0, 1), (6, .lload_n 0, 1), (7, .ldc2_w 78, 3), (10, .land, 1), (11, .l2i, 1), (12, .i2c, 1), (13, .castore, 1), (14, .aload_n 2, 1), (15, .iconst 1, 1), (16, .lload_n 0, 1), (17, .bipush 8, 2), (19, .lushr, 1), (20, .ldc2_w 78, 3), (23, .land, 1), (24, .l2i, 1), (25, .i2c, 1), (26, .castore, 1), (27, .aload_n 2, 1), (28, .iconst 2, 1), (29, .lload_n 0, 1), (30, .bipush 16, 2), (32, .lushr, 1), (33, .ldc2_w 78, 3), (36, .land, 1), (37, .l2i, 1), (38, .i2c, 1), (39, .castore, 1), (40, .aload_n 2, 1), (41, .iconst 3, 1), (42, .lload_n 0, 1), (43, .bipush 24, 2), (45, .lushr, 1), (46, .ldc2_w 78, 3), (49, .land, 1), (50, .l2i, 1), (51, .i2c, 1), (52, .castore, 1), (53, .aload_n 2, 1), (54, .iconst 4, 1), (55, .lload_n 0, 1), (56, .bipush 32, 2), (58, .lushr, 1), (59, .ldc2_w 78, 3), (62, .land, 1), (63, .l2i, 1), (64, .i2c, 1), (65, .castore, 1), (66, .new 16, 3), (69, .dup, 1), (70, .aload_n 2, 1), (71, .invokespecial 75, 3), (74, .areturn, 1)]
theorem tk19 : TOk method_7_code tb19 := by decide +kernel
def tb20 : Tb := [(0, .aload_n 0, 1), (1, .aload_n 1, 1), (2, .if_acmp .ne 5, 3), (7, .aload_n 1, 1), (8, .instanceof 10, 3), (11, .ifCond .eq 43, 3), (54, .iconst 0, 1), (55, .ireturn, 1)]
theorem tk20 : TOk jdk_42_method_66_code tb20 := by decide +kernel
def tb21 : Tb := [(0, .getstatic 39, 3), (3, .astore_n 1, 1), (4, .aload_n 1, 1), (5, .arraylength, 1), (6, .istore_n 2, 1), (7, .iconst 0, 1), (8, .istore_n 3, 1), (9, .iload_n 3, 1), (10, .iload_n 2, 1), (11, .if_icmp .ge 29, 3), (14, .aload_n 1, 1), (15, .iload_n 3, 1), (16, .aaload, 1), (17, .astore 4, 2), (19, .aload 4, 2), (21, .getfield 32, 3), (24, .aload_n 0, 1), (25, .invokevirtual 42, 3), (28, .ifCond .eq 6, 3), (31, .aload 4, 2), (33, .areturn, 1), (34, .iinc 3 1, 3), (37, .goto (-28), 3), (40, .aconst_null, 1), (41, .areturn, 1)]
theorem tk21 : TOk prog_23_method_4_code tb21 := by decide +kernel
def tb22 : Tb := [(0, .aload_n 0, 1), (1, .ifnonnull 5, 3), (4, .aconst_null, 1), (5, .areturn, 1), (6, .aload_n 0, 1), (7, .ldc 7, 2), (9, .invokevirtual 57, 3), (12, .ifCond .eq 7, 3), (15, .getstatic 61, 3), (18, .areturn, 1), (19, .aload_n 0, 1), (20, .ldc 9, 2), (22, .invokevirtual 57, 3), (25, .ifCond .eq 7, 3), (28, .getstatic 65, 3), (31, .areturn, 1), (32, .aload_n 0, 1), (33, .ldc 11, 2), (35, .invokevirtual 57, 3), (38, .ifCond .eq 7, 3), (41, .getstatic 68, 3), (44, .areturn, 1), (45, .aconst_null, 1), (46, .areturn, 1)]
theorem tk22 : TOk method_3_code tb22 := by decide +kernel
def tb23 : Tb := [(0, .iload_n 0, 1), (1, .iconst 3, 1), (2, .iand, 1), (3, .istore 6, 2), (5, .iload 6, 2), (7, .ifCond .ne 8, 3), (10, .ldc 7, 2), (12, .goto 16, 3), (15, .iload 6, 2), (17, .iconst 1, 1), (18, .if_icmp .ne 8, 3), (21, .ldc 9, 2), (23, .goto 5, 3), (26, .ldc 11, 2), (28, .astore 7, 2), (30, .iload_n 1, 1), (31, .bipush 7, 2), (33, .iand, 1), (34, .istore 8, 2), (36, .iload_n 3, 1), (37, .ldc 13, 2), (39, .iand, 1), (40, .i2c, 1), (41, .istore 9, 2), (43, .iload 6, 2), (45, .iconst 3, 1), (46, .if_icmp .ne 9, 3), (49, .aconst_null, 1), (50, .astore 10, 2), (52, .goto 130, 3), (55, .iload 8, 2), (57, .ifCond .ne 10, 3), (60, .aload 7, 2), (62, .astore 10, 2), (64, .goto 118, 3), (67, .iload 8, 2), (69, .iconst 1, 1), (70, .if_icmp .ne 25, 3), (73, .aload 7, 2), (75, .iload_n 2, 1), (76, .ldc 14, 2), (78, .iand, 1), (79, .aload 7, 2), (81, .invokevirtual 15, 3), (84, .irem, 1), (85, .iload 9, 2), (87, .invokestatic 21, 3), (90, .astore 10, 2), (92, .goto 90, 3), (95, .iload 8, 2), (97, .iconst 2, 1), (98, .if_icmp .ne 13, 3), (101, .lload 4, 2), (103, .invokestatic 27, 3), (106, .astore 10, 2), (108, .goto 74, 3), (111, .iload 8, 2), (113, .iconst 3, 1), (114, .if_icmp .ne 13, 3), (117, .lload 4, 2), (119, .invokestatic 31, 3), (122, .astore 10, 2), (124, .goto 58, 3), (127, .iload 8, 2), (129, .iconst 4, 1), (130, .if_icmp .ne 15, 3), (133, .aload 7, 2), (135, .iload 9, 2), (137, .invokestatic 34, 3), (140, .astore 10, 2), (142, .goto 40, 3), (145, .iload 8, 2), (147, .iconst 5, 1), (148, .if_icmp .ne 13, 3), (151, .aload 7, 2), (153, .invokestatic 38, 3), (156, .astore 10, 2), (158, .goto 24, 3), (161, .iload 8, 2), (163, .bipush 6, 2), (165, .if_icmp .ne 10, 3), (168, .ldc 42, 2), (170, .astore 10, 2), (172, .goto 10, 3), (175, .iload 9, 2), (177, .invokestatic 44, 3), (180, .astore 10, 2), (182, .aload 10, 2), (184, .invokestatic 48, 3), (187, .astore 11, 2), (189, .aload 11, 2), (191, .aload 10, 2), (193, .invokestatic 54, 3), (196, .if_acmp .ne 7, 3), (199, .iconst 1, 1), (200, .goto 4, 3), (204, .ireturn, 1)]
theorem tk23 : TOk code tb23 := by decide +kernel
theorem ef100 (m : MethodId) (x0 : Addr) (x1 x2 : Int32)  : entryFrame m #[(.ref x0), (.int x1), (.int x2)] 3 = mkF m 0 #[vr x0, vi x1, vi x2] [] := by first | (simp [entryFrame, mkF, argsToLocals, Value.category]; done) | rfl | rfl
set_option maxRecDepth 65536 in
set_option maxHeartbeats 40000000 in
theorem rm100 (B : EV l Z a0 zc fm) (t : Addr) (x3 : Int32) (kc : ClassId) (by1 by2 : Int32) (h0 : Heap) {n0 : Nat} (O0 : Old Z n0 h0) (SA1 : sq0 Z) (SH0 : sq1 Z) (SL8 : sq2 Z) (Ab : Arv Z h0 t kc .byte (2 : Int32) [(.int by1), (.int by2)] (.int 0)) (g2 : n0 ≤ t) :
    Met l Z EL0 n0 (⟨"java/lang/StringUTF16", "putChar", "([BII)V"⟩ : MethodName) jdk_52_method_4_code 3 none [] (rO 0 0 0 0) #[(.ref t), (.int 0), (.int x3)] h0 [t] [t] (fun v h' S => v = none ∧ Arv Z h' t kc .byte (2 : Int32) [(.int (StrChars.lo8 x3)), (.int (StrChars.hi8 x3))] (.int 0)) := by
  obtain ⟨hw, hEL, SC, hzc, SF, rfm⟩ := id B
  refine Met.of (plainFor_of_name pn0) O0 ?_
  intro p e s m below meth c T0 hx hby hml hret hlk hnm hs W0
  have W0 : Wk p l e _ s m _ below meth c Z EL0 n0 [t] "java/lang/StringUTF16" [t] T0 0 0 h0 := W0
  have D := @tk c _ _ hby tk0
  refine Go.of (fun _ kk => castTop (ef100 m t (0 : Int32) x3) kk) ?_
  show Go p e below _ (T0.setTop (mkF m 0 #[vr t, vi 0, vi x3] []))
  refine W0.getS hx (host := "") (Or.inl (hw _ (mI 85 rfl))) Via.refl SA1 rfl (D 0 rfl) (fun T1 W1 => ?_)
  refine W1.pu hx D 3 [(0, true)] 8 38 [_, vi 1, _] [_, .int 0, _] rfl ⟨trivial, (XT.i0_ne_t (by decide +kernel))⟩ ?_
  refine W1.getS hx (host := "") (Or.inl (hw _ (mI 86 rfl))) Via.refl SH0 rfl (D 38 rfl) (fun T2 W2 => ?_)
  refine W2.pv hx D 41 1 42 [_, _, _] [.int (x3 >>> ((0 : Int32) &&& 31)), _, _] rfl ?_
  rw [StrChars.shr0]
  refine W2.pv hx D 42 1 43 [_, _, _] [.int (x3.toInt8.toInt32), _, _] rfl ?_
  refine W2.stB hx Ab ⟨by decide, by decide⟩ 0 rfl (Nat.le_of_ble_eq_true rfl) g2 (Or.inl (mI 0 rfl)) (mI 0 rfl) rfl rfl (D 43 rfl) (fun T3 h3 W3 K3 A3 => ?_)
  have V3 : Arv Z h3 t kc .byte (2 : Int32) [(.int (x3.toInt8.toInt32)), (.int by2)] (.int 0) := (by rw [(nar_byte _)] at A3; exact A3)
  refine W3.pv hx D 44 3 47 [_, _, _] [_, .int 1, _] rfl ?_
  refine W3.getS hx (host := "") (Or.inl (hw _ (mI 87 rfl))) Via.refl SL8 rfl (D 47 rfl) (fun T4 W4 => ?_)
  refine W4.pv hx D 50 2 52 [_, _, _] [.int ((x3 >>> ((8 : Int32) &&& 31)).toInt8.toInt32), _, _] rfl ?_
  refine W4.stB hx V3 ⟨by decide, by decide⟩ 1 rfl (Nat.le_of_ble_eq_true rfl) g2 (Or.inl (mI 0 rfl)) (mI 0 rfl) rfl rfl (D 52 rfl) (fun T5 h5 W5 K5 A5 => ?_)
  have V5 : Arv Z h5 t kc .byte (2 : Int32) [(.int (x3.toInt8.toInt32)), (.int ((x3 >>> ((8 : Int32) &&& 31)).toInt8.toInt32))] (.int 0) := (by rw [(nar_byte _)] at A5; exact A5)
  show Go p e below _ (T5.setTop (mkF m 53 #[vr t, vi 1, vi x3] []))
  exact W5.retV hx hEL hs hlk (by decide +kernel) (by decide +kernel) hret (D 53 rfl) (fun S hS => ⟨rfl, V5⟩)
set_option maxRecDepth 65536 in
set_option maxHeartbeats 40000000 in
theorem rm101 (B : EV l Z a0 zc fm) (t : Addr) (x3 : Int32) (kc : ClassId) (by1 by2 by3 by4 by5 by6 by7 by8 : Int32) (h0 : Heap) {n0 : Nat} (O0 : Old Z n0 h0) (SA1 : sq0 Z) (SH0 : sq1 Z) (SL8 : sq2 Z) (Ab : Arv Z h0 t kc .byte (8 : Int32) [(.int by1), (.int by2), (.int by3), (.int by4), (.int by5), (.int by6), (.int by7), (.int by8)] (.int 0)) (g2 : n0 ≤ t) :
    Met l Z EL0 n0 (⟨"java/lang/StringUTF16", "putChar", "([BII)V"⟩ : MethodName) jdk_52_method_4_code 3 none [] (rO 0 0 0 0) #[(.ref t), (.int 0), (.int x3)] h0 [t] [t] (fun v h' S => v = none ∧ Arv Z h' t kc .byte (8 : Int32) [(.int (StrChars.lo8 x3)), (.int (StrChars.hi8 x3)), (.int by3), (.int by4), (.int by5), (.int by6), (.int by7), (.int by8)] (.int 0)) := by
  obtain ⟨hw, hEL, SC, hzc, SF, rfm⟩ := id B
  refine Met.of (plainFor_of_name pn0) O0 ?_
  intro p e s m below meth c T0 hx hby hml hret hlk hnm hs W0
  have W0 : Wk p l e _ s m _ below meth c Z EL0 n0 [t] "java/lang/StringUTF16" [t] T0 0 0 h0 := W0
  have D := @tk c _ _ hby tk0
  refine Go.of (fun _ kk => castTop (ef100 m t (0 : Int32) x3) kk) ?_
  show Go p e below _ (T0.setTop (mkF m 0 #[vr t, vi 0, vi x3] []))
  refine W0.getS hx (host := "") (Or.inl (hw _ (mI 85 rfl))) Via.refl SA1 rfl (D 0 rfl) (fun T1 W1 => ?_)
  refine W1.pu hx D 3 [(0, true)] 8 38 [_, vi 1, _] [_, .int 0, _] rfl ⟨trivial, (XT.i0_ne_t (by decide +kernel))⟩ ?_
  refine W1.getS hx (host := "") (Or.inl (hw _ (mI 86 rfl))) Via.refl SH0 rfl (D 38 rfl) (fun T2 W2 => ?_)
  refine W2.pv hx D 41 1 42 [_, _, _] [.int (x3 >>> ((0 : Int32) &&& 31)), _, _] rfl ?_
  rw [StrChars.shr0]
  refine W2.pv hx D 42 1 43 [_, _, _] [.int (x3.toInt8.toInt32), _, _] rfl ?_
  refine W2.stB hx Ab ⟨by decide, by decide⟩ 0 rfl (Nat.le_of_ble_eq_true rfl) g2 (Or.inl (mI 0 rfl)) (mI 0 rfl) rfl rfl (D 43 rfl) (fun T3 h3 W3 K3 A3 => ?_)
  have V3 : Arv Z h3 t kc .byte (8 : Int32) [(.int (x3.toInt8.toInt32)), (.int by2), (.int by3), (.int by4), (.int by5), (.int by6), (.int by7), (.int by8)] (.int 0) := (by rw [(nar_byte _)] at A3; exact A3)
  refine W3.pv hx D 44 3 47 [_, _, _] [_, .int 1, _] rfl ?_
  refine W3.getS hx (host := "") (Or.inl (hw _ (mI 87 rfl))) Via.refl SL8 rfl (D 47 rfl) (fun T4 W4 => ?_)
  refine W4.pv hx D 50 2 52 [_, _, _] [.int ((x3 >>> ((8 : Int32) &&& 31)).toInt8.toInt32), _, _] rfl ?_
  refine W4.stB hx V3 ⟨by decide, by decide⟩ 1 rfl (Nat.le_of_ble_eq_true rfl) g2 (Or.inl (mI 0 rfl)) (mI 0 rfl) rfl rfl (D 52 rfl) (fun T5 h5 W5 K5 A5 => ?_)
  have V5 : Arv Z h5 t kc .byte (8 : Int32) [(.int (x3.toInt8.toInt32)), (.int ((x3 >>> ((8 : Int32) &&& 31)).toInt8.toInt32)), (.int by3), (.int by4), (.int by5), (.int by6), (.int by7), (.int by8)] (.int 0) := (by rw [(nar_byte _)] at A5; exact A5)
  show Go p e below _ (T5.setTop (mkF m 53 #[vr t, vi 1, vi x3] []))
  exact W5.retV hx hEL hs hlk (by decide +kernel) (by decide +kernel) hret (D 53 rfl) (fun S hS => ⟨rfl, V5⟩)
set_option maxRecDepth 65536 in
set_option maxHeartbeats 40000000 in
theorem rm102 (B : EV l Z a0 zc fm) (t : Addr) (x3 : Int32) (kc : ClassId) (by1 by2 by3 by4 by5 by6 by7 by8 : Int32) (h0 : Heap) {n0 : Nat} (O0 : Old Z n0 h0) (SA1 : sq0 Z) (SH0 : sq1 Z) (SL8 : sq2 Z) (Ab : Arv Z h0 t kc .byte (8 : Int32) [(.int by1), (.int by2), (.int by3), (.int by4), (.int by5), (.int by6), (.int by7), (.int by8)] (.int 0)) (g2 : n0 ≤ t) :
    Met l Z EL0 n0 (⟨"java/lang/StringUTF16", "putChar", "([BII)V"⟩ : MethodName) jdk_52_method_4_code 3 none [] (rO 0 0 0 0) #[(.ref t), (.int 1), (.int x3)] h0 [t] [t] (fun v h' S => v = none ∧ Arv Z h' t kc .byte (8 : Int32) [(.int by1), (.int by2), (.int (StrChars.lo8 x3)), (.int (StrChars.hi8 x3)), (.int by5), (.int by6), (.int by7), (.int by8)] (.int 0)) := by
  obtain ⟨hw, hEL, SC, hzc, SF, rfm⟩ := id B
  refine Met.of (plainFor_of_name pn0) O0 ?_
  intro p e s m below meth c T0 hx hby hml hret hlk hnm hs W0
  have W0 : Wk p l e _ s m _ below meth c Z EL0 n0 [t] "java/lang/StringUTF16" [t] T0 0 0 h0 := W0
  have D := @tk c _ _ hby tk0
  refine Go.of (fun _ kk => castTop (ef100 m t (1 : Int32) x3) kk) ?_
  show Go p e below _ (T0.setTop (mkF m 0 #[vr t, vi 1, vi x3] []))
  refine W0.getS hx (host := "") (Or.inl (hw _ (mI 85 rfl))) Via.refl SA1 rfl (D 0 rfl) (fun T1 W1 => ?_)
  refine W1.pu hx D 3 [(0, true)] 8 38 [_, vi 3, _] [_, .int 2, _] rfl ⟨trivial, (XT.i0_ne_t (by decide +kernel))⟩ ?_
  refine W1.getS hx (host := "") (Or.inl (hw _ (mI 86 rfl))) Via.refl SH0 rfl (D 38 rfl) (fun T2 W2 => ?_)
  refine W2.pv hx D 41 1 42 [_, _, _] [.int (x3 >>> ((0 : Int32) &&& 31)), _, _] rfl ?_
  rw [StrChars.shr0]
  refine W2.pv hx D 42 1 43 [_, _, _] [.int (x3.toInt8.toInt32), _, _] rfl ?_
  refine W2.stB hx Ab ⟨by decide, by decide⟩ 2 rfl (Nat.le_of_ble_eq_true rfl) g2 (Or.inl (mI 0 rfl)) (mI 0 rfl) rfl rfl (D 43 rfl) (fun T3 h3 W3 K3 A3 => ?_)
  have V3 : Arv Z h3 t kc .byte (8 : Int32) [(.int by1), (.int by2), (.int (x3.toInt8.toInt32)), (.int by4), (.int by5), (.int by6), (.int by7), (.int by8)] (.int 0) := (by rw [(nar_byte _)] at A3; exact A3)
  refine W3.pv hx D 44 3 47 [_, _, _] [_, .int 3, _] rfl ?_
  refine W3.getS hx (host := "") (Or.inl (hw _ (mI 87 rfl))) Via.refl SL8 rfl (D 47 rfl) (fun T4 W4 => ?_)
  refine W4.pv hx D 50 2 52 [_, _, _] [.int ((x3 >>> ((8 : Int32) &&& 31)).toInt8.toInt32), _, _] rfl ?_
  refine W4.stB hx V3 ⟨by decide, by decide⟩ 3 rfl (Nat.le_of_ble_eq_true rfl) g2 (Or.inl (mI 0 rfl)) (mI 0 rfl) rfl rfl (D 52 rfl) (fun T5 h5 W5 K5 A5 => ?_)
  have V5 : Arv Z h5 t kc .byte (8 : Int32) [(.int by1), (.int by2), (.int (x3.toInt8.toInt32)), (.int ((x3 >>> ((8 : Int32) &&& 31)).toInt8.toInt32)), (.int by5), (.int by6), (.int by7), (.int by8)] (.int 0) := (by rw [(nar_byte _)] at A5; exact A5)
  show Go p e below _ (T5.setTop (mkF m 53 #[vr t, vi 3, vi x3] []))
  exact W5.retV hx hEL hs hlk (by decide +kernel) (by decide +kernel) hret (D 53 rfl) (fun S hS => ⟨rfl, V5⟩)
set_option maxRecDepth 65536 in
set_option maxHeartbeats 40000000 in
theorem rm103 (B : EV l Z a0 zc fm) (t : Addr) (x3 : Int32) (kc : ClassId) (by1 by2 by3 by4 by5 by6 by7 by8 : Int32) (h0 : Heap) {n0 : Nat} (O0 : Old Z n0 h0) (SA1 : sq0 Z) (SH0 : sq1 Z) (SL8 : sq2 Z) (Ab : Arv Z h0 t kc .byte (8 : Int32) [(.int by1), (.int by2), (.int by3), (.int by4), (.int by5), (.int by6), (.int by7), (.int by8)] (.int 0)) (g2 : n0 ≤ t) :
    Met l Z EL0 n0 (⟨"java/lang/StringUTF16", "putChar", "([BII)V"⟩ : MethodName) jdk_52_method_4_code 3 none [] (rO 0 0 0 0) #[(.ref t), (.int 2), (.int x3)] h0 [t] [t] (fun v h' S => v = none ∧ Arv Z h' t kc .byte (8 : Int32) [(.int by1), (.int by2), (.int by3), (.int by4), (.int (StrChars.lo8 x3)), (.int (StrChars.hi8 x3)), (.int by7), (.int by8)] (.int 0)) := by
  obtain ⟨hw, hEL, SC, hzc, SF, rfm⟩ := id B
  refine Met.of (plainFor_of_name pn0) O0 ?_
  intro p e s m below meth c T0 hx hby hml hret hlk hnm hs W0
  have W0 : Wk p l e _ s m _ below meth c Z EL0 n0 [t] "java/lang/StringUTF16" [t] T0 0 0 h0 := W0
  have D := @tk c _ _ hby tk0
  refine Go.of (fun _ kk => castTop (ef100 m t (2 : Int32) x3) kk) ?_
  show Go p e below _ (T0.setTop (mkF m 0 #[vr t, vi 2, vi x3] []))
  refine W0.getS hx (host := "") (Or.inl (hw _ (mI 85 rfl))) Via.refl SA1 rfl (D 0 rfl) (fun T1 W1 => ?_)
  refine W1.pu hx D 3 [(0, true)] 8 38 [_, vi 5, _] [_, .int 4, _] rfl ⟨trivial, (XT.i0_ne_t (by decide +kernel))⟩ ?_
  refine W1.getS hx (host := "") (Or.inl (hw _ (mI 86 rfl))) Via.refl SH0 rfl (D 38 rfl) (fun T2 W2 => ?_)
  refine W2.pv hx D 41 1 42 [_, _, _] [.int (x3 >>> ((0 : Int32) &&& 31)), _, _] rfl ?_
  rw [StrChars.shr0]
  refine W2.pv hx D 42 1 43 [_, _, _] [.int (x3.toInt8.toInt32), _, _] rfl ?_
  refine W2.stB hx Ab ⟨by decide, by decide⟩ 4 rfl (Nat.le_of_ble_eq_true rfl) g2 (Or.inl (mI 0 rfl)) (mI 0 rfl) rfl rfl (D 43 rfl) (fun T3 h3 W3 K3 A3 => ?_)
  have V3 : Arv Z h3 t kc .byte (8 : Int32) [(.int by1), (.int by2), (.int by3), (.int by4), (.int (x3.toInt8.toInt32)), (.int by6), (.int by7), (.int by8)] (.int 0) := (by rw [(nar_byte _)] at A3; exact A3)
  refine W3.pv hx D 44 3 47 [_, _, _] [_, .int 5, _] rfl ?_
  refine W3.getS hx (host := "") (Or.inl (hw _ (mI 87 rfl))) Via.refl SL8 rfl (D 47 rfl) (fun T4 W4 => ?_)
  refine W4.pv hx D 50 2 52 [_, _, _] [.int ((x3 >>> ((8 : Int32) &&& 31)).toInt8.toInt32), _, _] rfl ?_
  refine W4.stB hx V3 ⟨by decide, by decide⟩ 5 rfl (Nat.le_of_ble_eq_true rfl) g2 (Or.inl (mI 0 rfl)) (mI 0 rfl) rfl rfl (D 52 rfl) (fun T5 h5 W5 K5 A5 => ?_)
  have V5 : Arv Z h5 t kc .byte (8 : Int32) [(.int by1), (.int by2), (.int by3), (.int by4), (.int (x3.toInt8.toInt32)), (.int ((x3 >>> ((8 : Int32) &&& 31)).toInt8.toInt32)), (.int by7), (.int by8)] (.int 0) := (by rw [(nar_byte _)] at A5; exact A5)
  show Go p e below _ (T5.setTop (mkF m 53 #[vr t, vi 5, vi x3] []))
  exact W5.retV hx hEL hs hlk (by decide +kernel) (by decide +kernel) hret (D 53 rfl) (fun S hS => ⟨rfl, V5⟩)
set_option maxRecDepth 65536 in
set_option maxHeartbeats 40000000 in
theorem rm104 (B : EV l Z a0 zc fm) (t : Addr) (x3 : Int32) (kc : ClassId) (by1 by2 by3 by4 by5 by6 by7 by8 : Int32) (h0 : Heap) {n0 : Nat} (O0 : Old Z n0 h0) (SA1 : sq0 Z) (SH0 : sq1 Z) (SL8 : sq2 Z) (Ab : Arv Z h0 t kc .byte (8 : Int32) [(.int by1), (.int by2), (.int by3), (.int by4), (.int by5), (.int by6), (.int by7), (.int by8)] (.int 0)) (g2 : n0 ≤ t) :
    Met l Z EL0 n0 (⟨"java/lang/StringUTF16", "putChar", "([BII)V"⟩ : MethodName) jdk_52_method_4_code 3 none [] (rO 0 0 0 0) #[(.ref t), (.int 3), (.int x3)] h0 [t] [t] (fun v h' S => v = none ∧ Arv Z h' t kc .byte (8 : Int32) [(.int by1), (.int by2), (.int by3), (.int by4), (.int by5), (.int by6), (.int (StrChars.lo8 x3)), (.int (StrChars.hi8 x3))] (.int 0)) := by
  obtain ⟨hw, hEL, SC, hzc, SF, rfm⟩ := id B
  refine Met.of (plainFor_of_name pn0) O0 ?_
  intro p e s m below meth c T0 hx hby hml hret hlk hnm hs W0
  have W0 : Wk p l e _ s m _ below meth c Z EL0 n0 [t] "java/lang/StringUTF16" [t] T0 0 0 h0 := W0
  have D := @tk c _ _ hby tk0
  refine Go.of (fun _ kk => castTop (ef100 m t (3 : Int32) x3) kk) ?_
  show Go p e below _ (T0.setTop (mkF m 0 #[vr t, vi 3, vi x3] []))
  refine W0.getS hx (host := "") (Or.inl (hw _ (mI 85 rfl))) Via.refl SA1 rfl (D 0 rfl) (fun T1 W1 => ?_)
  refine W1.pu hx D 3 [(0, true)] 8 38 [_, vi 7, _] [_, .int 6, _] rfl ⟨trivial, (XT.i0_ne_t (by decide +kernel))⟩ ?_
  refine W1.getS hx (host := "") (Or.inl (hw _ (mI 86 rfl))) Via.refl SH0 rfl (D 38 rfl) (fun T2 W2 => ?_)
  refine W2.pv hx D 41 1 42 [_, _, _] [.int (x3 >>> ((0 : Int32) &&& 31)), _, _] rfl ?_
  rw [StrChars.shr0]
  refine W2.pv hx D 42 1 43 [_, _, _] [.int (x3.toInt8.toInt32), _, _] rfl ?_
  refine W2.stB hx Ab ⟨by decide, by decide⟩ 6 rfl (Nat.le_of_ble_eq_true rfl) g2 (Or.inl (mI 0 rfl)) (mI 0 rfl) rfl rfl (D 43 rfl) (fun T3 h3 W3 K3 A3 => ?_)
  have V3 : Arv Z h3 t kc .byte (8 : Int32) [(.int by1), (.int by2), (.int by3), (.int by4), (.int by5), (.int by6), (.int (x3.toInt8.toInt32)), (.int by8)] (.int 0) := (by rw [(nar_byte _)] at A3; exact A3)
  refine W3.pv hx D 44 3 47 [_, _, _] [_, .int 7, _] rfl ?_
  refine W3.getS hx (host := "") (Or.inl (hw _ (mI 87 rfl))) Via.refl SL8 rfl (D 47 rfl) (fun T4 W4 => ?_)
  refine W4.pv hx D 50 2 52 [_, _, _] [.int ((x3 >>> ((8 : Int32) &&& 31)).toInt8.toInt32), _, _] rfl ?_
  refine W4.stB hx V3 ⟨by decide, by decide⟩ 7 rfl (Nat.le_of_ble_eq_true rfl) g2 (Or.inl (mI 0 rfl)) (mI 0 rfl) rfl rfl (D 52 rfl) (fun T5 h5 W5 K5 A5 => ?_)
  have V5 : Arv Z h5 t kc .byte (8 : Int32) [(.int by1), (.int by2), (.int by3), (.int by4), (.int by5), (.int by6), (.int (x3.toInt8.toInt32)), (.int ((x3 >>> ((8 : Int32) &&& 31)).toInt8.toInt32))] (.int 0) := (by rw [(nar_byte _)] at A5; exact A5)
  show Go p e below _ (T5.setTop (mkF m 53 #[vr t, vi 7, vi x3] []))
  exact W5.retV hx hEL hs hlk (by decide +kernel) (by decide +kernel) hret (D 53 rfl) (fun S hS => ⟨rfl, V5⟩)
set_option maxRecDepth 65536 in
set_option maxHeartbeats 40000000 in
theorem rm105 (B : EV l Z a0 zc fm) (t : Addr) (x3 : Int32) (kc : ClassId) (by1 by2 by3 by4 by5 by6 by7 by8 by9 by10 : Int32) (h0 : Heap) {n0 : Nat} (O0 : Old Z n0 h0) (SA1 : sq0 Z) (SH0 : sq1 Z) (SL8 : sq2 Z) (Ab : Arv Z h0 t kc .byte (10 : Int32) [(.int by1), (.int by2), (.int by3), (.int by4), (.int by5), (.int by6), (.int by7), (.int by8), (.int by9), (.int by10)] (.int 0)) (g2 : n0 ≤ t) :
    Met l Z EL0 n0 (⟨"java/lang/StringUTF16", "putChar", "([BII)V"⟩ : MethodName) jdk_52_method_4_code 3 none [] (rO 0 0 0 0) #[(.ref t), (.int 0), (.int x3)] h0 [t] [t] (fun v h' S => v = none ∧ Arv Z h' t kc .byte (10 : Int32) [(.int (StrChars.lo8 x3)), (.int (StrChars.hi8 x3)), (.int by3), (.int by4), (.int by5), (.int by6), (.int by7), (.int by8), (.int by9), (.int by10)] (.int 0)) := by
  obtain ⟨hw, hEL, SC, hzc, SF, rfm⟩ := id B
  refine Met.of (plainFor_of_name pn0) O0 ?_
  intro p e s m below meth c T0 hx hby hml hret hlk hnm hs W0
  have W0 : Wk p l e _ s m _ below meth c Z EL0 n0 [t] "java/lang/StringUTF16" [t] T0 0 0 h0 := W0
  have D := @tk c _ _ hby tk0
  refine Go.of (fun _ kk => castTop (ef100 m t (0 : Int32) x3) kk) ?_
  show Go p e below _ (T0.setTop (mkF m 0 #[vr t, vi 0, vi x3] []))
  refine W0.getS hx (host := "") (Or.inl (hw _ (mI 85 rfl))) Via.refl SA1 rfl (D 0 rfl) (fun T1 W1 => ?_)
  refine W1.pu hx D 3 [(0, true)] 8 38 [_, vi 1, _] [_, .int 0, _] rfl ⟨trivial, (XT.i0_ne_t (by decide +kernel))⟩ ?_
  refine W1.getS hx (host := "") (Or.inl (hw _ (mI 86 rfl))) Via.refl SH0 rfl (D 38 rfl) (fun T2 W2 => ?_)
  refine W2.pv hx D 41 1 42 [_, _, _] [.int (x3 >>> ((0 : Int32) &&& 31)), _, _] rfl ?_
  rw [StrChars.shr0]
  refine W2.pv hx D 42 1 43 [_, _, _] [.int (x3.toInt8.toInt32), _, _] rfl ?_
  refine W2.stB hx Ab ⟨by decide, by decide⟩ 0 rfl (Nat.le_of_ble_eq_true rfl) g2 (Or.inl (mI 0 rfl)) (mI 0 rfl) rfl rfl (D 43 rfl) (fun T3 h3 W3 K3 A3 => ?_)
  have V3 : Arv Z h3 t kc .byte (10 : Int32) [(.int (x3.toInt8.toInt32)), (.int by2), (.int by3), (.int by4), (.int by5), (.int by6), (.int by7), (.int by8), (.int by9), (.int by10)] (.int 0) := (by rw [(nar_byte _)] at A3; exact A3)
  refine W3.pv hx D 44 3 47 [_, _, _] [_, .int 1, _] rfl ?_
  refine W3.getS hx (host := "") (Or.inl (hw _ (mI 87 rfl))) Via.refl SL8 rfl (D 47 rfl) (fun T4 W4 => ?_)
  refine W4.pv hx D 50 2 52 [_, _, _] [.int ((x3 >>> ((8 : Int32) &&& 31)).toInt8.toInt32), _, _] rfl ?_
  refine W4.stB hx V3 ⟨by decide, by decide⟩ 1 rfl (Nat.le_of_ble_eq_true rfl) g2 (Or.inl (mI 0 rfl)) (mI 0 rfl) rfl rfl (D 52 rfl) (fun T5 h5 W5 K5 A5 => ?_)
  have V5 : Arv Z h5 t kc .byte (10 : Int32) [(.int (x3.toInt8.toInt32)), (.int ((x3 >>> ((8 : Int32) &&& 31)).toInt8.toInt32)), (.int by3), (.int by4), (.int by5), (.int by6), (.int by7), (.int by8), (.int by9), (.int by10)] (.int 0) := (by rw [(nar_byte _)] at A5; exact A5)
  show Go p e below _ (T5.setTop (mkF m 53 #[vr t, vi 1, vi x3] []))
  exact W5.retV hx hEL hs hlk (by decide +kernel) (by decide +kernel) hret (D 53 rfl) (fun S hS => ⟨rfl, V5⟩)
set_option maxRecDepth 65536 in
set_option maxHeartbeats 40000000 in
theorem rm106 (B : EV l Z a0 zc fm) (t : Addr) (x3 : Int32) (kc : ClassId) (by1 by2 by3 by4 by5 by6 by7 by8 by9 by10 : Int32) (h0 : Heap) {n0 : Nat} (O0 : Old Z n0 h0) (SA1 : sq0 Z) (SH0 : sq1 Z) (SL8 : sq2 Z) (Ab : Arv Z h0 t kc .byte (10 : Int32) [(.int by1), (.int by2), (.int by3), (.int by4), (.int by5), (.int by6), (.int by7), (.int by8), (.int by9), (.int by10)] (.int 0)) (g2 : n0 ≤ t) :
    Met l Z EL0 n0 (⟨"java/lang/StringUTF16", "putChar", "([BII)V"⟩ : MethodName) jdk_52_method_4_code 3 none [] (rO 0 0 0 0) #[(.ref t), (.int 1), (.int x3)] h0 [t] [t] (fun v h' S => v = none ∧ Arv Z h' t kc .byte (10 : Int32) [(.int by1), (.int by2), (.int (StrChars.lo8 x3)), (.int (StrChars.hi8 x3)), (.int by5), (.int by6), (.int by7), (.int by8), (.int by9), (.int by10)] (.int 0)) := by
  obtain ⟨hw, hEL, SC, hzc, SF, rfm⟩ := id B
  refine Met.of (plainFor_of_name pn0) O0 ?_
  intro p e s m below meth c T0 hx hby hml hret hlk hnm hs W0
  have W0 : Wk p l e _ s m _ below meth c Z EL0 n0 [t] "java/lang/StringUTF16" [t] T0 0 0 h0 := W0
  have D := @tk c _ _ hby tk0
  refine Go.of (fun _ kk => castTop (ef100 m t (1 : Int32) x3) kk) ?_
  show Go p e below _ (T0.setTop (mkF m 0 #[vr t, vi 1, vi x3] []))
  refine W0.getS hx (host := "") (Or.inl (hw _ (mI 85 rfl))) Via.refl SA1 rfl (D 0 rfl) (fun T1 W1 => ?_)
  refine W1.pu hx D 3 [(0, true)] 8 38 [_, vi 3, _] [_, .int 2, _] rfl ⟨trivial, (XT.i0_ne_t (by decide +kernel))⟩ ?_
  refine W1.getS hx (host := "") (Or.inl (hw _ (mI 86 rfl))) Via.refl SH0 rfl (D 38 rfl) (fun T2 W2 => ?_)
  refine W2.pv hx D 41 1 42 [_, _, _] [.int (x3 >>> ((0 : Int32) &&& 31)), _, _] rfl ?_
  rw [StrChars.shr0]
  refine W2.pv hx D 42 1 43 [_, _, _] [.int (x3.toInt8.toInt32), _, _] rfl ?_
  refine W2.stB hx Ab ⟨by decide, by decide⟩ 2 rfl (Nat.le_of_ble_eq_true rfl) g2 (Or.inl (mI 0 rfl)) (mI 0 rfl) rfl rfl (D 43 rfl) (fun T3 h3 W3 K3 A3 => ?_)
  have V3 : Arv Z h3 t kc .byte (10 : Int32) [(.int by1), (.int by2), (.int (x3.toInt8.toInt32)), (.int by4), (.int by5), (.int by6), (.int by7), (.int by8), (.int by9), (.int by10)] (.int 0) := (by rw [(nar_byte _)] at A3; exact A3)
  refine W3.pv hx D 44 3 47 [_, _, _] [_, .int 3, _] rfl ?_
  refine W3.getS hx (host := "") (Or.inl (hw _ (mI 87 rfl))) Via.refl SL8 rfl (D 47 rfl) (fun T4 W4 => ?_)
  refine W4.pv hx D 50 2 52 [_, _, _] [.int ((x3 >>> ((8 : Int32) &&& 31)).toInt8.toInt32), _, _] rfl ?_
  refine W4.stB hx V3 ⟨by decide, by decide⟩ 3 rfl (Nat.le_of_ble_eq_true rfl) g2 (Or.inl (mI 0 rfl)) (mI 0 rfl) rfl rfl (D 52 rfl) (fun T5 h5 W5 K5 A5 => ?_)
  have V5 : Arv Z h5 t kc .byte (10 : Int32) [(.int by1), (.int by2), (.int (x3.toInt8.toInt32)), (.int ((x3 >>> ((8 : Int32) &&& 31)).toInt8.toInt32)), (.int by5), (.int by6), (.int by7), (.int by8), (.int by9), (.int by10)] (.int 0) := (by rw [(nar_byte _)] at A5; exact A5)
  show Go p e below _ (T5.setTop (mkF m 53 #[vr t, vi 3, vi x3] []))
  exact W5.retV hx hEL hs hlk (by decide +kernel) (by decide +kernel) hret (D 53 rfl) (fun S hS => ⟨rfl, V5⟩)
set_option maxRecDepth 65536 in
set_option maxHeartbeats 40000000 in
theorem rm107 (B : EV l Z a0 zc fm) (t : Addr) (x3 : Int32) (kc : ClassId) (by1 by2 by3 by4 by5 by6 by7 by8 by9 by10 : Int32) (h0 : Heap) {n0 : Nat} (O0 : Old Z n0 h0) (SA1 : sq0 Z) (SH0 : sq1 Z) (SL8 : sq2 Z) (Ab : Arv Z h0 t kc .byte (10 : Int32) [(.int by1), (.int by2), (.int by3), (.int by4), (.int by5), (.int by6), (.int by7), (.int by8), (.int by9), (.int by10)] (.int 0)) (g2 : n0 ≤ t) :
    Met l Z EL0 n0 (⟨"java/lang/StringUTF16", "putChar", "([BII)V"⟩ : MethodName) jdk_52_method_4_code 3 none [] (rO 0 0 0 0) #[(.ref t), (.int 2), (.int x3)] h0 [t] [t] (fun v h' S => v = none ∧ Arv Z h' t kc .byte (10 : Int32) [(.int by1), (.int by2), (.int by3), (.int by4), (.int (StrChars.lo8 x3)), (.int (StrChars.hi8 x3)), (.int by7), (.int by8), (.int by9), (.int by10)] (.int 0)) := by
  obtain ⟨hw, hEL, SC, hzc, SF, rfm⟩ := id B
  refine Met.of (plainFor_of_name pn0) O0 ?_
  intro p e s m below meth c T0 hx hby hml hret hlk hnm hs W0
  have W0 : Wk p l e _ s m _ below meth c Z EL0 n0 [t] "java/lang/StringUTF16" [t] T0 0 0 h0 := W0
  have D := @tk c _ _ hby tk0
  refine Go.of (fun _ kk => castTop (ef100 m t (2 : Int32) x3) kk) ?_
  show Go p e below _ (T0.setTop (mkF m 0 #[vr t, vi 2, vi x3] []))
  refine W0.getS hx (host := "") (Or.inl (hw _ (mI 85 rfl))) Via.refl SA1 rfl (D 0 rfl) (fun T1 W1 => ?_)
  refine W1.pu hx D 3 [(0, true)] 8 38 [_, vi 5, _] [_, .int 4, _] rfl ⟨trivial, (XT.i0_ne_t (by decide +kernel))⟩ ?_
  refine W1.getS hx (host := "") (Or.inl (hw _ (mI 86 rfl))) Via.refl SH0 rfl (D 38 rfl) (fun T2 W2 => ?_)
  refine W2.pv hx D 41 1 42 [_, _, _] [.int (x3 >>> ((0 : Int32) &&& 31)), _, _] rfl ?_
  rw [StrChars.shr0]
  refine W2.pv hx D 42 1 43 [_, _, _] [.int (x3.toInt8.toInt32), _, _] rfl ?_
  refine W2.stB hx Ab ⟨by decide, by decide⟩ 4 rfl (Nat.le_of_ble_eq_true rfl) g2 (Or.inl (mI 0 rfl)) (mI 0 rfl) rfl rfl (D 43 rfl) (fun T3 h3 W3 K3 A3 => ?_)
  have V3 : Arv Z h3 t kc .byte (10 : Int32) [(.int by1), (.int by2), (.int by3), (.int by4), (.int (x3.toInt8.toInt32)), (.int by6), (.int by7), (.int by8), (.int by9), (.int by10)] (.int 0) := (by rw [(nar_byte _)] at A3; exact A3)
  refine W3.pv hx D 44 3 47 [_, _, _] [_, .int 5, _] rfl ?_
  refine W3.getS hx (host := "") (Or.inl (hw _ (mI 87 rfl))) Via.refl SL8 rfl (D 47 rfl) (fun T4 W4 => ?_)
  refine W4.pv hx D 50 2 52 [_, _, _] [.int ((x3 >>> ((8 : Int32) &&& 31)).toInt8.toInt32), _, _] rfl ?_
  refine W4.stB hx V3 ⟨by decide, by decide⟩ 5 rfl (Nat.le_of_ble_eq_true rfl) g2 (Or.inl (mI 0 rfl)) (mI 0 rfl) rfl rfl (D 52 rfl) (fun T5 h5 W5 K5 A5 => ?_)
  have V5 : Arv Z h5 t kc .byte (10 : Int32) [(.int by1), (.int by2), (.int by3), (.int by4), (.int (x3.toInt8.toInt32)), (.int ((x3 >>> ((8 : Int32) &&& 31)).toInt8.toInt32)), (.int by7), (.int by8), (.int by9), (.int by10)] (.int 0) := (by rw [(nar_byte _)] at A5; exact A5)
  show Go p e below _ (T5.setTop (mkF m 53 #[vr t, vi 5, vi x3] []))
  exact W5.retV hx hEL hs hlk (by decide +kernel) (by decide +kernel) hret (D 53 rfl) (fun S hS => ⟨rfl, V5⟩)
set_option maxRecDepth 65536 in
set_option maxHeartbeats 40000000 in
theorem rm108 (B : EV l Z a0 zc fm) (t : Addr) (x3 : Int32) (kc : ClassId) (by1 by2 by3 by4 by5 by6 by7 by8 by9 by10 : Int32) (h0 : Heap) {n0 : Nat} (O0 : Old Z n0 h0) (SA1 : sq0 Z) (SH0 : sq1 Z) (SL8 : sq2 Z) (Ab : Arv Z h0 t kc .byte (10 : Int32) [(.int by1), (.int by2), (.int by3), (.int by4), (.int by5), (.int by6), (.int by7), (.int by8), (.int by9), (.int by10)] (.int 0)) (g2 : n0 ≤ t) :
    Met l Z EL0 n0 (⟨"java/lang/StringUTF16", "putChar", "([BII)V"⟩ : MethodName) jdk_52_method_4_code 3 none [] (rO 0 0 0 0) #[(.ref t), (.int 3), (.int x3)] h0 [t] [t] (fun v h' S => v = none ∧ Arv Z h' t kc .byte (10 : Int32) [(.int by1), (.int by2), (.int by3), (.int by4), (.int by5), (.int by6), (.int (StrChars.lo8 x3)), (.int (StrChars.hi8 x3)), (.int by9), (.int by10)] (.int 0)) := by
  obtain ⟨hw, hEL, SC, hzc, SF, rfm⟩ := id B
  refine Met.of (plainFor_of_name pn0) O0 ?_
  intro p e s m below meth c T0 hx hby hml hret hlk hnm hs W0
  have W0 : Wk p l e _ s m _ below meth c Z EL0 n0 [t] "java/lang/StringUTF16" [t] T0 0 0 h0 := W0
  have D := @tk c _ _ hby tk0
  refine Go.of (fun _ kk => castTop (ef100 m t (3 : Int32) x3) kk) ?_
  show Go p e below _ (T0.setTop (mkF m 0 #[vr t, vi 3, vi x3] []))
  refine W0.getS hx (host := "") (Or.inl (hw _ (mI 85 rfl))) Via.refl SA1 rfl (D 0 rfl) (fun T1 W1 => ?_)
  refine W1.pu hx D 3 [(0, true)] 8 38 [_, vi 7, _] [_, .int 6, _] rfl ⟨trivial, (XT.i0_ne_t (by decide +kernel))⟩ ?_
  refine W1.getS hx (host := "") (Or.inl (hw _ (mI 86 rfl))) Via.refl SH0 rfl (D 38 rfl) (fun T2 W2 => ?_)
  refine W2.pv hx D 41 1 42 [_, _, _] [.int (x3 >>> ((0 : Int32) &&& 31)), _, _] rfl ?_
  rw [StrChars.shr0]
  refine W2.pv hx D 42 1 43 [_, _, _] [.int (x3.toInt8.toInt32), _, _] rfl ?_
  refine W2.stB hx Ab ⟨by decide, by decide⟩ 6 rfl (Nat.le_of_ble_eq_true rfl) g2 (Or.inl (mI 0 rfl)) (mI 0 rfl) rfl rfl (D 43 rfl) (fun T3 h3 W3 K3 A3 => ?_)
  have V3 : Arv Z h3 t kc .byte (10 : Int32) [(.int by1), (.int by2), (.int by3), (.int by4), (.int by5), (.int by6), (.int (x3.toInt8.toInt32)), (.int by8), (.int by9), (.int by10)] (.int 0) := (by rw [(nar_byte _)] at A3; exact A3)
  refine W3.pv hx D 44 3 47 [_, _, _] [_, .int 7, _] rfl ?_
  refine W3.getS hx (host := "") (Or.inl (hw _ (mI 87 rfl))) Via.refl SL8 rfl (D 47 rfl) (fun T4 W4 => ?_)
  refine W4.pv hx D 50 2 52 [_, _, _] [.int ((x3 >>> ((8 : Int32) &&& 31)).toInt8.toInt32), _, _] rfl ?_
  refine W4.stB hx V3 ⟨by decide, by decide⟩ 7 rfl (Nat.le_of_ble_eq_true rfl) g2 (Or.inl (mI 0 rfl)) (mI 0 rfl) rfl rfl (D 52 rfl) (fun T5 h5 W5 K5 A5 => ?_)
  have V5 : Arv Z h5 t kc .byte (10 : Int32) [(.int by1), (.int by2), (.int by3), (.int by4), (.int by5), (.int by6), (.int (x3.toInt8.toInt32)), (.int ((x3 >>> ((8 : Int32) &&& 31)).toInt8.toInt32)), (.int by9), (.int by10)] (.int 0) := (by rw [(nar_byte _)] at A5; exact A5)
  show Go p e below _ (T5.setTop (mkF m 53 #[vr t, vi 7, vi x3] []))
  exact W5.retV hx hEL hs hlk (by decide +kernel) (by decide +kernel) hret (D 53 rfl) (fun S hS => ⟨rfl, V5⟩)
set_option maxRecDepth 65536 in
set_option maxHeartbeats 40000000 in
theorem rm109 (B : EV l Z a0 zc fm) (t : Addr) (x3 : Int32) (kc : ClassId) (by1 by2 by3 by4 by5 by6 by7 by8 by9 by10 : Int32) (h0 : Heap) {n0 : Nat} (O0 : Old Z n0 h0) (SA1 : sq0 Z) (SH0 : sq1 Z) (SL8 : sq2 Z) (Ab : Arv Z h0 t kc .byte (10 : Int32) [(.int by1), (.int by2), (.int by3), (.int by4), (.int by5), (.int by6), (.int by7), (.int by8), (.int by9), (.int by10)] (.int 0)) (g2 : n0 ≤ t) :
    Met l Z EL0 n0 (⟨"java/lang/StringUTF16", "putChar", "([BII)V"⟩ : MethodName) jdk_52_method_4_code 3 none [] (rO 0 0 0 0) #[(.ref t), (.int 4), (.int x3)] h0 [t] [t] (fun v h' S => v = none ∧ Arv Z h' t kc .byte (10 : Int32) [(.int by1), (.int by2), (.int by3), (.int by4), (.int by5), (.int by6), (.int by7), (.int by8), (.int (StrChars.lo8 x3)), (.int (StrChars.hi8 x3))] (.int 0)) := by
  obtain ⟨hw, hEL, SC, hzc, SF, rfm⟩ := id B
  refine Met.of (plainFor_of_name pn0) O0 ?_
  intro p e s m below meth c T0 hx hby hml hret hlk hnm hs W0
  have W0 : Wk p l e _ s m _ below meth c Z EL0 n0 [t] "java/lang/StringUTF16" [t] T0 0 0 h0 := W0
  have D := @tk c _ _ hby tk0
  refine Go.of (fun _ kk => castTop (ef100 m t (4 : Int32) x3) kk) ?_
  show Go p e below _ (T0.setTop (mkF m 0 #[vr t, vi 4, vi x3] []))
  refine W0.getS hx (host := "") (Or.inl (hw _ (mI 85 rfl))) Via.refl SA1 rfl (D 0 rfl) (fun T1 W1 => ?_)
  refine W1.pu hx D 3 [(0, true)] 8 38 [_, vi 9, _] [_, .int 8, _] rfl ⟨trivial, (XT.i0_ne_t (by decide +kernel))⟩ ?_
  refine W1.getS hx (host := "") (Or.inl (hw _ (mI 86 rfl))) Via.refl SH0 rfl (D 38 rfl) (fun T2 W2 => ?_)
  refine W2.pv hx D 41 1 42 [_, _, _] [.int (x3 >>> ((0 : Int32) &&& 31)), _, _] rfl ?_
  rw [StrChars.shr0]
  refine W2.pv hx D 42 1 43 [_, _, _] [.int (x3.toInt8.toInt32), _, _] rfl ?_
  refine W2.stB hx Ab ⟨by decide, by decide⟩ 8 rfl (Nat.le_of_ble_eq_true rfl) g2 (Or.inl (mI 0 rfl)) (mI 0 rfl) rfl rfl (D 43 rfl) (fun T3 h3 W3 K3 A3 => ?_)
  have V3 : Arv Z h3 t kc .byte (10 : Int32) [(.int by1), (.int by2), (.int by3), (.int by4), (.int by5), (.int by6), (.int by7), (.int by8), (.int (x3.toInt8.toInt32)), (.int by10)] (.int 0) := (by rw [(nar_byte _)] at A3; exact A3)
  refine W3.pv hx D 44 3 47 [_, _, _] [_, .int 9, _] rfl ?_
  refine W3.getS hx (host := "") (Or.inl (hw _ (mI 87 rfl))) Via.refl SL8 rfl (D 47 rfl) (fun T4 W4 => ?_)
  refine W4.pv hx D 50 2 52 [_, _, _] [.int ((x3 >>> ((8 : Int32) &&& 31)).toInt8.toInt32), _, _] rfl ?_
  refine W4.stB hx V3 ⟨by decide, by decide⟩ 9 rfl (Nat.le_of_ble_eq_true rfl) g2 (Or.inl (mI 0 rfl)) (mI 0 rfl) rfl rfl (D 52 rfl) (fun T5 h5 W5 K5 A5 => ?_)
  have V5 : Arv Z h5 t kc .byte (10 : Int32) [(.int by1), (.int by2), (.int by3), (.int by4), (.int by5), (.int by6), (.int by7), (.int by8), (.int (x3.toInt8.toInt32)), (.int ((x3 >>> ((8 : Int32) &&& 31)).toInt8.toInt32))] (.int 0) := (by rw [(nar_byte _)] at A5; exact A5)
  show Go p e below _ (T5.setTop (mkF m 53 #[vr t, vi 9, vi x3] []))
  exact W5.retV hx hEL hs hlk (by decide +kernel) (by decide +kernel) hret (D 53 rfl) (fun S hS => ⟨rfl, V5⟩)
set_option maxRecDepth 65536 in
set_option maxHeartbeats 40000000 in
theorem rm110 (B : EV l Z a0 zc fm) (t : Addr) (x3 : Int32) (kc : ClassId) (by1 by2 by3 by4 by5 by6 by7 by8 by9 by10 by11 by12 : Int32) (h0 : Heap) {n0 : Nat} (O0 : Old Z n0 h0) (SA1 : sq0 Z) (SH0 : sq1 Z) (SL8 : sq2 Z) (Ab : Arv Z h0 t kc .byte (12 : Int32) [(.int by1), (.int by2), (.int by3), (.int by4), (.int by5), (.int by6), (.int by7), (.int by8), (.int by9), (.int by10), (.int by11), (.int by12)] (.int 0)) (g2 : n0 ≤ t) :
    Met l Z EL0 n0 (⟨"java/lang/StringUTF16", "putChar", "([BII)V"⟩ : MethodName) jdk_52_method_4_code 3 none [] (rO 0 0 0 0) #[(.ref t), (.int 0), (.int x3)] h0 [t] [t] (fun v h' S => v = none ∧ Arv Z h' t kc .byte (12 : Int32) [(.int (StrChars.lo8 x3)), (.int (StrChars.hi8 x3)), (.int by3), (.int by4), (.int by5), (.int by6), (.int by7), (.int by8), (.int by9), (.int by10), (.int by11), (.int by12)] (.int 0)) := by
  obtain ⟨hw, hEL, SC, hzc, SF, rfm⟩ := id B
  refine Met.of (plainFor_of_name pn0) O0 ?_
  intro p e s m below meth c T0 hx hby hml hret hlk hnm hs W0
  have W0 : Wk p l e _ s m _ below meth c Z EL0 n0 [t] "java/lang/StringUTF16" [t] T0 0 0 h0 := W0
  have D := @tk c _ _ hby tk0
  refine Go.of (fun _ kk => castTop (ef100 m t (0 : Int32) x3) kk) ?_
  show Go p e below _ (T0.setTop (mkF m 0 #[vr t, vi 0, vi x3] []))
  refine W0.getS hx (host := "") (Or.inl (hw _ (mI 85 rfl))) Via.refl SA1 rfl (D 0 rfl) (fun T1 W1 => ?_)
  refine W1.pu hx D 3 [(0, true)] 8 38 [_, vi 1, _] [_, .int 0, _] rfl ⟨trivial, (XT.i0_ne_t (by decide +kernel))⟩ ?_
  refine W1.getS hx (host := "") (Or.inl (hw _ (mI 86 rfl))) Via.refl SH0 rfl (D 38 rfl) (fun T2 W2 => ?_)
  refine W2.pv hx D 41 1 42 [_, _, _] [.int (x3 >>> ((0 : Int32) &&& 31)), _, _] rfl ?_
  rw [StrChars.shr0]
  refine W2.pv hx D 42 1 43 [_, _, _] [.int (x3.toInt8.toInt32), _, _] rfl ?_
  refine W2.stB hx Ab ⟨by decide, by decide⟩ 0 rfl (Nat.le_of_ble_eq_true rfl) g2 (Or.inl (mI 0 rfl)) (mI 0 rfl) rfl rfl (D 43 rfl) (fun T3 h3 W3 K3 A3 => ?_)
  have V3 : Arv Z h3 t kc .byte (12 : Int32) [(.int (x3.toInt8.toInt32)), (.int by2), (.int by3), (.int by4), (.int by5), (.int by6), (.int by7), (.int by8), (.int by9), (.int by10), (.int by11), (.int by12)] (.int 0) := (by rw [(nar_byte _)] at A3; exact A3)
  refine W3.pv hx D 44 3 47 [_, _, _] [_, .int 1, _] rfl ?_
  refine W3.getS hx (host := "") (Or.inl (hw _ (mI 87 rfl))) Via.refl SL8 rfl (D 47 rfl) (fun T4 W4 => ?_)
  refine W4.pv hx D 50 2 52 [_, _, _] [.int ((x3 >>> ((8 : Int32) &&& 31)).toInt8.toInt32), _, _] rfl ?_
  refine W4.stB hx V3 ⟨by decide, by decide⟩ 1 rfl (Nat.le_of_ble_eq_true rfl) g2 (Or.inl (mI 0 rfl)) (mI 0 rfl) rfl rfl (D 52 rfl) (fun T5 h5 W5 K5 A5 => ?_)
  have V5 : Arv Z h5 t kc .byte (12 : Int32) [(.int (x3.toInt8.toInt32)), (.int ((x3 >>> ((8 : Int32) &&& 31)).toInt8.toInt32)), (.int by3), (.int by4), (.int by5), (.int by6), (.int by7), (.int by8), (.int by9), (.int by10), (.int by11), (.int by12)] (.int 0) := (by rw [(nar_byte _)] at A5; exact A5)
  show Go p e below _ (T5.setTop (mkF m 53 #[vr t, vi 1, vi x3] []))
  exact W5.retV hx hEL hs hlk (by decide +kernel) (by decide +kernel) hret (D 53 rfl) (fun S hS => ⟨rfl, V5⟩)
set_option maxRecDepth 65536 in
set_option maxHeartbeats 40000000 in
theorem rm111 (B : EV l Z a0 zc fm) (t : Addr) (x3 : Int32) (kc : ClassId) (by1 by2 by3 by4 by5 by6 by7 by8 by9 by10 by11 by12 : Int32) (h0 : Heap) {n0 : Nat} (O0 : Old Z n0 h0) (SA1 : sq0 Z) (SH0 : sq1 Z) (SL8 : sq2 Z) (Ab : Arv Z h0 t kc .byte (12 : Int32) [(.int by1), (.int by2), (.int by3), (.int by4), (.int by5), (.int by6), (.int by7), (.int by8), (.int by9), (.int by10), (.int by11), (.int by12)] (.int 0)) (g2 : n0 ≤ t) :
    Met l Z EL0 n0 (⟨"java/lang/StringUTF16", "putChar", "([BII)V"⟩ : MethodName) jdk_52_method_4_code 3 none [] (rO 0 0 0 0) #[(.ref t), (.int 1), (.int x3)] h0 [t] [t] (fun v h' S => v = none ∧ Arv Z h' t kc .byte (12 : Int32) [(.int by1), (.int by2), (.int (StrChars.lo8 x3)), (.int (StrChars.hi8 x3)), (.int by5), (.int by6), (.int by7), (.int by8), (.int by9), (.int by10), (.int by11), (.int by12)] (.int 0)) := by
  obtain ⟨hw, hEL, SC, hzc, SF, rfm⟩ := id B
  refine Met.of (plainFor_of_name pn0) O0 ?_
  intro p e s m below meth c T0 hx hby hml hret hlk hnm hs W0
  have W0 : Wk p l e _ s m _ below meth c Z EL0 n0 [t] "java/lang/StringUTF16" [t] T0 0 0 h0 := W0
  have D := @tk c _ _ hby tk0
  refine Go.of (fun _ kk => castTop (ef100 m t (1 : Int32) x3) kk) ?_
  show Go p e below _ (T0.setTop (mkF m 0 #[vr t, vi 1, vi x3] []))
  refine W0.getS hx (host := "") (Or.inl (hw _ (mI 85 rfl))) Via.refl SA1 rfl (D 0 rfl) (fun T1 W1 => ?_)
  refine W1.pu hx D 3 [(0, true)] 8 38 [_, vi 3, _] [_, .int 2, _] rfl ⟨trivial, (XT.i0_ne_t (by decide +kernel))⟩ ?_
  refine W1.getS hx (host := "") (Or.inl (hw _ (mI 86 rfl))) Via.refl SH0 rfl (D 38 rfl) (fun T2 W2 => ?_)
  refine W2.pv hx D 41 1 42 [_, _, _] [.int (x3 >>> ((0 : Int32) &&& 31)), _, _] rfl ?_
  rw [StrChars.shr0]
  refine W2.pv hx D 42 1 43 [_, _, _] [.int (x3.toInt8.toInt32), _, _] rfl ?_
  refine W2.stB hx Ab ⟨by decide, by decide⟩ 2 rfl (Nat.le_of_ble_eq_true rfl) g2 (Or.inl (mI 0 rfl)) (mI 0 rfl) rfl rfl (D 43 rfl) (fun T3 h3 W3 K3 A3 => ?_)
  have V3 : Arv Z h3 t kc .byte (12 : Int32) [(.int by1), (.int by2), (.int (x3.toInt8.toInt32)), (.int by4), (.int by5), (.int by6), (.int by7), (.int by8), (.int by9), (.int by10), (.int by11), (.int by12)] (.int 0) := (by rw [(nar_byte _)] at A3; exact A3)
  refine W3.pv hx D 44 3 47 [_, _, _] [_, .int 3, _] rfl ?_
  refine W3.getS hx (host := "") (Or.inl (hw _ (mI 87 rfl))) Via.refl SL8 rfl (D 47 rfl) (fun T4 W4 => ?_)
  refine W4.pv hx D 50 2 52 [_, _, _] [.int ((x3 >>> ((8 : Int32) &&& 31)).toInt8.toInt32), _, _] rfl ?_
  refine W4.stB hx V3 ⟨by decide, by decide⟩ 3 rfl (Nat.le_of_ble_eq_true rfl) g2 (Or.inl (mI 0 rfl)) (mI 0 rfl) rfl rfl (D 52 rfl) (fun T5 h5 W5 K5 A5 => ?_)
  have V5 : Arv Z h5 t kc .byte (12 : Int32) [(.int by1), (.int by2), (.int (x3.toInt8.toInt32)), (.int ((x3 >>> ((8 : Int32) &&& 31)).toInt8.toInt32)), (.int by5), (.int by6), (.int by7), (.int by8), (.int by9), (.int by10), (.int by11), (.int by12)] (.int 0) := (by rw [(nar_byte _)] at A5; exact A5)
  show Go p e below _ (T5.setTop (mkF m 53 #[vr t, vi 3, vi x3] []))
  exact W5.retV hx hEL hs hlk (by decide +kernel) (by decide +kernel) hret (D 53 rfl) (fun S hS => ⟨rfl, V5⟩)
set_option maxRecDepth 65536 in
set_option maxHeartbeats 40000000 in
theorem rm112 (B : EV l Z a0 zc fm) (t : Addr) (x3 : Int32) (kc : ClassId) (by1 by2 by3 by4 by5 by6 by7 by8 by9 by10 by11 by12 : Int32) (h0 : Heap) {n0 : Nat} (O0 : Old Z n0 h0) (SA1 : sq0 Z) (SH0 : sq1 Z) (SL8 : sq2 Z) (Ab : Arv Z h0 t kc .byte (12 : Int32) [(.int by1), (.int by2), (.int by3), (.int by4), (.int by5), (.int by6), (.int by7), (.int by8), (.int by9), (.int by10), (.int by11), (.int by12)] (.int 0)) (g2 : n0 ≤ t) :
    Met l Z EL0 n0 (⟨"java/lang/StringUTF16", "putChar", "([BII)V"⟩ : MethodName) jdk_52_method_4_code 3 none [] (rO 0 0 0 0) #[(.ref t), (.int 2), (.int x3)] h0 [t] [t] (fun v h' S => v = none ∧ Arv Z h' t kc .byte (12 : Int32) [(.int by1), (.int by2), (.int by3), (.int by4), (.int (StrChars.lo8 x3)), (.int (StrChars.hi8 x3)), (.int by7), (.int by8), (.int by9), (.int by10), (.int by11), (.int by12)] (.int 0)) := by
  obtain ⟨hw, hEL, SC, hzc, SF, rfm⟩ := id B
  refine Met.of (plainFor_of_name pn0) O0 ?_
  intro p e s m below meth c T0 hx hby hml hret hlk hnm hs W0
  have W0 : Wk p l e _ s m _ below meth c Z EL0 n0 [t] "java/lang/StringUTF16" [t] T0 0 0 h0 := W0
  have D := @tk c _ _ hby tk0
  refine Go.of (fun _ kk => castTop (ef100 m t (2 : Int32) x3) kk) ?_
  show Go p e below _ (T0.setTop (mkF m 0 #[vr t, vi 2, vi x3] []))
  refine W0.getS hx (host := "") (Or.inl (hw _ (mI 85 rfl))) Via.refl SA1 rfl (D 0 rfl) (fun T1 W1 => ?_)
  refine W1.pu hx D 3 [(0, true)] 8 38 [_, vi 5, _] [_, .int 4, _] rfl ⟨trivial, (XT.i0_ne_t (by decide +kernel))⟩ ?_
  refine W1.getS hx (host := "") (Or.inl (hw _ (mI 86 rfl))) Via.refl SH0 rfl (D 38 rfl) (fun T2 W2 => ?_)
  refine W2.pv hx D 41 1 42 [_, _, _] [.int (x3 >>> ((0 : Int32) &&& 31)), _, _] rfl ?_
  rw [StrChars.shr0]
  refine W2.pv hx D 42 1 43 [_, _, _] [.int (x3.toInt8.toInt32), _, _] rfl ?_
  refine W2.stB hx Ab ⟨by decide, by decide⟩ 4 rfl (Nat.le_of_ble_eq_true rfl) g2 (Or.inl (mI 0 rfl)) (mI 0 rfl) rfl rfl (D 43 rfl) (fun T3 h3 W3 K3 A3 => ?_)
  have V3 : Arv Z h3 t kc .byte (12 : Int32) [(.int by1), (.int by2), (.int by3), (.int by4), (.int (x3.toInt8.toInt32)), (.int by6), (.int by7), (.int by8), (.int by9), (.int by10), (.int by11), (.int by12)] (.int 0) := (by rw [(nar_byte _)] at A3; exact A3)
  refine W3.pv hx D 44 3 47 [_, _, _] [_, .int 5, _] rfl ?_
  refine W3.getS hx (host := "") (Or.inl (hw _ (mI 87 rfl))) Via.refl SL8 rfl (D 47 rfl) (fun T4 W4 => ?_)
  refine W4.pv hx D 50 2 52 [_, _, _] [.int ((x3 >>> ((8 : Int32) &&& 31)).toInt8.toInt32), _, _] rfl ?_
  refine W4.stB hx V3 ⟨by decide, by decide⟩ 5 rfl (Nat.le_of_ble_eq_true rfl) g2 (Or.inl (mI 0 rfl)) (mI 0 rfl) rfl rfl (D 52 rfl) (fun T5 h5 W5 K5 A5 => ?_)
  have V5 : Arv Z h5 t kc .byte (12 : Int32) [(.int by1), (.int by2), (.int by3), (.int by4), (.int (x3.toInt8.toInt32)), (.int ((x3 >>> ((8 : Int32) &&& 31)).toInt8.toInt32)), (.int by7), (.int by8), (.int by9), (.int by10), (.int by11), (.int by12)] (.int 0) := (by rw [(nar_byte _)] at A5; exact A5)
  show Go p e below _ (T5.setTop (mkF m 53 #[vr t, vi 5, vi x3] []))
  exact W5.retV hx hEL hs hlk (by decide +kernel) (by decide +kernel) hret (D 53 rfl) (fun S hS => ⟨rfl, V5⟩)
set_option maxRecDepth 65536 in
set_option maxHeartbeats 40000000 in
theorem rm113 (B : EV l Z a0 zc fm) (t : Addr) (x3 : Int32) (kc : ClassId) (by1 by2 by3 by4 by5 by6 by7 by8 by9 by10 by11 by12 : Int32) (h0 : Heap) {n0 : Nat} (O0 : Old Z n0 h0) (SA1 : sq0 Z) (SH0 : sq1 Z) (SL8 : sq2 Z) (Ab : Arv Z h0 t kc .byte (12 : Int32) [(.int by1), (.int by2), (.int by3), (.int by4), (.int by5), (.int by6), (.int by7), (.int by8), (.int by9), (.int by10), (.int by11), (.int by12)] (.int 0)) (g2 : n0 ≤ t) :
    Met l Z EL0 n0 (⟨"java/lang/StringUTF16", "putChar", "([BII)V"⟩ : MethodName) jdk_52_method_4_code 3 none [] (rO 0 0 0 0) #[(.ref t), (.int 3), (.int x3)] h0 [t] [t] (fun v h' S => v = none ∧ Arv Z h' t kc .byte (12 : Int32) [(.int by1), (.int by2), (.int by3), (.int by4), (.int by5), (.int by6), (.int (StrChars.lo8 x3)), (.int (StrChars.hi8 x3)), (.int by9), (.int by10), (.int by11), (.int by12)] (.int 0)) := by
  obtain ⟨hw, hEL, SC, hzc, SF, rfm⟩ := id B
  refine Met.of (plainFor_of_name pn0) O0 ?_
  intro p e s m below meth c T0 hx hby hml hret hlk hnm hs W0
  have W0 : Wk p l e _ s m _ below meth c Z EL0 n0 [t] "java/lang/StringUTF16" [t] T0 0 0 h0 := W0
  have D := @tk c _ _ hby tk0
  refine Go.of (fun _ kk => castTop (ef100 m t (3 : Int32) x3) kk) ?_
  show Go p e below _ (T0.setTop (mkF m 0 #[vr t, vi 3, vi x3] []))
  refine W0.getS hx (host := "") (Or.inl (hw _ (mI 85 rfl))) Via.refl SA1 rfl (D 0 rfl) (fun T1 W1 => ?_)
  refine W1.pu hx D 3 [(0, true)] 8 38 [_, vi 7, _] [_, .int 6, _] rfl ⟨trivial, (XT.i0_ne_t (by decide +kernel))⟩ ?_
  refine W1.getS hx (host := "") (Or.inl (hw _ (mI 86 rfl))) Via.refl SH0 rfl (D 38 rfl) (fun T2 W2 => ?_)
  refine W2.pv hx D 41 1 42 [_, _, _] [.int (x3 >>> ((0 : Int32) &&& 31)), _, _] rfl ?_
  rw [StrChars.shr0]
  refine W2.pv hx D 42 1 43 [_, _, _] [.int (x3.toInt8.toInt32), _, _] rfl ?_
  refine W2.stB hx Ab ⟨by decide, by decide⟩ 6 rfl (Nat.le_of_ble_eq_true rfl) g2 (Or.inl (mI 0 rfl)) (mI 0 rfl) rfl rfl (D 43 rfl) (fun T3 h3 W3 K3 A3 => ?_)
  have V3 : Arv Z h3 t kc .byte (12 : Int32) [(.int by1), (.int by2), (.int by3), (.int by4), (.int by5), (.int by6), (.int (x3.toInt8.toInt32)), (.int by8), (.int by9), (.int by10), (.int by11), (.int by12)] (.int 0) := (by rw [(nar_byte _)] at A3; exact A3)
  refine W3.pv hx D 44 3 47 [_, _, _] [_, .int 7, _] rfl ?_
  refine W3.getS hx (host := "") (Or.inl (hw _ (mI 87 rfl))) Via.refl SL8 rfl (D 47 rfl) (fun T4 W4 => ?_)
  refine W4.pv hx D 50 2 52 [_, _, _] [.int ((x3 >>> ((8 : Int32) &&& 31)).toInt8.toInt32), _, _] rfl ?_
  refine W4.stB hx V3 ⟨by decide, by decide⟩ 7 rfl (Nat.le_of_ble_eq_true rfl) g2 (Or.inl (mI 0 rfl)) (mI 0 rfl) rfl rfl (D 52 rfl) (fun T5 h5 W5 K5 A5 => ?_)
  have V5 : Arv Z h5 t kc .byte (12 : Int32) [(.int by1), (.int by2), (.int by3), (.int by4), (.int by5), (.int by6), (.int (x3.toInt8.toInt32)), (.int ((x3 >>> ((8 : Int32) &&& 31)).toInt8.toInt32)), (.int by9), (.int by10), (.int by11), (.int by12)] (.int 0) := (by rw [(nar_byte _)] at A5; exact A5)
  show Go p e below _ (T5.setTop (mkF m 53 #[vr t, vi 7, vi x3] []))
  exact W5.retV hx hEL hs hlk (by decide +kernel) (by decide +kernel) hret (D 53 rfl) (fun S hS => ⟨rfl, V5⟩)
set_option maxRecDepth 65536 in
set_option maxHeartbeats 40000000 in
theorem rm114 (B : EV l Z a0 zc fm) (t : Addr) (x3 : Int32) (kc : ClassId) (by1 by2 by3 by4 by5 by6 by7 by8 by9 by10 by11 by12 : Int32) (h0 : Heap) {n0 : Nat} (O0 : Old Z n0 h0) (SA1 : sq0 Z) (SH0 : sq1 Z) (SL8 : sq2 Z) (Ab : Arv Z h0 t kc .byte (12 : Int32) [(.int by1), (.int by2), (.int by3), (.int by4), (.int by5), (.int by6), (.int by7), (.int by8), (.int by9), (.int by10), (.int by11), (.int by12)] (.int 0)) (g2 : n0 ≤ t) :
    Met l Z EL0 n0 (⟨"java/lang/StringUTF16", "putChar", "([BII)V"⟩ : MethodName) jdk_52_method_4_code 3 none [] (rO 0 0 0 0) #[(.ref t), (.int 4), (.int x3)] h0 [t] [t] (fun v h' S => v = none ∧ Arv Z h' t kc .byte (12 : Int32) [(.int by1), (.int by2), (.int by3), (.int by4), (.int by5), (.int by6), (.int by7), (.int by8), (.int (StrChars.lo8 x3)), (.int (StrChars.hi8 x3)), (.int by11), (.int by12)] (.int 0)) := by
  obtain ⟨hw, hEL, SC, hzc, SF, rfm⟩ := id B
  refine Met.of (plainFor_of_name pn0) O0 ?_
  intro p e s m below meth c T0 hx hby hml hret hlk hnm hs W0
  have W0 : Wk p l e _ s m _ below meth c Z EL0 n0 [t] "java/lang/StringUTF16" [t] T0 0 0 h0 := W0
  have D := @tk c _ _ hby tk0
  refine Go.of (fun _ kk => castTop (ef100 m t (4 : Int32) x3) kk) ?_
  show Go p e below _ (T0.setTop (mkF m 0 #[vr t, vi 4, vi x3] []))
  refine W0.getS hx (host := "") (Or.inl (hw _ (mI 85 rfl))) Via.refl SA1 rfl (D 0 rfl) (fun T1 W1 => ?_)
  refine W1.pu hx D 3 [(0, true)] 8 38 [_, vi 9, _] [_, .int 8, _] rfl ⟨trivial, (XT.i0_ne_t (by decide +kernel))⟩ ?_
  refine W1.getS hx (host := "") (Or.inl (hw _ (mI 86 rfl))) Via.refl SH0 rfl (D 38 rfl) (fun T2 W2 => ?_)
  refine W2.pv hx D 41 1 42 [_, _, _] [.int (x3 >>> ((0 : Int32) &&& 31)), _, _] rfl ?_
  rw [StrChars.shr0]
  refine W2.pv hx D 42 1 43 [_, _, _] [.int (x3.toInt8.toInt32), _, _] rfl ?_
  refine W2.stB hx Ab ⟨by decide, by decide⟩ 8 rfl (Nat.le_of_ble_eq_true rfl) g2 (Or.inl (mI 0 rfl)) (mI 0 rfl) rfl rfl (D 43 rfl) (fun T3 h3 W3 K3 A3 => ?_)
  have V3 : Arv Z h3 t kc .byte (12 : Int32) [(.int by1), (.int by2), (.int by3), (.int by4), (.int by5), (.int by6), (.int by7), (.int by8), (.int (x3.toInt8.toInt32)), (.int by10), (.int by11), (.int by12)] (.int 0) := (by rw [(nar_byte _)] at A3; exact A3)
  refine W3.pv hx D 44 3 47 [_, _, _] [_, .int 9, _] rfl ?_
  refine W3.getS hx (host := "") (Or.inl (hw _ (mI 87 rfl))) Via.refl SL8 rfl (D 47 rfl) (fun T4 W4 => ?_)
  refine W4.pv hx D 50 2 52 [_, _, _] [.int ((x3 >>> ((8 : Int32) &&& 31)).toInt8.toInt32), _, _] rfl ?_
  refine W4.stB hx V3 ⟨by decide, by decide⟩ 9 rfl (Nat.le_of_ble_eq_true rfl) g2 (Or.inl (mI 0 rfl)) (mI 0 rfl) rfl rfl (D 52 rfl) (fun T5 h5 W5 K5 A5 => ?_)
  have V5 : Arv Z h5 t kc .byte (12 : Int32) [(.int by1), (.int by2), (.int by3), (.int by4), (.int by5), (.int by6), (.int by7), (.int by8), (.int (x3.toInt8.toInt32)), (.int ((x3 >>> ((8 : Int32) &&& 31)).toInt8.toInt32)), (.int by11), (.int by12)] (.int 0) := (by rw [(nar_byte _)] at A5; exact A5)
  show Go p e below _ (T5.setTop (mkF m 53 #[vr t, vi 9, vi x3] []))
  exact W5.retV hx hEL hs hlk (by decide +kernel) (by decide +kernel) hret (D 53 rfl) (fun S hS => ⟨rfl, V5⟩)
set_option maxRecDepth 65536 in
set_option maxHeartbeats 40000000 in
theorem rm115 (B : EV l Z a0 zc fm) (t : Addr) (x3 : Int32) (kc : ClassId) (by1 by2 by3 by4 by5 by6 by7 by8 by9 by10 by11 by12 : Int32) (h0 : Heap) {n0 : Nat} (O0 : Old Z n0 h0) (SA1 : sq0 Z) (SH0 : sq1 Z) (SL8 : sq2 Z) (Ab : Arv Z h0 t kc .byte (12 : Int32) [(.int by1), (.int by2), (.int by3), (.int by4), (.int by5), (.int by6), (.int by7), (.int by8), (.int by9), (.int by10), (.int by11), (.int by12)] (.int 0)) (g2 : n0 ≤ t) :
    Met l Z EL0 n0 (⟨"java/lang/StringUTF16", "putChar", "([BII)V"⟩ : MethodName) jdk_52_method_4_code 3 none [] (rO 0 0 0 0) #[(.ref t), (.int 5), (.int x3)] h0 [t] [t] (fun v h' S => v = none ∧ Arv Z h' t kc .byte (12 : Int32) [(.int by1), (.int by2), (.int by3), (.int by4), (.int by5), (.int by6), (.int by7), (.int by8), (.int by9), (.int by10), (.int (StrChars.lo8 x3)), (.int (StrChars.hi8 x3))] (.int 0)) := by
  obtain ⟨hw, hEL, SC, hzc, SF, rfm⟩ := id B
  refine Met.of (plainFor_of_name pn0) O0 ?_
  intro p e s m below meth c T0 hx hby hml hret hlk hnm hs W0
  have W0 : Wk p l e _ s m _ below meth c Z EL0 n0 [t] "java/lang/StringUTF16" [t] T0 0 0 h0 := W0
  have D := @tk c _ _ hby tk0
  refine Go.of (fun _ kk => castTop (ef100 m t (5 : Int32) x3) kk) ?_
  show Go p e below _ (T0.setTop (mkF m 0 #[vr t, vi 5, vi x3] []))
  refine W0.getS hx (host := "") (Or.inl (hw _ (mI 85 rfl))) Via.refl SA1 rfl (D 0 rfl) (fun T1 W1 => ?_)
  refine W1.pu hx D 3 [(0, true)] 8 38 [_, vi 11, _] [_, .int 10, _] rfl ⟨trivial, (XT.i0_ne_t (by decide +kernel))⟩ ?_
  refine W1.getS hx (host := "") (Or.inl (hw _ (mI 86 rfl))) Via.refl SH0 rfl (D 38 rfl) (fun T2 W2 => ?_)
  refine W2.pv hx D 41 1 42 [_, _, _] [.int (x3 >>> ((0 : Int32) &&& 31)), _, _] rfl ?_
  rw [StrChars.shr0]
  refine W2.pv hx D 42 1 43 [_, _, _] [.int (x3.toInt8.toInt32), _, _] rfl ?_
  refine W2.stB hx Ab ⟨by decide, by decide⟩ 10 rfl (Nat.le_of_ble_eq_true rfl) g2 (Or.inl (mI 0 rfl)) (mI 0 rfl) rfl rfl (D 43 rfl) (fun T3 h3 W3 K3 A3 => ?_)
  have V3 : Arv Z h3 t kc .byte (12 : Int32) [(.int by1), (.int by2), (.int by3), (.int by4), (.int by5), (.int by6), (.int by7), (.int by8), (.int by9), (.int by10), (.int (x3.toInt8.toInt32)), (.int by12)] (.int 0) := (by rw [(nar_byte _)] at A3; exact A3)
  refine W3.pv hx D 44 3 47 [_, _, _] [_, .int 11, _] rfl ?_
  refine W3.getS hx (host := "") (Or.inl (hw _ (mI 87 rfl))) Via.refl SL8 rfl (D 47 rfl) (fun T4 W4 => ?_)
  refine W4.pv hx D 50 2 52 [_, _, _] [.int ((x3 >>> ((8 : Int32) &&& 31)).toInt8.toInt32), _, _] rfl ?_
  refine W4.stB hx V3 ⟨by decide, by decide⟩ 11 rfl (Nat.le_of_ble_eq_true rfl) g2 (Or.inl (mI 0 rfl)) (mI 0 rfl) rfl rfl (D 52 rfl) (fun T5 h5 W5 K5 A5 => ?_)
  have V5 : Arv Z h5 t kc .byte (12 : Int32) [(.int by1), (.int by2), (.int by3), (.int by4), (.int by5), (.int by6), (.int by7), (.int by8), (.int by9), (.int by10), (.int (x3.toInt8.toInt32)), (.int ((x3 >>> ((8 : Int32) &&& 31)).toInt8.toInt32))] (.int 0) := (by rw [(nar_byte _)] at A5; exact A5)
  show Go p e below _ (T5.setTop (mkF m 53 #[vr t, vi 11, vi x3] []))
  exact W5.retV hx hEL hs hlk (by decide +kernel) (by decide +kernel) hret (D 53 rfl) (fun S hS => ⟨rfl, V5⟩)
theorem ef20 (m : MethodId) (x0 : Int32)  : entryFrame m #[(.int x0)] 2 = mkF m 0 #[vi x0, U0] [] := by first | (simp [entryFrame, mkF, argsToLocals, Value.category]; done) | rfl | rfl
set_option maxRecDepth 65536 in
set_option maxHeartbeats 40000000 in
theorem rm20 (B : EV l Z a0 zc fm) (d1 : Int32) (h0 : Heap) {n0 : Nat} (O0 : Old Z n0 h0) (SA1 : sq0 Z) (SH0 : sq1 Z) (SL8 : sq2 Z) :
    Met l Z EL0 n0 (⟨"java/lang/StringUTF16", "toBytes", "(C)[B"⟩ : MethodName) jdk_52_method_24_code 2 (some (.array .byte)) [] (rO 1 1 2 14) #[(.int d1)] h0 [] [] (fun v h' S => ∃ (r : Addr) (kc : ClassId), v = some (.ref r) ∧ h0.size ≤ r ∧ Arv Z h' r kc .byte (2 : Int32) [(.int (StrChars.lo8 d1)), (.int (StrChars.hi8 d1))] (.int 0)) := by
  obtain ⟨hw, hEL, SC, hzc, SF, rfm⟩ := id B
  refine Met.of (plainFor_of_name pn0) O0 ?_
  intro p e s m below meth c T0 hx hby hml hret hlk hnm hs W0
  have W0 : Wk p l e _ s m _ below meth c Z EL0 n0 [] "java/lang/StringUTF16" [] T0 0 0 h0 := W0
  have D := @tk c _ _ hby tk1
  refine Go.of (fun _ kk => castTop (ef20 m d1) kk) ?_
  refine W0.pv hx D 0 1 1 [_, _] [.int 2] rfl ?_
  refine W0.newP hx (hw _ (mI 3 rfl)) rfl (D 1 rfl) rfl (by decide +kernel) (cap := 2) (by decide +kernel) (by decide +kernel) (by decide +kernel) (by decide +kernel) (fun T1 h1 b1 c1 eb1 gb1 W1 K1 A1 => ?_)
  have V1 : Arv Z h1 b1 c1 .byte (2 : Int32) [(.int 0), (.int 0)] (.int 0) := A1
  refine W1.pv hx D 3 4 7 [_, _] [_, .int 0, _] rfl ?_
  refine W1.callS hx hEL (hw _ (mI 82 rfl)) (hw _ (mI 83 rfl)) (hw _ (mI 29 rfl)) (hw _ (mI 84 rfl)) (by decide +kernel) (argsL := [(.ref b1), (.int 0), (.int d1)]) (rest := []) (rm100 B b1 d1 c1 (0 : Int32) (0 : Int32) h1 W1.old SA1 SH0 SL8 V1 gb1.1) (allS (mI 0 rfl) all0) (by decide +kernel) (Wd := 0) (by decide +kernel) (by decide +kernel) (by decide +kernel) (allS ⟨gb1.1, (Or.inr gb1.2)⟩ all0) rfl (by rw [hml]; rfl) (lenOf pd0 rfl) rfl (by show 2 * 0 + _ ≤ _; exact Nat.le_of_eq rfl) (D 7 rfl) (fun T2 h2 v2 P2 Ws2 K2 q2 => ?_)
  have W2 := Ws2 [] all0
  obtain ⟨rfl, A2⟩ := q2
  refine W2.pv hx D 10 1 11 [_, _] [_] rfl ?_
  exact W2.retA hx hEL hs hlk (by decide +kernel) (by decide +kernel) hret rfl rfl (D 11 rfl) (fun S hS => ⟨b1, c1, rfl, hs ▸ gb1.2, A2⟩)
theorem ef200 (m : MethodId) (x0 : Int32)  : entryFrame m #[(.int x0)] 1 = mkF m 0 #[vi x0] [] := by first | (simp [entryFrame, mkF, argsToLocals, Value.category]; done) | rfl | rfl
set_option maxRecDepth 65536 in
set_option maxHeartbeats 40000000 in
theorem rm200 (B : EV l Z a0 zc fm)  (h0 : Heap) {n0 : Nat} (O0 : Old Z n0 h0)  :
    Met l Z EL0 n0 (⟨"java/lang/StringUTF16", "newBytesLength", "(I)I"⟩ : MethodName) jdk_52_method_3_code 1 (some .int) [] (rO 0 0 0 0) #[(.int 4)] h0 [] [] (fun v h' S => v = some (.int 8) ∧ h0 = h') := by
  obtain ⟨hw, hEL, SC, hzc, SF, rfm⟩ := id B
  refine Met.of (plainFor_of_name pn0) O0 ?_
  intro p e s m below meth c T0 hx hby hml hret hlk hnm hs W0
  have W0 : Wk p l e _ s m _ below meth c Z EL0 n0 [] "java/lang/StringUTF16" [] T0 0 0 h0 := W0
  have D := @tk c _ _ hby tk2
  refine Go.of (fun _ kk => castTop (ef200 m (4 : Int32)) kk) ?_
  refine W0.pu hx D 0 [(1, true)] 1 13 [_] [.int 4] rfl ⟨trivial, (XT.i0_ge_t (by decide +kernel))⟩ ?_
  refine W0.ldcI hx (hw _ (mI 140 rfl)) rfl (D 13 rfl) ?_
  refine W0.pu hx D 15 [(0, true)] 3 58 [_] [.int 8] rfl ⟨trivial, (XT.ii_lt_t (by decide +kernel))⟩ ?_
  exact W0.retI hx hEL hs hlk (by decide +kernel) (by decide +kernel) hret (by simp) rfl (D 58 rfl) (fun S hS => ⟨rfl, rfl⟩)
set_option maxRecDepth 65536 in
set_option maxHeartbeats 40000000 in
theorem rm201 (B : EV l Z a0 zc fm)  (h0 : Heap) {n0 : Nat} (O0 : Old Z n0 h0)  :
    Met l Z EL0 n0 (⟨"java/lang/StringUTF16", "newBytesFor", "(I)[B"⟩ : MethodName) jdk_52_method_2_code 1 (some (.array .byte)) [] (rO 1 1 8 12) #[(.int 4)] h0 [] [] (fun v h' S => ∃ (r : Addr) (kc : ClassId), v = some (.ref r) ∧ h0.size ≤ r ∧ Arv Z h' r kc .byte (8 : Int32) [(.int 0), (.int 0), (.int 0), (.int 0), (.int 0), (.int 0), (.int 0), (.int 0)] (.int 0) ∧ S r) := by
  obtain ⟨hw, hEL, SC, hzc, SF, rfm⟩ := id B
  refine Met.of (plainFor_of_name pn0) O0 ?_
  intro p e s m below meth c T0 hx hby hml hret hlk hnm hs W0
  have W0 : Wk p l e _ s m _ below meth c Z EL0 n0 [] "java/lang/StringUTF16" [] T0 0 0 h0 := W0
  have D := @tk c _ _ hby tk3
  refine Go.of (fun _ kk => castTop (ef200 m (4 : Int32)) kk) ?_
  refine W0.pv hx D 0 1 1 [_] [.int 4] rfl ?_
  refine W0.callS hx hEL (hw _ (mI 137 rfl)) (hw _ (mI 138 rfl)) (hw _ (mI 29 rfl)) (hw _ (mI 139 rfl)) (by decide +kernel) (argsL := [(.int 4)]) (rest := []) (rm200 B  h0 W0.old ) all0 (by decide +kernel) (Wd := 0) (by decide +kernel) (by decide +kernel) (by decide +kernel) all0 rfl (by rw [hml]; rfl) (lenOf pd1 rfl) rfl (by show 2 * 0 + _ ≤ _; exact Nat.le_of_eq rfl) (D 1 rfl) (fun T1 h1 v1 P1 Ws1 K1 q1 => ?_)
  have W1 := Ws1 [] all0
  obtain ⟨rfl, rfl⟩ := q1
  show Go p e below _ (T1.setTop (mkF m 4 #[vi 4] [(.int 8)]))
  refine W1.newP hx (hw _ (mI 3 rfl)) rfl (D 4 rfl) rfl (by decide +kernel) (cap := 8) (by decide +kernel) (by decide +kernel) (by decide +kernel) (by decide +kernel) (fun T2 h2 b2 c2 eb2 gb2 W2 K2 A2 => ?_)
  have V2 : Arv Z h2 b2 c2 .byte (8 : Int32) [(.int 0), (.int 0), (.int 0), (.int 0), (.int 0), (.int 0), (.int 0), (.int 0)] (.int 0) := A2
  show Go p e below _ (T2.setTop (mkF m 6 #[vi 4] [(.ref b2)]))
  exact W2.retA hx hEL hs hlk (by decide +kernel) (by decide +kernel) hret rfl rfl (D 6 rfl) (fun S hS => ⟨b2, c2, rfl, hs ▸ gb2.2, V2, hS _ (mI 0 rfl)⟩)
theorem ef202 (m : MethodId) (x0 : Addr) (x1 x2 : Int32)  : entryFrame m #[(.ref x0), (.int x1), (.int x2)] 5 = mkF m 0 #[vr x0, vi x1, vi x2, U0, U0] [] := by first | (simp [entryFrame, mkF, argsToLocals, Value.category]; done) | rfl | rfl
set_option maxRecDepth 65536 in
set_option maxHeartbeats 40000000 in
theorem rm202 (B : EV l Z a0 zc fm) (x1 : Addr) (kc : ClassId) (d1 d2 d3 d4 : Int32) (h0 : Heap) {n0 : Nat} (O0 : Old Z n0 h0) (SA1 : sq0 Z) (SH0 : sq1 Z) (SL8 : sq2 Z) (Ac : Arv Z h0 x1 kc .char (4 : Int32) [(.int d1), (.int d2), (.int d3), (.int d4)] (.int 0)) :
    Met l Z EL0 n0 (⟨"java/lang/StringUTF16", "toBytes", "([CII)[B"⟩ : MethodName) jdk_52_method_14_code 5 (some (.array .byte)) [] (rO 2 1 8 24) #[(.ref x1), (.int 0), (.int 4)] h0 [] [] (fun v h' S => ∃ (r : Addr) (kc : ClassId), v = some (.ref r) ∧ h0.size ≤ r ∧ Arv Z h' r kc .byte (8 : Int32) [(.int (StrChars.lo8 d1)), (.int (StrChars.hi8 d1)), (.int (StrChars.lo8 d2)), (.int (StrChars.hi8 d2)), (.int (StrChars.lo8 d3)), (.int (StrChars.hi8 d3)), (.int (StrChars.lo8 d4)), (.int (StrChars.hi8 d4))] (.int 0)) := by
  obtain ⟨hw, hEL, SC, hzc, SF, rfm⟩ := id B
  refine Met.of (plainFor_of_name pn0) O0 ?_
  intro p e s m below meth c T0 hx hby hml hret hlk hnm hs W0
  have W0 : Wk p l e _ s m _ below meth c Z EL0 n0 [] "java/lang/StringUTF16" [] T0 0 0 h0 := W0
  have D := @tk c _ _ hby tk4
  refine Go.of (fun _ kk => castTop (ef202 m x1 (0 : Int32) (4 : Int32)) kk) ?_
  refine W0.pv hx D 0 1 1 [_, _, _, _, _] [.int 4] rfl ?_
  refine W0.callS hx hEL (hw _ (mI 134 rfl)) (hw _ (mI 135 rfl)) (hw _ (mI 29 rfl)) (hw _ (mI 136 rfl)) (by decide +kernel) (argsL := [(.int 4)]) (rest := []) (rm201 B  h0 W0.old ) all0 (by decide +kernel) (Wd := 0) (by decide +kernel) (by decide +kernel) (by decide +kernel) all0 rfl (by rw [hml]; rfl) (lenOf pd2 rfl) rfl (by show 2 * 0 + _ ≤ _; exact Nat.le_of_eq rfl) (D 1 rfl) (fun T1 h1 v1 P1 Ws1 K1 q1 => ?_)
  obtain ⟨r1, kc1, rfl, lr1, A1, sr1⟩ := q1
  have W1 := Ws1 [r1] (allS sr1 all0)
  have gr1 : n0 ≤ r1 ∧ s.heap.size ≤ r1 := ⟨Nat.le_trans W0.n0le lr1, Nat.le_trans W0.s0le lr1⟩
  refine W1.pu hx D 4 [(5, false)] 4 19 [_, _, _, _, vi 0] [.int 0, _, .int 0, _] rfl ⟨trivial, (XT.ii_ge_f (by decide +kernel))⟩ ?_
  have k2 := (Ac.keep K1 nin0)
  refine W1.caload hx k2 ⟨by decide, by decide⟩ (v := (.int d1)) rfl rfl rfl (D 19 rfl) ?_
  show Go p e below _ (T1.setTop (mkF m 20 #[vr x1, vi 0, vi 4, vr r1, vi 0] [(.int d1), (.int 0), (.ref r1)]))
  refine W1.callS hx hEL (hw _ (mI 82 rfl)) (hw _ (mI 83 rfl)) (hw _ (mI 29 rfl)) (hw _ (mI 84 rfl)) (by decide +kernel) (argsL := [(.ref r1), (.int 0), (.int d1)]) (rest := []) (rm101 B r1 d1 kc1 (0 : Int32) (0 : Int32) (0 : Int32) (0 : Int32) (0 : Int32) (0 : Int32) (0 : Int32) (0 : Int32) h1 W1.old SA1 SH0 SL8 A1 gr1.1) (allS (mI 0 rfl) all0) (by decide +kernel) (Wd := 0) (by decide +kernel) (by decide +kernel) (by decide +kernel) (allS ⟨gr1.1, (Or.inr gr1.2)⟩ all0) rfl (by rw [hml]; rfl) (lenOf pd0 rfl) rfl (by show 2 * 0 + _ ≤ _; exact Nat.le_of_eq rfl) (D 20 rfl) (fun T3 h3 v3 P3 Ws3 K3 q3 => ?_)
  have W3 := Ws3 [] all0
  obtain ⟨rfl, A3⟩ := q3
  refine W3.pu hx D 23 [(5, false)] 4 19 [_, vi 1, _, _, vi 1] [.int 1, _, .int 1, _] rfl ⟨trivial, (XT.ii_ge_f (by decide +kernel))⟩ ?_
  have k4 := (k2.keep K3 (ninS (ne_of_born lr1 Ac.lt (Nat.le_refl _)) nin0))
  refine W3.caload hx k4 ⟨by decide, by decide⟩ (v := (.int d2)) rfl rfl rfl (D 19 rfl) ?_
  show Go p e below _ (T3.setTop (mkF m 20 #[vr x1, vi 1, vi 4, vr r1, vi 1] [(.int d2), (.int 1), (.ref r1)]))
  refine W3.callS hx hEL (hw _ (mI 82 rfl)) (hw _ (mI 83 rfl)) (hw _ (mI 29 rfl)) (hw _ (mI 84 rfl)) (by decide +kernel) (argsL := [(.ref r1), (.int 1), (.int d2)]) (rest := []) (rm102 B r1 d2 kc1 (StrChars.lo8 d1) (StrChars.hi8 d1) (0 : Int32) (0 : Int32) (0 : Int32) (0 : Int32) (0 : Int32) (0 : Int32) h3 W3.old SA1 SH0 SL8 A3 gr1.1) (allS (mI 0 rfl) all0) (by decide +kernel) (Wd := 0) (by decide +kernel) (by decide +kernel) (by decide +kernel) (allS ⟨gr1.1, (Or.inr gr1.2)⟩ all0) rfl (by rw [hml]; rfl) (lenOf pd0 rfl) rfl (by show 2 * 0 + _ ≤ _; exact Nat.le_of_eq rfl) (D 20 rfl) (fun T5 h5 v5 P5 Ws5 K5 q5 => ?_)
  have W5 := Ws5 [] all0
  obtain ⟨rfl, A5⟩ := q5
  refine W5.pu hx D 23 [(5, false)] 4 19 [_, vi 2, _, _, vi 2] [.int 2, _, .int 2, _] rfl ⟨trivial, (XT.ii_ge_f (by decide +kernel))⟩ ?_
  have k6 := (k4.keep K5 (ninS (ne_of_born lr1 Ac.lt (Nat.le_refl _)) nin0))
  refine W5.caload hx k6 ⟨by decide, by decide⟩ (v := (.int d3)) rfl rfl rfl (D 19 rfl) ?_
  show Go p e below _ (T5.setTop (mkF m 20 #[vr x1, vi 2, vi 4, vr r1, vi 2] [(.int d3), (.int 2), (.ref r1)]))
  refine W5.callS hx hEL (hw _ (mI 82 rfl)) (hw _ (mI 83 rfl)) (hw _ (mI 29 rfl)) (hw _ (mI 84 rfl)) (by decide +kernel) (argsL := [(.ref r1), (.int 2), (.int d3)]) (rest := []) (rm103 B r1 d3 kc1 (StrChars.lo8 d1) (StrChars.hi8 d1) (StrChars.lo8 d2) (StrChars.hi8 d2) (0 : Int32) (0 : Int32) (0 : Int32) (0 : Int32) h5 W5.old SA1 SH0 SL8 A5 gr1.1) (allS (mI 0 rfl) all0) (by decide +kernel) (Wd := 0) (by decide +kernel) (by decide +kernel) (by decide +kernel) (allS ⟨gr1.1, (Or.inr gr1.2)⟩ all0) rfl (by rw [hml]; rfl) (lenOf pd0 rfl) rfl (by show 2 * 0 + _ ≤ _; exact Nat.le_of_eq rfl) (D 20 rfl) (fun T7 h7 v7 P7 Ws7 K7 q7 => ?_)
  have W7 := Ws7 [] all0
  obtain ⟨rfl, A7⟩ := q7
  refine W7.pu hx D 23 [(5, false)] 4 19 [_, vi 3, _, _, vi 3] [.int 3, _, .int 3, _] rfl ⟨trivial, (XT.ii_ge_f (by decide +kernel))⟩ ?_
  have k8 := (k6.keep K7 (ninS (ne_of_born lr1 Ac.lt (Nat.le_refl _)) nin0))
  refine W7.caload hx k8 ⟨by decide, by decide⟩ (v := (.int d4)) rfl rfl rfl (D 19 rfl) ?_
  show Go p e below _ (T7.setTop (mkF m 20 #[vr x1, vi 3, vi 4, vr r1, vi 3] [(.int d4), (.int 3), (.ref r1)]))
  refine W7.callS hx hEL (hw _ (mI 82 rfl)) (hw _ (mI 83 rfl)) (hw _ (mI 29 rfl)) (hw _ (mI 84 rfl)) (by decide +kernel) (argsL := [(.ref r1), (.int 3), (.int d4)]) (rest := []) (rm104 B r1 d4 kc1 (StrChars.lo8 d1) (StrChars.hi8 d1) (StrChars.lo8 d2) (StrChars.hi8 d2) (StrChars.lo8 d3) (StrChars.hi8 d3) (0 : Int32) (0 : Int32) h7 W7.old SA1 SH0 SL8 A7 gr1.1) (allS (mI 0 rfl) all0) (by decide +kernel) (Wd := 0) (by decide +kernel) (by decide +kernel) (by decide +kernel) (allS ⟨gr1.1, (Or.inr gr1.2)⟩ all0) rfl (by rw [hml]; rfl) (lenOf pd0 rfl) rfl (by show 2 * 0 + _ ≤ _; exact Nat.le_of_eq rfl) (D 20 rfl) (fun T9 h9 v9 P9 Ws9 K9 q9 => ?_)
  have W9 := Ws9 [] all0
  obtain ⟨rfl, A9⟩ := q9
  refine W9.pu hx D 23 [(5, true)] 1 33 [_, vi 4, _, _, vi 4] [_] rfl ⟨trivial, (XT.ii_ge_t (by decide +kernel))⟩ ?_
  exact W9.retA hx hEL hs hlk (by decide +kernel) (by decide +kernel) hret rfl rfl (D 33 rfl) (fun S hS => ⟨r1, kc1, rfl, hs ▸ gr1.2, A9⟩)
theorem ef203 (m : MethodId) (x0 : Addr) (x1 : Int32)  : entryFrame m #[(.ref x0), (.int x1)] 2 = mkF m 0 #[vr x0, vi x1] [] := by first | (simp [entryFrame, mkF, argsToLocals, Value.category]; done) | rfl | rfl
set_option maxRecDepth 65536 in
set_option maxHeartbeats 40000000 in
theorem rm203 (B : EV l Z a0 zc fm) (t : Addr) (kc : ClassId) (d1 d2 d3 d4 : Int32) (h0 : Heap) {n0 : Nat} (O0 : Old Z n0 h0) (Ab : Arv Z h0 t kc .byte (8 : Int32) [(.int (StrChars.lo8 d1)), (.int (StrChars.hi8 d1)), (.int (StrChars.lo8 d2)), (.int (StrChars.hi8 d2)), (.int (StrChars.lo8 d3)), (.int (StrChars.hi8 d3)), (.int (StrChars.lo8 d4)), (.int (StrChars.hi8 d4))] (.int 0)) :
    Met l Z EL0 n0 (⟨"java/lang/StringUTF16", "coderFromArrayLen", "([BI)B"⟩ : MethodName) jdk_52_method_15_code 2 (some .byte) [] (rO 0 0 0 0) #[(.ref t), (.int 4)] h0 [] [] (fun v h' S => v = some (.int 1) ∧ h0 = h') := by
  obtain ⟨hw, hEL, SC, hzc, SF, rfm⟩ := id B
  refine Met.of (plainFor_of_name pn0) O0 ?_
  intro p e s m below meth c T0 hx hby hml hret hlk hnm hs W0
  have W0 : Wk p l e _ s m _ below meth c Z EL0 n0 [] "java/lang/StringUTF16" [] T0 0 0 h0 := W0
  have D := @tk c _ _ hby tk5
  refine Go.of (fun _ kk => castTop (ef203 m t (4 : Int32)) kk) ?_
  refine W0.pv hx D 0 2 2 [_, _] [_, .int 4] rfl ?_
  refine W0.alen hx Ab rfl rfl (D 2 rfl) ?_
  refine W0.pv hx D 3 4 8 [_, _] [.int ((((-4 : Int32).toUInt32 >>> ((31 : Int32) &&& 31).toUInt32).toInt32).toInt8.toInt32)] rfl ?_
  have e8 : ((((-4 : Int32).toUInt32 >>> ((31 : Int32) &&& 31).toUInt32).toInt32).toInt8.toInt32) = (1 : Int32) := by decide +kernel
  rw [e8]
  show Go p e below _ (T0.setTop (mkF m 8 #[vr t, vi 4] [(.int 1)]))
  exact W0.retI hx hEL hs hlk (by decide +kernel) (by decide +kernel) hret (by simp) rfl (D 8 rfl) (fun S hS => ⟨rfl, rfl⟩)
theorem ef210 (m : MethodId) (x0 : Addr) (x1 : Int32) (x2 : Addr) (x3 x4 : Int32)  : entryFrame m #[(.ref x0), (.int x1), (.ref x2), (.int x3), (.int x4)] 7 = mkF m 0 #[vr x0, vi x1, vr x2, vi x3, vi x4, U0, U0] [] := by first | (simp [entryFrame, mkF, argsToLocals, Value.category]; done) | rfl | rfl
set_option maxRecDepth 65536 in
set_option maxHeartbeats 40000000 in
theorem rm210 (B : EV l Z a0 zc fm) (x1 x2 : Addr) (kc : ClassId) (d1 d2 d3 d4 : Int32) (kb : ClassId) (h0 : Heap) {n0 : Nat} (O0 : Old Z n0 h0) (Ac : Arv Z h0 x1 kc .char (4 : Int32) [(.int d1), (.int d2), (.int d3), (.int d4)] (.int 0)) (cd1 : ¬ d1 < 0 ∧ ¬ (65535 : Int32) < d1) (cd2 : ¬ d2 < 0 ∧ ¬ (65535 : Int32) < d2) (cd3 : ¬ d3 < 0 ∧ ¬ (65535 : Int32) < d3) (cd4 : ¬ d4 < 0 ∧ ¬ (65535 : Int32) < d4) (wd : (255 : Int32) < d1) (Ab : Arv Z h0 x2 kb .byte (4 : Int32) [(.int 0), (.int 0), (.int 0), (.int 0)] (.int 0)) (g2 : n0 ≤ x2) (nx : x1 ≠ x2) :
    Met l Z EL0 n0 (⟨"java/lang/StringUTF16", "compress", "([CI[BII)I"⟩ : MethodName) jdk_52_method_21_code 7 (some .int) [] (rO 0 0 0 0) #[(.ref x1), (.int 0), (.ref x2), (.int 0), (.int 4)] h0 [x2] [x2] (fun v h' S => v = some (.int 0)) := by
  obtain ⟨hw, hEL, SC, hzc, SF, rfm⟩ := id B
  refine Met.of (plainFor_of_name pn0) O0 ?_
  intro p e s m below meth c T0 hx hby hml hret hlk hnm hs W0
  have W0 : Wk p l e _ s m _ below meth c Z EL0 n0 [x2] "java/lang/StringUTF16" [x2] T0 0 0 h0 := W0
  have D := @tk c _ _ hby tk6
  refine Go.of (fun _ kk => castTop (ef210 m x1 (0 : Int32) x2 (0 : Int32) (4 : Int32)) kk) ?_
  refine W0.pu hx D 0 [(4, false)] 2 12 [_, _, _, _, _, vi 0, _] [.int 0, _] rfl ⟨trivial, (XT.ii_ge_f (by decide +kernel))⟩ ?_
  refine W0.caload hx Ac ⟨by decide, by decide⟩ (v := (.int d1)) rfl rfl rfl (D 12 rfl) ?_
  refine W0.pu hx D 13 [(3, false)] 1 25 [_, _, _, _, _, _, _] [.int 0] rfl ⟨trivial, (XT.ii_le_f wd)⟩ ?_
  exact W0.retI hx hEL hs hlk (by decide +kernel) (by decide +kernel) hret (by simp) rfl (D 25 rfl) (fun S hS => rfl)
set_option maxRecDepth 65536 in
set_option maxHeartbeats 40000000 in
theorem rm211 (B : EV l Z a0 zc fm) (t : Addr) (kc : ClassId) (d1 d2 d3 d4 : Int32) (h0 : Heap) {n0 : Nat} (O0 : Old Z n0 h0) (SA1 : sq0 Z) (SH0 : sq1 Z) (SL8 : sq2 Z) (Ab : Arv Z h0 t kc .byte (8 : Int32) [(.int (StrChars.lo8 d1)), (.int (StrChars.hi8 d1)), (.int (StrChars.lo8 d2)), (.int (StrChars.hi8 d2)), (.int (StrChars.lo8 d3)), (.int (StrChars.hi8 d3)), (.int (StrChars.lo8 d4)), (.int (StrChars.hi8 d4))] (.int 0)) (cd1 : ¬ d1 < 0 ∧ ¬ (65535 : Int32) < d1) :
    Met l Z EL0 n0 (⟨"java/lang/StringUTF16", "getChar", "([BI)C"⟩ : MethodName) jdk_52_method_5_code 2 (some .char) [] (rO 0 0 0 0) #[(.ref t), (.int 0)] h0 [] [] (fun v h' S => v = some (.int d1) ∧ h0 = h') := by
  obtain ⟨hw, hEL, SC, hzc, SF, rfm⟩ := id B
  refine Met.of (plainFor_of_name pn0) O0 ?_
  intro p e s m below meth c T0 hx hby hml hret hlk hnm hs W0
  have W0 : Wk p l e _ s m _ below meth c Z EL0 n0 [] "java/lang/StringUTF16" [] T0 0 0 h0 := W0
  have D := @tk c _ _ hby tk7
  refine Go.of (fun _ kk => castTop (ef203 m t (0 : Int32)) kk) ?_
  show Go p e below _ (T0.setTop (mkF m 0 #[vr t, vi 0] []))
  refine W0.getS hx (host := "") (Or.inl (hw _ (mI 85 rfl))) Via.refl SA1 rfl (D 0 rfl) (fun T1 W1 => ?_)
  refine W1.pu hx D 3 [(0, true)] 7 37 [_, vi 1] [.int 0, _] rfl ⟨trivial, (XT.i0_ne_t (by decide +kernel))⟩ ?_
  refine W1.baload hx Ab ⟨by decide, by decide⟩ (v := (.int (StrChars.lo8 d1))) rfl rfl rfl (D 37 rfl) ?_
  refine W1.pv hx D 38 2 42 [_, _] [.int ((StrChars.lo8 d1) &&& (255 : Int32))] rfl ?_
  refine W1.getS hx (host := "") (Or.inl (hw _ (mI 86 rfl))) Via.refl SH0 rfl (D 42 rfl) (fun T2 W2 => ?_)
  refine W2.pv hx D 45 3 48 [_, _] [.int 1, _, .int (((StrChars.lo8 d1) &&& (255 : Int32)) <<< ((0 : Int32) &&& 31))] rfl ?_
  refine W2.baload hx Ab ⟨by decide, by decide⟩ (v := (.int (StrChars.hi8 d1))) rfl rfl rfl (D 48 rfl) ?_
  refine W2.pv hx D 49 2 53 [_, _] [.int ((StrChars.hi8 d1) &&& (255 : Int32)), _] rfl ?_
  refine W2.getS hx (host := "") (Or.inl (hw _ (mI 87 rfl))) Via.refl SL8 rfl (D 53 rfl) (fun T3 W3 => ?_)
  refine W3.pv hx D 56 3 59 [_, _] [.int (((((StrChars.lo8 d1) &&& (255 : Int32)) <<< ((0 : Int32) &&& 31)) ||| (((StrChars.hi8 d1) &&& (255 : Int32)) <<< ((8 : Int32) &&& 31))).toUInt32.toUInt16.toUInt32.toInt32)] rfl ?_
  have e59 : (((((StrChars.lo8 d1) &&& (255 : Int32)) <<< ((0 : Int32) &&& 31)) ||| (((StrChars.hi8 d1) &&& (255 : Int32)) <<< ((8 : Int32) &&& 31))).toUInt32.toUInt16.toUInt32.toInt32) = d1 := StrChars.pair_says cd1.1 cd1.2
  rw [e59]
  show Go p e below _ (T3.setTop (mkF m 59 #[vr t, vi 1] [(.int d1)]))
  exact W3.retI hx hEL hs hlk (by decide +kernel) (by decide +kernel) hret (by simp) (nar_retw cd1) (D 59 rfl) (fun S hS => ⟨rfl, rfl⟩)
theorem ef212 (m : MethodId) (x0 : Addr) (x1 x2 : Int32)  : entryFrame m #[(.ref x0), (.int x1), (.int x2)] 6 = mkF m 0 #[vr x0, vi x1, vi x2, U0, U0, U0] [] := by first | (simp [entryFrame, mkF, argsToLocals, Value.category]; done) | rfl | rfl
set_option maxRecDepth 65536 in
set_option maxHeartbeats 40000000 in
theorem rm212 (B : EV l Z a0 zc fm) (x1 : Addr) (kc : ClassId) (d1 d2 d3 d4 : Int32) (h0 : Heap) {n0 : Nat} (O0 : Old Z n0 h0) (SA1 : sq0 Z) (SH0 : sq1 Z) (SL8 : sq2 Z) (Ac : Arv Z h0 x1 kc .char (4 : Int32) [(.int d1), (.int d2), (.int d3), (.int d4)] (.int 0)) (cd1 : ¬ d1 < 0 ∧ ¬ (65535 : Int32) < d1) (cd2 : ¬ d2 < 0 ∧ ¬ (65535 : Int32) < d2) (cd3 : ¬ d3 < 0 ∧ ¬ (65535 : Int32) < d3) (cd4 : ¬ d4 < 0 ∧ ¬ (65535 : Int32) < d4) (wd : (255 : Int32) < d1) :
    Met l Z EL0 n0 (⟨"java/lang/StringUTF16", "compress", "([CII)[B"⟩ : MethodName) jdk_52_method_16_code 6 (some (.array .byte)) [] (rO 3 2 12 40) #[(.ref x1), (.int 0), (.int 4)] h0 [] [] (fun v h' S => ∃ (r : Addr) (kc : ClassId), v = some (.ref r) ∧ h0.size ≤ r ∧ Arv Z h' r kc .byte (8 : Int32) [(.int (StrChars.lo8 d1)), (.int (StrChars.hi8 d1)), (.int (StrChars.lo8 d2)), (.int (StrChars.hi8 d2)), (.int (StrChars.lo8 d3)), (.int (StrChars.hi8 d3)), (.int (StrChars.lo8 d4)), (.int (StrChars.hi8 d4))] (.int 0)) := by
  obtain ⟨hw, hEL, SC, hzc, SF, rfm⟩ := id B
  refine Met.of (plainFor_of_name pn0) O0 ?_
  intro p e s m below meth c T0 hx hby hml hret hlk hnm hs W0
  have W0 : Wk p l e _ s m _ below meth c Z EL0 n0 [] "java/lang/StringUTF16" [] T0 0 0 h0 := W0
  have D := @tk c _ _ hby tk8
  refine Go.of (fun _ kk => castTop (ef212 m x1 (0 : Int32) (4 : Int32)) kk) ?_
  refine W0.pv hx D 0 1 1 [_, _, _, _, _, _] [.int 4] rfl ?_
  refine W0.newP hx (hw _ (mI 3 rfl)) rfl (D 1 rfl) rfl (by decide +kernel) (cap := 4) (by decide +kernel) (by decide +kernel) (by decide +kernel) (by decide +kernel) (fun T1 h1 b1 c1 eb1 gb1 W1 K1 A1 => ?_)
  have V1 : Arv Z h1 b1 c1 .byte (4 : Int32) [(.int 0), (.int 0), (.int 0), (.int 0)] (.int 0) := A1
  refine W1.pv hx D 3 6 9 [_, _, _, _, _, _] [.int 4, .int 0, _, .int 0, _] rfl ?_
  have k3 := (Ac.keep K1 nin0)
  refine W1.callS hx hEL (hw _ (mI 31 rfl)) (hw _ (mI 32 rfl)) (hw _ (mI 29 rfl)) (hw _ (mI 33 rfl)) (by decide +kernel) (argsL := [(.ref x1), (.int 0), (.ref b1), (.int 0), (.int 4)]) (rest := []) (rm210 B x1 b1 kc d1 d2 d3 d4 c1 h1 W1.old k3 cd1 cd2 cd3 cd4 wd V1 gb1.1 (ne_of_born (Nat.le_of_eq eb1.symm) Ac.lt (Nat.le_refl _))) (allS (mI 0 rfl) all0) (by decide +kernel) (Wd := 0) (by decide +kernel) (by decide +kernel) (by decide +kernel) (allS ⟨gb1.1, (Or.inr gb1.2)⟩ all0) rfl (by rw [hml]; rfl) (lenOf pd3 rfl) rfl (by show 2 * 0 + _ ≤ _; exact Nat.le_of_eq rfl) (D 9 rfl) (fun T2 h2 v2 P2 Ws2 K2 q2 => ?_)
  have W2 := Ws2 [] all0
  obtain rfl := q2
  refine W2.pu hx D 12 [(3, false)] 3 23 [_, _, _, _, vi 0, _] [.int 4, .int 0, _] rfl ⟨trivial, (XT.ii_eq_f (by decide +kernel))⟩ ?_
  have k5 := (k3.keep K2 (ninS (ne_of_born (Nat.le_of_eq eb1.symm) Ac.lt (Nat.le_refl _)) nin0))
  refine W2.callS hx hEL (hw _ (mI 131 rfl)) (hw _ (mI 132 rfl)) (hw _ (mI 29 rfl)) (hw _ (mI 133 rfl)) (by decide +kernel) (argsL := [(.ref x1), (.int 0), (.int 4)]) (rest := []) (rm202 B x1 kc d1 d2 d3 d4 h2 W2.old SA1 SH0 SL8 k5) all0 (by decide +kernel) (Wd := 0) (by decide +kernel) (by decide +kernel) (by decide +kernel) all0 rfl (by rw [hml]; rfl) (lenOf pd4 rfl) rfl (by show 2 * 0 + _ ≤ _; exact Nat.le_of_eq rfl) (D 23 rfl) (fun T4 h4 v4 P4 Ws4 K4 q4 => ?_)
  have W4 := Ws4 [] all0
  obtain ⟨r4, kc4, rfl, lr4, A4⟩ := q4
  have gr4 : n0 ≤ r4 ∧ s.heap.size ≤ r4 := ⟨Nat.le_trans W2.n0le lr4, Nat.le_trans W2.s0le lr4⟩
  refine W4.pv hx D 26 3 32 [_, _, _, _, _, _] [.int 0, _] rfl ?_
  refine W4.callS hx hEL (hw _ (mI 141 rfl)) (hw _ (mI 142 rfl)) (hw _ (mI 29 rfl)) (hw _ (mI 143 rfl)) (by decide +kernel) (argsL := [(.ref r4), (.int 0)]) (rest := []) (rm211 B r4 kc4 d1 d2 d3 d4 h4 W4.old SA1 SH0 SL8 A4 cd1) all0 (by decide +kernel) (Wd := 0) (by decide +kernel) (by decide +kernel) (by decide +kernel) all0 rfl (by rw [hml]; rfl) (lenOf pd5 rfl) rfl (by show 2 * 0 + _ ≤ _; exact Nat.le_of_eq rfl) (D 32 rfl) (fun T6 h6 v6 P6 Ws6 K6 q6 => ?_)
  have W6 := Ws6 [] all0
  obtain ⟨rfl, rfl⟩ := q6
  refine W6.pu hx D 35 [(1, true)] 1 56 [_, _, _, _, _, _] [_] rfl ⟨trivial, (XT.ii_gt_t wd)⟩ ?_
  exact W6.retA hx hEL hs hlk (by decide +kernel) (by decide +kernel) hret rfl rfl (D 56 rfl) (fun S hS => ⟨r4, kc4, rfl, hs ▸ gr4.2, A4⟩)
theorem ef213 (m : MethodId) (x0 x1 : Addr) (x2 x3 : Int32)  : entryFrame m #[(.ref x0), (.ref x1), (.int x2), (.int x3), .null] 6 = mkF m 0 #[vr x0, vr x1, vi x2, vi x3, vN, U0] [] := by first | (simp [entryFrame, mkF, argsToLocals, Value.category]; done) | rfl | rfl
set_option maxRecDepth 65536 in
set_option maxHeartbeats 40000000 in
theorem rm213 (B : EV l Z a0 zc fm) (x0 x1 : Addr) (kc : ClassId) (d1 d2 d3 d4 : Int32) (h0 : Heap) {n0 : Nat} (O0 : Old Z n0 h0) (SA1 : sq0 Z) (SH0 : sq1 Z) (SL8 : sq2 Z) (Ac : Arv Z h0 x1 kc .char (4 : Int32) [(.int d1), (.int d2), (.int d3), (.int d4)] (.int 0)) (cd1 : ¬ d1 < 0 ∧ ¬ (65535 : Int32) < d1) (cd2 : ¬ d2 < 0 ∧ ¬ (65535 : Int32) < d2) (cd3 : ¬ d3 < 0 ∧ ¬ (65535 : Int32) < d3) (cd4 : ¬ d4 < 0 ∧ ¬ (65535 : Int32) < d4) (wd : (255 : Int32) < d1) (Exx : Exa Z h0 x0 "java/lang/String") (Fxv : Fld Z h0 x0 "java/lang/String" "value" "[B" .null) (Fxc : Fld Z h0 x0 "java/lang/String" "coder" "B" (.int 0)) (gxx : n0 ≤ x0) :
    Met l Z EL0 n0 (⟨"java/lang/String", "<init>", "([CIILjava/lang/Void;)V"⟩ : MethodName) jdk_42_method_149_code 6 none [] (rO 4 2 12 57) #[(.ref x0), (.ref x1), (.int 0), (.int 4), .null] h0 [x0] [x0] (fun v h' S => v = none ∧ Str Z h' x0 [d1, d2, d3, d4]) := by
  obtain ⟨hw, hEL, SC, hzc, SF, rfm⟩ := id B
  refine Met.of (plainFor_of_name pn1) O0 ?_
  intro p e s m below meth c T0 hx hby hml hret hlk hnm hs W0
  have W0 : Wk p l e _ s m _ below meth c Z EL0 n0 [x0] "java/lang/String" [x0] T0 0 0 h0 := W0
  have D := @tk c _ _ hby tk9
  refine Go.of (fun _ kk => castTop (ef213 m x0 x1 (0 : Int32) (4 : Int32)) kk) ?_
  refine W0.pv hx D 0 1 1 [_, _, _, _, _, _] [_] rfl ?_
  refine W0.initO hx (hw _ (mI 23 rfl)) (hw _ (mI 24 rfl)) (hw _ (mI 25 rfl)) rfl (by rw [hml]; rfl) rfl (D 1 rfl) (by decide +kernel) (Wd := 0) (by show 2 * 0 + _ ≤ _; exact Nat.le_of_eq rfl) (by decide +kernel) (fun T1 W1 => ?_)
  refine W1.pu hx D 4 [(1, true)] 0 27 [_, _, _, _, _, _] [] rfl ⟨trivial, (XT.i0_ne_t (by decide +kernel))⟩ ?_
  refine W1.getS hx (host := "") (Or.inl (hw _ (mI 26 rfl))) Via.refl SC rfl (D 27 rfl) (fun T2 W2 => ?_)
  refine W2.pu hx D 30 [(0, false)] 3 36 [_, _, _, _, _, _] [.int 4, .int 0, _] rfl ⟨trivial, (XT.i0_eq_f hzc)⟩ ?_
  refine W2.callS hx hEL (hw _ (mI 27 rfl)) (hw _ (mI 28 rfl)) (hw _ (mI 29 rfl)) (hw _ (mI 30 rfl)) (by decide +kernel) (argsL := [(.ref x1), (.int 0), (.int 4)]) (rest := []) (rm212 B x1 kc d1 d2 d3 d4 h0 W2.old SA1 SH0 SL8 Ac cd1 cd2 cd3 cd4 wd) all0 (by decide +kernel) (Wd := 0) (by decide +kernel) (by decide +kernel) (by decide +kernel) all0 rfl (by rw [hml]; rfl) (lenOf pd4 rfl) rfl (by show 2 * 0 + _ ≤ _; exact Nat.le_of_eq rfl) (D 36 rfl) (fun T3 h3 v3 P3 Ws3 K3 q3 => ?_)
  have W3 := Ws3 [] all0
  obtain ⟨r3, kc3, rfl, lr3, A3⟩ := q3
  have gr3 : n0 ≤ r3 ∧ s.heap.size ≤ r3 := ⟨Nat.le_trans W2.n0le lr3, Nat.le_trans W2.s0le lr3⟩
  refine W3.pv hx D 39 4 45 [_, _, _, _, _, _] [.int 4, _, _] rfl ?_
  refine W3.callS hx hEL (hw _ (mI 34 rfl)) (hw _ (mI 35 rfl)) (hw _ (mI 29 rfl)) (hw _ (mI 36 rfl)) (by decide +kernel) (argsL := [(.ref r3), (.int 4)]) (rest := [(.ref x0)]) (rm203 B r3 kc3 d1 d2 d3 d4 h3 W3.old A3) all0 (by decide +kernel) (Wd := 1) (by decide +kernel) (by decide +kernel) (by decide +kernel) all0 rfl (by rw [hml]; rfl) (lenOf pd6 rfl) rfl (by show 2 * 0 + _ ≤ _; exact Nat.le_of_eq rfl) (D 45 rfl) (fun T4 h4 v4 P4 Ws4 K4 q4 => ?_)
  have W4 := Ws4 [] all0
  obtain ⟨rfl, rfl⟩ := q4
  show Go p e below _ (T4.setTop (mkF m 48 #[vr x0, vr x1, vi 0, vi 4, vN, vr r3] [(.int 1), (.ref x0)]))
  have k5 := (Fxc.keep K3 nin0)
  have k6 := (Exx.keep K3)
  refine W4.putF hx (host := "") (Or.inl (hw _ (mI 37 rfl))) Via.refl k5 k6 (Or.inr ⟨(hw _ (mI 5 rfl)), rfl, hnm⟩) (hw _ (mI 2 rfl)) (ty := .byte) (by decide +kernel) rfl rfl gxx (Or.inl (mI 0 rfl)) (Or.inl (mI 0 rfl)) rfl rfl (D 48 rfl) (fun T7 h7 W7 w7 => ?_)
  have k8 := (Fxv.keep K3 nin0)
  have K7 := Keep.of_wr w7
  have k9 := k8.other w7 (Or.inr (slot_ne (Or.inr (hw _ (mI 4 rfl))) (Or.inr (hw _ (mI 5 rfl))) (by decide +kernel) (t := (.array .byte)) (t' := .byte) (by decide +kernel) (by decide +kernel)))
  have k10 := k5.same w7
  refine W7.pv hx D 51 2 54 [_, _, _, _, _, _] [_, _] rfl ?_
  have k11 := (k6.keep K7)
  refine W7.putF hx (host := "") (Or.inl (hw _ (mI 38 rfl))) Via.refl k9 k11 (Or.inr ⟨(hw _ (mI 4 rfl)), rfl, hnm⟩) (hw _ (mI 2 rfl)) (ty := (.array .byte)) (by decide +kernel) rfl rfl gxx (Or.inl (mI 0 rfl)) (Or.inl (mI 0 rfl)) rfl rfl (D 54 rfl) (fun T12 h12 W12 w12 => ?_)
  have K12 := Keep.of_wr w12
  have k13 := k10.other w12 (Or.inr (slot_ne (Or.inr (hw _ (mI 5 rfl))) (Or.inr (hw _ (mI 4 rfl))) (by decide +kernel) (t := .byte) (t' := (.array .byte)) (by decide +kernel) (by decide +kernel)))
  have k14 := k9.same w12
  show Go p e below _ (T12.setTop (mkF m 57 #[vr x0, vr x1, vi 0, vi 4, vN, vr r3] []))
  have k15 := (k11.keep K12)
  have k16 := ((A3.keep K7 (ninS (ne_of_born lr3 Exx.lt (Nat.le_refl _)).symm nin0)).keep K12 (ninS (ne_of_born lr3 Exx.lt (Nat.le_refl _)).symm nin0))
  exact W12.retV hx hEL hs hlk (by decide +kernel) (by decide +kernel) hret (D 57 rfl) (fun S hS => ⟨rfl, ⟨r3, kc3, _, _, _, k15, k14, k13, k16, Or.inr ⟨rfl, rfl, rfl, d1, List.mem_of_getElem? (i := 0) rfl, wd⟩, (allSi cd1 (allSi cd2 (allSi cd3 (allSi cd4 all0i)))), Nat.le_of_ble_eq_true rfl⟩⟩)
theorem ef214 (m : MethodId) (x0 x1 : Addr)  : entryFrame m #[(.ref x0), (.ref x1)] 2 = mkF m 0 #[vr x0, vr x1] [] := by first | (simp [entryFrame, mkF, argsToLocals, Value.category]; done) | rfl | rfl
set_option maxRecDepth 65536 in
set_option maxHeartbeats 40000000 in
theorem rm214 (B : EV l Z a0 zc fm) (x0 x1 : Addr) (kc : ClassId) (d1 d2 d3 d4 : Int32) (h0 : Heap) {n0 : Nat} (O0 : Old Z n0 h0) (SA1 : sq0 Z) (SH0 : sq1 Z) (SL8 : sq2 Z) (Ac : Arv Z h0 x1 kc .char (4 : Int32) [(.int d1), (.int d2), (.int d3), (.int d4)] (.int 0)) (cd1 : ¬ d1 < 0 ∧ ¬ (65535 : Int32) < d1) (cd2 : ¬ d2 < 0 ∧ ¬ (65535 : Int32) < d2) (cd3 : ¬ d3 < 0 ∧ ¬ (65535 : Int32) < d3) (cd4 : ¬ d4 < 0 ∧ ¬ (65535 : Int32) < d4) (wd : (255 : Int32) < d1) (Exx : Exa Z h0 x0 "java/lang/String") (Fxv : Fld Z h0 x0 "java/lang/String" "value" "[B" .null) (Fxc : Fld Z h0 x0 "java/lang/String" "coder" "B" (.int 0)) (gxx : n0 ≤ x0) :
    Met l Z EL0 n0 (⟨"java/lang/String", "<init>", "([C)V"⟩ : MethodName) jdk_42_method_3_code 2 none [] (rO 5 2 12 74) #[(.ref x0), (.ref x1)] h0 [x0] [x0] (fun v h' S => v = none ∧ Str Z h' x0 [d1, d2, d3, d4]) := by
  obtain ⟨hw, hEL, SC, hzc, SF, rfm⟩ := id B
  refine Met.of (plainFor_of_name pn1) O0 ?_
  intro p e s m below meth c T0 hx hby hml hret hlk hnm hs W0
  have W0 : Wk p l e _ s m _ below meth c Z EL0 n0 [x0] "java/lang/String" [x0] T0 0 0 h0 := W0
  have D := @tk c _ _ hby tk10
  refine Go.of (fun _ kk => castTop (ef214 m x0 x1) kk) ?_
  refine W0.pv hx D 0 4 4 [_, _] [_, .int 0, _, _] rfl ?_
  refine W0.alen hx Ac rfl rfl (D 4 rfl) ?_
  refine W0.pv hx D 5 1 6 [_, _] [.null, _, _, _, _] rfl ?_
  refine W0.callP hx hEL rfl (hw _ (mI 19 rfl)) (hw _ (mI 20 rfl)) (hw _ (mI 1 rfl)) (hw _ (mI 22 rfl)) (by decide +kernel) (a := x0) (argsL := [(.ref x1), (.int 0), (.int 4), .null]) (rest := []) (rm213 B x0 x1 kc d1 d2 d3 d4 h0 W0.old SA1 SH0 SL8 Ac cd1 cd2 cd3 cd4 wd Exx Fxv Fxc gxx) (allS (mI 0 rfl) all0) (by decide +kernel) (Wd := 0) (by decide +kernel) (by decide +kernel) (by decide +kernel) (allS ⟨gxx, (Or.inl (mI 0 rfl))⟩ all0) rfl (by rw [hml]; rfl) (lenOf pd7 rfl) rfl (by show 2 * 0 + _ ≤ _; exact Nat.le_of_eq rfl) (D 6 rfl) (fun T1 h1 v1 P1 Ws1 K1 q1 => ?_)
  have W1 := Ws1 [] all0
  obtain ⟨rfl, S1⟩ := q1
  show Go p e below _ (T1.setTop (mkF m 9 #[vr x0, vr x1] []))
  exact W1.retV hx hEL hs hlk (by decide +kernel) (by decide +kernel) hret (D 9 rfl) (fun S hS => ⟨rfl, S1⟩)
set_option maxRecDepth 65536 in
set_option maxHeartbeats 40000000 in
theorem rm220 (B : EV l Z a0 zc fm) (x1 x2 : Addr) (kc : ClassId) (d1 d2 d3 d4 : Int32) (kb : ClassId) (h0 : Heap) {n0 : Nat} (O0 : Old Z n0 h0) (Ac : Arv Z h0 x1 kc .char (4 : Int32) [(.int d1), (.int d2), (.int d3), (.int d4)] (.int 0)) (cd1 : ¬ d1 < 0 ∧ ¬ (65535 : Int32) < d1) (cd2 : ¬ d2 < 0 ∧ ¬ (65535 : Int32) < d2) (cd3 : ¬ d3 < 0 ∧ ¬ (65535 : Int32) < d3) (cd4 : ¬ d4 < 0 ∧ ¬ (65535 : Int32) < d4) (nd1 : ¬ (255 : Int32) < d1) (wd : (255 : Int32) < d2) (Ab : Arv Z h0 x2 kb .byte (4 : Int32) [(.int 0), (.int 0), (.int 0), (.int 0)] (.int 0)) (g2 : n0 ≤ x2) (nx : x1 ≠ x2) :
    Met l Z EL0 n0 (⟨"java/lang/StringUTF16", "compress", "([CI[BII)I"⟩ : MethodName) jdk_52_method_21_code 7 (some .int) [] (rO 0 0 0 0) #[(.ref x1), (.int 0), (.ref x2), (.int 0), (.int 4)] h0 [x2] [x2] (fun v h' S => v = some (.int 1)) := by
  obtain ⟨hw, hEL, SC, hzc, SF, rfm⟩ := id B
  refine Met.of (plainFor_of_name pn0) O0 ?_
  intro p e s m below meth c T0 hx hby hml hret hlk hnm hs W0
  have W0 : Wk p l e _ s m _ below meth c Z EL0 n0 [x2] "java/lang/StringUTF16" [x2] T0 0 0 h0 := W0
  have D := @tk c _ _ hby tk6
  refine Go.of (fun _ kk => castTop (ef210 m x1 (0 : Int32) x2 (0 : Int32) (4 : Int32)) kk) ?_
  refine W0.pu hx D 0 [(4, false)] 2 12 [_, _, _, _, _, vi 0, _] [.int 0, _] rfl ⟨trivial, (XT.ii_ge_f (by decide +kernel))⟩ ?_
  refine W0.caload hx Ac ⟨by decide, by decide⟩ (v := (.int d1)) rfl rfl rfl (D 12 rfl) ?_
  refine W0.pu hx D 13 [(3, true)] 4 31 [_, _, _, _, _, _, _] [.int (d1.toInt8.toInt32), .int 0, _] rfl ⟨trivial, (XT.ii_le_t nd1)⟩ ?_
  refine W0.stB hx Ab ⟨by decide, by decide⟩ 0 rfl (Nat.le_of_ble_eq_true rfl) g2 (Or.inl (mI 0 rfl)) (mI 0 rfl) rfl rfl (D 31 rfl) (fun T1 h1 W1 K1 A1 => ?_)
  have V1 : Arv Z h1 x2 kb .byte (4 : Int32) [(.int (d1.toInt8.toInt32)), (.int 0), (.int 0), (.int 0)] (.int 0) := (by rw [(nar_byte _)] at A1; exact A1)
  refine W1.pu hx D 32 [(6, false)] 2 12 [_, vi 1, _, vi 1, _, vi 1, _] [.int 1, _] rfl ⟨trivial, (XT.ii_ge_f (by decide +kernel))⟩ ?_
  have k2 := (Ac.keep K1 (ninS nx nin0))
  refine W1.caload hx k2 ⟨by decide, by decide⟩ (v := (.int d2)) rfl rfl rfl (D 12 rfl) ?_
  refine W1.pu hx D 13 [(3, false)] 1 25 [_, _, _, _, _, _, _] [.int 1] rfl ⟨trivial, (XT.ii_le_f wd)⟩ ?_
  exact W1.retI hx hEL hs hlk (by decide +kernel) (by decide +kernel) hret (by simp) rfl (D 25 rfl) (fun S hS => rfl)
set_option maxRecDepth 65536 in
set_option maxHeartbeats 40000000 in
theorem rm221 (B : EV l Z a0 zc fm) (t : Addr) (kc : ClassId) (d1 d2 d3 d4 : Int32) (h0 : Heap) {n0 : Nat} (O0 : Old Z n0 h0) (SA1 : sq0 Z) (SH0 : sq1 Z) (SL8 : sq2 Z) (Ab : Arv Z h0 t kc .byte (8 : Int32) [(.int (StrChars.lo8 d1)), (.int (StrChars.hi8 d1)), (.int (StrChars.lo8 d2)), (.int (StrChars.hi8 d2)), (.int (StrChars.lo8 d3)), (.int (StrChars.hi8 d3)), (.int (StrChars.lo8 d4)), (.int (StrChars.hi8 d4))] (.int 0)) (cd2 : ¬ d2 < 0 ∧ ¬ (65535 : Int32) < d2) :
    Met l Z EL0 n0 (⟨"java/lang/StringUTF16", "getChar", "([BI)C"⟩ : MethodName) jdk_52_method_5_code 2 (some .char) [] (rO 0 0 0 0) #[(.ref t), (.int 1)] h0 [] [] (fun v h' S => v = some (.int d2) ∧ h0 = h') := by
  obtain ⟨hw, hEL, SC, hzc, SF, rfm⟩ := id B
  refine Met.of (plainFor_of_name pn0) O0 ?_
  intro p e s m below meth c T0 hx hby hml hret hlk hnm hs W0
  have W0 : Wk p l e _ s m _ below meth c Z EL0 n0 [] "java/lang/StringUTF16" [] T0 0 0 h0 := W0
  have D := @tk c _ _ hby tk7
  refine Go.of (fun _ kk => castTop (ef203 m t (1 : Int32)) kk) ?_
  show Go p e below _ (T0.setTop (mkF m 0 #[vr t, vi 1] []))
  refine W0.getS hx (host := "") (Or.inl (hw _ (mI 85 rfl))) Via.refl SA1 rfl (D 0 rfl) (fun T1 W1 => ?_)
  refine W1.pu hx D 3 [(0, true)] 7 37 [_, vi 3] [.int 2, _] rfl ⟨trivial, (XT.i0_ne_t (by decide +kernel))⟩ ?_
  refine W1.baload hx Ab ⟨by decide, by decide⟩ (v := (.int (StrChars.lo8 d2))) rfl rfl rfl (D 37 rfl) ?_
  refine W1.pv hx D 38 2 42 [_, _] [.int ((StrChars.lo8 d2) &&& (255 : Int32))] rfl ?_
  refine W1.getS hx (host := "") (Or.inl (hw _ (mI 86 rfl))) Via.refl SH0 rfl (D 42 rfl) (fun T2 W2 => ?_)
  refine W2.pv hx D 45 3 48 [_, _] [.int 3, _, .int (((StrChars.lo8 d2) &&& (255 : Int32)) <<< ((0 : Int32) &&& 31))] rfl ?_
  refine W2.baload hx Ab ⟨by decide, by decide⟩ (v := (.int (StrChars.hi8 d2))) rfl rfl rfl (D 48 rfl) ?_
  refine W2.pv hx D 49 2 53 [_, _] [.int ((StrChars.hi8 d2) &&& (255 : Int32)), _] rfl ?_
  refine W2.getS hx (host := "") (Or.inl (hw _ (mI 87 rfl))) Via.refl SL8 rfl (D 53 rfl) (fun T3 W3 => ?_)
  refine W3.pv hx D 56 3 59 [_, _] [.int (((((StrChars.lo8 d2) &&& (255 : Int32)) <<< ((0 : Int32) &&& 31)) ||| (((StrChars.hi8 d2) &&& (255 : Int32)) <<< ((8 : Int32) &&& 31))).toUInt32.toUInt16.toUInt32.toInt32)] rfl ?_
  have e59 : (((((StrChars.lo8 d2) &&& (255 : Int32)) <<< ((0 : Int32) &&& 31)) ||| (((StrChars.hi8 d2) &&& (255 : Int32)) <<< ((8 : Int32) &&& 31))).toUInt32.toUInt16.toUInt32.toInt32) = d2 := StrChars.pair_says cd2.1 cd2.2
  rw [e59]
  show Go p e below _ (T3.setTop (mkF m 59 #[vr t, vi 3] [(.int d2)]))
  exact W3.retI hx hEL hs hlk (by decide +kernel) (by decide +kernel) hret (by simp) (nar_retw cd2) (D 59 rfl) (fun S hS => ⟨rfl, rfl⟩)
set_option maxRecDepth 65536 in
set_option maxHeartbeats 40000000 in
theorem rm222 (B : EV l Z a0 zc fm) (x1 : Addr) (kc : ClassId) (d1 d2 d3 d4 : Int32) (h0 : Heap) {n0 : Nat} (O0 : Old Z n0 h0) (SA1 : sq0 Z) (SH0 : sq1 Z) (SL8 : sq2 Z) (Ac : Arv Z h0 x1 kc .char (4 : Int32) [(.int d1), (.int d2), (.int d3), (.int d4)] (.int 0)) (cd1 : ¬ d1 < 0 ∧ ¬ (65535 : Int32) < d1) (cd2 : ¬ d2 < 0 ∧ ¬ (65535 : Int32) < d2) (cd3 : ¬ d3 < 0 ∧ ¬ (65535 : Int32) < d3) (cd4 : ¬ d4 < 0 ∧ ¬ (65535 : Int32) < d4) (nd1 : ¬ (255 : Int32) < d1) (wd : (255 : Int32) < d2) :
    Met l Z EL0 n0 (⟨"java/lang/StringUTF16", "compress", "([CII)[B"⟩ : MethodName) jdk_52_method_16_code 6 (some (.array .byte)) [] (rO 3 2 12 40) #[(.ref x1), (.int 0), (.int 4)] h0 [] [] (fun v h' S => ∃ (r : Addr) (kc : ClassId), v = some (.ref r) ∧ h0.size ≤ r ∧ Arv Z h' r kc .byte (8 : Int32) [(.int (StrChars.lo8 d1)), (.int (StrChars.hi8 d1)), (.int (StrChars.lo8 d2)), (.int (StrChars.hi8 d2)), (.int (StrChars.lo8 d3)), (.int (StrChars.hi8 d3)), (.int (StrChars.lo8 d4)), (.int (StrChars.hi8 d4))] (.int 0)) := by
  obtain ⟨hw, hEL, SC, hzc, SF, rfm⟩ := id B
  refine Met.of (plainFor_of_name pn0) O0 ?_
  intro p e s m below meth c T0 hx hby hml hret hlk hnm hs W0
  have W0 : Wk p l e _ s m _ below meth c Z EL0 n0 [] "java/lang/StringUTF16" [] T0 0 0 h0 := W0
  have D := @tk c _ _ hby tk8
  refine Go.of (fun _ kk => castTop (ef212 m x1 (0 : Int32) (4 : Int32)) kk) ?_
  refine W0.pv hx D 0 1 1 [_, _, _, _, _, _] [.int 4] rfl ?_
  refine W0.newP hx (hw _ (mI 3 rfl)) rfl (D 1 rfl) rfl (by decide +kernel) (cap := 4) (by decide +kernel) (by decide +kernel) (by decide +kernel) (by decide +kernel) (fun T1 h1 b1 c1 eb1 gb1 W1 K1 A1 => ?_)
  have V1 : Arv Z h1 b1 c1 .byte (4 : Int32) [(.int 0), (.int 0), (.int 0), (.int 0)] (.int 0) := A1
  refine W1.pv hx D 3 6 9 [_, _, _, _, _, _] [.int 4, .int 0, _, .int 0, _] rfl ?_
  have k3 := (Ac.keep K1 nin0)
  refine W1.callS hx hEL (hw _ (mI 31 rfl)) (hw _ (mI 32 rfl)) (hw _ (mI 29 rfl)) (hw _ (mI 33 rfl)) (by decide +kernel) (argsL := [(.ref x1), (.int 0), (.ref b1), (.int 0), (.int 4)]) (rest := []) (rm220 B x1 b1 kc d1 d2 d3 d4 c1 h1 W1.old k3 cd1 cd2 cd3 cd4 nd1 wd V1 gb1.1 (ne_of_born (Nat.le_of_eq eb1.symm) Ac.lt (Nat.le_refl _))) (allS (mI 0 rfl) all0) (by decide +kernel) (Wd := 0) (by decide +kernel) (by decide +kernel) (by decide +kernel) (allS ⟨gb1.1, (Or.inr gb1.2)⟩ all0) rfl (by rw [hml]; rfl) (lenOf pd3 rfl) rfl (by show 2 * 0 + _ ≤ _; exact Nat.le_of_eq rfl) (D 9 rfl) (fun T2 h2 v2 P2 Ws2 K2 q2 => ?_)
  have W2 := Ws2 [] all0
  obtain rfl := q2
  refine W2.pu hx D 12 [(3, false)] 3 23 [_, _, _, _, vi 1, _] [.int 4, .int 0, _] rfl ⟨trivial, (XT.ii_eq_f (by decide +kernel))⟩ ?_
  have k5 := (k3.keep K2 (ninS (ne_of_born (Nat.le_of_eq eb1.symm) Ac.lt (Nat.le_refl _)) nin0))
  refine W2.callS hx hEL (hw _ (mI 131 rfl)) (hw _ (mI 132 rfl)) (hw _ (mI 29 rfl)) (hw _ (mI 133 rfl)) (by decide +kernel) (argsL := [(.ref x1), (.int 0), (.int 4)]) (rest := []) (rm202 B x1 kc d1 d2 d3 d4 h2 W2.old SA1 SH0 SL8 k5) all0 (by decide +kernel) (Wd := 0) (by decide +kernel) (by decide +kernel) (by decide +kernel) all0 rfl (by rw [hml]; rfl) (lenOf pd4 rfl) rfl (by show 2 * 0 + _ ≤ _; exact Nat.le_of_eq rfl) (D 23 rfl) (fun T4 h4 v4 P4 Ws4 K4 q4 => ?_)
  have W4 := Ws4 [] all0
  obtain ⟨r4, kc4, rfl, lr4, A4⟩ := q4
  have gr4 : n0 ≤ r4 ∧ s.heap.size ≤ r4 := ⟨Nat.le_trans W2.n0le lr4, Nat.le_trans W2.s0le lr4⟩
  refine W4.pv hx D 26 3 32 [_, _, _, _, _, _] [.int 1, _] rfl ?_
  refine W4.callS hx hEL (hw _ (mI 141 rfl)) (hw _ (mI 142 rfl)) (hw _ (mI 29 rfl)) (hw _ (mI 143 rfl)) (by decide +kernel) (argsL := [(.ref r4), (.int 1)]) (rest := []) (rm221 B r4 kc4 d1 d2 d3 d4 h4 W4.old SA1 SH0 SL8 A4 cd2) all0 (by decide +kernel) (Wd := 0) (by decide +kernel) (by decide +kernel) (by decide +kernel) all0 rfl (by rw [hml]; rfl) (lenOf pd5 rfl) rfl (by show 2 * 0 + _ ≤ _; exact Nat.le_of_eq rfl) (D 32 rfl) (fun T6 h6 v6 P6 Ws6 K6 q6 => ?_)
  have W6 := Ws6 [] all0
  obtain ⟨rfl, rfl⟩ := q6
  refine W6.pu hx D 35 [(1, true)] 1 56 [_, _, _, _, _, _] [_] rfl ⟨trivial, (XT.ii_gt_t wd)⟩ ?_
  exact W6.retA hx hEL hs hlk (by decide +kernel) (by decide +kernel) hret rfl rfl (D 56 rfl) (fun S hS => ⟨r4, kc4, rfl, hs ▸ gr4.2, A4⟩)
set_option maxRecDepth 65536 in
set_option maxHeartbeats 40000000 in
theorem rm223 (B : EV l Z a0 zc fm) (x0 x1 : Addr) (kc : ClassId) (d1 d2 d3 d4 : Int32) (h0 : Heap) {n0 : Nat} (O0 : Old Z n0 h0) (SA1 : sq0 Z) (SH0 : sq1 Z) (SL8 : sq2 Z) (Ac : Arv Z h0 x1 kc .char (4 : Int32) [(.int d1), (.int d2), (.int d3), (.int d4)] (.int 0)) (cd1 : ¬ d1 < 0 ∧ ¬ (65535 : Int32) < d1) (cd2 : ¬ d2 < 0 ∧ ¬ (65535 : Int32) < d2) (cd3 : ¬ d3 < 0 ∧ ¬ (65535 : Int32) < d3) (cd4 : ¬ d4 < 0 ∧ ¬ (65535 : Int32) < d4) (nd1 : ¬ (255 : Int32) < d1) (wd : (255 : Int32) < d2) (Exx : Exa Z h0 x0 "java/lang/String") (Fxv : Fld Z h0 x0 "java/lang/String" "value" "[B" .null) (Fxc : Fld Z h0 x0 "java/lang/String" "coder" "B" (.int 0)) (gxx : n0 ≤ x0) :
    Met l Z EL0 n0 (⟨"java/lang/String", "<init>", "([CIILjava/lang/Void;)V"⟩ : MethodName) jdk_42_method_149_code 6 none [] (rO 4 2 12 57) #[(.ref x0), (.ref x1), (.int 0), (.int 4), .null] h0 [x0] [x0] (fun v h' S => v = none ∧ Str Z h' x0 [d1, d2, d3, d4]) := by
  obtain ⟨hw, hEL, SC, hzc, SF, rfm⟩ := id B
  refine Met.of (plainFor_of_name pn1) O0 ?_
  intro p e s m below meth c T0 hx hby hml hret hlk hnm hs W0
  have W0 : Wk p l e _ s m _ below meth c Z EL0 n0 [x0] "java/lang/String" [x0] T0 0 0 h0 := W0
  have D := @tk c _ _ hby tk9
  refine Go.of (fun _ kk => castTop (ef213 m x0 x1 (0 : Int32) (4 : Int32)) kk) ?_
  refine W0.pv hx D 0 1 1 [_, _, _, _, _, _] [_] rfl ?_
  refine W0.initO hx (hw _ (mI 23 rfl)) (hw _ (mI 24 rfl)) (hw _ (mI 25 rfl)) rfl (by rw [hml]; rfl) rfl (D 1 rfl) (by decide +kernel) (Wd := 0) (by show 2 * 0 + _ ≤ _; exact Nat.le_of_eq rfl) (by decide +kernel) (fun T1 W1 => ?_)
  refine W1.pu hx D 4 [(1, true)] 0 27 [_, _, _, _, _, _] [] rfl ⟨trivial, (XT.i0_ne_t (by decide +kernel))⟩ ?_
  refine W1.getS hx (host := "") (Or.inl (hw _ (mI 26 rfl))) Via.refl SC rfl (D 27 rfl) (fun T2 W2 => ?_)
  refine W2.pu hx D 30 [(0, false)] 3 36 [_, _, _, _, _, _] [.int 4, .int 0, _] rfl ⟨trivial, (XT.i0_eq_f hzc)⟩ ?_
  refine W2.callS hx hEL (hw _ (mI 27 rfl)) (hw _ (mI 28 rfl)) (hw _ (mI 29 rfl)) (hw _ (mI 30 rfl)) (by decide +kernel) (argsL := [(.ref x1), (.int 0), (.int 4)]) (rest := []) (rm222 B x1 kc d1 d2 d3 d4 h0 W2.old SA1 SH0 SL8 Ac cd1 cd2 cd3 cd4 nd1 wd) all0 (by decide +kernel) (Wd := 0) (by decide +kernel) (by decide +kernel) (by decide +kernel) all0 rfl (by rw [hml]; rfl) (lenOf pd4 rfl) rfl (by show 2 * 0 + _ ≤ _; exact Nat.le_of_eq rfl) (D 36 rfl) (fun T3 h3 v3 P3 Ws3 K3 q3 => ?_)
  have W3 := Ws3 [] all0
  obtain ⟨r3, kc3, rfl, lr3, A3⟩ := q3
  have gr3 : n0 ≤ r3 ∧ s.heap.size ≤ r3 := ⟨Nat.le_trans W2.n0le lr3, Nat.le_trans W2.s0le lr3⟩
  refine W3.pv hx D 39 4 45 [_, _, _, _, _, _] [.int 4, _, _] rfl ?_
  refine W3.callS hx hEL (hw _ (mI 34 rfl)) (hw _ (mI 35 rfl)) (hw _ (mI 29 rfl)) (hw _ (mI 36 rfl)) (by decide +kernel) (argsL := [(.ref r3), (.int 4)]) (rest := [(.ref x0)]) (rm203 B r3 kc3 d1 d2 d3 d4 h3 W3.old A3) all0 (by decide +kernel) (Wd := 1) (by decide +kernel) (by decide +kernel) (by decide +kernel) all0 rfl (by rw [hml]; rfl) (lenOf pd6 rfl) rfl (by show 2 * 0 + _ ≤ _; exact Nat.le_of_eq rfl) (D 45 rfl) (fun T4 h4 v4 P4 Ws4 K4 q4 => ?_)
  have W4 := Ws4 [] all0
  obtain ⟨rfl, rfl⟩ := q4
  show Go p e below _ (T4.setTop (mkF m 48 #[vr x0, vr x1, vi 0, vi 4, vN, vr r3] [(.int 1), (.ref x0)]))
  have k5 := (Fxc.keep K3 nin0)
  have k6 := (Exx.keep K3)
  refine W4.putF hx (host := "") (Or.inl (hw _ (mI 37 rfl))) Via.refl k5 k6 (Or.inr ⟨(hw _ (mI 5 rfl)), rfl, hnm⟩) (hw _ (mI 2 rfl)) (ty := .byte) (by decide +kernel) rfl rfl gxx (Or.inl (mI 0 rfl)) (Or.inl (mI 0 rfl)) rfl rfl (D 48 rfl) (fun T7 h7 W7 w7 => ?_)
  have k8 := (Fxv.keep K3 nin0)
  have K7 := Keep.of_wr w7
  have k9 := k8.other w7 (Or.inr (slot_ne (Or.inr (hw _ (mI 4 rfl))) (Or.inr (hw _ (mI 5 rfl))) (by decide +kernel) (t := (.array .byte)) (t' := .byte) (by decide +kernel) (by decide +kernel)))
  have k10 := k5.same w7
  refine W7.pv hx D 51 2 54 [_, _, _, _, _, _] [_, _] rfl ?_
  have k11 := (k6.keep K7)
  refine W7.putF hx (host := "") (Or.inl (hw _ (mI 38 rfl))) Via.refl k9 k11 (Or.inr ⟨(hw _ (mI 4 rfl)), rfl, hnm⟩) (hw _ (mI 2 rfl)) (ty := (.array .byte)) (by decide +kernel) rfl rfl gxx (Or.inl (mI 0 rfl)) (Or.inl (mI 0 rfl)) rfl rfl (D 54 rfl) (fun T12 h12 W12 w12 => ?_)
  have K12 := Keep.of_wr w12
  have k13 := k10.other w12 (Or.inr (slot_ne (Or.inr (hw _ (mI 5 rfl))) (Or.inr (hw _ (mI 4 rfl))) (by decide +kernel) (t := .byte) (t' := (.array .byte)) (by decide +kernel) (by decide +kernel)))
  have k14 := k9.same w12
  show Go p e below _ (T12.setTop (mkF m 57 #[vr x0, vr x1, vi 0, vi 4, vN, vr r3] []))
  have k15 := (k11.keep K12)
  have k16 := ((A3.keep K7 (ninS (ne_of_born lr3 Exx.lt (Nat.le_refl _)).symm nin0)).keep K12 (ninS (ne_of_born lr3 Exx.lt (Nat.le_refl _)).symm nin0))
  exact W12.retV hx hEL hs hlk (by decide +kernel) (by decide +kernel) hret (D 57 rfl) (fun S hS => ⟨rfl, ⟨r3, kc3, _, _, _, k15, k14, k13, k16, Or.inr ⟨rfl, rfl, rfl, d2, List.mem_of_getElem? (i := 1) rfl, wd⟩, (allSi cd1 (allSi cd2 (allSi cd3 (allSi cd4 all0i)))), Nat.le_of_ble_eq_true rfl⟩⟩)
set_option maxRecDepth 65536 in
set_option maxHeartbeats 40000000 in
theorem rm224 (B : EV l Z a0 zc fm) (x0 x1 : Addr) (kc : ClassId) (d1 d2 d3 d4 : Int32) (h0 : Heap) {n0 : Nat} (O0 : Old Z n0 h0) (SA1 : sq0 Z) (SH0 : sq1 Z) (SL8 : sq2 Z) (Ac : Arv Z h0 x1 kc .char (4 : Int32) [(.int d1), (.int d2), (.int d3), (.int d4)] (.int 0)) (cd1 : ¬ d1 < 0 ∧ ¬ (65535 : Int32) < d1) (cd2 : ¬ d2 < 0 ∧ ¬ (65535 : Int32) < d2) (cd3 : ¬ d3 < 0 ∧ ¬ (65535 : Int32) < d3) (cd4 : ¬ d4 < 0 ∧ ¬ (65535 : Int32) < d4) (nd1 : ¬ (255 : Int32) < d1) (wd : (255 : Int32) < d2) (Exx : Exa Z h0 x0 "java/lang/String") (Fxv : Fld Z h0 x0 "java/lang/String" "value" "[B" .null) (Fxc : Fld Z h0 x0 "java/lang/String" "coder" "B" (.int 0)) (gxx : n0 ≤ x0) :
    Met l Z EL0 n0 (⟨"java/lang/String", "<init>", "([C)V"⟩ : MethodName) jdk_42_method_3_code 2 none [] (rO 5 2 12 74) #[(.ref x0), (.ref x1)] h0 [x0] [x0] (fun v h' S => v = none ∧ Str Z h' x0 [d1, d2, d3, d4]) := by
  obtain ⟨hw, hEL, SC, hzc, SF, rfm⟩ := id B
  refine Met.of (plainFor_of_name pn1) O0 ?_
  intro p e s m below meth c T0 hx hby hml hret hlk hnm hs W0
  have W0 : Wk p l e _ s m _ below meth c Z EL0 n0 [x0] "java/lang/String" [x0] T0 0 0 h0 := W0
  have D := @tk c _ _ hby tk10
  refine Go.of (fun _ kk => castTop (ef214 m x0 x1) kk) ?_
  refine W0.pv hx D 0 4 4 [_, _] [_, .int 0, _, _] rfl ?_
  refine W0.alen hx Ac rfl rfl (D 4 rfl) ?_
  refine W0.pv hx D 5 1 6 [_, _] [.null, _, _, _, _] rfl ?_
  refine W0.callP hx hEL rfl (hw _ (mI 19 rfl)) (hw _ (mI 20 rfl)) (hw _ (mI 1 rfl)) (hw _ (mI 22 rfl)) (by decide +kernel) (a := x0) (argsL := [(.ref x1), (.int 0), (.int 4), .null]) (rest := []) (rm223 B x0 x1 kc d1 d2 d3 d4 h0 W0.old SA1 SH0 SL8 Ac cd1 cd2 cd3 cd4 nd1 wd Exx Fxv Fxc gxx) (allS (mI 0 rfl) all0) (by decide +kernel) (Wd := 0) (by decide +kernel) (by decide +kernel) (by decide +kernel) (allS ⟨gxx, (Or.inl (mI 0 rfl))⟩ all0) rfl (by rw [hml]; rfl) (lenOf pd7 rfl) rfl (by show 2 * 0 + _ ≤ _; exact Nat.le_of_eq rfl) (D 6 rfl) (fun T1 h1 v1 P1 Ws1 K1 q1 => ?_)
  have W1 := Ws1 [] all0
  obtain ⟨rfl, S1⟩ := q1
  show Go p e below _ (T1.setTop (mkF m 9 #[vr x0, vr x1] []))
  exact W1.retV hx hEL hs hlk (by decide +kernel) (by decide +kernel) hret (D 9 rfl) (fun S hS => ⟨rfl, S1⟩)
set_option maxRecDepth 65536 in
set_option maxHeartbeats 40000000 in
theorem rm230 (B : EV l Z a0 zc fm) (x1 x2 : Addr) (kc : ClassId) (d1 d2 d3 d4 : Int32) (kb : ClassId) (h0 : Heap) {n0 : Nat} (O0 : Old Z n0 h0) (Ac : Arv Z h0 x1 kc .char (4 : Int32) [(.int d1), (.int d2), (.int d3), (.int d4)] (.int 0)) (cd1 : ¬ d1 < 0 ∧ ¬ (65535 : Int32) < d1) (cd2 : ¬ d2 < 0 ∧ ¬ (65535 : Int32) < d2) (cd3 : ¬ d3 < 0 ∧ ¬ (65535 : Int32) < d3) (cd4 : ¬ d4 < 0 ∧ ¬ (65535 : Int32) < d4) (nd1 : ¬ (255 : Int32) < d1) (nd2 : ¬ (255 : Int32) < d2) (wd : (255 : Int32) < d3) (Ab : Arv Z h0 x2 kb .byte (4 : Int32) [(.int 0), (.int 0), (.int 0), (.int 0)] (.int 0)) (g2 : n0 ≤ x2) (nx : x1 ≠ x2) :
    Met l Z EL0 n0 (⟨"java/lang/StringUTF16", "compress", "([CI[BII)I"⟩ : MethodName) jdk_52_method_21_code 7 (some .int) [] (rO 0 0 0 0) #[(.ref x1), (.int 0), (.ref x2), (.int 0), (.int 4)] h0 [x2] [x2] (fun v h' S => v = some (.int 2)) := by
  obtain ⟨hw, hEL, SC, hzc, SF, rfm⟩ := id B
  refine Met.of (plainFor_of_name pn0) O0 ?_
  intro p e s m below meth c T0 hx hby hml hret hlk hnm hs W0
  have W0 : Wk p l e _ s m _ below meth c Z EL0 n0 [x2] "java/lang/StringUTF16" [x2] T0 0 0 h0 := W0
  have D := @tk c _ _ hby tk6
  refine Go.of (fun _ kk => castTop (ef210 m x1 (0 : Int32) x2 (0 : Int32) (4 : Int32)) kk) ?_
  refine W0.pu hx D 0 [(4, false)] 2 12 [_, _, _, _, _, vi 0, _] [.int 0, _] rfl ⟨trivial, (XT.ii_ge_f (by decide +kernel))⟩ ?_
  refine W0.caload hx Ac ⟨by decide, by decide⟩ (v := (.int d1)) rfl rfl rfl (D 12 rfl) ?_
  refine W0.pu hx D 13 [(3, true)] 4 31 [_, _, _, _, _, _, _] [.int (d1.toInt8.toInt32), .int 0, _] rfl ⟨trivial, (XT.ii_le_t nd1)⟩ ?_
  refine W0.stB hx Ab ⟨by decide, by decide⟩ 0 rfl (Nat.le_of_ble_eq_true rfl) g2 (Or.inl (mI 0 rfl)) (mI 0 rfl) rfl rfl (D 31 rfl) (fun T1 h1 W1 K1 A1 => ?_)
  have V1 : Arv Z h1 x2 kb .byte (4 : Int32) [(.int (d1.toInt8.toInt32)), (.int 0), (.int 0), (.int 0)] (.int 0) := (by rw [(nar_byte _)] at A1; exact A1)
  refine W1.pu hx D 32 [(6, false)] 2 12 [_, vi 1, _, vi 1, _, vi 1, _] [.int 1, _] rfl ⟨trivial, (XT.ii_ge_f (by decide +kernel))⟩ ?_
  have k2 := (Ac.keep K1 (ninS nx nin0))
  refine W1.caload hx k2 ⟨by decide, by decide⟩ (v := (.int d2)) rfl rfl rfl (D 12 rfl) ?_
  refine W1.pu hx D 13 [(3, true)] 4 31 [_, _, _, _, _, _, _] [.int (d2.toInt8.toInt32), .int 1, _] rfl ⟨trivial, (XT.ii_le_t nd2)⟩ ?_
  refine W1.stB hx V1 ⟨by decide, by decide⟩ 1 rfl (Nat.le_of_ble_eq_true rfl) g2 (Or.inl (mI 0 rfl)) (mI 0 rfl) rfl rfl (D 31 rfl) (fun T3 h3 W3 K3 A3 => ?_)
  have V3 : Arv Z h3 x2 kb .byte (4 : Int32) [(.int (d1.toInt8.toInt32)), (.int (d2.toInt8.toInt32)), (.int 0), (.int 0)] (.int 0) := (by rw [(nar_byte _)] at A3; exact A3)
  refine W3.pu hx D 32 [(6, false)] 2 12 [_, vi 2, _, vi 2, _, vi 2, _] [.int 2, _] rfl ⟨trivial, (XT.ii_ge_f (by decide +kernel))⟩ ?_
  have k4 := (k2.keep K3 (ninS nx nin0))
  refine W3.caload hx k4 ⟨by decide, by decide⟩ (v := (.int d3)) rfl rfl rfl (D 12 rfl) ?_
  refine W3.pu hx D 13 [(3, false)] 1 25 [_, _, _, _, _, _, _] [.int 2] rfl ⟨trivial, (XT.ii_le_f wd)⟩ ?_
  exact W3.retI hx hEL hs hlk (by decide +kernel) (by decide +kernel) hret (by simp) rfl (D 25 rfl) (fun S hS => rfl)
set_option maxRecDepth 65536 in
set_option maxHeartbeats 40000000 in
theorem rm231 (B : EV l Z a0 zc fm) (t : Addr) (kc : ClassId) (d1 d2 d3 d4 : Int32) (h0 : Heap) {n0 : Nat} (O0 : Old Z n0 h0) (SA1 : sq0 Z) (SH0 : sq1 Z) (SL8 : sq2 Z) (Ab : Arv Z h0 t kc .byte (8 : Int32) [(.int (StrChars.lo8 d1)), (.int (StrChars.hi8 d1)), (.int (StrChars.lo8 d2)), (.int (StrChars.hi8 d2)), (.int (StrChars.lo8 d3)), (.int (StrChars.hi8 d3)), (.int (StrChars.lo8 d4)), (.int (StrChars.hi8 d4))] (.int 0)) (cd3 : ¬ d3 < 0 ∧ ¬ (65535 : Int32) < d3) :
    Met l Z EL0 n0 (⟨"java/lang/StringUTF16", "getChar", "([BI)C"⟩ : MethodName) jdk_52_method_5_code 2 (some .char) [] (rO 0 0 0 0) #[(.ref t), (.int 2)] h0 [] [] (fun v h' S => v = some (.int d3) ∧ h0 = h') := by
  obtain ⟨hw, hEL, SC, hzc, SF, rfm⟩ := id B
  refine Met.of (plainFor_of_name pn0) O0 ?_
  intro p e s m below meth c T0 hx hby hml hret hlk hnm hs W0
  have W0 : Wk p l e _ s m _ below meth c Z EL0 n0 [] "java/lang/StringUTF16" [] T0 0 0 h0 := W0
  have D := @tk c _ _ hby tk7
  refine Go.of (fun _ kk => castTop (ef203 m t (2 : Int32)) kk) ?_
  show Go p e below _ (T0.setTop (mkF m 0 #[vr t, vi 2] []))
  refine W0.getS hx (host := "") (Or.inl (hw _ (mI 85 rfl))) Via.refl SA1 rfl (D 0 rfl) (fun T1 W1 => ?_)
  refine W1.pu hx D 3 [(0, true)] 7 37 [_, vi 5] [.int 4, _] rfl ⟨trivial, (XT.i0_ne_t (by decide +kernel))⟩ ?_
  refine W1.baload hx Ab ⟨by decide, by decide⟩ (v := (.int (StrChars.lo8 d3))) rfl rfl rfl (D 37 rfl) ?_
  refine W1.pv hx D 38 2 42 [_, _] [.int ((StrChars.lo8 d3) &&& (255 : Int32))] rfl ?_
  refine W1.getS hx (host := "") (Or.inl (hw _ (mI 86 rfl))) Via.refl SH0 rfl (D 42 rfl) (fun T2 W2 => ?_)
  refine W2.pv hx D 45 3 48 [_, _] [.int 5, _, .int (((StrChars.lo8 d3) &&& (255 : Int32)) <<< ((0 : Int32) &&& 31))] rfl ?_
  refine W2.baload hx Ab ⟨by decide, by decide⟩ (v := (.int (StrChars.hi8 d3))) rfl rfl rfl (D 48 rfl) ?_
  refine W2.pv hx D 49 2 53 [_, _] [.int ((StrChars.hi8 d3) &&& (255 : Int32)), _] rfl ?_
  refine W2.getS hx (host := "") (Or.inl (hw _ (mI 87 rfl))) Via.refl SL8 rfl (D 53 rfl) (fun T3 W3 => ?_)
  refine W3.pv hx D 56 3 59 [_, _] [.int (((((StrChars.lo8 d3) &&& (255 : Int32)) <<< ((0 : Int32) &&& 31)) ||| (((StrChars.hi8 d3) &&& (255 : Int32)) <<< ((8 : Int32) &&& 31))).toUInt32.toUInt16.toUInt32.toInt32)] rfl ?_
  have e59 : (((((StrChars.lo8 d3) &&& (255 : Int32)) <<< ((0 : Int32) &&& 31)) ||| (((StrChars.hi8 d3) &&& (255 : Int32)) <<< ((8 : Int32) &&& 31))).toUInt32.toUInt16.toUInt32.toInt32) = d3 := StrChars.pair_says cd3.1 cd3.2
  rw [e59]
  show Go p e below _ (T3.setTop (mkF m 59 #[vr t, vi 5] [(.int d3)]))
  exact W3.retI hx hEL hs hlk (by decide +kernel) (by decide +kernel) hret (by simp) (nar_retw cd3) (D 59 rfl) (fun S hS => ⟨rfl, rfl⟩)
set_option maxRecDepth 65536 in
set_option maxHeartbeats 40000000 in
theorem rm232 (B : EV l Z a0 zc fm) (x1 : Addr) (kc : ClassId) (d1 d2 d3 d4 : Int32) (h0 : Heap) {n0 : Nat} (O0 : Old Z n0 h0) (SA1 : sq0 Z) (SH0 : sq1 Z) (SL8 : sq2 Z) (Ac : Arv Z h0 x1 kc .char (4 : Int32) [(.int d1), (.int d2), (.int d3), (.int d4)] (.int 0)) (cd1 : ¬ d1 < 0 ∧ ¬ (65535 : Int32) < d1) (cd2 : ¬ d2 < 0 ∧ ¬ (65535 : Int32) < d2) (cd3 : ¬ d3 < 0 ∧ ¬ (65535 : Int32) < d3) (cd4 : ¬ d4 < 0 ∧ ¬ (65535 : Int32) < d4) (nd1 : ¬ (255 : Int32) < d1) (nd2 : ¬ (255 : Int32) < d2) (wd : (255 : Int32) < d3) :
    Met l Z EL0 n0 (⟨"java/lang/StringUTF16", "compress", "([CII)[B"⟩ : MethodName) jdk_52_method_16_code 6 (some (.array .byte)) [] (rO 3 2 12 40) #[(.ref x1), (.int 0), (.int 4)] h0 [] [] (fun v h' S => ∃ (r : Addr) (kc : ClassId), v = some (.ref r) ∧ h0.size ≤ r ∧ Arv Z h' r kc .byte (8 : Int32) [(.int (StrChars.lo8 d1)), (.int (StrChars.hi8 d1)), (.int (StrChars.lo8 d2)), (.int (StrChars.hi8 d2)), (.int (StrChars.lo8 d3)), (.int (StrChars.hi8 d3)), (.int (StrChars.lo8 d4)), (.int (StrChars.hi8 d4))] (.int 0)) := by
  obtain ⟨hw, hEL, SC, hzc, SF, rfm⟩ := id B
  refine Met.of (plainFor_of_name pn0) O0 ?_
  intro p e s m below meth c T0 hx hby hml hret hlk hnm hs W0
  have W0 : Wk p l e _ s m _ below meth c Z EL0 n0 [] "java/lang/StringUTF16" [] T0 0 0 h0 := W0
  have D := @tk c _ _ hby tk8
  refine Go.of (fun _ kk => castTop (ef212 m x1 (0 : Int32) (4 : Int32)) kk) ?_
  refine W0.pv hx D 0 1 1 [_, _, _, _, _, _] [.int 4] rfl ?_
  refine W0.newP hx (hw _ (mI 3 rfl)) rfl (D 1 rfl) rfl (by decide +kernel) (cap := 4) (by decide +kernel) (by decide +kernel) (by decide +kernel) (by decide +kernel) (fun T1 h1 b1 c1 eb1 gb1 W1 K1 A1 => ?_)
  have V1 : Arv Z h1 b1 c1 .byte (4 : Int32) [(.int 0), (.int 0), (.int 0), (.int 0)] (.int 0) := A1
  refine W1.pv hx D 3 6 9 [_, _, _, _, _, _] [.int 4, .int 0, _, .int 0, _] rfl ?_
  have k3 := (Ac.keep K1 nin0)
  refine W1.callS hx hEL (hw _ (mI 31 rfl)) (hw _ (mI 32 rfl)) (hw _ (mI 29 rfl)) (hw _ (mI 33 rfl)) (by decide +kernel) (argsL := [(.ref x1), (.int 0), (.ref b1), (.int 0), (.int 4)]) (rest := []) (rm230 B x1 b1 kc d1 d2 d3 d4 c1 h1 W1.old k3 cd1 cd2 cd3 cd4 nd1 nd2 wd V1 gb1.1 (ne_of_born (Nat.le_of_eq eb1.symm) Ac.lt (Nat.le_refl _))) (allS (mI 0 rfl) all0) (by decide +kernel) (Wd := 0) (by decide +kernel) (by decide +kernel) (by decide +kernel) (allS ⟨gb1.1, (Or.inr gb1.2)⟩ all0) rfl (by rw [hml]; rfl) (lenOf pd3 rfl) rfl (by show 2 * 0 + _ ≤ _; exact Nat.le_of_eq rfl) (D 9 rfl) (fun T2 h2 v2 P2 Ws2 K2 q2 => ?_)
  have W2 := Ws2 [] all0
  obtain rfl := q2
  refine W2.pu hx D 12 [(3, false)] 3 23 [_, _, _, _, vi 2, _] [.int 4, .int 0, _] rfl ⟨trivial, (XT.ii_eq_f (by decide +kernel))⟩ ?_
  have k5 := (k3.keep K2 (ninS (ne_of_born (Nat.le_of_eq eb1.symm) Ac.lt (Nat.le_refl _)) nin0))
  refine W2.callS hx hEL (hw _ (mI 131 rfl)) (hw _ (mI 132 rfl)) (hw _ (mI 29 rfl)) (hw _ (mI 133 rfl)) (by decide +kernel) (argsL := [(.ref x1), (.int 0), (.int 4)]) (rest := []) (rm202 B x1 kc d1 d2 d3 d4 h2 W2.old SA1 SH0 SL8 k5) all0 (by decide +kernel) (Wd := 0) (by decide +kernel) (by decide +kernel) (by decide +kernel) all0 rfl (by rw [hml]; rfl) (lenOf pd4 rfl) rfl (by show 2 * 0 + _ ≤ _; exact Nat.le_of_eq rfl) (D 23 rfl) (fun T4 h4 v4 P4 Ws4 K4 q4 => ?_)
  have W4 := Ws4 [] all0
  obtain ⟨r4, kc4, rfl, lr4, A4⟩ := q4
  have gr4 : n0 ≤ r4 ∧ s.heap.size ≤ r4 := ⟨Nat.le_trans W2.n0le lr4, Nat.le_trans W2.s0le lr4⟩
  refine W4.pv hx D 26 3 32 [_, _, _, _, _, _] [.int 2, _] rfl ?_
  refine W4.callS hx hEL (hw _ (mI 141 rfl)) (hw _ (mI 142 rfl)) (hw _ (mI 29 rfl)) (hw _ (mI 143 rfl)) (by decide +kernel) (argsL := [(.ref r4), (.int 2)]) (rest := []) (rm231 B r4 kc4 d1 d2 d3 d4 h4 W4.old SA1 SH0 SL8 A4 cd3) all0 (by decide +kernel) (Wd := 0) (by decide +kernel) (by decide +kernel) (by decide +kernel) all0 rfl (by rw [hml]; rfl) (lenOf pd5 rfl) rfl (by show 2 * 0 + _ ≤ _; exact Nat.le_of_eq rfl) (D 32 rfl) (fun T6 h6 v6 P6 Ws6 K6 q6 => ?_)
  have W6 := Ws6 [] all0
  obtain ⟨rfl, rfl⟩ := q6
  refine W6.pu hx D 35 [(1, true)] 1 56 [_, _, _, _, _, _] [_] rfl ⟨trivial, (XT.ii_gt_t wd)⟩ ?_
  exact W6.retA hx hEL hs hlk (by decide +kernel) (by decide +kernel) hret rfl rfl (D 56 rfl) (fun S hS => ⟨r4, kc4, rfl, hs ▸ gr4.2, A4⟩)
set_option maxRecDepth 65536 in
set_option maxHeartbeats 40000000 in
theorem rm233 (B : EV l Z a0 zc fm) (x0 x1 : Addr) (kc : ClassId) (d1 d2 d3 d4 : Int32) (h0 : Heap) {n0 : Nat} (O0 : Old Z n0 h0) (SA1 : sq0 Z) (SH0 : sq1 Z) (SL8 : sq2 Z) (Ac : Arv Z h0 x1 kc .char (4 : Int32) [(.int d1), (.int d2), (.int d3), (.int d4)] (.int 0)) (cd1 : ¬ d1 < 0 ∧ ¬ (65535 : Int32) < d1) (cd2 : ¬ d2 < 0 ∧ ¬ (65535 : Int32) < d2) (cd3 : ¬ d3 < 0 ∧ ¬ (65535 : Int32) < d3) (cd4 : ¬ d4 < 0 ∧ ¬ (65535 : Int32) < d4) (nd1 : ¬ (255 : Int32) < d1) (nd2 : ¬ (255 : Int32) < d2) (wd : (255 : Int32) < d3) (Exx : Exa Z h0 x0 "java/lang/String") (Fxv : Fld Z h0 x0 "java/lang/String" "value" "[B" .null) (Fxc : Fld Z h0 x0 "java/lang/String" "coder" "B" (.int 0)) (gxx : n0 ≤ x0) :
    Met l Z EL0 n0 (⟨"java/lang/String", "<init>", "([CIILjava/lang/Void;)V"⟩ : MethodName) jdk_42_method_149_code 6 none [] (rO 4 2 12 57) #[(.ref x0), (.ref x1), (.int 0), (.int 4), .null] h0 [x0] [x0] (fun v h' S => v = none ∧ Str Z h' x0 [d1, d2, d3, d4]) := by
  obtain ⟨hw, hEL, SC, hzc, SF, rfm⟩ := id B
  refine Met.of (plainFor_of_name pn1) O0 ?_
  intro p e s m below meth c T0 hx hby hml hret hlk hnm hs W0
  have W0 : Wk p l e _ s m _ below meth c Z EL0 n0 [x0] "java/lang/String" [x0] T0 0 0 h0 := W0
  have D := @tk c _ _ hby tk9
  refine Go.of (fun _ kk => castTop (ef213 m x0 x1 (0 : Int32) (4 : Int32)) kk) ?_
  refine W0.pv hx D 0 1 1 [_, _, _, _, _, _] [_] rfl ?_
  refine W0.initO hx (hw _ (mI 23 rfl)) (hw _ (mI 24 rfl)) (hw _ (mI 25 rfl)) rfl (by rw [hml]; rfl) rfl (D 1 rfl) (by decide +kernel) (Wd := 0) (by show 2 * 0 + _ ≤ _; exact Nat.le_of_eq rfl) (by decide +kernel) (fun T1 W1 => ?_)
  refine W1.pu hx D 4 [(1, true)] 0 27 [_, _, _, _, _, _] [] rfl ⟨trivial, (XT.i0_ne_t (by decide +kernel))⟩ ?_
  refine W1.getS hx (host := "") (Or.inl (hw _ (mI 26 rfl))) Via.refl SC rfl (D 27 rfl) (fun T2 W2 => ?_)
  refine W2.pu hx D 30 [(0, false)] 3 36 [_, _, _, _, _, _] [.int 4, .int 0, _] rfl ⟨trivial, (XT.i0_eq_f hzc)⟩ ?_
  refine W2.callS hx hEL (hw _ (mI 27 rfl)) (hw _ (mI 28 rfl)) (hw _ (mI 29 rfl)) (hw _ (mI 30 rfl)) (by decide +kernel) (argsL := [(.ref x1), (.int 0), (.int 4)]) (rest := []) (rm232 B x1 kc d1 d2 d3 d4 h0 W2.old SA1 SH0 SL8 Ac cd1 cd2 cd3 cd4 nd1 nd2 wd) all0 (by decide +kernel) (Wd := 0) (by decide +kernel) (by decide +kernel) (by decide +kernel) all0 rfl (by rw [hml]; rfl) (lenOf pd4 rfl) rfl (by show 2 * 0 + _ ≤ _; exact Nat.le_of_eq rfl) (D 36 rfl) (fun T3 h3 v3 P3 Ws3 K3 q3 => ?_)
  have W3 := Ws3 [] all0
  obtain ⟨r3, kc3, rfl, lr3, A3⟩ := q3
  have gr3 : n0 ≤ r3 ∧ s.heap.size ≤ r3 := ⟨Nat.le_trans W2.n0le lr3, Nat.le_trans W2.s0le lr3⟩
  refine W3.pv hx D 39 4 45 [_, _, _, _, _, _] [.int 4, _, _] rfl ?_
  refine W3.callS hx hEL (hw _ (mI 34 rfl)) (hw _ (mI 35 rfl)) (hw _ (mI 29 rfl)) (hw _ (mI 36 rfl)) (by decide +kernel) (argsL := [(.ref r3), (.int 4)]) (rest := [(.ref x0)]) (rm203 B r3 kc3 d1 d2 d3 d4 h3 W3.old A3) all0 (by decide +kernel) (Wd := 1) (by decide +kernel) (by decide +kernel) (by decide +kernel) all0 rfl (by rw [hml]; rfl) (lenOf pd6 rfl) rfl (by show 2 * 0 + _ ≤ _; exact Nat.le_of_eq rfl) (D 45 rfl) (fun T4 h4 v4 P4 Ws4 K4 q4 => ?_)
  have W4 := Ws4 [] all0
  obtain ⟨rfl, rfl⟩ := q4
  show Go p e below _ (T4.setTop (mkF m 48 #[vr x0, vr x1, vi 0, vi 4, vN, vr r3] [(.int 1), (.ref x0)]))
  have k5 := (Fxc.keep K3 nin0)
  have k6 := (Exx.keep K3)
  refine W4.putF hx (host := "") (Or.inl (hw _ (mI 37 rfl))) Via.refl k5 k6 (Or.inr ⟨(hw _ (mI 5 rfl)), rfl, hnm⟩) (hw _ (mI 2 rfl)) (ty := .byte) (by decide +kernel) rfl rfl gxx (Or.inl (mI 0 rfl)) (Or.inl (mI 0 rfl)) rfl rfl (D 48 rfl) (fun T7 h7 W7 w7 => ?_)
  have k8 := (Fxv.keep K3 nin0)
  have K7 := Keep.of_wr w7
  have k9 := k8.other w7 (Or.inr (slot_ne (Or.inr (hw _ (mI 4 rfl))) (Or.inr (hw _ (mI 5 rfl))) (by decide +kernel) (t := (.array .byte)) (t' := .byte) (by decide +kernel) (by decide +kernel)))
  have k10 := k5.same w7
  refine W7.pv hx D 51 2 54 [_, _, _, _, _, _] [_, _] rfl ?_
  have k11 := (k6.keep K7)
  refine W7.putF hx (host := "") (Or.inl (hw _ (mI 38 rfl))) Via.refl k9 k11 (Or.inr ⟨(hw _ (mI 4 rfl)), rfl, hnm⟩) (hw _ (mI 2 rfl)) (ty := (.array .byte)) (by decide +kernel) rfl rfl gxx (Or.inl (mI 0 rfl)) (Or.inl (mI 0 rfl)) rfl rfl (D 54 rfl) (fun T12 h12 W12 w12 => ?_)
  have K12 := Keep.of_wr w12
  have k13 := k10.other w12 (Or.inr (slot_ne (Or.inr (hw _ (mI 5 rfl))) (Or.inr (hw _ (mI 4 rfl))) (by decide +kernel) (t := .byte) (t' := (.array .byte)) (by decide +kernel) (by decide +kernel)))
  have k14 := k9.same w12
  show Go p e below _ (T12.setTop (mkF m 57 #[vr x0, vr x1, vi 0, vi 4, vN, vr r3] []))
  have k15 := (k11.keep K12)
  have k16 := ((A3.keep K7 (ninS (ne_of_born lr3 Exx.lt (Nat.le_refl _)).symm nin0)).keep K12 (ninS (ne_of_born lr3 Exx.lt (Nat.le_refl _)).symm nin0))
  exact W12.retV hx hEL hs hlk (by decide +kernel) (by decide +kernel) hret (D 57 rfl) (fun S hS => ⟨rfl, ⟨r3, kc3, _, _, _, k15, k14, k13, k16, Or.inr ⟨rfl, rfl, rfl, d3, List.mem_of_getElem? (i := 2) rfl, wd⟩, (allSi cd1 (allSi cd2 (allSi cd3 (allSi cd4 all0i)))), Nat.le_of_ble_eq_true rfl⟩⟩)
set_option maxRecDepth 65536 in
set_option maxHeartbeats 40000000 in
theorem rm234 (B : EV l Z a0 zc fm) (x0 x1 : Addr) (kc : ClassId) (d1 d2 d3 d4 : Int32) (h0 : Heap) {n0 : Nat} (O0 : Old Z n0 h0) (SA1 : sq0 Z) (SH0 : sq1 Z) (SL8 : sq2 Z) (Ac : Arv Z h0 x1 kc .char (4 : Int32) [(.int d1), (.int d2), (.int d3), (.int d4)] (.int 0)) (cd1 : ¬ d1 < 0 ∧ ¬ (65535 : Int32) < d1) (cd2 : ¬ d2 < 0 ∧ ¬ (65535 : Int32) < d2) (cd3 : ¬ d3 < 0 ∧ ¬ (65535 : Int32) < d3) (cd4 : ¬ d4 < 0 ∧ ¬ (65535 : Int32) < d4) (nd1 : ¬ (255 : Int32) < d1) (nd2 : ¬ (255 : Int32) < d2) (wd : (255 : Int32) < d3) (Exx : Exa Z h0 x0 "java/lang/String") (Fxv : Fld Z h0 x0 "java/lang/String" "value" "[B" .null) (Fxc : Fld Z h0 x0 "java/lang/String" "coder" "B" (.int 0)) (gxx : n0 ≤ x0) :
    Met l Z EL0 n0 (⟨"java/lang/String", "<init>", "([C)V"⟩ : MethodName) jdk_42_method_3_code 2 none [] (rO 5 2 12 74) #[(.ref x0), (.ref x1)] h0 [x0] [x0] (fun v h' S => v = none ∧ Str Z h' x0 [d1, d2, d3, d4]) := by
  obtain ⟨hw, hEL, SC, hzc, SF, rfm⟩ := id B
  refine Met.of (plainFor_of_name pn1) O0 ?_
  intro p e s m below meth c T0 hx hby hml hret hlk hnm hs W0
  have W0 : Wk p l e _ s m _ below meth c Z EL0 n0 [x0] "java/lang/String" [x0] T0 0 0 h0 := W0
  have D := @tk c _ _ hby tk10
  refine Go.of (fun _ kk => castTop (ef214 m x0 x1) kk) ?_
  refine W0.pv hx D 0 4 4 [_, _] [_, .int 0, _, _] rfl ?_
  refine W0.alen hx Ac rfl rfl (D 4 rfl) ?_
  refine W0.pv hx D 5 1 6 [_, _] [.null, _, _, _, _] rfl ?_
  refine W0.callP hx hEL rfl (hw _ (mI 19 rfl)) (hw _ (mI 20 rfl)) (hw _ (mI 1 rfl)) (hw _ (mI 22 rfl)) (by decide +kernel) (a := x0) (argsL := [(.ref x1), (.int 0), (.int 4), .null]) (rest := []) (rm233 B x0 x1 kc d1 d2 d3 d4 h0 W0.old SA1 SH0 SL8 Ac cd1 cd2 cd3 cd4 nd1 nd2 wd Exx Fxv Fxc gxx) (allS (mI 0 rfl) all0) (by decide +kernel) (Wd := 0) (by decide +kernel) (by decide +kernel) (by decide +kernel) (allS ⟨gxx, (Or.inl (mI 0 rfl))⟩ all0) rfl (by rw [hml]; rfl) (lenOf pd7 rfl) rfl (by show 2 * 0 + _ ≤ _; exact Nat.le_of_eq rfl) (D 6 rfl) (fun T1 h1 v1 P1 Ws1 K1 q1 => ?_)
  have W1 := Ws1 [] all0
  obtain ⟨rfl, S1⟩ := q1
  show Go p e below _ (T1.setTop (mkF m 9 #[vr x0, vr x1] []))
  exact W1.retV hx hEL hs hlk (by decide +kernel) (by decide +kernel) hret (D 9 rfl) (fun S hS => ⟨rfl, S1⟩)
set_option maxRecDepth 65536 in
set_option maxHeartbeats 40000000 in
theorem rm240 (B : EV l Z a0 zc fm) (x1 x2 : Addr) (kc : ClassId) (d1 d2 d3 d4 : Int32) (kb : ClassId) (h0 : Heap) {n0 : Nat} (O0 : Old Z n0 h0) (Ac : Arv Z h0 x1 kc .char (4 : Int32) [(.int d1), (.int d2), (.int d3), (.int d4)] (.int 0)) (cd1 : ¬ d1 < 0 ∧ ¬ (65535 : Int32) < d1) (cd2 : ¬ d2 < 0 ∧ ¬ (65535 : Int32) < d2) (cd3 : ¬ d3 < 0 ∧ ¬ (65535 : Int32) < d3) (cd4 : ¬ d4 < 0 ∧ ¬ (65535 : Int32) < d4) (nd1 : ¬ (255 : Int32) < d1) (nd2 : ¬ (255 : Int32) < d2) (nd3 : ¬ (255 : Int32) < d3) (wd : (255 : Int32) < d4) (Ab : Arv Z h0 x2 kb .byte (4 : Int32) [(.int 0), (.int 0), (.int 0), (.int 0)] (.int 0)) (g2 : n0 ≤ x2) (nx : x1 ≠ x2) :
    Met l Z EL0 n0 (⟨"java/lang/StringUTF16", "compress", "([CI[BII)I"⟩ : MethodName) jdk_52_method_21_code 7 (some .int) [] (rO 0 0 0 0) #[(.ref x1), (.int 0), (.ref x2), (.int 0), (.int 4)] h0 [x2] [x2] (fun v h' S => v = some (.int 3)) := by
  obtain ⟨hw, hEL, SC, hzc, SF, rfm⟩ := id B
  refine Met.of (plainFor_of_name pn0) O0 ?_
  intro p e s m below meth c T0 hx hby hml hret hlk hnm hs W0
  have W0 : Wk p l e _ s m _ below meth c Z EL0 n0 [x2] "java/lang/StringUTF16" [x2] T0 0 0 h0 := W0
  have D := @tk c _ _ hby tk6
  refine Go.of (fun _ kk => castTop (ef210 m x1 (0 : Int32) x2 (0 : Int32) (4 : Int32)) kk) ?_
  refine W0.pu hx D 0 [(4, false)] 2 12 [_, _, _, _, _, vi 0, _] [.int 0, _] rfl ⟨trivial, (XT.ii_ge_f (by decide +kernel))⟩ ?_
  refine W0.caload hx Ac ⟨by decide, by decide⟩ (v := (.int d1)) rfl rfl rfl (D 12 rfl) ?_
  refine W0.pu hx D 13 [(3, true)] 4 31 [_, _, _, _, _, _, _] [.int (d1.toInt8.toInt32), .int 0, _] rfl ⟨trivial, (XT.ii_le_t nd1)⟩ ?_
  refine W0.stB hx Ab ⟨by decide, by decide⟩ 0 rfl (Nat.le_of_ble_eq_true rfl) g2 (Or.inl (mI 0 rfl)) (mI 0 rfl) rfl rfl (D 31 rfl) (fun T1 h1 W1 K1 A1 => ?_)
  have V1 : Arv Z h1 x2 kb .byte (4 : Int32) [(.int (d1.toInt8.toInt32)), (.int 0), (.int 0), (.int 0)] (.int 0) := (by rw [(nar_byte _)] at A1; exact A1)
  refine W1.pu hx D 32 [(6, false)] 2 12 [_, vi 1, _, vi 1, _, vi 1, _] [.int 1, _] rfl ⟨trivial, (XT.ii_ge_f (by decide +kernel))⟩ ?_
  have k2 := (Ac.keep K1 (ninS nx nin0))
  refine W1.caload hx k2 ⟨by decide, by decide⟩ (v := (.int d2)) rfl rfl rfl (D 12 rfl) ?_
  refine W1.pu hx D 13 [(3, true)] 4 31 [_, _, _, _, _, _, _] [.int (d2.toInt8.toInt32), .int 1, _] rfl ⟨trivial, (XT.ii_le_t nd2)⟩ ?_
  refine W1.stB hx V1 ⟨by decide, by decide⟩ 1 rfl (Nat.le_of_ble_eq_true rfl) g2 (Or.inl (mI 0 rfl)) (mI 0 rfl) rfl rfl (D 31 rfl) (fun T3 h3 W3 K3 A3 => ?_)
  have V3 : Arv Z h3 x2 kb .byte (4 : Int32) [(.int (d1.toInt8.toInt32)), (.int (d2.toInt8.toInt32)), (.int 0), (.int 0)] (.int 0) := (by rw [(nar_byte _)] at A3; exact A3)
  refine W3.pu hx D 32 [(6, false)] 2 12 [_, vi 2, _, vi 2, _, vi 2, _] [.int 2, _] rfl ⟨trivial, (XT.ii_ge_f (by decide +kernel))⟩ ?_
  have k4 := (k2.keep K3 (ninS nx nin0))
  refine W3.caload hx k4 ⟨by decide, by decide⟩ (v := (.int d3)) rfl rfl rfl (D 12 rfl) ?_
  refine W3.pu hx D 13 [(3, true)] 4 31 [_, _, _, _, _, _, _] [.int (d3.toInt8.toInt32), .int 2, _] rfl ⟨trivial, (XT.ii_le_t nd3)⟩ ?_
  refine W3.stB hx V3 ⟨by decide, by decide⟩ 2 rfl (Nat.le_of_ble_eq_true rfl) g2 (Or.inl (mI 0 rfl)) (mI 0 rfl) rfl rfl (D 31 rfl) (fun T5 h5 W5 K5 A5 => ?_)
  have V5 : Arv Z h5 x2 kb .byte (4 : Int32) [(.int (d1.toInt8.toInt32)), (.int (d2.toInt8.toInt32)), (.int (d3.toInt8.toInt32)), (.int 0)] (.int 0) := (by rw [(nar_byte _)] at A5; exact A5)
  refine W5.pu hx D 32 [(6, false)] 2 12 [_, vi 3, _, vi 3, _, vi 3, _] [.int 3, _] rfl ⟨trivial, (XT.ii_ge_f (by decide +kernel))⟩ ?_
  have k6 := (k4.keep K5 (ninS nx nin0))
  refine W5.caload hx k6 ⟨by decide, by decide⟩ (v := (.int d4)) rfl rfl rfl (D 12 rfl) ?_
  refine W5.pu hx D 13 [(3, false)] 1 25 [_, _, _, _, _, _, _] [.int 3] rfl ⟨trivial, (XT.ii_le_f wd)⟩ ?_
  exact W5.retI hx hEL hs hlk (by decide +kernel) (by decide +kernel) hret (by simp) rfl (D 25 rfl) (fun S hS => rfl)
set_option maxRecDepth 65536 in
set_option maxHeartbeats 40000000 in
theorem rm241 (B : EV l Z a0 zc fm) (t : Addr) (kc : ClassId) (d1 d2 d3 d4 : Int32) (h0 : Heap) {n0 : Nat} (O0 : Old Z n0 h0) (SA1 : sq0 Z) (SH0 : sq1 Z) (SL8 : sq2 Z) (Ab : Arv Z h0 t kc .byte (8 : Int32) [(.int (StrChars.lo8 d1)), (.int (StrChars.hi8 d1)), (.int (StrChars.lo8 d2)), (.int (StrChars.hi8 d2)), (.int (StrChars.lo8 d3)), (.int (StrChars.hi8 d3)), (.int (StrChars.lo8 d4)), (.int (StrChars.hi8 d4))] (.int 0)) (cd4 : ¬ d4 < 0 ∧ ¬ (65535 : Int32) < d4) :
    Met l Z EL0 n0 (⟨"java/lang/StringUTF16", "getChar", "([BI)C"⟩ : MethodName) jdk_52_method_5_code 2 (some .char) [] (rO 0 0 0 0) #[(.ref t), (.int 3)] h0 [] [] (fun v h' S => v = some (.int d4) ∧ h0 = h') := by
  obtain ⟨hw, hEL, SC, hzc, SF, rfm⟩ := id B
  refine Met.of (plainFor_of_name pn0) O0 ?_
  intro p e s m below meth c T0 hx hby hml hret hlk hnm hs W0
  have W0 : Wk p l e _ s m _ below meth c Z EL0 n0 [] "java/lang/StringUTF16" [] T0 0 0 h0 := W0
  have D := @tk c _ _ hby tk7
  refine Go.of (fun _ kk => castTop (ef203 m t (3 : Int32)) kk) ?_
  show Go p e below _ (T0.setTop (mkF m 0 #[vr t, vi 3] []))
  refine W0.getS hx (host := "") (Or.inl (hw _ (mI 85 rfl))) Via.refl SA1 rfl (D 0 rfl) (fun T1 W1 => ?_)
  refine W1.pu hx D 3 [(0, true)] 7 37 [_, vi 7] [.int 6, _] rfl ⟨trivial, (XT.i0_ne_t (by decide +kernel))⟩ ?_
  refine W1.baload hx Ab ⟨by decide, by decide⟩ (v := (.int (StrChars.lo8 d4))) rfl rfl rfl (D 37 rfl) ?_
  refine W1.pv hx D 38 2 42 [_, _] [.int ((StrChars.lo8 d4) &&& (255 : Int32))] rfl ?_
  refine W1.getS hx (host := "") (Or.inl (hw _ (mI 86 rfl))) Via.refl SH0 rfl (D 42 rfl) (fun T2 W2 => ?_)
  refine W2.pv hx D 45 3 48 [_, _] [.int 7, _, .int (((StrChars.lo8 d4) &&& (255 : Int32)) <<< ((0 : Int32) &&& 31))] rfl ?_
  refine W2.baload hx Ab ⟨by decide, by decide⟩ (v := (.int (StrChars.hi8 d4))) rfl rfl rfl (D 48 rfl) ?_
  refine W2.pv hx D 49 2 53 [_, _] [.int ((StrChars.hi8 d4) &&& (255 : Int32)), _] rfl ?_
  refine W2.getS hx (host := "") (Or.inl (hw _ (mI 87 rfl))) Via.refl SL8 rfl (D 53 rfl) (fun T3 W3 => ?_)
  refine W3.pv hx D 56 3 59 [_, _] [.int (((((StrChars.lo8 d4) &&& (255 : Int32)) <<< ((0 : Int32) &&& 31)) ||| (((StrChars.hi8 d4) &&& (255 : Int32)) <<< ((8 : Int32) &&& 31))).toUInt32.toUInt16.toUInt32.toInt32)] rfl ?_
  have e59 : (((((StrChars.lo8 d4) &&& (255 : Int32)) <<< ((0 : Int32) &&& 31)) ||| (((StrChars.hi8 d4) &&& (255 : Int32)) <<< ((8 : Int32) &&& 31))).toUInt32.toUInt16.toUInt32.toInt32) = d4 := StrChars.pair_says cd4.1 cd4.2
  rw [e59]
  show Go p e below _ (T3.setTop (mkF m 59 #[vr t, vi 7] [(.int d4)]))
  exact W3.retI hx hEL hs hlk (by decide +kernel) (by decide +kernel) hret (by simp) (nar_retw cd4) (D 59 rfl) (fun S hS => ⟨rfl, rfl⟩)
set_option maxRecDepth 65536 in
set_option maxHeartbeats 40000000 in
theorem rm242 (B : EV l Z a0 zc fm) (x1 : Addr) (kc : ClassId) (d1 d2 d3 d4 : Int32) (h0 : Heap) {n0 : Nat} (O0 : Old Z n0 h0) (SA1 : sq0 Z) (SH0 : sq1 Z) (SL8 : sq2 Z) (Ac : Arv Z h0 x1 kc .char (4 : Int32) [(.int d1), (.int d2), (.int d3), (.int d4)] (.int 0)) (cd1 : ¬ d1 < 0 ∧ ¬ (65535 : Int32) < d1) (cd2 : ¬ d2 < 0 ∧ ¬ (65535 : Int32) < d2) (cd3 : ¬ d3 < 0 ∧ ¬ (65535 : Int32) < d3) (cd4 : ¬ d4 < 0 ∧ ¬ (65535 : Int32) < d4) (nd1 : ¬ (255 : Int32) < d1) (nd2 : ¬ (255 : Int32) < d2) (nd3 : ¬ (255 : Int32) < d3) (wd : (255 : Int32) < d4) :
    Met l Z EL0 n0 (⟨"java/lang/StringUTF16", "compress", "([CII)[B"⟩ : MethodName) jdk_52_method_16_code 6 (some (.array .byte)) [] (rO 3 2 12 40) #[(.ref x1), (.int 0), (.int 4)] h0 [] [] (fun v h' S => ∃ (r : Addr) (kc : ClassId), v = some (.ref r) ∧ h0.size ≤ r ∧ Arv Z h' r kc .byte (8 : Int32) [(.int (StrChars.lo8 d1)), (.int (StrChars.hi8 d1)), (.int (StrChars.lo8 d2)), (.int (StrChars.hi8 d2)), (.int (StrChars.lo8 d3)), (.int (StrChars.hi8 d3)), (.int (StrChars.lo8 d4)), (.int (StrChars.hi8 d4))] (.int 0)) := by
  obtain ⟨hw, hEL, SC, hzc, SF, rfm⟩ := id B
  refine Met.of (plainFor_of_name pn0) O0 ?_
  intro p e s m below meth c T0 hx hby hml hret hlk hnm hs W0
  have W0 : Wk p l e _ s m _ below meth c Z EL0 n0 [] "java/lang/StringUTF16" [] T0 0 0 h0 := W0
  have D := @tk c _ _ hby tk8
  refine Go.of (fun _ kk => castTop (ef212 m x1 (0 : Int32) (4 : Int32)) kk) ?_
  refine W0.pv hx D 0 1 1 [_, _, _, _, _, _] [.int 4] rfl ?_
  refine W0.newP hx (hw _ (mI 3 rfl)) rfl (D 1 rfl) rfl (by decide +kernel) (cap := 4) (by decide +kernel) (by decide +kernel) (by decide +kernel) (by decide +kernel) (fun T1 h1 b1 c1 eb1 gb1 W1 K1 A1 => ?_)
  have V1 : Arv Z h1 b1 c1 .byte (4 : Int32) [(.int 0), (.int 0), (.int 0), (.int 0)] (.int 0) := A1
  refine W1.pv hx D 3 6 9 [_, _, _, _, _, _] [.int 4, .int 0, _, .int 0, _] rfl ?_
  have k3 := (Ac.keep K1 nin0)
  refine W1.callS hx hEL (hw _ (mI 31 rfl)) (hw _ (mI 32 rfl)) (hw _ (mI 29 rfl)) (hw _ (mI 33 rfl)) (by decide +kernel) (argsL := [(.ref x1), (.int 0), (.ref b1), (.int 0), (.int 4)]) (rest := []) (rm240 B x1 b1 kc d1 d2 d3 d4 c1 h1 W1.old k3 cd1 cd2 cd3 cd4 nd1 nd2 nd3 wd V1 gb1.1 (ne_of_born (Nat.le_of_eq eb1.symm) Ac.lt (Nat.le_refl _))) (allS (mI 0 rfl) all0) (by decide +kernel) (Wd := 0) (by decide +kernel) (by decide +kernel) (by decide +kernel) (allS ⟨gb1.1, (Or.inr gb1.2)⟩ all0) rfl (by rw [hml]; rfl) (lenOf pd3 rfl) rfl (by show 2 * 0 + _ ≤ _; exact Nat.le_of_eq rfl) (D 9 rfl) (fun T2 h2 v2 P2 Ws2 K2 q2 => ?_)
  have W2 := Ws2 [] all0
  obtain rfl := q2
  refine W2.pu hx D 12 [(3, false)] 3 23 [_, _, _, _, vi 3, _] [.int 4, .int 0, _] rfl ⟨trivial, (XT.ii_eq_f (by decide +kernel))⟩ ?_
  have k5 := (k3.keep K2 (ninS (ne_of_born (Nat.le_of_eq eb1.symm) Ac.lt (Nat.le_refl _)) nin0))
  refine W2.callS hx hEL (hw _ (mI 131 rfl)) (hw _ (mI 132 rfl)) (hw _ (mI 29 rfl)) (hw _ (mI 133 rfl)) (by decide +kernel) (argsL := [(.ref x1), (.int 0), (.int 4)]) (rest := []) (rm202 B x1 kc d1 d2 d3 d4 h2 W2.old SA1 SH0 SL8 k5) all0 (by decide +kernel) (Wd := 0) (by decide +kernel) (by decide +kernel) (by decide +kernel) all0 rfl (by rw [hml]; rfl) (lenOf pd4 rfl) rfl (by show 2 * 0 + _ ≤ _; exact Nat.le_of_eq rfl) (D 23 rfl) (fun T4 h4 v4 P4 Ws4 K4 q4 => ?_)
  have W4 := Ws4 [] all0
  obtain ⟨r4, kc4, rfl, lr4, A4⟩ := q4
  have gr4 : n0 ≤ r4 ∧ s.heap.size ≤ r4 := ⟨Nat.le_trans W2.n0le lr4, Nat.le_trans W2.s0le lr4⟩
  refine W4.pv hx D 26 3 32 [_, _, _, _, _, _] [.int 3, _] rfl ?_
  refine W4.callS hx hEL (hw _ (mI 141 rfl)) (hw _ (mI 142 rfl)) (hw _ (mI 29 rfl)) (hw _ (mI 143 rfl)) (by decide +kernel) (argsL := [(.ref r4), (.int 3)]) (rest := []) (rm241 B r4 kc4 d1 d2 d3 d4 h4 W4.old SA1 SH0 SL8 A4 cd4) all0 (by decide +kernel) (Wd := 0) (by decide +kernel) (by decide +kernel) (by decide +kernel) all0 rfl (by rw [hml]; rfl) (lenOf pd5 rfl) rfl (by show 2 * 0 + _ ≤ _; exact Nat.le_of_eq rfl) (D 32 rfl) (fun T6 h6 v6 P6 Ws6 K6 q6 => ?_)
  have W6 := Ws6 [] all0
  obtain ⟨rfl, rfl⟩ := q6
  refine W6.pu hx D 35 [(1, true)] 1 56 [_, _, _, _, _, _] [_] rfl ⟨trivial, (XT.ii_gt_t wd)⟩ ?_
  exact W6.retA hx hEL hs hlk (by decide +kernel) (by decide +kernel) hret rfl rfl (D 56 rfl) (fun S hS => ⟨r4, kc4, rfl, hs ▸ gr4.2, A4⟩)
set_option maxRecDepth 65536 in
set_option maxHeartbeats 40000000 in
theorem rm243 (B : EV l Z a0 zc fm) (x0 x1 : Addr) (kc : ClassId) (d1 d2 d3 d4 : Int32) (h0 : Heap) {n0 : Nat} (O0 : Old Z n0 h0) (SA1 : sq0 Z) (SH0 : sq1 Z) (SL8 : sq2 Z) (Ac : Arv Z h0 x1 kc .char (4 : Int32) [(.int d1), (.int d2), (.int d3), (.int d4)] (.int 0)) (cd1 : ¬ d1 < 0 ∧ ¬ (65535 : Int32) < d1) (cd2 : ¬ d2 < 0 ∧ ¬ (65535 : Int32) < d2) (cd3 : ¬ d3 < 0 ∧ ¬ (65535 : Int32) < d3) (cd4 : ¬ d4 < 0 ∧ ¬ (65535 : Int32) < d4) (nd1 : ¬ (255 : Int32) < d1) (nd2 : ¬ (255 : Int32) < d2) (nd3 : ¬ (255 : Int32) < d3) (wd : (255 : Int32) < d4) (Exx : Exa Z h0 x0 "java/lang/String") (Fxv : Fld Z h0 x0 "java/lang/String" "value" "[B" .null) (Fxc : Fld Z h0 x0 "java/lang/String" "coder" "B" (.int 0)) (gxx : n0 ≤ x0) :
    Met l Z EL0 n0 (⟨"java/lang/String", "<init>", "([CIILjava/lang/Void;)V"⟩ : MethodName) jdk_42_method_149_code 6 none [] (rO 4 2 12 57) #[(.ref x0), (.ref x1), (.int 0), (.int 4), .null] h0 [x0] [x0] (fun v h' S => v = none ∧ Str Z h' x0 [d1, d2, d3, d4]) := by
  obtain ⟨hw, hEL, SC, hzc, SF, rfm⟩ := id B
  refine Met.of (plainFor_of_name pn1) O0 ?_
  intro p e s m below meth c T0 hx hby hml hret hlk hnm hs W0
  have W0 : Wk p l e _ s m _ below meth c Z EL0 n0 [x0] "java/lang/String" [x0] T0 0 0 h0 := W0
  have D := @tk c _ _ hby tk9
  refine Go.of (fun _ kk => castTop (ef213 m x0 x1 (0 : Int32) (4 : Int32)) kk) ?_
  refine W0.pv hx D 0 1 1 [_, _, _, _, _, _] [_] rfl ?_
  refine W0.initO hx (hw _ (mI 23 rfl)) (hw _ (mI 24 rfl)) (hw _ (mI 25 rfl)) rfl (by rw [hml]; rfl) rfl (D 1 rfl) (by decide +kernel) (Wd := 0) (by show 2 * 0 + _ ≤ _; exact Nat.le_of_eq rfl) (by decide +kernel) (fun T1 W1 => ?_)
  refine W1.pu hx D 4 [(1, true)] 0 27 [_, _, _, _, _, _] [] rfl ⟨trivial, (XT.i0_ne_t (by decide +kernel))⟩ ?_
  refine W1.getS hx (host := "") (Or.inl (hw _ (mI 26 rfl))) Via.refl SC rfl (D 27 rfl) (fun T2 W2 => ?_)
  refine W2.pu hx D 30 [(0, false)] 3 36 [_, _, _, _, _, _] [.int 4, .int 0, _] rfl ⟨trivial, (XT.i0_eq_f hzc)⟩ ?_
  refine W2.callS hx hEL (hw _ (mI 27 rfl)) (hw _ (mI 28 rfl)) (hw _ (mI 29 rfl)) (hw _ (mI 30 rfl)) (by decide +kernel) (argsL := [(.ref x1), (.int 0), (.int 4)]) (rest := []) (rm242 B x1 kc d1 d2 d3 d4 h0 W2.old SA1 SH0 SL8 Ac cd1 cd2 cd3 cd4 nd1 nd2 nd3 wd) all0 (by decide +kernel) (Wd := 0) (by decide +kernel) (by decide +kernel) (by decide +kernel) all0 rfl (by rw [hml]; rfl) (lenOf pd4 rfl) rfl (by show 2 * 0 + _ ≤ _; exact Nat.le_of_eq rfl) (D 36 rfl) (fun T3 h3 v3 P3 Ws3 K3 q3 => ?_)
  have W3 := Ws3 [] all0
  obtain ⟨r3, kc3, rfl, lr3, A3⟩ := q3
  have gr3 : n0 ≤ r3 ∧ s.heap.size ≤ r3 := ⟨Nat.le_trans W2.n0le lr3, Nat.le_trans W2.s0le lr3⟩
  refine W3.pv hx D 39 4 45 [_, _, _, _, _, _] [.int 4, _, _] rfl ?_
  refine W3.callS hx hEL (hw _ (mI 34 rfl)) (hw _ (mI 35 rfl)) (hw _ (mI 29 rfl)) (hw _ (mI 36 rfl)) (by decide +kernel) (argsL := [(.ref r3), (.int 4)]) (rest := [(.ref x0)]) (rm203 B r3 kc3 d1 d2 d3 d4 h3 W3.old A3) all0 (by decide +kernel) (Wd := 1) (by decide +kernel) (by decide +kernel) (by decide +kernel) all0 rfl (by rw [hml]; rfl) (lenOf pd6 rfl) rfl (by show 2 * 0 + _ ≤ _; exact Nat.le_of_eq rfl) (D 45 rfl) (fun T4 h4 v4 P4 Ws4 K4 q4 => ?_)
  have W4 := Ws4 [] all0
  obtain ⟨rfl, rfl⟩ := q4
  show Go p e below _ (T4.setTop (mkF m 48 #[vr x0, vr x1, vi 0, vi 4, vN, vr r3] [(.int 1), (.ref x0)]))
  have k5 := (Fxc.keep K3 nin0)
  have k6 := (Exx.keep K3)
  refine W4.putF hx (host := "") (Or.inl (hw _ (mI 37 rfl))) Via.refl k5 k6 (Or.inr ⟨(hw _ (mI 5 rfl)), rfl, hnm⟩) (hw _ (mI 2 rfl)) (ty := .byte) (by decide +kernel) rfl rfl gxx (Or.inl (mI 0 rfl)) (Or.inl (mI 0 rfl)) rfl rfl (D 48 rfl) (fun T7 h7 W7 w7 => ?_)
  have k8 := (Fxv.keep K3 nin0)
  have K7 := Keep.of_wr w7
  have k9 := k8.other w7 (Or.inr (slot_ne (Or.inr (hw _ (mI 4 rfl))) (Or.inr (hw _ (mI 5 rfl))) (by decide +kernel) (t := (.array .byte)) (t' := .byte) (by decide +kernel) (by decide +kernel)))
  have k10 := k5.same w7
  refine W7.pv hx D 51 2 54 [_, _, _, _, _, _] [_, _] rfl ?_
  have k11 := (k6.keep K7)
  refine W7.putF hx (host := "") (Or.inl (hw _ (mI 38 rfl))) Via.refl k9 k11 (Or.inr ⟨(hw _ (mI 4 rfl)), rfl, hnm⟩) (hw _ (mI 2 rfl)) (ty := (.array .byte)) (by decide +kernel) rfl rfl gxx (Or.inl (mI 0 rfl)) (Or.inl (mI 0 rfl)) rfl rfl (D 54 rfl) (fun T12 h12 W12 w12 => ?_)
  have K12 := Keep.of_wr w12
  have k13 := k10.other w12 (Or.inr (slot_ne (Or.inr (hw _ (mI 5 rfl))) (Or.inr (hw _ (mI 4 rfl))) (by decide +kernel) (t := .byte) (t' := (.array .byte)) (by decide +kernel) (by decide +kernel)))
  have k14 := k9.same w12
  show Go p e below _ (T12.setTop (mkF m 57 #[vr x0, vr x1, vi 0, vi 4, vN, vr r3] []))
  have k15 := (k11.keep K12)
  have k16 := ((A3.keep K7 (ninS (ne_of_born lr3 Exx.lt (Nat.le_refl _)).symm nin0)).keep K12 (ninS (ne_of_born lr3 Exx.lt (Nat.le_refl _)).symm nin0))
  exact W12.retV hx hEL hs hlk (by decide +kernel) (by decide +kernel) hret (D 57 rfl) (fun S hS => ⟨rfl, ⟨r3, kc3, _, _, _, k15, k14, k13, k16, Or.inr ⟨rfl, rfl, rfl, d4, List.mem_of_getElem? (i := 3) rfl, wd⟩, (allSi cd1 (allSi cd2 (allSi cd3 (allSi cd4 all0i)))), Nat.le_of_ble_eq_true rfl⟩⟩)
set_option maxRecDepth 65536 in
set_option maxHeartbeats 40000000 in
theorem rm244 (B : EV l Z a0 zc fm) (x0 x1 : Addr) (kc : ClassId) (d1 d2 d3 d4 : Int32) (h0 : Heap) {n0 : Nat} (O0 : Old Z n0 h0) (SA1 : sq0 Z) (SH0 : sq1 Z) (SL8 : sq2 Z) (Ac : Arv Z h0 x1 kc .char (4 : Int32) [(.int d1), (.int d2), (.int d3), (.int d4)] (.int 0)) (cd1 : ¬ d1 < 0 ∧ ¬ (65535 : Int32) < d1) (cd2 : ¬ d2 < 0 ∧ ¬ (65535 : Int32) < d2) (cd3 : ¬ d3 < 0 ∧ ¬ (65535 : Int32) < d3) (cd4 : ¬ d4 < 0 ∧ ¬ (65535 : Int32) < d4) (nd1 : ¬ (255 : Int32) < d1) (nd2 : ¬ (255 : Int32) < d2) (nd3 : ¬ (255 : Int32) < d3) (wd : (255 : Int32) < d4) (Exx : Exa Z h0 x0 "java/lang/String") (Fxv : Fld Z h0 x0 "java/lang/String" "value" "[B" .null) (Fxc : Fld Z h0 x0 "java/lang/String" "coder" "B" (.int 0)) (gxx : n0 ≤ x0) :
    Met l Z EL0 n0 (⟨"java/lang/String", "<init>", "([C)V"⟩ : MethodName) jdk_42_method_3_code 2 none [] (rO 5 2 12 74) #[(.ref x0), (.ref x1)] h0 [x0] [x0] (fun v h' S => v = none ∧ Str Z h' x0 [d1, d2, d3, d4]) := by
  obtain ⟨hw, hEL, SC, hzc, SF, rfm⟩ := id B
  refine Met.of (plainFor_of_name pn1) O0 ?_
  intro p e s m below meth c T0 hx hby hml hret hlk hnm hs W0
  have W0 : Wk p l e _ s m _ below meth c Z EL0 n0 [x0] "java/lang/String" [x0] T0 0 0 h0 := W0
  have D := @tk c _ _ hby tk10
  refine Go.of (fun _ kk => castTop (ef214 m x0 x1) kk) ?_
  refine W0.pv hx D 0 4 4 [_, _] [_, .int 0, _, _] rfl ?_
  refine W0.alen hx Ac rfl rfl (D 4 rfl) ?_
  refine W0.pv hx D 5 1 6 [_, _] [.null, _, _, _, _] rfl ?_
  refine W0.callP hx hEL rfl (hw _ (mI 19 rfl)) (hw _ (mI 20 rfl)) (hw _ (mI 1 rfl)) (hw _ (mI 22 rfl)) (by decide +kernel) (a := x0) (argsL := [(.ref x1), (.int 0), (.int 4), .null]) (rest := []) (rm243 B x0 x1 kc d1 d2 d3 d4 h0 W0.old SA1 SH0 SL8 Ac cd1 cd2 cd3 cd4 nd1 nd2 nd3 wd Exx Fxv Fxc gxx) (allS (mI 0 rfl) all0) (by decide +kernel) (Wd := 0) (by decide +kernel) (by decide +kernel) (by decide +kernel) (allS ⟨gxx, (Or.inl (mI 0 rfl))⟩ all0) rfl (by rw [hml]; rfl) (lenOf pd7 rfl) rfl (by show 2 * 0 + _ ≤ _; exact Nat.le_of_eq rfl) (D 6 rfl) (fun T1 h1 v1 P1 Ws1 K1 q1 => ?_)
  have W1 := Ws1 [] all0
  obtain ⟨rfl, S1⟩ := q1
  show Go p e below _ (T1.setTop (mkF m 9 #[vr x0, vr x1] []))
  exact W1.retV hx hEL hs hlk (by decide +kernel) (by decide +kernel) hret (D 9 rfl) (fun S hS => ⟨rfl, S1⟩)
set_option maxRecDepth 65536 in
set_option maxHeartbeats 40000000 in
theorem rm300 (B : EV l Z a0 zc fm)  (h0 : Heap) {n0 : Nat} (O0 : Old Z n0 h0)  :
    Met l Z EL0 n0 (⟨"java/lang/StringUTF16", "newBytesLength", "(I)I"⟩ : MethodName) jdk_52_method_3_code 1 (some .int) [] (rO 0 0 0 0) #[(.int 5)] h0 [] [] (fun v h' S => v = some (.int 10) ∧ h0 = h') := by
  obtain ⟨hw, hEL, SC, hzc, SF, rfm⟩ := id B
  refine Met.of (plainFor_of_name pn0) O0 ?_
  intro p e s m below meth c T0 hx hby hml hret hlk hnm hs W0
  have W0 : Wk p l e _ s m _ below meth c Z EL0 n0 [] "java/lang/StringUTF16" [] T0 0 0 h0 := W0
  have D := @tk c _ _ hby tk2
  refine Go.of (fun _ kk => castTop (ef200 m (5 : Int32)) kk) ?_
  refine W0.pu hx D 0 [(1, true)] 1 13 [_] [.int 5] rfl ⟨trivial, (XT.i0_ge_t (by decide +kernel))⟩ ?_
  refine W0.ldcI hx (hw _ (mI 140 rfl)) rfl (D 13 rfl) ?_
  refine W0.pu hx D 15 [(0, true)] 3 58 [_] [.int 10] rfl ⟨trivial, (XT.ii_lt_t (by decide +kernel))⟩ ?_
  exact W0.retI hx hEL hs hlk (by decide +kernel) (by decide +kernel) hret (by simp) rfl (D 58 rfl) (fun S hS => ⟨rfl, rfl⟩)
set_option maxRecDepth 65536 in
set_option maxHeartbeats 40000000 in
theorem rm301 (B : EV l Z a0 zc fm)  (h0 : Heap) {n0 : Nat} (O0 : Old Z n0 h0)  :
    Met l Z EL0 n0 (⟨"java/lang/StringUTF16", "newBytesFor", "(I)[B"⟩ : MethodName) jdk_52_method_2_code 1 (some (.array .byte)) [] (rO 1 1 10 12) #[(.int 5)] h0 [] [] (fun v h' S => ∃ (r : Addr) (kc : ClassId), v = some (.ref r) ∧ h0.size ≤ r ∧ Arv Z h' r kc .byte (10 : Int32) [(.int 0), (.int 0), (.int 0), (.int 0), (.int 0), (.int 0), (.int 0), (.int 0), (.int 0), (.int 0)] (.int 0) ∧ S r) := by
  obtain ⟨hw, hEL, SC, hzc, SF, rfm⟩ := id B
  refine Met.of (plainFor_of_name pn0) O0 ?_
  intro p e s m below meth c T0 hx hby hml hret hlk hnm hs W0
  have W0 : Wk p l e _ s m _ below meth c Z EL0 n0 [] "java/lang/StringUTF16" [] T0 0 0 h0 := W0
  have D := @tk c _ _ hby tk3
  refine Go.of (fun _ kk => castTop (ef200 m (5 : Int32)) kk) ?_
  refine W0.pv hx D 0 1 1 [_] [.int 5] rfl ?_
  refine W0.callS hx hEL (hw _ (mI 137 rfl)) (hw _ (mI 138 rfl)) (hw _ (mI 29 rfl)) (hw _ (mI 139 rfl)) (by decide +kernel) (argsL := [(.int 5)]) (rest := []) (rm300 B  h0 W0.old ) all0 (by decide +kernel) (Wd := 0) (by decide +kernel) (by decide +kernel) (by decide +kernel) all0 rfl (by rw [hml]; rfl) (lenOf pd1 rfl) rfl (by show 2 * 0 + _ ≤ _; exact Nat.le_of_eq rfl) (D 1 rfl) (fun T1 h1 v1 P1 Ws1 K1 q1 => ?_)
  have W1 := Ws1 [] all0
  obtain ⟨rfl, rfl⟩ := q1
  show Go p e below _ (T1.setTop (mkF m 4 #[vi 5] [(.int 10)]))
  refine W1.newP hx (hw _ (mI 3 rfl)) rfl (D 4 rfl) rfl (by decide +kernel) (cap := 10) (by decide +kernel) (by decide +kernel) (by decide +kernel) (by decide +kernel) (fun T2 h2 b2 c2 eb2 gb2 W2 K2 A2 => ?_)
  have V2 : Arv Z h2 b2 c2 .byte (10 : Int32) [(.int 0), (.int 0), (.int 0), (.int 0), (.int 0), (.int 0), (.int 0), (.int 0), (.int 0), (.int 0)] (.int 0) := A2
  show Go p e below _ (T2.setTop (mkF m 6 #[vi 5] [(.ref b2)]))
  exact W2.retA hx hEL hs hlk (by decide +kernel) (by decide +kernel) hret rfl rfl (D 6 rfl) (fun S hS => ⟨b2, c2, rfl, hs ▸ gb2.2, V2, hS _ (mI 0 rfl)⟩)
set_option maxRecDepth 65536 in
set_option maxHeartbeats 40000000 in
theorem rm302 (B : EV l Z a0 zc fm) (x1 : Addr) (kc : ClassId) (d1 d2 d3 d4 d5 : Int32) (h0 : Heap) {n0 : Nat} (O0 : Old Z n0 h0) (SA1 : sq0 Z) (SH0 : sq1 Z) (SL8 : sq2 Z) (Ac : Arv Z h0 x1 kc .char (5 : Int32) [(.int d1), (.int d2), (.int d3), (.int d4), (.int d5)] (.int 0)) :
    Met l Z EL0 n0 (⟨"java/lang/StringUTF16", "toBytes", "([CII)[B"⟩ : MethodName) jdk_52_method_14_code 5 (some (.array .byte)) [] (rO 2 1 10 24) #[(.ref x1), (.int 0), (.int 5)] h0 [] [] (fun v h' S => ∃ (r : Addr) (kc : ClassId), v = some (.ref r) ∧ h0.size ≤ r ∧ Arv Z h' r kc .byte (10 : Int32) [(.int (StrChars.lo8 d1)), (.int (StrChars.hi8 d1)), (.int (StrChars.lo8 d2)), (.int (StrChars.hi8 d2)), (.int (StrChars.lo8 d3)), (.int (StrChars.hi8 d3)), (.int (StrChars.lo8 d4)), (.int (StrChars.hi8 d4)), (.int (StrChars.lo8 d5)), (.int (StrChars.hi8 d5))] (.int 0)) := by
  obtain ⟨hw, hEL, SC, hzc, SF, rfm⟩ := id B
  refine Met.of (plainFor_of_name pn0) O0 ?_
  intro p e s m below meth c T0 hx hby hml hret hlk hnm hs W0
  have W0 : Wk p l e _ s m _ below meth c Z EL0 n0 [] "java/lang/StringUTF16" [] T0 0 0 h0 := W0
  have D := @tk c _ _ hby tk4
  refine Go.of (fun _ kk => castTop (ef202 m x1 (0 : Int32) (5 : Int32)) kk) ?_
  refine W0.pv hx D 0 1 1 [_, _, _, _, _] [.int 5] rfl ?_
  refine W0.callS hx hEL (hw _ (mI 134 rfl)) (hw _ (mI 135 rfl)) (hw _ (mI 29 rfl)) (hw _ (mI 136 rfl)) (by decide +kernel) (argsL := [(.int 5)]) (rest := []) (rm301 B  h0 W0.old ) all0 (by decide +kernel) (Wd := 0) (by decide +kernel) (by decide +kernel) (by decide +kernel) all0 rfl (by rw [hml]; rfl) (lenOf pd2 rfl) rfl (by show 2 * 0 + _ ≤ _; exact Nat.le_of_eq rfl) (D 1 rfl) (fun T1 h1 v1 P1 Ws1 K1 q1 => ?_)
  obtain ⟨r1, kc1, rfl, lr1, A1, sr1⟩ := q1
  have W1 := Ws1 [r1] (allS sr1 all0)
  have gr1 : n0 ≤ r1 ∧ s.heap.size ≤ r1 := ⟨Nat.le_trans W0.n0le lr1, Nat.le_trans W0.s0le lr1⟩
  refine W1.pu hx D 4 [(5, false)] 4 19 [_, _, _, _, vi 0] [.int 0, _, .int 0, _] rfl ⟨trivial, (XT.ii_ge_f (by decide +kernel))⟩ ?_
  have k2 := (Ac.keep K1 nin0)
  refine W1.caload hx k2 ⟨by decide, by decide⟩ (v := (.int d1)) rfl rfl rfl (D 19 rfl) ?_
  show Go p e below _ (T1.setTop (mkF m 20 #[vr x1, vi 0, vi 5, vr r1, vi 0] [(.int d1), (.int 0), (.ref r1)]))
  refine W1.callS hx hEL (hw _ (mI 82 rfl)) (hw _ (mI 83 rfl)) (hw _ (mI 29 rfl)) (hw _ (mI 84 rfl)) (by decide +kernel) (argsL := [(.ref r1), (.int 0), (.int d1)]) (rest := []) (rm105 B r1 d1 kc1 (0 : Int32) (0 : Int32) (0 : Int32) (0 : Int32) (0 : Int32) (0 : Int32) (0 : Int32) (0 : Int32) (0 : Int32) (0 : Int32) h1 W1.old SA1 SH0 SL8 A1 gr1.1) (allS (mI 0 rfl) all0) (by decide +kernel) (Wd := 0) (by decide +kernel) (by decide +kernel) (by decide +kernel) (allS ⟨gr1.1, (Or.inr gr1.2)⟩ all0) rfl (by rw [hml]; rfl) (lenOf pd0 rfl) rfl (by show 2 * 0 + _ ≤ _; exact Nat.le_of_eq rfl) (D 20 rfl) (fun T3 h3 v3 P3 Ws3 K3 q3 => ?_)
  have W3 := Ws3 [] all0
  obtain ⟨rfl, A3⟩ := q3
  refine W3.pu hx D 23 [(5, false)] 4 19 [_, vi 1, _, _, vi 1] [.int 1, _, .int 1, _] rfl ⟨trivial, (XT.ii_ge_f (by decide +kernel))⟩ ?_
  have k4 := (k2.keep K3 (ninS (ne_of_born lr1 Ac.lt (Nat.le_refl _)) nin0))
  refine W3.caload hx k4 ⟨by decide, by decide⟩ (v := (.int d2)) rfl rfl rfl (D 19 rfl) ?_
  show Go p e below _ (T3.setTop (mkF m 20 #[vr x1, vi 1, vi 5, vr r1, vi 1] [(.int d2), (.int 1), (.ref r1)]))
  refine W3.callS hx hEL (hw _ (mI 82 rfl)) (hw _ (mI 83 rfl)) (hw _ (mI 29 rfl)) (hw _ (mI 84 rfl)) (by decide +kernel) (argsL := [(.ref r1), (.int 1), (.int d2)]) (rest := []) (rm106 B r1 d2 kc1 (StrChars.lo8 d1) (StrChars.hi8 d1) (0 : Int32) (0 : Int32) (0 : Int32) (0 : Int32) (0 : Int32) (0 : Int32) (0 : Int32) (0 : Int32) h3 W3.old SA1 SH0 SL8 A3 gr1.1) (allS (mI 0 rfl) all0) (by decide +kernel) (Wd := 0) (by decide +kernel) (by decide +kernel) (by decide +kernel) (allS ⟨gr1.1, (Or.inr gr1.2)⟩ all0) rfl (by rw [hml]; rfl) (lenOf pd0 rfl) rfl (by show 2 * 0 + _ ≤ _; exact Nat.le_of_eq rfl) (D 20 rfl) (fun T5 h5 v5 P5 Ws5 K5 q5 => ?_)
  have W5 := Ws5 [] all0
  obtain ⟨rfl, A5⟩ := q5
  refine W5.pu hx D 23 [(5, false)] 4 19 [_, vi 2, _, _, vi 2] [.int 2, _, .int 2, _] rfl ⟨trivial, (XT.ii_ge_f (by decide +kernel))⟩ ?_
  have k6 := (k4.keep K5 (ninS (ne_of_born lr1 Ac.lt (Nat.le_refl _)) nin0))
  refine W5.caload hx k6 ⟨by decide, by decide⟩ (v := (.int d3)) rfl rfl rfl (D 19 rfl) ?_
  show Go p e below _ (T5.setTop (mkF m 20 #[vr x1, vi 2, vi 5, vr r1, vi 2] [(.int d3), (.int 2), (.ref r1)]))
  refine W5.callS hx hEL (hw _ (mI 82 rfl)) (hw _ (mI 83 rfl)) (hw _ (mI 29 rfl)) (hw _ (mI 84 rfl)) (by decide +kernel) (argsL := [(.ref r1), (.int 2), (.int d3)]) (rest := []) (rm107 B r1 d3 kc1 (StrChars.lo8 d1) (StrChars.hi8 d1) (StrChars.lo8 d2) (StrChars.hi8 d2) (0 : Int32) (0 : Int32) (0 : Int32) (0 : Int32) (0 : Int32) (0 : Int32) h5 W5.old SA1 SH0 SL8 A5 gr1.1) (allS (mI 0 rfl) all0) (by decide +kernel) (Wd := 0) (by decide +kernel) (by decide +kernel) (by decide +kernel) (allS ⟨gr1.1, (Or.inr gr1.2)⟩ all0) rfl (by rw [hml]; rfl) (lenOf pd0 rfl) rfl (by show 2 * 0 + _ ≤ _; exact Nat.le_of_eq rfl) (D 20 rfl) (fun T7 h7 v7 P7 Ws7 K7 q7 => ?_)
  have W7 := Ws7 [] all0
  obtain ⟨rfl, A7⟩ := q7
  refine W7.pu hx D 23 [(5, false)] 4 19 [_, vi 3, _, _, vi 3] [.int 3, _, .int 3, _] rfl ⟨trivial, (XT.ii_ge_f (by decide +kernel))⟩ ?_
  have k8 := (k6.keep K7 (ninS (ne_of_born lr1 Ac.lt (Nat.le_refl _)) nin0))
  refine W7.caload hx k8 ⟨by decide, by decide⟩ (v := (.int d4)) rfl rfl rfl (D 19 rfl) ?_
  show Go p e below _ (T7.setTop (mkF m 20 #[vr x1, vi 3, vi 5, vr r1, vi 3] [(.int d4), (.int 3), (.ref r1)]))
  refine W7.callS hx hEL (hw _ (mI 82 rfl)) (hw _ (mI 83 rfl)) (hw _ (mI 29 rfl)) (hw _ (mI 84 rfl)) (by decide +kernel) (argsL := [(.ref r1), (.int 3), (.int d4)]) (rest := []) (rm108 B r1 d4 kc1 (StrChars.lo8 d1) (StrChars.hi8 d1) (StrChars.lo8 d2) (StrChars.hi8 d2) (StrChars.lo8 d3) (StrChars.hi8 d3) (0 : Int32) (0 : Int32) (0 : Int32) (0 : Int32) h7 W7.old SA1 SH0 SL8 A7 gr1.1) (allS (mI 0 rfl) all0) (by decide +kernel) (Wd := 0) (by decide +kernel) (by decide +kernel) (by decide +kernel) (allS ⟨gr1.1, (Or.inr gr1.2)⟩ all0) rfl (by rw [hml]; rfl) (lenOf pd0 rfl) rfl (by show 2 * 0 + _ ≤ _; exact Nat.le_of_eq rfl) (D 20 rfl) (fun T9 h9 v9 P9 Ws9 K9 q9 => ?_)
  have W9 := Ws9 [] all0
  obtain ⟨rfl, A9⟩ := q9
  refine W9.pu hx D 23 [(5, false)] 4 19 [_, vi 4, _, _, vi 4] [.int 4, _, .int 4, _] rfl ⟨trivial, (XT.ii_ge_f (by decide +kernel))⟩ ?_
  have k10 := (k8.keep K9 (ninS (ne_of_born lr1 Ac.lt (Nat.le_refl _)) nin0))
  refine W9.caload hx k10 ⟨by decide, by decide⟩ (v := (.int d5)) rfl rfl rfl (D 19 rfl) ?_
  show Go p e below _ (T9.setTop (mkF m 20 #[vr x1, vi 4, vi 5, vr r1, vi 4] [(.int d5), (.int 4), (.ref r1)]))
  refine W9.callS hx hEL (hw _ (mI 82 rfl)) (hw _ (mI 83 rfl)) (hw _ (mI 29 rfl)) (hw _ (mI 84 rfl)) (by decide +kernel) (argsL := [(.ref r1), (.int 4), (.int d5)]) (rest := []) (rm109 B r1 d5 kc1 (StrChars.lo8 d1) (StrChars.hi8 d1) (StrChars.lo8 d2) (StrChars.hi8 d2) (StrChars.lo8 d3) (StrChars.hi8 d3) (StrChars.lo8 d4) (StrChars.hi8 d4) (0 : Int32) (0 : Int32) h9 W9.old SA1 SH0 SL8 A9 gr1.1) (allS (mI 0 rfl) all0) (by decide +kernel) (Wd := 0) (by decide +kernel) (by decide +kernel) (by decide +kernel) (allS ⟨gr1.1, (Or.inr gr1.2)⟩ all0) rfl (by rw [hml]; rfl) (lenOf pd0 rfl) rfl (by show 2 * 0 + _ ≤ _; exact Nat.le_of_eq rfl) (D 20 rfl) (fun T11 h11 v11 P11 Ws11 K11 q11 => ?_)
  have W11 := Ws11 [] all0
  obtain ⟨rfl, A11⟩ := q11
  refine W11.pu hx D 23 [(5, true)] 1 33 [_, vi 5, _, _, vi 5] [_] rfl ⟨trivial, (XT.ii_ge_t (by decide +kernel))⟩ ?_
  exact W11.retA hx hEL hs hlk (by decide +kernel) (by decide +kernel) hret rfl rfl (D 33 rfl) (fun S hS => ⟨r1, kc1, rfl, hs ▸ gr1.2, A11⟩)
set_option maxRecDepth 65536 in
set_option maxHeartbeats 40000000 in
theorem rm303 (B : EV l Z a0 zc fm) (t : Addr) (kc : ClassId) (d1 d2 d3 d4 d5 : Int32) (h0 : Heap) {n0 : Nat} (O0 : Old Z n0 h0) (Ab : Arv Z h0 t kc .byte (10 : Int32) [(.int (StrChars.lo8 d1)), (.int (StrChars.hi8 d1)), (.int (StrChars.lo8 d2)), (.int (StrChars.hi8 d2)), (.int (StrChars.lo8 d3)), (.int (StrChars.hi8 d3)), (.int (StrChars.lo8 d4)), (.int (StrChars.hi8 d4)), (.int (StrChars.lo8 d5)), (.int (StrChars.hi8 d5))] (.int 0)) :
    Met l Z EL0 n0 (⟨"java/lang/StringUTF16", "coderFromArrayLen", "([BI)B"⟩ : MethodName) jdk_52_method_15_code 2 (some .byte) [] (rO 0 0 0 0) #[(.ref t), (.int 5)] h0 [] [] (fun v h' S => v = some (.int 1) ∧ h0 = h') := by
  obtain ⟨hw, hEL, SC, hzc, SF, rfm⟩ := id B
  refine Met.of (plainFor_of_name pn0) O0 ?_
  intro p e s m below meth c T0 hx hby hml hret hlk hnm hs W0
  have W0 : Wk p l e _ s m _ below meth c Z EL0 n0 [] "java/lang/StringUTF16" [] T0 0 0 h0 := W0
  have D := @tk c _ _ hby tk5
  refine Go.of (fun _ kk => castTop (ef203 m t (5 : Int32)) kk) ?_
  refine W0.pv hx D 0 2 2 [_, _] [_, .int 5] rfl ?_
  refine W0.alen hx Ab rfl rfl (D 2 rfl) ?_
  refine W0.pv hx D 3 4 8 [_, _] [.int ((((-5 : Int32).toUInt32 >>> ((31 : Int32) &&& 31).toUInt32).toInt32).toInt8.toInt32)] rfl ?_
  have e8 : ((((-5 : Int32).toUInt32 >>> ((31 : Int32) &&& 31).toUInt32).toInt32).toInt8.toInt32) = (1 : Int32) := by decide +kernel
  rw [e8]
  show Go p e below _ (T0.setTop (mkF m 8 #[vr t, vi 5] [(.int 1)]))
  exact W0.retI hx hEL hs hlk (by decide +kernel) (by decide +kernel) hret (by simp) rfl (D 8 rfl) (fun S hS => ⟨rfl, rfl⟩)
set_option maxRecDepth 65536 in
set_option maxHeartbeats 40000000 in
theorem rm310 (B : EV l Z a0 zc fm) (x1 x2 : Addr) (kc : ClassId) (d1 d2 d3 d4 d5 : Int32) (kb : ClassId) (h0 : Heap) {n0 : Nat} (O0 : Old Z n0 h0) (Ac : Arv Z h0 x1 kc .char (5 : Int32) [(.int d1), (.int d2), (.int d3), (.int d4), (.int d5)] (.int 0)) (cd1 : ¬ d1 < 0 ∧ ¬ (65535 : Int32) < d1) (cd2 : ¬ d2 < 0 ∧ ¬ (65535 : Int32) < d2) (cd3 : ¬ d3 < 0 ∧ ¬ (65535 : Int32) < d3) (cd4 : ¬ d4 < 0 ∧ ¬ (65535 : Int32) < d4) (cd5 : ¬ d5 < 0 ∧ ¬ (65535 : Int32) < d5) (wd : (255 : Int32) < d1) (Ab : Arv Z h0 x2 kb .byte (5 : Int32) [(.int 0), (.int 0), (.int 0), (.int 0), (.int 0)] (.int 0)) (g2 : n0 ≤ x2) (nx : x1 ≠ x2) :
    Met l Z EL0 n0 (⟨"java/lang/StringUTF16", "compress", "([CI[BII)I"⟩ : MethodName) jdk_52_method_21_code 7 (some .int) [] (rO 0 0 0 0) #[(.ref x1), (.int 0), (.ref x2), (.int 0), (.int 5)] h0 [x2] [x2] (fun v h' S => v = some (.int 0)) := by
  obtain ⟨hw, hEL, SC, hzc, SF, rfm⟩ := id B
  refine Met.of (plainFor_of_name pn0) O0 ?_
  intro p e s m below meth c T0 hx hby hml hret hlk hnm hs W0
  have W0 : Wk p l e _ s m _ below meth c Z EL0 n0 [x2] "java/lang/StringUTF16" [x2] T0 0 0 h0 := W0
  have D := @tk c _ _ hby tk6
  refine Go.of (fun _ kk => castTop (ef210 m x1 (0 : Int32) x2 (0 : Int32) (5 : Int32)) kk) ?_
  refine W0.pu hx D 0 [(4, false)] 2 12 [_, _, _, _, _, vi 0, _] [.int 0, _] rfl ⟨trivial, (XT.ii_ge_f (by decide +kernel))⟩ ?_
  refine W0.caload hx Ac ⟨by decide, by decide⟩ (v := (.int d1)) rfl rfl rfl (D 12 rfl) ?_
  refine W0.pu hx D 13 [(3, false)] 1 25 [_, _, _, _, _, _, _] [.int 0] rfl ⟨trivial, (XT.ii_le_f wd)⟩ ?_
  exact W0.retI hx hEL hs hlk (by decide +kernel) (by decide +kernel) hret (by simp) rfl (D 25 rfl) (fun S hS => rfl)
set_option maxRecDepth 65536 in
set_option maxHeartbeats 40000000 in
theorem rm311 (B : EV l Z a0 zc fm) (t : Addr) (kc : ClassId) (d1 d2 d3 d4 d5 : Int32) (h0 : Heap) {n0 : Nat} (O0 : Old Z n0 h0) (SA1 : sq0 Z) (SH0 : sq1 Z) (SL8 : sq2 Z) (Ab : Arv Z h0 t kc .byte (10 : Int32) [(.int (StrChars.lo8 d1)), (.int (StrChars.hi8 d1)), (.int (StrChars.lo8 d2)), (.int (StrChars.hi8 d2)), (.int (StrChars.lo8 d3)), (.int (StrChars.hi8 d3)), (.int (StrChars.lo8 d4)), (.int (StrChars.hi8 d4)), (.int (StrChars.lo8 d5)), (.int (StrChars.hi8 d5))] (.int 0)) (cd1 : ¬ d1 < 0 ∧ ¬ (65535 : Int32) < d1) :
    Met l Z EL0 n0 (⟨"java/lang/StringUTF16", "getChar", "([BI)C"⟩ : MethodName) jdk_52_method_5_code 2 (some .char) [] (rO 0 0 0 0) #[(.ref t), (.int 0)] h0 [] [] (fun v h' S => v = some (.int d1) ∧ h0 = h') := by
  obtain ⟨hw, hEL, SC, hzc, SF, rfm⟩ := id B
  refine Met.of (plainFor_of_name pn0) O0 ?_
  intro p e s m below meth c T0 hx hby hml hret hlk hnm hs W0
  have W0 : Wk p l e _ s m _ below meth c Z EL0 n0 [] "java/lang/StringUTF16" [] T0 0 0 h0 := W0
  have D := @tk c _ _ hby tk7
  refine Go.of (fun _ kk => castTop (ef203 m t (0 : Int32)) kk) ?_
  show Go p e below _ (T0.setTop (mkF m 0 #[vr t, vi 0] []))
  refine W0.getS hx (host := "") (Or.inl (hw _ (mI 85 rfl))) Via.refl SA1 rfl (D 0 rfl) (fun T1 W1 => ?_)
  refine W1.pu hx D 3 [(0, true)] 7 37 [_, vi 1] [.int 0, _] rfl ⟨trivial, (XT.i0_ne_t (by decide +kernel))⟩ ?_
  refine W1.baload hx Ab ⟨by decide, by decide⟩ (v := (.int (StrChars.lo8 d1))) rfl rfl rfl (D 37 rfl) ?_
  refine W1.pv hx D 38 2 42 [_, _] [.int ((StrChars.lo8 d1) &&& (255 : Int32))] rfl ?_
  refine W1.getS hx (host := "") (Or.inl (hw _ (mI 86 rfl))) Via.refl SH0 rfl (D 42 rfl) (fun T2 W2 => ?_)
  refine W2.pv hx D 45 3 48 [_, _] [.int 1, _, .int (((StrChars.lo8 d1) &&& (255 : Int32)) <<< ((0 : Int32) &&& 31))] rfl ?_
  refine W2.baload hx Ab ⟨by decide, by decide⟩ (v := (.int (StrChars.hi8 d1))) rfl rfl rfl (D 48 rfl) ?_
  refine W2.pv hx D 49 2 53 [_, _] [.int ((StrChars.hi8 d1) &&& (255 : Int32)), _] rfl ?_
  refine W2.getS hx (host := "") (Or.inl (hw _ (mI 87 rfl))) Via.refl SL8 rfl (D 53 rfl) (fun T3 W3 => ?_)
  refine W3.pv hx D 56 3 59 [_, _] [.int (((((StrChars.lo8 d1) &&& (255 : Int32)) <<< ((0 : Int32) &&& 31)) ||| (((StrChars.hi8 d1) &&& (255 : Int32)) <<< ((8 : Int32) &&& 31))).toUInt32.toUInt16.toUInt32.toInt32)] rfl ?_
  have e59 : (((((StrChars.lo8 d1) &&& (255 : Int32)) <<< ((0 : Int32) &&& 31)) ||| (((StrChars.hi8 d1) &&& (255 : Int32)) <<< ((8 : Int32) &&& 31))).toUInt32.toUInt16.toUInt32.toInt32) = d1 := StrChars.pair_says cd1.1 cd1.2
  rw [e59]
  show Go p e below _ (T3.setTop (mkF m 59 #[vr t, vi 1] [(.int d1)]))
  exact W3.retI hx hEL hs hlk (by decide +kernel) (by decide +kernel) hret (by simp) (nar_retw cd1) (D 59 rfl) (fun S hS => ⟨rfl, rfl⟩)
set_option maxRecDepth 65536 in
set_option maxHeartbeats 40000000 in
theorem rm312 (B : EV l Z a0 zc fm) (x1 : Addr) (kc : ClassId) (d1 d2 d3 d4 d5 : Int32) (h0 : Heap) {n0 : Nat} (O0 : Old Z n0 h0) (SA1 : sq0 Z) (SH0 : sq1 Z) (SL8 : sq2 Z) (Ac : Arv Z h0 x1 kc .char (5 : Int32) [(.int d1), (.int d2), (.int d3), (.int d4), (.int d5)] (.int 0)) (cd1 : ¬ d1 < 0 ∧ ¬ (65535 : Int32) < d1) (cd2 : ¬ d2 < 0 ∧ ¬ (65535 : Int32) < d2) (cd3 : ¬ d3 < 0 ∧ ¬ (65535 : Int32) < d3) (cd4 : ¬ d4 < 0 ∧ ¬ (65535 : Int32) < d4) (cd5 : ¬ d5 < 0 ∧ ¬ (65535 : Int32) < d5) (wd : (255 : Int32) < d1) :
    Met l Z EL0 n0 (⟨"java/lang/StringUTF16", "compress", "([CII)[B"⟩ : MethodName) jdk_52_method_16_code 6 (some (.array .byte)) [] (rO 3 2 15 40) #[(.ref x1), (.int 0), (.int 5)] h0 [] [] (fun v h' S => ∃ (r : Addr) (kc : ClassId), v = some (.ref r) ∧ h0.size ≤ r ∧ Arv Z h' r kc .byte (10 : Int32) [(.int (StrChars.lo8 d1)), (.int (StrChars.hi8 d1)), (.int (StrChars.lo8 d2)), (.int (StrChars.hi8 d2)), (.int (StrChars.lo8 d3)), (.int (StrChars.hi8 d3)), (.int (StrChars.lo8 d4)), (.int (StrChars.hi8 d4)), (.int (StrChars.lo8 d5)), (.int (StrChars.hi8 d5))] (.int 0)) := by
  obtain ⟨hw, hEL, SC, hzc, SF, rfm⟩ := id B
  refine Met.of (plainFor_of_name pn0) O0 ?_
  intro p e s m below meth c T0 hx hby hml hret hlk hnm hs W0
  have W0 : Wk p l e _ s m _ below meth c Z EL0 n0 [] "java/lang/StringUTF16" [] T0 0 0 h0 := W0
  have D := @tk c _ _ hby tk8
  refine Go.of (fun _ kk => castTop (ef212 m x1 (0 : Int32) (5 : Int32)) kk) ?_
  refine W0.pv hx D 0 1 1 [_, _, _, _, _, _] [.int 5] rfl ?_
  refine W0.newP hx (hw _ (mI 3 rfl)) rfl (D 1 rfl) rfl (by decide +kernel) (cap := 5) (by decide +kernel) (by decide +kernel) (by decide +kernel) (by decide +kernel) (fun T1 h1 b1 c1 eb1 gb1 W1 K1 A1 => ?_)
  have V1 : Arv Z h1 b1 c1 .byte (5 : Int32) [(.int 0), (.int 0), (.int 0), (.int 0), (.int 0)] (.int 0) := A1
  refine W1.pv hx D 3 6 9 [_, _, _, _, _, _] [.int 5, .int 0, _, .int 0, _] rfl ?_
  have k3 := (Ac.keep K1 nin0)
  refine W1.callS hx hEL (hw _ (mI 31 rfl)) (hw _ (mI 32 rfl)) (hw _ (mI 29 rfl)) (hw _ (mI 33 rfl)) (by decide +kernel) (argsL := [(.ref x1), (.int 0), (.ref b1), (.int 0), (.int 5)]) (rest := []) (rm310 B x1 b1 kc d1 d2 d3 d4 d5 c1 h1 W1.old k3 cd1 cd2 cd3 cd4 cd5 wd V1 gb1.1 (ne_of_born (Nat.le_of_eq eb1.symm) Ac.lt (Nat.le_refl _))) (allS (mI 0 rfl) all0) (by decide +kernel) (Wd := 0) (by decide +kernel) (by decide +kernel) (by decide +kernel) (allS ⟨gb1.1, (Or.inr gb1.2)⟩ all0) rfl (by rw [hml]; rfl) (lenOf pd3 rfl) rfl (by show 2 * 0 + _ ≤ _; exact Nat.le_of_eq rfl) (D 9 rfl) (fun T2 h2 v2 P2 Ws2 K2 q2 => ?_)
  have W2 := Ws2 [] all0
  obtain rfl := q2
  refine W2.pu hx D 12 [(3, false)] 3 23 [_, _, _, _, vi 0, _] [.int 5, .int 0, _] rfl ⟨trivial, (XT.ii_eq_f (by decide +kernel))⟩ ?_
  have k5 := (k3.keep K2 (ninS (ne_of_born (Nat.le_of_eq eb1.symm) Ac.lt (Nat.le_refl _)) nin0))
  refine W2.callS hx hEL (hw _ (mI 131 rfl)) (hw _ (mI 132 rfl)) (hw _ (mI 29 rfl)) (hw _ (mI 133 rfl)) (by decide +kernel) (argsL := [(.ref x1), (.int 0), (.int 5)]) (rest := []) (rm302 B x1 kc d1 d2 d3 d4 d5 h2 W2.old SA1 SH0 SL8 k5) all0 (by decide +kernel) (Wd := 0) (by decide +kernel) (by decide +kernel) (by decide +kernel) all0 rfl (by rw [hml]; rfl) (lenOf pd4 rfl) rfl (by show 2 * 0 + _ ≤ _; exact Nat.le_of_eq rfl) (D 23 rfl) (fun T4 h4 v4 P4 Ws4 K4 q4 => ?_)
  have W4 := Ws4 [] all0
  obtain ⟨r4, kc4, rfl, lr4, A4⟩ := q4
  have gr4 : n0 ≤ r4 ∧ s.heap.size ≤ r4 := ⟨Nat.le_trans W2.n0le lr4, Nat.le_trans W2.s0le lr4⟩
  refine W4.pv hx D 26 3 32 [_, _, _, _, _, _] [.int 0, _] rfl ?_
  refine W4.callS hx hEL (hw _ (mI 141 rfl)) (hw _ (mI 142 rfl)) (hw _ (mI 29 rfl)) (hw _ (mI 143 rfl)) (by decide +kernel) (argsL := [(.ref r4), (.int 0)]) (rest := []) (rm311 B r4 kc4 d1 d2 d3 d4 d5 h4 W4.old SA1 SH0 SL8 A4 cd1) all0 (by decide +kernel) (Wd := 0) (by decide +kernel) (by decide +kernel) (by decide +kernel) all0 rfl (by rw [hml]; rfl) (lenOf pd5 rfl) rfl (by show 2 * 0 + _ ≤ _; exact Nat.le_of_eq rfl) (D 32 rfl) (fun T6 h6 v6 P6 Ws6 K6 q6 => ?_)
  have W6 := Ws6 [] all0
  obtain ⟨rfl, rfl⟩ := q6
  refine W6.pu hx D 35 [(1, true)] 1 56 [_, _, _, _, _, _] [_] rfl ⟨trivial, (XT.ii_gt_t wd)⟩ ?_
  exact W6.retA hx hEL hs hlk (by decide +kernel) (by decide +kernel) hret rfl rfl (D 56 rfl) (fun S hS => ⟨r4, kc4, rfl, hs ▸ gr4.2, A4⟩)
set_option maxRecDepth 65536 in
set_option maxHeartbeats 40000000 in
theorem rm313 (B : EV l Z a0 zc fm) (x0 x1 : Addr) (kc : ClassId) (d1 d2 d3 d4 d5 : Int32) (h0 : Heap) {n0 : Nat} (O0 : Old Z n0 h0) (SA1 : sq0 Z) (SH0 : sq1 Z) (SL8 : sq2 Z) (Ac : Arv Z h0 x1 kc .char (5 : Int32) [(.int d1), (.int d2), (.int d3), (.int d4), (.int d5)] (.int 0)) (cd1 : ¬ d1 < 0 ∧ ¬ (65535 : Int32) < d1) (cd2 : ¬ d2 < 0 ∧ ¬ (65535 : Int32) < d2) (cd3 : ¬ d3 < 0 ∧ ¬ (65535 : Int32) < d3) (cd4 : ¬ d4 < 0 ∧ ¬ (65535 : Int32) < d4) (cd5 : ¬ d5 < 0 ∧ ¬ (65535 : Int32) < d5) (wd : (255 : Int32) < d1) (Exx : Exa Z h0 x0 "java/lang/String") (Fxv : Fld Z h0 x0 "java/lang/String" "value" "[B" .null) (Fxc : Fld Z h0 x0 "java/lang/String" "coder" "B" (.int 0)) (gxx : n0 ≤ x0) :
    Met l Z EL0 n0 (⟨"java/lang/String", "<init>", "([CIILjava/lang/Void;)V"⟩ : MethodName) jdk_42_method_149_code 6 none [] (rO 4 2 15 57) #[(.ref x0), (.ref x1), (.int 0), (.int 5), .null] h0 [x0] [x0] (fun v h' S => v = none ∧ Str Z h' x0 [d1, d2, d3, d4, d5]) := by
  obtain ⟨hw, hEL, SC, hzc, SF, rfm⟩ := id B
  refine Met.of (plainFor_of_name pn1) O0 ?_
  intro p e s m below meth c T0 hx hby hml hret hlk hnm hs W0
  have W0 : Wk p l e _ s m _ below meth c Z EL0 n0 [x0] "java/lang/String" [x0] T0 0 0 h0 := W0
  have D := @tk c _ _ hby tk9
  refine Go.of (fun _ kk => castTop (ef213 m x0 x1 (0 : Int32) (5 : Int32)) kk) ?_
  refine W0.pv hx D 0 1 1 [_, _, _, _, _, _] [_] rfl ?_
  refine W0.initO hx (hw _ (mI 23 rfl)) (hw _ (mI 24 rfl)) (hw _ (mI 25 rfl)) rfl (by rw [hml]; rfl) rfl (D 1 rfl) (by decide +kernel) (Wd := 0) (by show 2 * 0 + _ ≤ _; exact Nat.le_of_eq rfl) (by decide +kernel) (fun T1 W1 => ?_)
  refine W1.pu hx D 4 [(1, true)] 0 27 [_, _, _, _, _, _] [] rfl ⟨trivial, (XT.i0_ne_t (by decide +kernel))⟩ ?_
  refine W1.getS hx (host := "") (Or.inl (hw _ (mI 26 rfl))) Via.refl SC rfl (D 27 rfl) (fun T2 W2 => ?_)
  refine W2.pu hx D 30 [(0, false)] 3 36 [_, _, _, _, _, _] [.int 5, .int 0, _] rfl ⟨trivial, (XT.i0_eq_f hzc)⟩ ?_
  refine W2.callS hx hEL (hw _ (mI 27 rfl)) (hw _ (mI 28 rfl)) (hw _ (mI 29 rfl)) (hw _ (mI 30 rfl)) (by decide +kernel) (argsL := [(.ref x1), (.int 0), (.int 5)]) (rest := []) (rm312 B x1 kc d1 d2 d3 d4 d5 h0 W2.old SA1 SH0 SL8 Ac cd1 cd2 cd3 cd4 cd5 wd) all0 (by decide +kernel) (Wd := 0) (by decide +kernel) (by decide +kernel) (by decide +kernel) all0 rfl (by rw [hml]; rfl) (lenOf pd4 rfl) rfl (by show 2 * 0 + _ ≤ _; exact Nat.le_of_eq rfl) (D 36 rfl) (fun T3 h3 v3 P3 Ws3 K3 q3 => ?_)
  have W3 := Ws3 [] all0
  obtain ⟨r3, kc3, rfl, lr3, A3⟩ := q3
  have gr3 : n0 ≤ r3 ∧ s.heap.size ≤ r3 := ⟨Nat.le_trans W2.n0le lr3, Nat.le_trans W2.s0le lr3⟩
  refine W3.pv hx D 39 4 45 [_, _, _, _, _, _] [.int 5, _, _] rfl ?_
  refine W3.callS hx hEL (hw _ (mI 34 rfl)) (hw _ (mI 35 rfl)) (hw _ (mI 29 rfl)) (hw _ (mI 36 rfl)) (by decide +kernel) (argsL := [(.ref r3), (.int 5)]) (rest := [(.ref x0)]) (rm303 B r3 kc3 d1 d2 d3 d4 d5 h3 W3.old A3) all0 (by decide +kernel) (Wd := 1) (by decide +kernel) (by decide +kernel) (by decide +kernel) all0 rfl (by rw [hml]; rfl) (lenOf pd6 rfl) rfl (by show 2 * 0 + _ ≤ _; exact Nat.le_of_eq rfl) (D 45 rfl) (fun T4 h4 v4 P4 Ws4 K4 q4 => ?_)
  have W4 := Ws4 [] all0
  obtain ⟨rfl, rfl⟩ := q4
  show Go p e below _ (T4.setTop (mkF m 48 #[vr x0, vr x1, vi 0, vi 5, vN, vr r3] [(.int 1), (.ref x0)]))
  have k5 := (Fxc.keep K3 nin0)
  have k6 := (Exx.keep K3)
  refine W4.putF hx (host := "") (Or.inl (hw _ (mI 37 rfl))) Via.refl k5 k6 (Or.inr ⟨(hw _ (mI 5 rfl)), rfl, hnm⟩) (hw _ (mI 2 rfl)) (ty := .byte) (by decide +kernel) rfl rfl gxx (Or.inl (mI 0 rfl)) (Or.inl (mI 0 rfl)) rfl rfl (D 48 rfl) (fun T7 h7 W7 w7 => ?_)
  have k8 := (Fxv.keep K3 nin0)
  have K7 := Keep.of_wr w7
  have k9 := k8.other w7 (Or.inr (slot_ne (Or.inr (hw _ (mI 4 rfl))) (Or.inr (hw _ (mI 5 rfl))) (by decide +kernel) (t := (.array .byte)) (t' := .byte) (by decide +kernel) (by decide +kernel)))
  have k10 := k5.same w7
  refine W7.pv hx D 51 2 54 [_, _, _, _, _, _] [_, _] rfl ?_
  have k11 := (k6.keep K7)
  refine W7.putF hx (host := "") (Or.inl (hw _ (mI 38 rfl))) Via.refl k9 k11 (Or.inr ⟨(hw _ (mI 4 rfl)), rfl, hnm⟩) (hw _ (mI 2 rfl)) (ty := (.array .byte)) (by decide +kernel) rfl rfl gxx (Or.inl (mI 0 rfl)) (Or.inl (mI 0 rfl)) rfl rfl (D 54 rfl) (fun T12 h12 W12 w12 => ?_)
  have K12 := Keep.of_wr w12
  have k13 := k10.other w12 (Or.inr (slot_ne (Or.inr (hw _ (mI 5 rfl))) (Or.inr (hw _ (mI 4 rfl))) (by decide +kernel) (t := .byte) (t' := (.array .byte)) (by decide +kernel) (by decide +kernel)))
  have k14 := k9.same w12
  show Go p e below _ (T12.setTop (mkF m 57 #[vr x0, vr x1, vi 0, vi 5, vN, vr r3] []))
  have k15 := (k11.keep K12)
  have k16 := ((A3.keep K7 (ninS (ne_of_born lr3 Exx.lt (Nat.le_refl _)).symm nin0)).keep K12 (ninS (ne_of_born lr3 Exx.lt (Nat.le_refl _)).symm nin0))
  exact W12.retV hx hEL hs hlk (by decide +kernel) (by decide +kernel) hret (D 57 rfl) (fun S hS => ⟨rfl, ⟨r3, kc3, _, _, _, k15, k14, k13, k16, Or.inr ⟨rfl, rfl, rfl, d1, List.mem_of_getElem? (i := 0) rfl, wd⟩, (allSi cd1 (allSi cd2 (allSi cd3 (allSi cd4 (allSi cd5 all0i))))), Nat.le_of_ble_eq_true rfl⟩⟩)
set_option maxRecDepth 65536 in
set_option maxHeartbeats 40000000 in
theorem rm314 (B : EV l Z a0 zc fm) (x0 x1 : Addr) (kc : ClassId) (d1 d2 d3 d4 d5 : Int32) (h0 : Heap) {n0 : Nat} (O0 : Old Z n0 h0) (SA1 : sq0 Z) (SH0 : sq1 Z) (SL8 : sq2 Z) (Ac : Arv Z h0 x1 kc .char (5 : Int32) [(.int d1), (.int d2), (.int d3), (.int d4), (.int d5)] (.int 0)) (cd1 : ¬ d1 < 0 ∧ ¬ (65535 : Int32) < d1) (cd2 : ¬ d2 < 0 ∧ ¬ (65535 : Int32) < d2) (cd3 : ¬ d3 < 0 ∧ ¬ (65535 : Int32) < d3) (cd4 : ¬ d4 < 0 ∧ ¬ (65535 : Int32) < d4) (cd5 : ¬ d5 < 0 ∧ ¬ (65535 : Int32) < d5) (wd : (255 : Int32) < d1) (Exx : Exa Z h0 x0 "java/lang/String") (Fxv : Fld Z h0 x0 "java/lang/String" "value" "[B" .null) (Fxc : Fld Z h0 x0 "java/lang/String" "coder" "B" (.int 0)) (gxx : n0 ≤ x0) :
    Met l Z EL0 n0 (⟨"java/lang/String", "<init>", "([C)V"⟩ : MethodName) jdk_42_method_3_code 2 none [] (rO 5 2 15 74) #[(.ref x0), (.ref x1)] h0 [x0] [x0] (fun v h' S => v = none ∧ Str Z h' x0 [d1, d2, d3, d4, d5]) := by
  obtain ⟨hw, hEL, SC, hzc, SF, rfm⟩ := id B
  refine Met.of (plainFor_of_name pn1) O0 ?_
  intro p e s m below meth c T0 hx hby hml hret hlk hnm hs W0
  have W0 : Wk p l e _ s m _ below meth c Z EL0 n0 [x0] "java/lang/String" [x0] T0 0 0 h0 := W0
  have D := @tk c _ _ hby tk10
  refine Go.of (fun _ kk => castTop (ef214 m x0 x1) kk) ?_
  refine W0.pv hx D 0 4 4 [_, _] [_, .int 0, _, _] rfl ?_
  refine W0.alen hx Ac rfl rfl (D 4 rfl) ?_
  refine W0.pv hx D 5 1 6 [_, _] [.null, _, _, _, _] rfl ?_
  refine W0.callP hx hEL rfl (hw _ (mI 19 rfl)) (hw _ (mI 20 rfl)) (hw _ (mI 1 rfl)) (hw _ (mI 22 rfl)) (by decide +kernel) (a := x0) (argsL := [(.ref x1), (.int 0), (.int 5), .null]) (rest := []) (rm313 B x0 x1 kc d1 d2 d3 d4 d5 h0 W0.old SA1 SH0 SL8 Ac cd1 cd2 cd3 cd4 cd5 wd Exx Fxv Fxc gxx) (allS (mI 0 rfl) all0) (by decide +kernel) (Wd := 0) (by decide +kernel) (by decide +kernel) (by decide +kernel) (allS ⟨gxx, (Or.inl (mI 0 rfl))⟩ all0) rfl (by rw [hml]; rfl) (lenOf pd7 rfl) rfl (by show 2 * 0 + _ ≤ _; exact Nat.le_of_eq rfl) (D 6 rfl) (fun T1 h1 v1 P1 Ws1 K1 q1 => ?_)
  have W1 := Ws1 [] all0
  obtain ⟨rfl, S1⟩ := q1
  show Go p e below _ (T1.setTop (mkF m 9 #[vr x0, vr x1] []))
  exact W1.retV hx hEL hs hlk (by decide +kernel) (by decide +kernel) hret (D 9 rfl) (fun S hS => ⟨rfl, S1⟩)
set_option maxRecDepth 65536 in
set_option maxHeartbeats 40000000 in
theorem rm320 (B : EV l Z a0 zc fm) (x1 x2 : Addr) (kc : ClassId) (d1 d2 d3 d4 d5 : Int32) (kb : ClassId) (h0 : Heap) {n0 : Nat} (O0 : Old Z n0 h0) (Ac : Arv Z h0 x1 kc .char (5 : Int32) [(.int d1), (.int d2), (.int d3), (.int d4), (.int d5)] (.int 0)) (cd1 : ¬ d1 < 0 ∧ ¬ (65535 : Int32) < d1) (cd2 : ¬ d2 < 0 ∧ ¬ (65535 : Int32) < d2) (cd3 : ¬ d3 < 0 ∧ ¬ (65535 : Int32) < d3) (cd4 : ¬ d4 < 0 ∧ ¬ (65535 : Int32) < d4) (cd5 : ¬ d5 < 0 ∧ ¬ (65535 : Int32) < d5) (nd1 : ¬ (255 : Int32) < d1) (wd : (255 : Int32) < d2) (Ab : Arv Z h0 x2 kb .byte (5 : Int32) [(.int 0), (.int 0), (.int 0), (.int 0), (.int 0)] (.int 0)) (g2 : n0 ≤ x2) (nx : x1 ≠ x2) :
    Met l Z EL0 n0 (⟨"java/lang/StringUTF16", "compress", "([CI[BII)I"⟩ : MethodName) jdk_52_method_21_code 7 (some .int) [] (rO 0 0 0 0) #[(.ref x1), (.int 0), (.ref x2), (.int 0), (.int 5)] h0 [x2] [x2] (fun v h' S => v = some (.int 1)) := by
  obtain ⟨hw, hEL, SC, hzc, SF, rfm⟩ := id B
  refine Met.of (plainFor_of_name pn0) O0 ?_
  intro p e s m below meth c T0 hx hby hml hret hlk hnm hs W0
  have W0 : Wk p l e _ s m _ below meth c Z EL0 n0 [x2] "java/lang/StringUTF16" [x2] T0 0 0 h0 := W0
  have D := @tk c _ _ hby tk6
  refine Go.of (fun _ kk => castTop (ef210 m x1 (0 : Int32) x2 (0 : Int32) (5 : Int32)) kk) ?_
  refine W0.pu hx D 0 [(4, false)] 2 12 [_, _, _, _, _, vi 0, _] [.int 0, _] rfl ⟨trivial, (XT.ii_ge_f (by decide +kernel))⟩ ?_
  refine W0.caload hx Ac ⟨by decide, by decide⟩ (v := (.int d1)) rfl rfl rfl (D 12 rfl) ?_
  refine W0.pu hx D 13 [(3, true)] 4 31 [_, _, _, _, _, _, _] [.int (d1.toInt8.toInt32), .int 0, _] rfl ⟨trivial, (XT.ii_le_t nd1)⟩ ?_
  refine W0.stB hx Ab ⟨by decide, by decide⟩ 0 rfl (Nat.le_of_ble_eq_true rfl) g2 (Or.inl (mI 0 rfl)) (mI 0 rfl) rfl rfl (D 31 rfl) (fun T1 h1 W1 K1 A1 => ?_)
  have V1 : Arv Z h1 x2 kb .byte (5 : Int32) [(.int (d1.toInt8.toInt32)), (.int 0), (.int 0), (.int 0), (.int 0)] (.int 0) := (by rw [(nar_byte _)] at A1; exact A1)
  refine W1.pu hx D 32 [(6, false)] 2 12 [_, vi 1, _, vi 1, _, vi 1, _] [.int 1, _] rfl ⟨trivial, (XT.ii_ge_f (by decide +kernel))⟩ ?_
  have k2 := (Ac.keep K1 (ninS nx nin0))
  refine W1.caload hx k2 ⟨by decide, by decide⟩ (v := (.int d2)) rfl rfl rfl (D 12 rfl) ?_
  refine W1.pu hx D 13 [(3, false)] 1 25 [_, _, _, _, _, _, _] [.int 1] rfl ⟨trivial, (XT.ii_le_f wd)⟩ ?_
  exact W1.retI hx hEL hs hlk (by decide +kernel) (by decide +kernel) hret (by simp) rfl (D 25 rfl) (fun S hS => rfl)
set_option maxRecDepth 65536 in
set_option maxHeartbeats 40000000 in
theorem rm321 (B : EV l Z a0 zc fm) (t : Addr) (kc : ClassId) (d1 d2 d3 d4 d5 : Int32) (h0 : Heap) {n0 : Nat} (O0 : Old Z n0 h0) (SA1 : sq0 Z) (SH0 : sq1 Z) (SL8 : sq2 Z) (Ab : Arv Z h0 t kc .byte (10 : Int32) [(.int (StrChars.lo8 d1)), (.int (StrChars.hi8 d1)), (.int (StrChars.lo8 d2)), (.int (StrChars.hi8 d2)), (.int (StrChars.lo8 d3)), (.int (StrChars.hi8 d3)), (.int (StrChars.lo8 d4)), (.int (StrChars.hi8 d4)), (.int (StrChars.lo8 d5)), (.int (StrChars.hi8 d5))] (.int 0)) (cd2 : ¬ d2 < 0 ∧ ¬ (65535 : Int32) < d2) :
    Met l Z EL0 n0 (⟨"java/lang/StringUTF16", "getChar", "([BI)C"⟩ : MethodName) jdk_52_method_5_code 2 (some .char) [] (rO 0 0 0 0) #[(.ref t), (.int 1)] h0 [] [] (fun v h' S => v = some (.int d2) ∧ h0 = h') := by
  obtain ⟨hw, hEL, SC, hzc, SF, rfm⟩ := id B
  refine Met.of (plainFor_of_name pn0) O0 ?_
  intro p e s m below meth c T0 hx hby hml hret hlk hnm hs W0
  have W0 : Wk p l e _ s m _ below meth c Z EL0 n0 [] "java/lang/StringUTF16" [] T0 0 0 h0 := W0
  have D := @tk c _ _ hby tk7
  refine Go.of (fun _ kk => castTop (ef203 m t (1 : Int32)) kk) ?_
  show Go p e below _ (T0.setTop (mkF m 0 #[vr t, vi 1] []))
  refine W0.getS hx (host := "") (Or.inl (hw _ (mI 85 rfl))) Via.refl SA1 rfl (D 0 rfl) (fun T1 W1 => ?_)
  refine W1.pu hx D 3 [(0, true)] 7 37 [_, vi 3] [.int 2, _] rfl ⟨trivial, (XT.i0_ne_t (by decide +kernel))⟩ ?_
  refine W1.baload hx Ab ⟨by decide, by decide⟩ (v := (.int (StrChars.lo8 d2))) rfl rfl rfl (D 37 rfl) ?_
  refine W1.pv hx D 38 2 42 [_, _] [.int ((StrChars.lo8 d2) &&& (255 : Int32))] rfl ?_
  refine W1.getS hx (host := "") (Or.inl (hw _ (mI 86 rfl))) Via.refl SH0 rfl (D 42 rfl) (fun T2 W2 => ?_)
  refine W2.pv hx D 45 3 48 [_, _] [.int 3, _, .int (((StrChars.lo8 d2) &&& (255 : Int32)) <<< ((0 : Int32) &&& 31))] rfl ?_
  refine W2.baload hx Ab ⟨by decide, by decide⟩ (v := (.int (StrChars.hi8 d2))) rfl rfl rfl (D 48 rfl) ?_
  refine W2.pv hx D 49 2 53 [_, _] [.int ((StrChars.hi8 d2) &&& (255 : Int32)), _] rfl ?_
  refine W2.getS hx (host := "") (Or.inl (hw _ (mI 87 rfl))) Via.refl SL8 rfl (D 53 rfl) (fun T3 W3 => ?_)
  refine W3.pv hx D 56 3 59 [_, _] [.int (((((StrChars.lo8 d2) &&& (255 : Int32)) <<< ((0 : Int32) &&& 31)) ||| (((StrChars.hi8 d2) &&& (255 : Int32)) <<< ((8 : Int32) &&& 31))).toUInt32.toUInt16.toUInt32.toInt32)] rfl ?_
  have e59 : (((((StrChars.lo8 d2) &&& (255 : Int32)) <<< ((0 : Int32) &&& 31)) ||| (((StrChars.hi8 d2) &&& (255 : Int32)) <<< ((8 : Int32) &&& 31))).toUInt32.toUInt16.toUInt32.toInt32) = d2 := StrChars.pair_says cd2.1 cd2.2
  rw [e59]
  show Go p e below _ (T3.setTop (mkF m 59 #[vr t, vi 3] [(.int d2)]))
  exact W3.retI hx hEL hs hlk (by decide +kernel) (by decide +kernel) hret (by simp) (nar_retw cd2) (D 59 rfl) (fun S hS => ⟨rfl, rfl⟩)
set_option maxRecDepth 65536 in
set_option maxHeartbeats 40000000 in
theorem rm322 (B : EV l Z a0 zc fm) (x1 : Addr) (kc : ClassId) (d1 d2 d3 d4 d5 : Int32) (h0 : Heap) {n0 : Nat} (O0 : Old Z n0 h0) (SA1 : sq0 Z) (SH0 : sq1 Z) (SL8 : sq2 Z) (Ac : Arv Z h0 x1 kc .char (5 : Int32) [(.int d1), (.int d2), (.int d3), (.int d4), (.int d5)] (.int 0)) (cd1 : ¬ d1 < 0 ∧ ¬ (65535 : Int32) < d1) (cd2 : ¬ d2 < 0 ∧ ¬ (65535 : Int32) < d2) (cd3 : ¬ d3 < 0 ∧ ¬ (65535 : Int32) < d3) (cd4 : ¬ d4 < 0 ∧ ¬ (65535 : Int32) < d4) (cd5 : ¬ d5 < 0 ∧ ¬ (65535 : Int32) < d5) (nd1 : ¬ (255 : Int32) < d1) (wd : (255 : Int32) < d2) :
    Met l Z EL0 n0 (⟨"java/lang/StringUTF16", "compress", "([CII)[B"⟩ : MethodName) jdk_52_method_16_code 6 (some (.array .byte)) [] (rO 3 2 15 40) #[(.ref x1), (.int 0), (.int 5)] h0 [] [] (fun v h' S => ∃ (r : Addr) (kc : ClassId), v = some (.ref r) ∧ h0.size ≤ r ∧ Arv Z h' r kc .byte (10 : Int32) [(.int (StrChars.lo8 d1)), (.int (StrChars.hi8 d1)), (.int (StrChars.lo8 d2)), (.int (StrChars.hi8 d2)), (.int (StrChars.lo8 d3)), (.int (StrChars.hi8 d3)), (.int (StrChars.lo8 d4)), (.int (StrChars.hi8 d4)), (.int (StrChars.lo8 d5)), (.int (StrChars.hi8 d5))] (.int 0)) := by
  obtain ⟨hw, hEL, SC, hzc, SF, rfm⟩ := id B
  refine Met.of (plainFor_of_name pn0) O0 ?_
  intro p e s m below meth c T0 hx hby hml hret hlk hnm hs W0
  have W0 : Wk p l e _ s m _ below meth c Z EL0 n0 [] "java/lang/StringUTF16" [] T0 0 0 h0 := W0
  have D := @tk c _ _ hby tk8
  refine Go.of (fun _ kk => castTop (ef212 m x1 (0 : Int32) (5 : Int32)) kk) ?_
  refine W0.pv hx D 0 1 1 [_, _, _, _, _, _] [.int 5] rfl ?_
  refine W0.newP hx (hw _ (mI 3 rfl)) rfl (D 1 rfl) rfl (by decide +kernel) (cap := 5) (by decide +kernel) (by decide +kernel) (by decide +kernel) (by decide +kernel) (fun T1 h1 b1 c1 eb1 gb1 W1 K1 A1 => ?_)
  have V1 : Arv Z h1 b1 c1 .byte (5 : Int32) [(.int 0), (.int 0), (.int 0), (.int 0), (.int 0)] (.int 0) := A1
  refine W1.pv hx D 3 6 9 [_, _, _, _, _, _] [.int 5, .int 0, _, .int 0, _] rfl ?_
  have k3 := (Ac.keep K1 nin0)
  refine W1.callS hx hEL (hw _ (mI 31 rfl)) (hw _ (mI 32 rfl)) (hw _ (mI 29 rfl)) (hw _ (mI 33 rfl)) (by decide +kernel) (argsL := [(.ref x1), (.int 0), (.ref b1), (.int 0), (.int 5)]) (rest := []) (rm320 B x1 b1 kc d1 d2 d3 d4 d5 c1 h1 W1.old k3 cd1 cd2 cd3 cd4 cd5 nd1 wd V1 gb1.1 (ne_of_born (Nat.le_of_eq eb1.symm) Ac.lt (Nat.le_refl _))) (allS (mI 0 rfl) all0) (by decide +kernel) (Wd := 0) (by decide +kernel) (by decide +kernel) (by decide +kernel) (allS ⟨gb1.1, (Or.inr gb1.2)⟩ all0) rfl (by rw [hml]; rfl) (lenOf pd3 rfl) rfl (by show 2 * 0 + _ ≤ _; exact Nat.le_of_eq rfl) (D 9 rfl) (fun T2 h2 v2 P2 Ws2 K2 q2 => ?_)
  have W2 := Ws2 [] all0
  obtain rfl := q2
  refine W2.pu hx D 12 [(3, false)] 3 23 [_, _, _, _, vi 1, _] [.int 5, .int 0, _] rfl ⟨trivial, (XT.ii_eq_f (by decide +kernel))⟩ ?_
  have k5 := (k3.keep K2 (ninS (ne_of_born (Nat.le_of_eq eb1.symm) Ac.lt (Nat.le_refl _)) nin0))
  refine W2.callS hx hEL (hw _ (mI 131 rfl)) (hw _ (mI 132 rfl)) (hw _ (mI 29 rfl)) (hw _ (mI 133 rfl)) (by decide +kernel) (argsL := [(.ref x1), (.int 0), (.int 5)]) (rest := []) (rm302 B x1 kc d1 d2 d3 d4 d5 h2 W2.old SA1 SH0 SL8 k5) all0 (by decide +kernel) (Wd := 0) (by decide +kernel) (by decide +kernel) (by decide +kernel) all0 rfl (by rw [hml]; rfl) (lenOf pd4 rfl) rfl (by show 2 * 0 + _ ≤ _; exact Nat.le_of_eq rfl) (D 23 rfl) (fun T4 h4 v4 P4 Ws4 K4 q4 => ?_)
  have W4 := Ws4 [] all0
  obtain ⟨r4, kc4, rfl, lr4, A4⟩ := q4
  have gr4 : n0 ≤ r4 ∧ s.heap.size ≤ r4 := ⟨Nat.le_trans W2.n0le lr4, Nat.le_trans W2.s0le lr4⟩
  refine W4.pv hx D 26 3 32 [_, _, _, _, _, _] [.int 1, _] rfl ?_
  refine W4.callS hx hEL (hw _ (mI 141 rfl)) (hw _ (mI 142 rfl)) (hw _ (mI 29 rfl)) (hw _ (mI 143 rfl)) (by decide +kernel) (argsL := [(.ref r4), (.int 1)]) (rest := []) (rm321 B r4 kc4 d1 d2 d3 d4 d5 h4 W4.old SA1 SH0 SL8 A4 cd2) all0 (by decide +kernel) (Wd := 0) (by decide +kernel) (by decide +kernel) (by decide +kernel) all0 rfl (by rw [hml]; rfl) (lenOf pd5 rfl) rfl (by show 2 * 0 + _ ≤ _; exact Nat.le_of_eq rfl) (D 32 rfl) (fun T6 h6 v6 P6 Ws6 K6 q6 => ?_)
  have W6 := Ws6 [] all0
  obtain ⟨rfl, rfl⟩ := q6
  refine W6.pu hx D 35 [(1, true)] 1 56 [_, _, _, _, _, _] [_] rfl ⟨trivial, (XT.ii_gt_t wd)⟩ ?_
  exact W6.retA hx hEL hs hlk (by decide +kernel) (by decide +kernel) hret rfl rfl (D 56 rfl) (fun S hS => ⟨r4, kc4, rfl, hs ▸ gr4.2, A4⟩)
set_option maxRecDepth 65536 in
set_option maxHeartbeats 40000000 in
theorem rm323 (B : EV l Z a0 zc fm) (x0 x1 : Addr) (kc : ClassId) (d1 d2 d3 d4 d5 : Int32) (h0 : Heap) {n0 : Nat} (O0 : Old Z n0 h0) (SA1 : sq0 Z) (SH0 : sq1 Z) (SL8 : sq2 Z) (Ac : Arv Z h0 x1 kc .char (5 : Int32) [(.int d1), (.int d2), (.int d3), (.int d4), (.int d5)] (.int 0)) (cd1 : ¬ d1 < 0 ∧ ¬ (65535 : Int32) < d1) (cd2 : ¬ d2 < 0 ∧ ¬ (65535 : Int32) < d2) (cd3 : ¬ d3 < 0 ∧ ¬ (65535 : Int32) < d3) (cd4 : ¬ d4 < 0 ∧ ¬ (65535 : Int32) < d4) (cd5 : ¬ d5 < 0 ∧ ¬ (65535 : Int32) < d5) (nd1 : ¬ (255 : Int32) < d1) (wd : (255 : Int32) < d2) (Exx : Exa Z h0 x0 "java/lang/String") (Fxv : Fld Z h0 x0 "java/lang/String" "value" "[B" .null) (Fxc : Fld Z h0 x0 "java/lang/String" "coder" "B" (.int 0)) (gxx : n0 ≤ x0) :
    Met l Z EL0 n0 (⟨"java/lang/String", "<init>", "([CIILjava/lang/Void;)V"⟩ : MethodName) jdk_42_method_149_code 6 none [] (rO 4 2 15 57) #[(.ref x0), (.ref x1), (.int 0), (.int 5), .null] h0 [x0] [x0] (fun v h' S => v = none ∧ Str Z h' x0 [d1, d2, d3, d4, d5]) := by
  obtain ⟨hw, hEL, SC, hzc, SF, rfm⟩ := id B
  refine Met.of (plainFor_of_name pn1) O0 ?_
  intro p e s m below meth c T0 hx hby hml hret hlk hnm hs W0
  have W0 : Wk p l e _ s m _ below meth c Z EL0 n0 [x0] "java/lang/String" [x0] T0 0 0 h0 := W0
  have D := @tk c _ _ hby tk9
  refine Go.of (fun _ kk => castTop (ef213 m x0 x1 (0 : Int32) (5 : Int32)) kk) ?_
  refine W0.pv hx D 0 1 1 [_, _, _, _, _, _] [_] rfl ?_
  refine W0.initO hx (hw _ (mI 23 rfl)) (hw _ (mI 24 rfl)) (hw _ (mI 25 rfl)) rfl (by rw [hml]; rfl) rfl (D 1 rfl) (by decide +kernel) (Wd := 0) (by show 2 * 0 + _ ≤ _; exact Nat.le_of_eq rfl) (by decide +kernel) (fun T1 W1 => ?_)
  refine W1.pu hx D 4 [(1, true)] 0 27 [_, _, _, _, _, _] [] rfl ⟨trivial, (XT.i0_ne_t (by decide +kernel))⟩ ?_
  refine W1.getS hx (host := "") (Or.inl (hw _ (mI 26 rfl))) Via.refl SC rfl (D 27 rfl) (fun T2 W2 => ?_)
  refine W2.pu hx D 30 [(0, false)] 3 36 [_, _, _, _, _, _] [.int 5, .int 0, _] rfl ⟨trivial, (XT.i0_eq_f hzc)⟩ ?_
  refine W2.callS hx hEL (hw _ (mI 27 rfl)) (hw _ (mI 28 rfl)) (hw _ (mI 29 rfl)) (hw _ (mI 30 rfl)) (by decide +kernel) (argsL := [(.ref x1), (.int 0), (.int 5)]) (rest := []) (rm322 B x1 kc d1 d2 d3 d4 d5 h0 W2.old SA1 SH0 SL8 Ac cd1 cd2 cd3 cd4 cd5 nd1 wd) all0 (by decide +kernel) (Wd := 0) (by decide +kernel) (by decide +kernel) (by decide +kernel) all0 rfl (by rw [hml]; rfl) (lenOf pd4 rfl) rfl (by show 2 * 0 + _ ≤ _; exact Nat.le_of_eq rfl) (D 36 rfl) (fun T3 h3 v3 P3 Ws3 K3 q3 => ?_)
  have W3 := Ws3 [] all0
  obtain ⟨r3, kc3, rfl, lr3, A3⟩ := q3
  have gr3 : n0 ≤ r3 ∧ s.heap.size ≤ r3 := ⟨Nat.le_trans W2.n0le lr3, Nat.le_trans W2.s0le lr3⟩
  refine W3.pv hx D 39 4 45 [_, _, _, _, _, _] [.int 5, _, _] rfl ?_
  refine W3.callS hx hEL (hw _ (mI 34 rfl)) (hw _ (mI 35 rfl)) (hw _ (mI 29 rfl)) (hw _ (mI 36 rfl)) (by decide +kernel) (argsL := [(.ref r3), (.int 5)]) (rest := [(.ref x0)]) (rm303 B r3 kc3 d1 d2 d3 d4 d5 h3 W3.old A3) all0 (by decide +kernel) (Wd := 1) (by decide +kernel) (by decide +kernel) (by decide +kernel) all0 rfl (by rw [hml]; rfl) (lenOf pd6 rfl) rfl (by show 2 * 0 + _ ≤ _; exact Nat.le_of_eq rfl) (D 45 rfl) (fun T4 h4 v4 P4 Ws4 K4 q4 => ?_)
  have W4 := Ws4 [] all0
  obtain ⟨rfl, rfl⟩ := q4
  show Go p e below _ (T4.setTop (mkF m 48 #[vr x0, vr x1, vi 0, vi 5, vN, vr r3] [(.int 1), (.ref x0)]))
  have k5 := (Fxc.keep K3 nin0)
  have k6 := (Exx.keep K3)
  refine W4.putF hx (host := "") (Or.inl (hw _ (mI 37 rfl))) Via.refl k5 k6 (Or.inr ⟨(hw _ (mI 5 rfl)), rfl, hnm⟩) (hw _ (mI 2 rfl)) (ty := .byte) (by decide +kernel) rfl rfl gxx (Or.inl (mI 0 rfl)) (Or.inl (mI 0 rfl)) rfl rfl (D 48 rfl) (fun T7 h7 W7 w7 => ?_)
  have k8 := (Fxv.keep K3 nin0)
  have K7 := Keep.of_wr w7
  have k9 := k8.other w7 (Or.inr (slot_ne (Or.inr (hw _ (mI 4 rfl))) (Or.inr (hw _ (mI 5 rfl))) (by decide +kernel) (t := (.array .byte)) (t' := .byte) (by decide +kernel) (by decide +kernel)))
  have k10 := k5.same w7
  refine W7.pv hx D 51 2 54 [_, _, _, _, _, _] [_, _] rfl ?_
  have k11 := (k6.keep K7)
  refine W7.putF hx (host := "") (Or.inl (hw _ (mI 38 rfl))) Via.refl k9 k11 (Or.inr ⟨(hw _ (mI 4 rfl)), rfl, hnm⟩) (hw _ (mI 2 rfl)) (ty := (.array .byte)) (by decide +kernel) rfl rfl gxx (Or.inl (mI 0 rfl)) (Or.inl (mI 0 rfl)) rfl rfl (D 54 rfl) (fun T12 h12 W12 w12 => ?_)
  have K12 := Keep.of_wr w12
  have k13 := k10.other w12 (Or.inr (slot_ne (Or.inr (hw _ (mI 5 rfl))) (Or.inr (hw _ (mI 4 rfl))) (by decide +kernel) (t := .byte) (t' := (.array .byte)) (by decide +kernel) (by decide +kernel)))
  have k14 := k9.same w12
  show Go p e below _ (T12.setTop (mkF m 57 #[vr x0, vr x1, vi 0, vi 5, vN, vr r3] []))
  have k15 := (k11.keep K12)
  have k16 := ((A3.keep K7 (ninS (ne_of_born lr3 Exx.lt (Nat.le_refl _)).symm nin0)).keep K12 (ninS (ne_of_born lr3 Exx.lt (Nat.le_refl _)).symm nin0))
  exact W12.retV hx hEL hs hlk (by decide +kernel) (by decide +kernel) hret (D 57 rfl) (fun S hS => ⟨rfl, ⟨r3, kc3, _, _, _, k15, k14, k13, k16, Or.inr ⟨rfl, rfl, rfl, d2, List.mem_of_getElem? (i := 1) rfl, wd⟩, (allSi cd1 (allSi cd2 (allSi cd3 (allSi cd4 (allSi cd5 all0i))))), Nat.le_of_ble_eq_true rfl⟩⟩)
set_option maxRecDepth 65536 in
set_option maxHeartbeats 40000000 in
theorem rm324 (B : EV l Z a0 zc fm) (x0 x1 : Addr) (kc : ClassId) (d1 d2 d3 d4 d5 : Int32) (h0 : Heap) {n0 : Nat} (O0 : Old Z n0 h0) (SA1 : sq0 Z) (SH0 : sq1 Z) (SL8 : sq2 Z) (Ac : Arv Z h0 x1 kc .char (5 : Int32) [(.int d1), (.int d2), (.int d3), (.int d4), (.int d5)] (.int 0)) (cd1 : ¬ d1 < 0 ∧ ¬ (65535 : Int32) < d1) (cd2 : ¬ d2 < 0 ∧ ¬ (65535 : Int32) < d2) (cd3 : ¬ d3 < 0 ∧ ¬ (65535 : Int32) < d3) (cd4 : ¬ d4 < 0 ∧ ¬ (65535 : Int32) < d4) (cd5 : ¬ d5 < 0 ∧ ¬ (65535 : Int32) < d5) (nd1 : ¬ (255 : Int32) < d1) (wd : (255 : Int32) < d2) (Exx : Exa Z h0 x0 "java/lang/String") (Fxv : Fld Z h0 x0 "java/lang/String" "value" "[B" .null) (Fxc : Fld Z h0 x0 "java/lang/String" "coder" "B" (.int 0)) (gxx : n0 ≤ x0) :
    Met l Z EL0 n0 (⟨"java/lang/String", "<init>", "([C)V"⟩ : MethodName) jdk_42_method_3_code 2 none [] (rO 5 2 15 74) #[(.ref x0), (.ref x1)] h0 [x0] [x0] (fun v h' S => v = none ∧ Str Z h' x0 [d1, d2, d3, d4, d5]) := by
  obtain ⟨hw, hEL, SC, hzc, SF, rfm⟩ := id B
  refine Met.of (plainFor_of_name pn1) O0 ?_
  intro p e s m below meth c T0 hx hby hml hret hlk hnm hs W0
  have W0 : Wk p l e _ s m _ below meth c Z EL0 n0 [x0] "java/lang/String" [x0] T0 0 0 h0 := W0
  have D := @tk c _ _ hby tk10
  refine Go.of (fun _ kk => castTop (ef214 m x0 x1) kk) ?_
  refine W0.pv hx D 0 4 4 [_, _] [_, .int 0, _, _] rfl ?_
  refine W0.alen hx Ac rfl rfl (D 4 rfl) ?_
  refine W0.pv hx D 5 1 6 [_, _] [.null, _, _, _, _] rfl ?_
  refine W0.callP hx hEL rfl (hw _ (mI 19 rfl)) (hw _ (mI 20 rfl)) (hw _ (mI 1 rfl)) (hw _ (mI 22 rfl)) (by decide +kernel) (a := x0) (argsL := [(.ref x1), (.int 0), (.int 5), .null]) (rest := []) (rm323 B x0 x1 kc d1 d2 d3 d4 d5 h0 W0.old SA1 SH0 SL8 Ac cd1 cd2 cd3 cd4 cd5 nd1 wd Exx Fxv Fxc gxx) (allS (mI 0 rfl) all0) (by decide +kernel) (Wd := 0) (by decide +kernel) (by decide +kernel) (by decide +kernel) (allS ⟨gxx, (Or.inl (mI 0 rfl))⟩ all0) rfl (by rw [hml]; rfl) (lenOf pd7 rfl) rfl (by show 2 * 0 + _ ≤ _; exact Nat.le_of_eq rfl) (D 6 rfl) (fun T1 h1 v1 P1 Ws1 K1 q1 => ?_)
  have W1 := Ws1 [] all0
  obtain ⟨rfl, S1⟩ := q1
  show Go p e below _ (T1.setTop (mkF m 9 #[vr x0, vr x1] []))
  exact W1.retV hx hEL hs hlk (by decide +kernel) (by decide +kernel) hret (D 9 rfl) (fun S hS => ⟨rfl, S1⟩)
set_option maxRecDepth 65536 in
set_option maxHeartbeats 40000000 in
theorem rm330 (B : EV l Z a0 zc fm) (x1 x2 : Addr) (kc : ClassId) (d1 d2 d3 d4 d5 : Int32) (kb : ClassId) (h0 : Heap) {n0 : Nat} (O0 : Old Z n0 h0) (Ac : Arv Z h0 x1 kc .char (5 : Int32) [(.int d1), (.int d2), (.int d3), (.int d4), (.int d5)] (.int 0)) (cd1 : ¬ d1 < 0 ∧ ¬ (65535 : Int32) < d1) (cd2 : ¬ d2 < 0 ∧ ¬ (65535 : Int32) < d2) (cd3 : ¬ d3 < 0 ∧ ¬ (65535 : Int32) < d3) (cd4 : ¬ d4 < 0 ∧ ¬ (65535 : Int32) < d4) (cd5 : ¬ d5 < 0 ∧ ¬ (65535 : Int32) < d5) (nd1 : ¬ (255 : Int32) < d1) (nd2 : ¬ (255 : Int32) < d2) (wd : (255 : Int32) < d3) (Ab : Arv Z h0 x2 kb .byte (5 : Int32) [(.int 0), (.int 0), (.int 0), (.int 0), (.int 0)] (.int 0)) (g2 : n0 ≤ x2) (nx : x1 ≠ x2) :
    Met l Z EL0 n0 (⟨"java/lang/StringUTF16", "compress", "([CI[BII)I"⟩ : MethodName) jdk_52_method_21_code 7 (some .int) [] (rO 0 0 0 0) #[(.ref x1), (.int 0), (.ref x2), (.int 0), (.int 5)] h0 [x2] [x2] (fun v h' S => v = some (.int 2)) := by
  obtain ⟨hw, hEL, SC, hzc, SF, rfm⟩ := id B
  refine Met.of (plainFor_of_name pn0) O0 ?_
  intro p e s m below meth c T0 hx hby hml hret hlk hnm hs W0
  have W0 : Wk p l e _ s m _ below meth c Z EL0 n0 [x2] "java/lang/StringUTF16" [x2] T0 0 0 h0 := W0
  have D := @tk c _ _ hby tk6
  refine Go.of (fun _ kk => castTop (ef210 m x1 (0 : Int32) x2 (0 : Int32) (5 : Int32)) kk) ?_
  refine W0.pu hx D 0 [(4, false)] 2 12 [_, _, _, _, _, vi 0, _] [.int 0, _] rfl ⟨trivial, (XT.ii_ge_f (by decide +kernel))⟩ ?_
  refine W0.caload hx Ac ⟨by decide, by decide⟩ (v := (.int d1)) rfl rfl rfl (D 12 rfl) ?_
  refine W0.pu hx D 13 [(3, true)] 4 31 [_, _, _, _, _, _, _] [.int (d1.toInt8.toInt32), .int 0, _] rfl ⟨trivial, (XT.ii_le_t nd1)⟩ ?_
  refine W0.stB hx Ab ⟨by decide, by decide⟩ 0 rfl (Nat.le_of_ble_eq_true rfl) g2 (Or.inl (mI 0 rfl)) (mI 0 rfl) rfl rfl (D 31 rfl) (fun T1 h1 W1 K1 A1 => ?_)
  have V1 : Arv Z h1 x2 kb .byte (5 : Int32) [(.int (d1.toInt8.toInt32)), (.int 0), (.int 0), (.int 0), (.int 0)] (.int 0) := (by rw [(nar_byte _)] at A1; exact A1)
  refine W1.pu hx D 32 [(6, false)] 2 12 [_, vi 1, _, vi 1, _, vi 1, _] [.int 1, _] rfl ⟨trivial, (XT.ii_ge_f (by decide +kernel))⟩ ?_
  have k2 := (Ac.keep K1 (ninS nx nin0))
  refine W1.caload hx k2 ⟨by decide, by decide⟩ (v := (.int d2)) rfl rfl rfl (D 12 rfl) ?_
  refine W1.pu hx D 13 [(3, true)] 4 31 [_, _, _, _, _, _, _] [.int (d2.toInt8.toInt32), .int 1, _] rfl ⟨trivial, (XT.ii_le_t nd2)⟩ ?_
  refine W1.stB hx V1 ⟨by decide, by decide⟩ 1 rfl (Nat.le_of_ble_eq_true rfl) g2 (Or.inl (mI 0 rfl)) (mI 0 rfl) rfl rfl (D 31 rfl) (fun T3 h3 W3 K3 A3 => ?_)
  have V3 : Arv Z h3 x2 kb .byte (5 : Int32) [(.int (d1.toInt8.toInt32)), (.int (d2.toInt8.toInt32)), (.int 0), (.int 0), (.int 0)] (.int 0) := (by rw [(nar_byte _)] at A3; exact A3)
  refine W3.pu hx D 32 [(6, false)] 2 12 [_, vi 2, _, vi 2, _, vi 2, _] [.int 2, _] rfl ⟨trivial, (XT.ii_ge_f (by decide +kernel))⟩ ?_
  have k4 := (k2.keep K3 (ninS nx nin0))
  refine W3.caload hx k4 ⟨by decide, by decide⟩ (v := (.int d3)) rfl rfl rfl (D 12 rfl) ?_
  refine W3.pu hx D 13 [(3, false)] 1 25 [_, _, _, _, _, _, _] [.int 2] rfl ⟨trivial, (XT.ii_le_f wd)⟩ ?_
  exact W3.retI hx hEL hs hlk (by decide +kernel) (by decide +kernel) hret (by simp) rfl (D 25 rfl) (fun S hS => rfl)
set_option maxRecDepth 65536 in
set_option maxHeartbeats 40000000 in
theorem rm331 (B : EV l Z a0 zc fm) (t : Addr) (kc : ClassId) (d1 d2 d3 d4 d5 : Int32) (h0 : Heap) {n0 : Nat} (O0 : Old Z n0 h0) (SA1 : sq0 Z) (SH0 : sq1 Z) (SL8 : sq2 Z) (Ab : Arv Z h0 t kc .byte (10 : Int32) [(.int (StrChars.lo8 d1)), (.int (StrChars.hi8 d1)), (.int (StrChars.lo8 d2)), (.int (StrChars.hi8 d2)), (.int (StrChars.lo8 d3)), (.int (StrChars.hi8 d3)), (.int (StrChars.lo8 d4)), (.int (StrChars.hi8 d4)), (.int (StrChars.lo8 d5)), (.int (StrChars.hi8 d5))] (.int 0)) (cd3 : ¬ d3 < 0 ∧ ¬ (65535 : Int32) < d3) :
    Met l Z EL0 n0 (⟨"java/lang/StringUTF16", "getChar", "([BI)C"⟩ : MethodName) jdk_52_method_5_code 2 (some .char) [] (rO 0 0 0 0) #[(.ref t), (.int 2)] h0 [] [] (fun v h' S => v = some (.int d3) ∧ h0 = h') := by
  obtain ⟨hw, hEL, SC, hzc, SF, rfm⟩ := id B
  refine Met.of (plainFor_of_name pn0) O0 ?_
  intro p e s m below meth c T0 hx hby hml hret hlk hnm hs W0
  have W0 : Wk p l e _ s m _ below meth c Z EL0 n0 [] "java/lang/StringUTF16" [] T0 0 0 h0 := W0
  have D := @tk c _ _ hby tk7
  refine Go.of (fun _ kk => castTop (ef203 m t (2 : Int32)) kk) ?_
  show Go p e below _ (T0.setTop (mkF m 0 #[vr t, vi 2] []))
  refine W0.getS hx (host := "") (Or.inl (hw _ (mI 85 rfl))) Via.refl SA1 rfl (D 0 rfl) (fun T1 W1 => ?_)
  refine W1.pu hx D 3 [(0, true)] 7 37 [_, vi 5] [.int 4, _] rfl ⟨trivial, (XT.i0_ne_t (by decide +kernel))⟩ ?_
  refine W1.baload hx Ab ⟨by decide, by decide⟩ (v := (.int (StrChars.lo8 d3))) rfl rfl rfl (D 37 rfl) ?_
  refine W1.pv hx D 38 2 42 [_, _] [.int ((StrChars.lo8 d3) &&& (255 : Int32))] rfl ?_
  refine W1.getS hx (host := "") (Or.inl (hw _ (mI 86 rfl))) Via.refl SH0 rfl (D 42 rfl) (fun T2 W2 => ?_)
  refine W2.pv hx D 45 3 48 [_, _] [.int 5, _, .int (((StrChars.lo8 d3) &&& (255 : Int32)) <<< ((0 : Int32) &&& 31))] rfl ?_
  refine W2.baload hx Ab ⟨by decide, by decide⟩ (v := (.int (StrChars.hi8 d3))) rfl rfl rfl (D 48 rfl) ?_
  refine W2.pv hx D 49 2 53 [_, _] [.int ((StrChars.hi8 d3) &&& (255 : Int32)), _] rfl ?_
  refine W2.getS hx (host := "") (Or.inl (hw _ (mI 87 rfl))) Via.refl SL8 rfl (D 53 rfl) (fun T3 W3 => ?_)
  refine W3.pv hx D 56 3 59 [_, _] [.int (((((StrChars.lo8 d3) &&& (255 : Int32)) <<< ((0 : Int32) &&& 31)) ||| (((StrChars.hi8 d3) &&& (255 : Int32)) <<< ((8 : Int32) &&& 31))).toUInt32.toUInt16.toUInt32.toInt32)] rfl ?_
  have e59 : (((((StrChars.lo8 d3) &&& (255 : Int32)) <<< ((0 : Int32) &&& 31)) ||| (((StrChars.hi8 d3) &&& (255 : Int32)) <<< ((8 : Int32) &&& 31))).toUInt32.toUInt16.toUInt32.toInt32) = d3 := StrChars.pair_says cd3.1 cd3.2
  rw [e59]
  show Go p e below _ (T3.setTop (mkF m 59 #[vr t, vi 5] [(.int d3)]))
  exact W3.retI hx hEL hs hlk (by decide +kernel) (by decide +kernel) hret (by simp) (nar_retw cd3) (D 59 rfl) (fun S hS => ⟨rfl, rfl⟩)
set_option maxRecDepth 65536 in
set_option maxHeartbeats 40000000 in
theorem rm332 (B : EV l Z a0 zc fm) (x1 : Addr) (kc : ClassId) (d1 d2 d3 d4 d5 : Int32) (h0 : Heap) {n0 : Nat} (O0 : Old Z n0 h0) (SA1 : sq0 Z) (SH0 : sq1 Z) (SL8 : sq2 Z) (Ac : Arv Z h0 x1 kc .char (5 : Int32) [(.int d1), (.int d2), (.int d3), (.int d4), (.int d5)] (.int 0)) (cd1 : ¬ d1 < 0 ∧ ¬ (65535 : Int32) < d1) (cd2 : ¬ d2 < 0 ∧ ¬ (65535 : Int32) < d2) (cd3 : ¬ d3 < 0 ∧ ¬ (65535 : Int32) < d3) (cd4 : ¬ d4 < 0 ∧ ¬ (65535 : Int32) < d4) (cd5 : ¬ d5 < 0 ∧ ¬ (65535 : Int32) < d5) (nd1 : ¬ (255 : Int32) < d1) (nd2 : ¬ (255 : Int32) < d2) (wd : (255 : Int32) < d3) :
    Met l Z EL0 n0 (⟨"java/lang/StringUTF16", "compress", "([CII)[B"⟩ : MethodName) jdk_52_method_16_code 6 (some (.array .byte)) [] (rO 3 2 15 40) #[(.ref x1), (.int 0), (.int 5)] h0 [] [] (fun v h' S => ∃ (r : Addr) (kc : ClassId), v = some (.ref r) ∧ h0.size ≤ r ∧ Arv Z h' r kc .byte (10 : Int32) [(.int (StrChars.lo8 d1)), (.int (StrChars.hi8 d1)), (.int (StrChars.lo8 d2)), (.int (StrChars.hi8 d2)), (.int (StrChars.lo8 d3)), (.int (StrChars.hi8 d3)), (.int (StrChars.lo8 d4)), (.int (StrChars.hi8 d4)), (.int (StrChars.lo8 d5)), (.int (StrChars.hi8 d5))] (.int 0)) := by
  obtain ⟨hw, hEL, SC, hzc, SF, rfm⟩ := id B
  refine Met.of (plainFor_of_name pn0) O0 ?_
  intro p e s m below meth c T0 hx hby hml hret hlk hnm hs W0
  have W0 : Wk p l e _ s m _ below meth c Z EL0 n0 [] "java/lang/StringUTF16" [] T0 0 0 h0 := W0
  have D := @tk c _ _ hby tk8
  refine Go.of (fun _ kk => castTop (ef212 m x1 (0 : Int32) (5 : Int32)) kk) ?_
  refine W0.pv hx D 0 1 1 [_, _, _, _, _, _] [.int 5] rfl ?_
  refine W0.newP hx (hw _ (mI 3 rfl)) rfl (D 1 rfl) rfl (by decide +kernel) (cap := 5) (by decide +kernel) (by decide +kernel) (by decide +kernel) (by decide +kernel) (fun T1 h1 b1 c1 eb1 gb1 W1 K1 A1 => ?_)
  have V1 : Arv Z h1 b1 c1 .byte (5 : Int32) [(.int 0), (.int 0), (.int 0), (.int 0), (.int 0)] (.int 0) := A1
  refine W1.pv hx D 3 6 9 [_, _, _, _, _, _] [.int 5, .int 0, _, .int 0, _] rfl ?_
  have k3 := (Ac.keep K1 nin0)
  refine W1.callS hx hEL (hw _ (mI 31 rfl)) (hw _ (mI 32 rfl)) (hw _ (mI 29 rfl)) (hw _ (mI 33 rfl)) (by decide +kernel) (argsL := [(.ref x1), (.int 0), (.ref b1), (.int 0), (.int 5)]) (rest := []) (rm330 B x1 b1 kc d1 d2 d3 d4 d5 c1 h1 W1.old k3 cd1 cd2 cd3 cd4 cd5 nd1 nd2 wd V1 gb1.1 (ne_of_born (Nat.le_of_eq eb1.symm) Ac.lt (Nat.le_refl _))) (allS (mI 0 rfl) all0) (by decide +kernel) (Wd := 0) (by decide +kernel) (by decide +kernel) (by decide +kernel) (allS ⟨gb1.1, (Or.inr gb1.2)⟩ all0) rfl (by rw [hml]; rfl) (lenOf pd3 rfl) rfl (by show 2 * 0 + _ ≤ _; exact Nat.le_of_eq rfl) (D 9 rfl) (fun T2 h2 v2 P2 Ws2 K2 q2 => ?_)
  have W2 := Ws2 [] all0
  obtain rfl := q2
  refine W2.pu hx D 12 [(3, false)] 3 23 [_, _, _, _, vi 2, _] [.int 5, .int 0, _] rfl ⟨trivial, (XT.ii_eq_f (by decide +kernel))⟩ ?_
  have k5 := (k3.keep K2 (ninS (ne_of_born (Nat.le_of_eq eb1.symm) Ac.lt (Nat.le_refl _)) nin0))
  refine W2.callS hx hEL (hw _ (mI 131 rfl)) (hw _ (mI 132 rfl)) (hw _ (mI 29 rfl)) (hw _ (mI 133 rfl)) (by decide +kernel) (argsL := [(.ref x1), (.int 0), (.int 5)]) (rest := []) (rm302 B x1 kc d1 d2 d3 d4 d5 h2 W2.old SA1 SH0 SL8 k5) all0 (by decide +kernel) (Wd := 0) (by decide +kernel) (by decide +kernel) (by decide +kernel) all0 rfl (by rw [hml]; rfl) (lenOf pd4 rfl) rfl (by show 2 * 0 + _ ≤ _; exact Nat.le_of_eq rfl) (D 23 rfl) (fun T4 h4 v4 P4 Ws4 K4 q4 => ?_)
  have W4 := Ws4 [] all0
  obtain ⟨r4, kc4, rfl, lr4, A4⟩ := q4
  have gr4 : n0 ≤ r4 ∧ s.heap.size ≤ r4 := ⟨Nat.le_trans W2.n0le lr4, Nat.le_trans W2.s0le lr4⟩
  refine W4.pv hx D 26 3 32 [_, _, _, _, _, _] [.int 2, _] rfl ?_
  refine W4.callS hx hEL (hw _ (mI 141 rfl)) (hw _ (mI 142 rfl)) (hw _ (mI 29 rfl)) (hw _ (mI 143 rfl)) (by decide +kernel) (argsL := [(.ref r4), (.int 2)]) (rest := []) (rm331 B r4 kc4 d1 d2 d3 d4 d5 h4 W4.old SA1 SH0 SL8 A4 cd3) all0 (by decide +kernel) (Wd := 0) (by decide +kernel) (by decide +kernel) (by decide +kernel) all0 rfl (by rw [hml]; rfl) (lenOf pd5 rfl) rfl (by show 2 * 0 + _ ≤ _; exact Nat.le_of_eq rfl) (D 32 rfl) (fun T6 h6 v6 P6 Ws6 K6 q6 => ?_)
  have W6 := Ws6 [] all0
  obtain ⟨rfl, rfl⟩ := q6
  refine W6.pu hx D 35 [(1, true)] 1 56 [_, _, _, _, _, _] [_] rfl ⟨trivial, (XT.ii_gt_t wd)⟩ ?_
  exact W6.retA hx hEL hs hlk (by decide +kernel) (by decide +kernel) hret rfl rfl (D 56 rfl) (fun S hS => ⟨r4, kc4, rfl, hs ▸ gr4.2, A4⟩)
set_option maxRecDepth 65536 in
set_option maxHeartbeats 40000000 in
theorem rm333 (B : EV l Z a0 zc fm) (x0 x1 : Addr) (kc : ClassId) (d1 d2 d3 d4 d5 : Int32) (h0 : Heap) {n0 : Nat} (O0 : Old Z n0 h0) (SA1 : sq0 Z) (SH0 : sq1 Z) (SL8 : sq2 Z) (Ac : Arv Z h0 x1 kc .char (5 : Int32) [(.int d1), (.int d2), (.int d3), (.int d4), (.int d5)] (.int 0)) (cd1 : ¬ d1 < 0 ∧ ¬ (65535 : Int32) < d1) (cd2 : ¬ d2 < 0 ∧ ¬ (65535 : Int32) < d2) (cd3 : ¬ d3 < 0 ∧ ¬ (65535 : Int32) < d3) (cd4 : ¬ d4 < 0 ∧ ¬ (65535 : Int32) < d4) (cd5 : ¬ d5 < 0 ∧ ¬ (65535 : Int32) < d5) (nd1 : ¬ (255 : Int32) < d1) (nd2 : ¬ (255 : Int32) < d2) (wd : (255 : Int32) < d3) (Exx : Exa Z h0 x0 "java/lang/String") (Fxv : Fld Z h0 x0 "java/lang/String" "value" "[B" .null) (Fxc : Fld Z h0 x0 "java/lang/String" "coder" "B" (.int 0)) (gxx : n0 ≤ x0) :
    Met l Z EL0 n0 (⟨"java/lang/String", "<init>", "([CIILjava/lang/Void;)V"⟩ : MethodName) jdk_42_method_149_code 6 none [] (rO 4 2 15 57) #[(.ref x0), (.ref x1), (.int 0), (.int 5), .null] h0 [x0] [x0] (fun v h' S => v = none ∧ Str Z h' x0 [d1, d2, d3, d4, d5]) := by
  obtain ⟨hw, hEL, SC, hzc, SF, rfm⟩ := id B
  refine Met.of (plainFor_of_name pn1) O0 ?_
  intro p e s m below meth c T0 hx hby hml hret hlk hnm hs W0
  have W0 : Wk p l e _ s m _ below meth c Z EL0 n0 [x0] "java/lang/String" [x0] T0 0 0 h0 := W0
  have D := @tk c _ _ hby tk9
  refine Go.of (fun _ kk => castTop (ef213 m x0 x1 (0 : Int32) (5 : Int32)) kk) ?_
  refine W0.pv hx D 0 1 1 [_, _, _, _, _, _] [_] rfl ?_
  refine W0.initO hx (hw _ (mI 23 rfl)) (hw _ (mI 24 rfl)) (hw _ (mI 25 rfl)) rfl (by rw [hml]; rfl) rfl (D 1 rfl) (by decide +kernel) (Wd := 0) (by show 2 * 0 + _ ≤ _; exact Nat.le_of_eq rfl) (by decide +kernel) (fun T1 W1 => ?_)
  refine W1.pu hx D 4 [(1, true)] 0 27 [_, _, _, _, _, _] [] rfl ⟨trivial, (XT.i0_ne_t (by decide +kernel))⟩ ?_
  refine W1.getS hx (host := "") (Or.inl (hw _ (mI 26 rfl))) Via.refl SC rfl (D 27 rfl) (fun T2 W2 => ?_)
  refine W2.pu hx D 30 [(0, false)] 3 36 [_, _, _, _, _, _] [.int 5, .int 0, _] rfl ⟨trivial, (XT.i0_eq_f hzc)⟩ ?_
  refine W2.callS hx hEL (hw _ (mI 27 rfl)) (hw _ (mI 28 rfl)) (hw _ (mI 29 rfl)) (hw _ (mI 30 rfl)) (by decide +kernel) (argsL := [(.ref x1), (.int 0), (.int 5)]) (rest := []) (rm332 B x1 kc d1 d2 d3 d4 d5 h0 W2.old SA1 SH0 SL8 Ac cd1 cd2 cd3 cd4 cd5 nd1 nd2 wd) all0 (by decide +kernel) (Wd := 0) (by decide +kernel) (by decide +kernel) (by decide +kernel) all0 rfl (by rw [hml]; rfl) (lenOf pd4 rfl) rfl (by show 2 * 0 + _ ≤ _; exact Nat.le_of_eq rfl) (D 36 rfl) (fun T3 h3 v3 P3 Ws3 K3 q3 => ?_)
  have W3 := Ws3 [] all0
  obtain ⟨r3, kc3, rfl, lr3, A3⟩ := q3
  have gr3 : n0 ≤ r3 ∧ s.heap.size ≤ r3 := ⟨Nat.le_trans W2.n0le lr3, Nat.le_trans W2.s0le lr3⟩
  refine W3.pv hx D 39 4 45 [_, _, _, _, _, _] [.int 5, _, _] rfl ?_
  refine W3.callS hx hEL (hw _ (mI 34 rfl)) (hw _ (mI 35 rfl)) (hw _ (mI 29 rfl)) (hw _ (mI 36 rfl)) (by decide +kernel) (argsL := [(.ref r3), (.int 5)]) (rest := [(.ref x0)]) (rm303 B r3 kc3 d1 d2 d3 d4 d5 h3 W3.old A3) all0 (by decide +kernel) (Wd := 1) (by decide +kernel) (by decide +kernel) (by decide +kernel) all0 rfl (by rw [hml]; rfl) (lenOf pd6 rfl) rfl (by show 2 * 0 + _ ≤ _; exact Nat.le_of_eq rfl) (D 45 rfl) (fun T4 h4 v4 P4 Ws4 K4 q4 => ?_)
  have W4 := Ws4 [] all0
  obtain ⟨rfl, rfl⟩ := q4
  show Go p e below _ (T4.setTop (mkF m 48 #[vr x0, vr x1, vi 0, vi 5, vN, vr r3] [(.int 1), (.ref x0)]))
  have k5 := (Fxc.keep K3 nin0)
  have k6 := (Exx.keep K3)
  refine W4.putF hx (host := "") (Or.inl (hw _ (mI 37 rfl))) Via.refl k5 k6 (Or.inr ⟨(hw _ (mI 5 rfl)), rfl, hnm⟩) (hw _ (mI 2 rfl)) (ty := .byte) (by decide +kernel) rfl rfl gxx (Or.inl (mI 0 rfl)) (Or.inl (mI 0 rfl)) rfl rfl (D 48 rfl) (fun T7 h7 W7 w7 => ?_)
  have k8 := (Fxv.keep K3 nin0)
  have K7 := Keep.of_wr w7
  have k9 := k8.other w7 (Or.inr (slot_ne (Or.inr (hw _ (mI 4 rfl))) (Or.inr (hw _ (mI 5 rfl))) (by decide +kernel) (t := (.array .byte)) (t' := .byte) (by decide +kernel) (by decide +kernel)))
  have k10 := k5.same w7
  refine W7.pv hx D 51 2 54 [_, _, _, _, _, _] [_, _] rfl ?_
  have k11 := (k6.keep K7)
  refine W7.putF hx (host := "") (Or.inl (hw _ (mI 38 rfl))) Via.refl k9 k11 (Or.inr ⟨(hw _ (mI 4 rfl)), rfl, hnm⟩) (hw _ (mI 2 rfl)) (ty := (.array .byte)) (by decide +kernel) rfl rfl gxx (Or.inl (mI 0 rfl)) (Or.inl (mI 0 rfl)) rfl rfl (D 54 rfl) (fun T12 h12 W12 w12 => ?_)
  have K12 := Keep.of_wr w12
  have k13 := k10.other w12 (Or.inr (slot_ne (Or.inr (hw _ (mI 5 rfl))) (Or.inr (hw _ (mI 4 rfl))) (by decide +kernel) (t := .byte) (t' := (.array .byte)) (by decide +kernel) (by decide +kernel)))
  have k14 := k9.same w12
  show Go p e below _ (T12.setTop (mkF m 57 #[vr x0, vr x1, vi 0, vi 5, vN, vr r3] []))
  have k15 := (k11.keep K12)
  have k16 := ((A3.keep K7 (ninS (ne_of_born lr3 Exx.lt (Nat.le_refl _)).symm nin0)).keep K12 (ninS (ne_of_born lr3 Exx.lt (Nat.le_refl _)).symm nin0))
  exact W12.retV hx hEL hs hlk (by decide +kernel) (by decide +kernel) hret (D 57 rfl) (fun S hS => ⟨rfl, ⟨r3, kc3, _, _, _, k15, k14, k13, k16, Or.inr ⟨rfl, rfl, rfl, d3, List.mem_of_getElem? (i := 2) rfl, wd⟩, (allSi cd1 (allSi cd2 (allSi cd3 (allSi cd4 (allSi cd5 all0i))))), Nat.le_of_ble_eq_true rfl⟩⟩)
set_option maxRecDepth 65536 in
set_option maxHeartbeats 40000000 in
theorem rm334 (B : EV l Z a0 zc fm) (x0 x1 : Addr) (kc : ClassId) (d1 d2 d3 d4 d5 : Int32) (h0 : Heap) {n0 : Nat} (O0 : Old Z n0 h0) (SA1 : sq0 Z) (SH0 : sq1 Z) (SL8 : sq2 Z) (Ac : Arv Z h0 x1 kc .char (5 : Int32) [(.int d1), (.int d2), (.int d3), (.int d4), (.int d5)] (.int 0)) (cd1 : ¬ d1 < 0 ∧ ¬ (65535 : Int32) < d1) (cd2 : ¬ d2 < 0 ∧ ¬ (65535 : Int32) < d2) (cd3 : ¬ d3 < 0 ∧ ¬ (65535 : Int32) < d3) (cd4 : ¬ d4 < 0 ∧ ¬ (65535 : Int32) < d4) (cd5 : ¬ d5 < 0 ∧ ¬ (65535 : Int32) < d5) (nd1 : ¬ (255 : Int32) < d1) (nd2 : ¬ (255 : Int32) < d2) (wd : (255 : Int32) < d3) (Exx : Exa Z h0 x0 "java/lang/String") (Fxv : Fld Z h0 x0 "java/lang/String" "value" "[B" .null) (Fxc : Fld Z h0 x0 "java/lang/String" "coder" "B" (.int 0)) (gxx : n0 ≤ x0) :
    Met l Z EL0 n0 (⟨"java/lang/String", "<init>", "([C)V"⟩ : MethodName) jdk_42_method_3_code 2 none [] (rO 5 2 15 74) #[(.ref x0), (.ref x1)] h0 [x0] [x0] (fun v h' S => v = none ∧ Str Z h' x0 [d1, d2, d3, d4, d5]) := by
  obtain ⟨hw, hEL, SC, hzc, SF, rfm⟩ := id B
  refine Met.of (plainFor_of_name pn1) O0 ?_
  intro p e s m below meth c T0 hx hby hml hret hlk hnm hs W0
  have W0 : Wk p l e _ s m _ below meth c Z EL0 n0 [x0] "java/lang/String" [x0] T0 0 0 h0 := W0
  have D := @tk c _ _ hby tk10
  refine Go.of (fun _ kk => castTop (ef214 m x0 x1) kk) ?_
  refine W0.pv hx D 0 4 4 [_, _] [_, .int 0, _, _] rfl ?_
  refine W0.alen hx Ac rfl rfl (D 4 rfl) ?_
  refine W0.pv hx D 5 1 6 [_, _] [.null, _, _, _, _] rfl ?_
  refine W0.callP hx hEL rfl (hw _ (mI 19 rfl)) (hw _ (mI 20 rfl)) (hw _ (mI 1 rfl)) (hw _ (mI 22 rfl)) (by decide +kernel) (a := x0) (argsL := [(.ref x1), (.int 0), (.int 5), .null]) (rest := []) (rm333 B x0 x1 kc d1 d2 d3 d4 d5 h0 W0.old SA1 SH0 SL8 Ac cd1 cd2 cd3 cd4 cd5 nd1 nd2 wd Exx Fxv Fxc gxx) (allS (mI 0 rfl) all0) (by decide +kernel) (Wd := 0) (by decide +kernel) (by decide +kernel) (by decide +kernel) (allS ⟨gxx, (Or.inl (mI 0 rfl))⟩ all0) rfl (by rw [hml]; rfl) (lenOf pd7 rfl) rfl (by show 2 * 0 + _ ≤ _; exact Nat.le_of_eq rfl) (D 6 rfl) (fun T1 h1 v1 P1 Ws1 K1 q1 => ?_)
  have W1 := Ws1 [] all0
  obtain ⟨rfl, S1⟩ := q1
  show Go p e below _ (T1.setTop (mkF m 9 #[vr x0, vr x1] []))
  exact W1.retV hx hEL hs hlk (by decide +kernel) (by decide +kernel) hret (D 9 rfl) (fun S hS => ⟨rfl, S1⟩)
set_option maxRecDepth 65536 in
set_option maxHeartbeats 40000000 in
theorem rm340 (B : EV l Z a0 zc fm) (x1 x2 : Addr) (kc : ClassId) (d1 d2 d3 d4 d5 : Int32) (kb : ClassId) (h0 : Heap) {n0 : Nat} (O0 : Old Z n0 h0) (Ac : Arv Z h0 x1 kc .char (5 : Int32) [(.int d1), (.int d2), (.int d3), (.int d4), (.int d5)] (.int 0)) (cd1 : ¬ d1 < 0 ∧ ¬ (65535 : Int32) < d1) (cd2 : ¬ d2 < 0 ∧ ¬ (65535 : Int32) < d2) (cd3 : ¬ d3 < 0 ∧ ¬ (65535 : Int32) < d3) (cd4 : ¬ d4 < 0 ∧ ¬ (65535 : Int32) < d4) (cd5 : ¬ d5 < 0 ∧ ¬ (65535 : Int32) < d5) (nd1 : ¬ (255 : Int32) < d1) (nd2 : ¬ (255 : Int32) < d2) (nd3 : ¬ (255 : Int32) < d3) (wd : (255 : Int32) < d4) (Ab : Arv Z h0 x2 kb .byte (5 : Int32) [(.int 0), (.int 0), (.int 0), (.int 0), (.int 0)] (.int 0)) (g2 : n0 ≤ x2) (nx : x1 ≠ x2) :
    Met l Z EL0 n0 (⟨"java/lang/StringUTF16", "compress", "([CI[BII)I"⟩ : MethodName) jdk_52_method_21_code 7 (some .int) [] (rO 0 0 0 0) #[(.ref x1), (.int 0), (.ref x2), (.int 0), (.int 5)] h0 [x2] [x2] (fun v h' S => v = some (.int 3)) := by
  obtain ⟨hw, hEL, SC, hzc, SF, rfm⟩ := id B
  refine Met.of (plainFor_of_name pn0) O0 ?_
  intro p e s m below meth c T0 hx hby hml hret hlk hnm hs W0
  have W0 : Wk p l e _ s m _ below meth c Z EL0 n0 [x2] "java/lang/StringUTF16" [x2] T0 0 0 h0 := W0
  have D := @tk c _ _ hby tk6
  refine Go.of (fun _ kk => castTop (ef210 m x1 (0 : Int32) x2 (0 : Int32) (5 : Int32)) kk) ?_
  refine W0.pu hx D 0 [(4, false)] 2 12 [_, _, _, _, _, vi 0, _] [.int 0, _] rfl ⟨trivial, (XT.ii_ge_f (by decide +kernel))⟩ ?_
  refine W0.caload hx Ac ⟨by decide, by decide⟩ (v := (.int d1)) rfl rfl rfl (D 12 rfl) ?_
  refine W0.pu hx D 13 [(3, true)] 4 31 [_, _, _, _, _, _, _] [.int (d1.toInt8.toInt32), .int 0, _] rfl ⟨trivial, (XT.ii_le_t nd1)⟩ ?_
  refine W0.stB hx Ab ⟨by decide, by decide⟩ 0 rfl (Nat.le_of_ble_eq_true rfl) g2 (Or.inl (mI 0 rfl)) (mI 0 rfl) rfl rfl (D 31 rfl) (fun T1 h1 W1 K1 A1 => ?_)
  have V1 : Arv Z h1 x2 kb .byte (5 : Int32) [(.int (d1.toInt8.toInt32)), (.int 0), (.int 0), (.int 0), (.int 0)] (.int 0) := (by rw [(nar_byte _)] at A1; exact A1)
  refine W1.pu hx D 32 [(6, false)] 2 12 [_, vi 1, _, vi 1, _, vi 1, _] [.int 1, _] rfl ⟨trivial, (XT.ii_ge_f (by decide +kernel))⟩ ?_
  have k2 := (Ac.keep K1 (ninS nx nin0))
  refine W1.caload hx k2 ⟨by decide, by decide⟩ (v := (.int d2)) rfl rfl rfl (D 12 rfl) ?_
  refine W1.pu hx D 13 [(3, true)] 4 31 [_, _, _, _, _, _, _] [.int (d2.toInt8.toInt32), .int 1, _] rfl ⟨trivial, (XT.ii_le_t nd2)⟩ ?_
  refine W1.stB hx V1 ⟨by decide, by decide⟩ 1 rfl (Nat.le_of_ble_eq_true rfl) g2 (Or.inl (mI 0 rfl)) (mI 0 rfl) rfl rfl (D 31 rfl) (fun T3 h3 W3 K3 A3 => ?_)
  have V3 : Arv Z h3 x2 kb .byte (5 : Int32) [(.int (d1.toInt8.toInt32)), (.int (d2.toInt8.toInt32)), (.int 0), (.int 0), (.int 0)] (.int 0) := (by rw [(nar_byte _)] at A3; exact A3)
  refine W3.pu hx D 32 [(6, false)] 2 12 [_, vi 2, _, vi 2, _, vi 2, _] [.int 2, _] rfl ⟨trivial, (XT.ii_ge_f (by decide +kernel))⟩ ?_
  have k4 := (k2.keep K3 (ninS nx nin0))
  refine W3.caload hx k4 ⟨by decide, by decide⟩ (v := (.int d3)) rfl rfl rfl (D 12 rfl) ?_
  refine W3.pu hx D 13 [(3, true)] 4 31 [_, _, _, _, _, _, _] [.int (d3.toInt8.toInt32), .int 2, _] rfl ⟨trivial, (XT.ii_le_t nd3)⟩ ?_
  refine W3.stB hx V3 ⟨by decide, by decide⟩ 2 rfl (Nat.le_of_ble_eq_true rfl) g2 (Or.inl (mI 0 rfl)) (mI 0 rfl) rfl rfl (D 31 rfl) (fun T5 h5 W5 K5 A5 => ?_)
  have V5 : Arv Z h5 x2 kb .byte (5 : Int32) [(.int (d1.toInt8.toInt32)), (.int (d2.toInt8.toInt32)), (.int (d3.toInt8.toInt32)), (.int 0), (.int 0)] (.int 0) := (by rw [(nar_byte _)] at A5; exact A5)
  refine W5.pu hx D 32 [(6, false)] 2 12 [_, vi 3, _, vi 3, _, vi 3, _] [.int 3, _] rfl ⟨trivial, (XT.ii_ge_f (by decide +kernel))⟩ ?_
  have k6 := (k4.keep K5 (ninS nx nin0))
  refine W5.caload hx k6 ⟨by decide, by decide⟩ (v := (.int d4)) rfl rfl rfl (D 12 rfl) ?_
  refine W5.pu hx D 13 [(3, false)] 1 25 [_, _, _, _, _, _, _] [.int 3] rfl ⟨trivial, (XT.ii_le_f wd)⟩ ?_
  exact W5.retI hx hEL hs hlk (by decide +kernel) (by decide +kernel) hret (by simp) rfl (D 25 rfl) (fun S hS => rfl)
set_option maxRecDepth 65536 in
set_option maxHeartbeats 40000000 in
theorem rm341 (B : EV l Z a0 zc fm) (t : Addr) (kc : ClassId) (d1 d2 d3 d4 d5 : Int32) (h0 : Heap) {n0 : Nat} (O0 : Old Z n0 h0) (SA1 : sq0 Z) (SH0 : sq1 Z) (SL8 : sq2 Z) (Ab : Arv Z h0 t kc .byte (10 : Int32) [(.int (StrChars.lo8 d1)), (.int (StrChars.hi8 d1)), (.int (StrChars.lo8 d2)), (.int (StrChars.hi8 d2)), (.int (StrChars.lo8 d3)), (.int (StrChars.hi8 d3)), (.int (StrChars.lo8 d4)), (.int (StrChars.hi8 d4)), (.int (StrChars.lo8 d5)), (.int (StrChars.hi8 d5))] (.int 0)) (cd4 : ¬ d4 < 0 ∧ ¬ (65535 : Int32) < d4) :
    Met l Z EL0 n0 (⟨"java/lang/StringUTF16", "getChar", "([BI)C"⟩ : MethodName) jdk_52_method_5_code 2 (some .char) [] (rO 0 0 0 0) #[(.ref t), (.int 3)] h0 [] [] (fun v h' S => v = some (.int d4) ∧ h0 = h') := by
  obtain ⟨hw, hEL, SC, hzc, SF, rfm⟩ := id B
  refine Met.of (plainFor_of_name pn0) O0 ?_
  intro p e s m below meth c T0 hx hby hml hret hlk hnm hs W0
  have W0 : Wk p l e _ s m _ below meth c Z EL0 n0 [] "java/lang/StringUTF16" [] T0 0 0 h0 := W0
  have D := @tk c _ _ hby tk7
  refine Go.of (fun _ kk => castTop (ef203 m t (3 : Int32)) kk) ?_
  show Go p e below _ (T0.setTop (mkF m 0 #[vr t, vi 3] []))
  refine W0.getS hx (host := "") (Or.inl (hw _ (mI 85 rfl))) Via.refl SA1 rfl (D 0 rfl) (fun T1 W1 => ?_)
  refine W1.pu hx D 3 [(0, true)] 7 37 [_, vi 7] [.int 6, _] rfl ⟨trivial, (XT.i0_ne_t (by decide +kernel))⟩ ?_
  refine W1.baload hx Ab ⟨by decide, by decide⟩ (v := (.int (StrChars.lo8 d4))) rfl rfl rfl (D 37 rfl) ?_
  refine W1.pv hx D 38 2 42 [_, _] [.int ((StrChars.lo8 d4) &&& (255 : Int32))] rfl ?_
  refine W1.getS hx (host := "") (Or.inl (hw _ (mI 86 rfl))) Via.refl SH0 rfl (D 42 rfl) (fun T2 W2 => ?_)
  refine W2.pv hx D 45 3 48 [_, _] [.int 7, _, .int (((StrChars.lo8 d4) &&& (255 : Int32)) <<< ((0 : Int32) &&& 31))] rfl ?_
  refine W2.baload hx Ab ⟨by decide, by decide⟩ (v := (.int (StrChars.hi8 d4))) rfl rfl rfl (D 48 rfl) ?_
  refine W2.pv hx D 49 2 53 [_, _] [.int ((StrChars.hi8 d4) &&& (255 : Int32)), _] rfl ?_
  refine W2.getS hx (host := "") (Or.inl (hw _ (mI 87 rfl))) Via.refl SL8 rfl (D 53 rfl) (fun T3 W3 => ?_)
  refine W3.pv hx D 56 3 59 [_, _] [.int (((((StrChars.lo8 d4) &&& (255 : Int32)) <<< ((0 : Int32) &&& 31)) ||| (((StrChars.hi8 d4) &&& (255 : Int32)) <<< ((8 : Int32) &&& 31))).toUInt32.toUInt16.toUInt32.toInt32)] rfl ?_
  have e59 : (((((StrChars.lo8 d4) &&& (255 : Int32)) <<< ((0 : Int32) &&& 31)) ||| (((StrChars.hi8 d4) &&& (255 : Int32)) <<< ((8 : Int32) &&& 31))).toUInt32.toUInt16.toUInt32.toInt32) = d4 := StrChars.pair_says cd4.1 cd4.2
  rw [e59]
  show Go p e below _ (T3.setTop (mkF m 59 #[vr t, vi 7] [(.int d4)]))
  exact W3.retI hx hEL hs hlk (by decide +kernel) (by decide +kernel) hret (by simp) (nar_retw cd4) (D 59 rfl) (fun S hS => ⟨rfl, rfl⟩)
set_option maxRecDepth 65536 in
set_option maxHeartbeats 40000000 in
theorem rm342 (B : EV l Z a0 zc fm) (x1 : Addr) (kc : ClassId) (d1 d2 d3 d4 d5 : Int32) (h0 : Heap) {n0 : Nat} (O0 : Old Z n0 h0) (SA1 : sq0 Z) (SH0 : sq1 Z) (SL8 : sq2 Z) (Ac : Arv Z h0 x1 kc .char (5 : Int32) [(.int d1), (.int d2), (.int d3), (.int d4), (.int d5)] (.int 0)) (cd1 : ¬ d1 < 0 ∧ ¬ (65535 : Int32) < d1) (cd2 : ¬ d2 < 0 ∧ ¬ (65535 : Int32) < d2) (cd3 : ¬ d3 < 0 ∧ ¬ (65535 : Int32) < d3) (cd4 : ¬ d4 < 0 ∧ ¬ (65535 : Int32) < d4) (cd5 : ¬ d5 < 0 ∧ ¬ (65535 : Int32) < d5) (nd1 : ¬ (255 : Int32) < d1) (nd2 : ¬ (255 : Int32) < d2) (nd3 : ¬ (255 : Int32) < d3) (wd : (255 : Int32) < d4) :
    Met l Z EL0 n0 (⟨"java/lang/StringUTF16", "compress", "([CII)[B"⟩ : MethodName) jdk_52_method_16_code 6 (some (.array .byte)) [] (rO 3 2 15 40) #[(.ref x1), (.int 0), (.int 5)] h0 [] [] (fun v h' S => ∃ (r : Addr) (kc : ClassId), v = some (.ref r) ∧ h0.size ≤ r ∧ Arv Z h' r kc .byte (10 : Int32) [(.int (StrChars.lo8 d1)), (.int (StrChars.hi8 d1)), (.int (StrChars.lo8 d2)), (.int (StrChars.hi8 d2)), (.int (StrChars.lo8 d3)), (.int (StrChars.hi8 d3)), (.int (StrChars.lo8 d4)), (.int (StrChars.hi8 d4)), (.int (StrChars.lo8 d5)), (.int (StrChars.hi8 d5))] (.int 0)) := by
  obtain ⟨hw, hEL, SC, hzc, SF, rfm⟩ := id B
  refine Met.of (plainFor_of_name pn0) O0 ?_
  intro p e s m below meth c T0 hx hby hml hret hlk hnm hs W0
  have W0 : Wk p l e _ s m _ below meth c Z EL0 n0 [] "java/lang/StringUTF16" [] T0 0 0 h0 := W0
  have D := @tk c _ _ hby tk8
  refine Go.of (fun _ kk => castTop (ef212 m x1 (0 : Int32) (5 : Int32)) kk) ?_
  refine W0.pv hx D 0 1 1 [_, _, _, _, _, _] [.int 5] rfl ?_
  refine W0.newP hx (hw _ (mI 3 rfl)) rfl (D 1 rfl) rfl (by decide +kernel) (cap := 5) (by decide +kernel) (by decide +kernel) (by decide +kernel) (by decide +kernel) (fun T1 h1 b1 c1 eb1 gb1 W1 K1 A1 => ?_)
  have V1 : Arv Z h1 b1 c1 .byte (5 : Int32) [(.int 0), (.int 0), (.int 0), (.int 0), (.int 0)] (.int 0) := A1
  refine W1.pv hx D 3 6 9 [_, _, _, _, _, _] [.int 5, .int 0, _, .int 0, _] rfl ?_
  have k3 := (Ac.keep K1 nin0)
  refine W1.callS hx hEL (hw _ (mI 31 rfl)) (hw _ (mI 32 rfl)) (hw _ (mI 29 rfl)) (hw _ (mI 33 rfl)) (by decide +kernel) (argsL := [(.ref x1), (.int 0), (.ref b1), (.int 0), (.int 5)]) (rest := []) (rm340 B x1 b1 kc d1 d2 d3 d4 d5 c1 h1 W1.old k3 cd1 cd2 cd3 cd4 cd5 nd1 nd2 nd3 wd V1 gb1.1 (ne_of_born (Nat.le_of_eq eb1.symm) Ac.lt (Nat.le_refl _))) (allS (mI 0 rfl) all0) (by decide +kernel) (Wd := 0) (by decide +kernel) (by decide +kernel) (by decide +kernel) (allS ⟨gb1.1, (Or.inr gb1.2)⟩ all0) rfl (by rw [hml]; rfl) (lenOf pd3 rfl) rfl (by show 2 * 0 + _ ≤ _; exact Nat.le_of_eq rfl) (D 9 rfl) (fun T2 h2 v2 P2 Ws2 K2 q2 => ?_)
  have W2 := Ws2 [] all0
  obtain rfl := q2
  refine W2.pu hx D 12 [(3, false)] 3 23 [_, _, _, _, vi 3, _] [.int 5, .int 0, _] rfl ⟨trivial, (XT.ii_eq_f (by decide +kernel))⟩ ?_
  have k5 := (k3.keep K2 (ninS (ne_of_born (Nat.le_of_eq eb1.symm) Ac.lt (Nat.le_refl _)) nin0))
  refine W2.callS hx hEL (hw _ (mI 131 rfl)) (hw _ (mI 132 rfl)) (hw _ (mI 29 rfl)) (hw _ (mI 133 rfl)) (by decide +kernel) (argsL := [(.ref x1), (.int 0), (.int 5)]) (rest := []) (rm302 B x1 kc d1 d2 d3 d4 d5 h2 W2.old SA1 SH0 SL8 k5) all0 (by decide +kernel) (Wd := 0) (by decide +kernel) (by decide +kernel) (by decide +kernel) all0 rfl (by rw [hml]; rfl) (lenOf pd4 rfl) rfl (by show 2 * 0 + _ ≤ _; exact Nat.le_of_eq rfl) (D 23 rfl) (fun T4 h4 v4 P4 Ws4 K4 q4 => ?_)
  have W4 := Ws4 [] all0
  obtain ⟨r4, kc4, rfl, lr4, A4⟩ := q4
  have gr4 : n0 ≤ r4 ∧ s.heap.size ≤ r4 := ⟨Nat.le_trans W2.n0le lr4, Nat.le_trans W2.s0le lr4⟩
  refine W4.pv hx D 26 3 32 [_, _, _, _, _, _] [.int 3, _] rfl ?_
  refine W4.callS hx hEL (hw _ (mI 141 rfl)) (hw _ (mI 142 rfl)) (hw _ (mI 29 rfl)) (hw _ (mI 143 rfl)) (by decide +kernel) (argsL := [(.ref r4), (.int 3)]) (rest := []) (rm341 B r4 kc4 d1 d2 d3 d4 d5 h4 W4.old SA1 SH0 SL8 A4 cd4) all0 (by decide +kernel) (Wd := 0) (by decide +kernel) (by decide +kernel) (by decide +kernel) all0 rfl (by rw [hml]; rfl) (lenOf pd5 rfl) rfl (by show 2 * 0 + _ ≤ _; exact Nat.le_of_eq rfl) (D 32 rfl) (fun T6 h6 v6 P6 Ws6 K6 q6 => ?_)
  have W6 := Ws6 [] all0
  obtain ⟨rfl, rfl⟩ := q6
  refine W6.pu hx D 35 [(1, true)] 1 56 [_, _, _, _, _, _] [_] rfl ⟨trivial, (XT.ii_gt_t wd)⟩ ?_
  exact W6.retA hx hEL hs hlk (by decide +kernel) (by decide +kernel) hret rfl rfl (D 56 rfl) (fun S hS => ⟨r4, kc4, rfl, hs ▸ gr4.2, A4⟩)
set_option maxRecDepth 65536 in
set_option maxHeartbeats 40000000 in
theorem rm343 (B : EV l Z a0 zc fm) (x0 x1 : Addr) (kc : ClassId) (d1 d2 d3 d4 d5 : Int32) (h0 : Heap) {n0 : Nat} (O0 : Old Z n0 h0) (SA1 : sq0 Z) (SH0 : sq1 Z) (SL8 : sq2 Z) (Ac : Arv Z h0 x1 kc .char (5 : Int32) [(.int d1), (.int d2), (.int d3), (.int d4), (.int d5)] (.int 0)) (cd1 : ¬ d1 < 0 ∧ ¬ (65535 : Int32) < d1) (cd2 : ¬ d2 < 0 ∧ ¬ (65535 : Int32) < d2) (cd3 : ¬ d3 < 0 ∧ ¬ (65535 : Int32) < d3) (cd4 : ¬ d4 < 0 ∧ ¬ (65535 : Int32) < d4) (cd5 : ¬ d5 < 0 ∧ ¬ (65535 : Int32) < d5) (nd1 : ¬ (255 : Int32) < d1) (nd2 : ¬ (255 : Int32) < d2) (nd3 : ¬ (255 : Int32) < d3) (wd : (255 : Int32) < d4) (Exx : Exa Z h0 x0 "java/lang/String") (Fxv : Fld Z h0 x0 "java/lang/String" "value" "[B" .null) (Fxc : Fld Z h0 x0 "java/lang/String" "coder" "B" (.int 0)) (gxx : n0 ≤ x0) :
    Met l Z EL0 n0 (⟨"java/lang/String", "<init>", "([CIILjava/lang/Void;)V"⟩ : MethodName) jdk_42_method_149_code 6 none [] (rO 4 2 15 57) #[(.ref x0), (.ref x1), (.int 0), (.int 5), .null] h0 [x0] [x0] (fun v h' S => v = none ∧ Str Z h' x0 [d1, d2, d3, d4, d5]) := by
  obtain ⟨hw, hEL, SC, hzc, SF, rfm⟩ := id B
  refine Met.of (plainFor_of_name pn1) O0 ?_
  intro p e s m below meth c T0 hx hby hml hret hlk hnm hs W0
  have W0 : Wk p l e _ s m _ below meth c Z EL0 n0 [x0] "java/lang/String" [x0] T0 0 0 h0 := W0
  have D := @tk c _ _ hby tk9
  refine Go.of (fun _ kk => castTop (ef213 m x0 x1 (0 : Int32) (5 : Int32)) kk) ?_
  refine W0.pv hx D 0 1 1 [_, _, _, _, _, _] [_] rfl ?_
  refine W0.initO hx (hw _ (mI 23 rfl)) (hw _ (mI 24 rfl)) (hw _ (mI 25 rfl)) rfl (by rw [hml]; rfl) rfl (D 1 rfl) (by decide +kernel) (Wd := 0) (by show 2 * 0 + _ ≤ _; exact Nat.le_of_eq rfl) (by decide +kernel) (fun T1 W1 => ?_)
  refine W1.pu hx D 4 [(1, true)] 0 27 [_, _, _, _, _, _] [] rfl ⟨trivial, (XT.i0_ne_t (by decide +kernel))⟩ ?_
  refine W1.getS hx (host := "") (Or.inl (hw _ (mI 26 rfl))) Via.refl SC rfl (D 27 rfl) (fun T2 W2 => ?_)
  refine W2.pu hx D 30 [(0, false)] 3 36 [_, _, _, _, _, _] [.int 5, .int 0, _] rfl ⟨trivial, (XT.i0_eq_f hzc)⟩ ?_
  refine W2.callS hx hEL (hw _ (mI 27 rfl)) (hw _ (mI 28 rfl)) (hw _ (mI 29 rfl)) (hw _ (mI 30 rfl)) (by decide +kernel) (argsL := [(.ref x1), (.int 0), (.int 5)]) (rest := []) (rm342 B x1 kc d1 d2 d3 d4 d5 h0 W2.old SA1 SH0 SL8 Ac cd1 cd2 cd3 cd4 cd5 nd1 nd2 nd3 wd) all0 (by decide +kernel) (Wd := 0) (by decide +kernel) (by decide +kernel) (by decide +kernel) all0 rfl (by rw [hml]; rfl) (lenOf pd4 rfl) rfl (by show 2 * 0 + _ ≤ _; exact Nat.le_of_eq rfl) (D 36 rfl) (fun T3 h3 v3 P3 Ws3 K3 q3 => ?_)
  have W3 := Ws3 [] all0
  obtain ⟨r3, kc3, rfl, lr3, A3⟩ := q3
  have gr3 : n0 ≤ r3 ∧ s.heap.size ≤ r3 := ⟨Nat.le_trans W2.n0le lr3, Nat.le_trans W2.s0le lr3⟩
  refine W3.pv hx D 39 4 45 [_, _, _, _, _, _] [.int 5, _, _] rfl ?_
  refine W3.callS hx hEL (hw _ (mI 34 rfl)) (hw _ (mI 35 rfl)) (hw _ (mI 29 rfl)) (hw _ (mI 36 rfl)) (by decide +kernel) (argsL := [(.ref r3), (.int 5)]) (rest := [(.ref x0)]) (rm303 B r3 kc3 d1 d2 d3 d4 d5 h3 W3.old A3) all0 (by decide +kernel) (Wd := 1) (by decide +kernel) (by decide +kernel) (by decide +kernel) all0 rfl (by rw [hml]; rfl) (lenOf pd6 rfl) rfl (by show 2 * 0 + _ ≤ _; exact Nat.le_of_eq rfl) (D 45 rfl) (fun T4 h4 v4 P4 Ws4 K4 q4 => ?_)
  have W4 := Ws4 [] all0
  obtain ⟨rfl, rfl⟩ := q4
  show Go p e below _ (T4.setTop (mkF m 48 #[vr x0, vr x1, vi 0, vi 5, vN, vr r3] [(.int 1), (.ref x0)]))
  have k5 := (Fxc.keep K3 nin0)
  have k6 := (Exx.keep K3)
  refine W4.putF hx (host := "") (Or.inl (hw _ (mI 37 rfl))) Via.refl k5 k6 (Or.inr ⟨(hw _ (mI 5 rfl)), rfl, hnm⟩) (hw _ (mI 2 rfl)) (ty := .byte) (by decide +kernel) rfl rfl gxx (Or.inl (mI 0 rfl)) (Or.inl (mI 0 rfl)) rfl rfl (D 48 rfl) (fun T7 h7 W7 w7 => ?_)
  have k8 := (Fxv.keep K3 nin0)
  have K7 := Keep.of_wr w7
  have k9 := k8.other w7 (Or.inr (slot_ne (Or.inr (hw _ (mI 4 rfl))) (Or.inr (hw _ (mI 5 rfl))) (by decide +kernel) (t := (.array .byte)) (t' := .byte) (by decide +kernel) (by decide +kernel)))
  have k10 := k5.same w7
  refine W7.pv hx D 51 2 54 [_, _, _, _, _, _] [_, _] rfl ?_
  have k11 := (k6.keep K7)
  refine W7.putF hx (host := "") (Or.inl (hw _ (mI 38 rfl))) Via.refl k9 k11 (Or.inr ⟨(hw _ (mI 4 rfl)), rfl, hnm⟩) (hw _ (mI 2 rfl)) (ty := (.array .byte)) (by decide +kernel) rfl rfl gxx (Or.inl (mI 0 rfl)) (Or.inl (mI 0 rfl)) rfl rfl (D 54 rfl) (fun T12 h12 W12 w12 => ?_)
  have K12 := Keep.of_wr w12
  have k13 := k10.other w12 (Or.inr (slot_ne (Or.inr (hw _ (mI 5 rfl))) (Or.inr (hw _ (mI 4 rfl))) (by decide +kernel) (t := .byte) (t' := (.array .byte)) (by decide +kernel) (by decide +kernel)))
  have k14 := k9.same w12
  show Go p e below _ (T12.setTop (mkF m 57 #[vr x0, vr x1, vi 0, vi 5, vN, vr r3] []))
  have k15 := (k11.keep K12)
  have k16 := ((A3.keep K7 (ninS (ne_of_born lr3 Exx.lt (Nat.le_refl _)).symm nin0)).keep K12 (ninS (ne_of_born lr3 Exx.lt (Nat.le_refl _)).symm nin0))
  exact W12.retV hx hEL hs hlk (by decide +kernel) (by decide +kernel) hret (D 57 rfl) (fun S hS => ⟨rfl, ⟨r3, kc3, _, _, _, k15, k14, k13, k16, Or.inr ⟨rfl, rfl, rfl, d4, List.mem_of_getElem? (i := 3) rfl, wd⟩, (allSi cd1 (allSi cd2 (allSi cd3 (allSi cd4 (allSi cd5 all0i))))), Nat.le_of_ble_eq_true rfl⟩⟩)
set_option maxRecDepth 65536 in
set_option maxHeartbeats 40000000 in
theorem rm344 (B : EV l Z a0 zc fm) (x0 x1 : Addr) (kc : ClassId) (d1 d2 d3 d4 d5 : Int32) (h0 : Heap) {n0 : Nat} (O0 : Old Z n0 h0) (SA1 : sq0 Z) (SH0 : sq1 Z) (SL8 : sq2 Z) (Ac : Arv Z h0 x1 kc .char (5 : Int32) [(.int d1), (.int d2), (.int d3), (.int d4), (.int d5)] (.int 0)) (cd1 : ¬ d1 < 0 ∧ ¬ (65535 : Int32) < d1) (cd2 : ¬ d2 < 0 ∧ ¬ (65535 : Int32) < d2) (cd3 : ¬ d3 < 0 ∧ ¬ (65535 : Int32) < d3) (cd4 : ¬ d4 < 0 ∧ ¬ (65535 : Int32) < d4) (cd5 : ¬ d5 < 0 ∧ ¬ (65535 : Int32) < d5) (nd1 : ¬ (255 : Int32) < d1) (nd2 : ¬ (255 : Int32) < d2) (nd3 : ¬ (255 : Int32) < d3) (wd : (255 : Int32) < d4) (Exx : Exa Z h0 x0 "java/lang/String") (Fxv : Fld Z h0 x0 "java/lang/String" "value" "[B" .null) (Fxc : Fld Z h0 x0 "java/lang/String" "coder" "B" (.int 0)) (gxx : n0 ≤ x0) :
    Met l Z EL0 n0 (⟨"java/lang/String", "<init>", "([C)V"⟩ : MethodName) jdk_42_method_3_code 2 none [] (rO 5 2 15 74) #[(.ref x0), (.ref x1)] h0 [x0] [x0] (fun v h' S => v = none ∧ Str Z h' x0 [d1, d2, d3, d4, d5]) := by
  obtain ⟨hw, hEL, SC, hzc, SF, rfm⟩ := id B
  refine Met.of (plainFor_of_name pn1) O0 ?_
  intro p e s m below meth c T0 hx hby hml hret hlk hnm hs W0
  have W0 : Wk p l e _ s m _ below meth c Z EL0 n0 [x0] "java/lang/String" [x0] T0 0 0 h0 := W0
  have D := @tk c _ _ hby tk10
  refine Go.of (fun _ kk => castTop (ef214 m x0 x1) kk) ?_
  refine W0.pv hx D 0 4 4 [_, _] [_, .int 0, _, _] rfl ?_
  refine W0.alen hx Ac rfl rfl (D 4 rfl) ?_
  refine W0.pv hx D 5 1 6 [_, _] [.null, _, _, _, _] rfl ?_
  refine W0.callP hx hEL rfl (hw _ (mI 19 rfl)) (hw _ (mI 20 rfl)) (hw _ (mI 1 rfl)) (hw _ (mI 22 rfl)) (by decide +kernel) (a := x0) (argsL := [(.ref x1), (.int 0), (.int 5), .null]) (rest := []) (rm343 B x0 x1 kc d1 d2 d3 d4 d5 h0 W0.old SA1 SH0 SL8 Ac cd1 cd2 cd3 cd4 cd5 nd1 nd2 nd3 wd Exx Fxv Fxc gxx) (allS (mI 0 rfl) all0) (by decide +kernel) (Wd := 0) (by decide +kernel) (by decide +kernel) (by decide +kernel) (allS ⟨gxx, (Or.inl (mI 0 rfl))⟩ all0) rfl (by rw [hml]; rfl) (lenOf pd7 rfl) rfl (by show 2 * 0 + _ ≤ _; exact Nat.le_of_eq rfl) (D 6 rfl) (fun T1 h1 v1 P1 Ws1 K1 q1 => ?_)
  have W1 := Ws1 [] all0
  obtain ⟨rfl, S1⟩ := q1
  show Go p e below _ (T1.setTop (mkF m 9 #[vr x0, vr x1] []))
  exact W1.retV hx hEL hs hlk (by decide +kernel) (by decide +kernel) hret (D 9 rfl) (fun S hS => ⟨rfl, S1⟩)
set_option maxRecDepth 65536 in
set_option maxHeartbeats 40000000 in
theorem rm350 (B : EV l Z a0 zc fm) (x1 x2 : Addr) (kc : ClassId) (d1 d2 d3 d4 d5 : Int32) (kb : ClassId) (h0 : Heap) {n0 : Nat} (O0 : Old Z n0 h0) (Ac : Arv Z h0 x1 kc .char (5 : Int32) [(.int d1), (.int d2), (.int d3), (.int d4), (.int d5)] (.int 0)) (cd1 : ¬ d1 < 0 ∧ ¬ (65535 : Int32) < d1) (cd2 : ¬ d2 < 0 ∧ ¬ (65535 : Int32) < d2) (cd3 : ¬ d3 < 0 ∧ ¬ (65535 : Int32) < d3) (cd4 : ¬ d4 < 0 ∧ ¬ (65535 : Int32) < d4) (cd5 : ¬ d5 < 0 ∧ ¬ (65535 : Int32) < d5) (nd1 : ¬ (255 : Int32) < d1) (nd2 : ¬ (255 : Int32) < d2) (nd3 : ¬ (255 : Int32) < d3) (nd4 : ¬ (255 : Int32) < d4) (wd : (255 : Int32) < d5) (Ab : Arv Z h0 x2 kb .byte (5 : Int32) [(.int 0), (.int 0), (.int 0), (.int 0), (.int 0)] (.int 0)) (g2 : n0 ≤ x2) (nx : x1 ≠ x2) :
    Met l Z EL0 n0 (⟨"java/lang/StringUTF16", "compress", "([CI[BII)I"⟩ : MethodName) jdk_52_method_21_code 7 (some .int) [] (rO 0 0 0 0) #[(.ref x1), (.int 0), (.ref x2), (.int 0), (.int 5)] h0 [x2] [x2] (fun v h' S => v = some (.int 4)) := by
  obtain ⟨hw, hEL, SC, hzc, SF, rfm⟩ := id B
  refine Met.of (plainFor_of_name pn0) O0 ?_
  intro p e s m below meth c T0 hx hby hml hret hlk hnm hs W0
  have W0 : Wk p l e _ s m _ below meth c Z EL0 n0 [x2] "java/lang/StringUTF16" [x2] T0 0 0 h0 := W0
  have D := @tk c _ _ hby tk6
  refine Go.of (fun _ kk => castTop (ef210 m x1 (0 : Int32) x2 (0 : Int32) (5 : Int32)) kk) ?_
  refine W0.pu hx D 0 [(4, false)] 2 12 [_, _, _, _, _, vi 0, _] [.int 0, _] rfl ⟨trivial, (XT.ii_ge_f (by decide +kernel))⟩ ?_
  refine W0.caload hx Ac ⟨by decide, by decide⟩ (v := (.int d1)) rfl rfl rfl (D 12 rfl) ?_
  refine W0.pu hx D 13 [(3, true)] 4 31 [_, _, _, _, _, _, _] [.int (d1.toInt8.toInt32), .int 0, _] rfl ⟨trivial, (XT.ii_le_t nd1)⟩ ?_
  refine W0.stB hx Ab ⟨by decide, by decide⟩ 0 rfl (Nat.le_of_ble_eq_true rfl) g2 (Or.inl (mI 0 rfl)) (mI 0 rfl) rfl rfl (D 31 rfl) (fun T1 h1 W1 K1 A1 => ?_)
  have V1 : Arv Z h1 x2 kb .byte (5 : Int32) [(.int (d1.toInt8.toInt32)), (.int 0), (.int 0), (.int 0), (.int 0)] (.int 0) := (by rw [(nar_byte _)] at A1; exact A1)
  refine W1.pu hx D 32 [(6, false)] 2 12 [_, vi 1, _, vi 1, _, vi 1, _] [.int 1, _] rfl ⟨trivial, (XT.ii_ge_f (by decide +kernel))⟩ ?_
  have k2 := (Ac.keep K1 (ninS nx nin0))
  refine W1.caload hx k2 ⟨by decide, by decide⟩ (v := (.int d2)) rfl rfl rfl (D 12 rfl) ?_
  refine W1.pu hx D 13 [(3, true)] 4 31 [_, _, _, _, _, _, _] [.int (d2.toInt8.toInt32), .int 1, _] rfl ⟨trivial, (XT.ii_le_t nd2)⟩ ?_
  refine W1.stB hx V1 ⟨by decide, by decide⟩ 1 rfl (Nat.le_of_ble_eq_true rfl) g2 (Or.inl (mI 0 rfl)) (mI 0 rfl) rfl rfl (D 31 rfl) (fun T3 h3 W3 K3 A3 => ?_)
  have V3 : Arv Z h3 x2 kb .byte (5 : Int32) [(.int (d1.toInt8.toInt32)), (.int (d2.toInt8.toInt32)), (.int 0), (.int 0), (.int 0)] (.int 0) := (by rw [(nar_byte _)] at A3; exact A3)
  refine W3.pu hx D 32 [(6, false)] 2 12 [_, vi 2, _, vi 2, _, vi 2, _] [.int 2, _] rfl ⟨trivial, (XT.ii_ge_f (by decide +kernel))⟩ ?_
  have k4 := (k2.keep K3 (ninS nx nin0))
  refine W3.caload hx k4 ⟨by decide, by decide⟩ (v := (.int d3)) rfl rfl rfl (D 12 rfl) ?_
  refine W3.pu hx D 13 [(3, true)] 4 31 [_, _, _, _, _, _, _] [.int (d3.toInt8.toInt32), .int 2, _] rfl ⟨trivial, (XT.ii_le_t nd3)⟩ ?_
  refine W3.stB hx V3 ⟨by decide, by decide⟩ 2 rfl (Nat.le_of_ble_eq_true rfl) g2 (Or.inl (mI 0 rfl)) (mI 0 rfl) rfl rfl (D 31 rfl) (fun T5 h5 W5 K5 A5 => ?_)
  have V5 : Arv Z h5 x2 kb .byte (5 : Int32) [(.int (d1.toInt8.toInt32)), (.int (d2.toInt8.toInt32)), (.int (d3.toInt8.toInt32)), (.int 0), (.int 0)] (.int 0) := (by rw [(nar_byte _)] at A5; exact A5)
  refine W5.pu hx D 32 [(6, false)] 2 12 [_, vi 3, _, vi 3, _, vi 3, _] [.int 3, _] rfl ⟨trivial, (XT.ii_ge_f (by decide +kernel))⟩ ?_
  have k6 := (k4.keep K5 (ninS nx nin0))
  refine W5.caload hx k6 ⟨by decide, by decide⟩ (v := (.int d4)) rfl rfl rfl (D 12 rfl) ?_
  refine W5.pu hx D 13 [(3, true)] 4 31 [_, _, _, _, _, _, _] [.int (d4.toInt8.toInt32), .int 3, _] rfl ⟨trivial, (XT.ii_le_t nd4)⟩ ?_
  refine W5.stB hx V5 ⟨by decide, by decide⟩ 3 rfl (Nat.le_of_ble_eq_true rfl) g2 (Or.inl (mI 0 rfl)) (mI 0 rfl) rfl rfl (D 31 rfl) (fun T7 h7 W7 K7 A7 => ?_)
  have V7 : Arv Z h7 x2 kb .byte (5 : Int32) [(.int (d1.toInt8.toInt32)), (.int (d2.toInt8.toInt32)), (.int (d3.toInt8.toInt32)), (.int (d4.toInt8.toInt32)), (.int 0)] (.int 0) := (by rw [(nar_byte _)] at A7; exact A7)
  refine W7.pu hx D 32 [(6, false)] 2 12 [_, vi 4, _, vi 4, _, vi 4, _] [.int 4, _] rfl ⟨trivial, (XT.ii_ge_f (by decide +kernel))⟩ ?_
  have k8 := (k6.keep K7 (ninS nx nin0))
  refine W7.caload hx k8 ⟨by decide, by decide⟩ (v := (.int d5)) rfl rfl rfl (D 12 rfl) ?_
  refine W7.pu hx D 13 [(3, false)] 1 25 [_, _, _, _, _, _, _] [.int 4] rfl ⟨trivial, (XT.ii_le_f wd)⟩ ?_
  exact W7.retI hx hEL hs hlk (by decide +kernel) (by decide +kernel) hret (by simp) rfl (D 25 rfl) (fun S hS => rfl)
set_option maxRecDepth 65536 in
set_option maxHeartbeats 40000000 in
theorem rm351 (B : EV l Z a0 zc fm) (t : Addr) (kc : ClassId) (d1 d2 d3 d4 d5 : Int32) (h0 : Heap) {n0 : Nat} (O0 : Old Z n0 h0) (SA1 : sq0 Z) (SH0 : sq1 Z) (SL8 : sq2 Z) (Ab : Arv Z h0 t kc .byte (10 : Int32) [(.int (StrChars.lo8 d1)), (.int (StrChars.hi8 d1)), (.int (StrChars.lo8 d2)), (.int (StrChars.hi8 d2)), (.int (StrChars.lo8 d3)), (.int (StrChars.hi8 d3)), (.int (StrChars.lo8 d4)), (.int (StrChars.hi8 d4)), (.int (StrChars.lo8 d5)), (.int (StrChars.hi8 d5))] (.int 0)) (cd5 : ¬ d5 < 0 ∧ ¬ (65535 : Int32) < d5) :
    Met l Z EL0 n0 (⟨"java/lang/StringUTF16", "getChar", "([BI)C"⟩ : MethodName) jdk_52_method_5_code 2 (some .char) [] (rO 0 0 0 0) #[(.ref t), (.int 4)] h0 [] [] (fun v h' S => v = some (.int d5) ∧ h0 = h') := by
  obtain ⟨hw, hEL, SC, hzc, SF, rfm⟩ := id B
  refine Met.of (plainFor_of_name pn0) O0 ?_
  intro p e s m below meth c T0 hx hby hml hret hlk hnm hs W0
  have W0 : Wk p l e _ s m _ below meth c Z EL0 n0 [] "java/lang/StringUTF16" [] T0 0 0 h0 := W0
  have D := @tk c _ _ hby tk7
  refine Go.of (fun _ kk => castTop (ef203 m t (4 : Int32)) kk) ?_
  show Go p e below _ (T0.setTop (mkF m 0 #[vr t, vi 4] []))
  refine W0.getS hx (host := "") (Or.inl (hw _ (mI 85 rfl))) Via.refl SA1 rfl (D 0 rfl) (fun T1 W1 => ?_)
  refine W1.pu hx D 3 [(0, true)] 7 37 [_, vi 9] [.int 8, _] rfl ⟨trivial, (XT.i0_ne_t (by decide +kernel))⟩ ?_
  refine W1.baload hx Ab ⟨by decide, by decide⟩ (v := (.int (StrChars.lo8 d5))) rfl rfl rfl (D 37 rfl) ?_
  refine W1.pv hx D 38 2 42 [_, _] [.int ((StrChars.lo8 d5) &&& (255 : Int32))] rfl ?_
  refine W1.getS hx (host := "") (Or.inl (hw _ (mI 86 rfl))) Via.refl SH0 rfl (D 42 rfl) (fun T2 W2 => ?_)
  refine W2.pv hx D 45 3 48 [_, _] [.int 9, _, .int (((StrChars.lo8 d5) &&& (255 : Int32)) <<< ((0 : Int32) &&& 31))] rfl ?_
  refine W2.baload hx Ab ⟨by decide, by decide⟩ (v := (.int (StrChars.hi8 d5))) rfl rfl rfl (D 48 rfl) ?_
  refine W2.pv hx D 49 2 53 [_, _] [.int ((StrChars.hi8 d5) &&& (255 : Int32)), _] rfl ?_
  refine W2.getS hx (host := "") (Or.inl (hw _ (mI 87 rfl))) Via.refl SL8 rfl (D 53 rfl) (fun T3 W3 => ?_)
  refine W3.pv hx D 56 3 59 [_, _] [.int (((((StrChars.lo8 d5) &&& (255 : Int32)) <<< ((0 : Int32) &&& 31)) ||| (((StrChars.hi8 d5) &&& (255 : Int32)) <<< ((8 : Int32) &&& 31))).toUInt32.toUInt16.toUInt32.toInt32)] rfl ?_
  have e59 : (((((StrChars.lo8 d5) &&& (255 : Int32)) <<< ((0 : Int32) &&& 31)) ||| (((StrChars.hi8 d5) &&& (255 : Int32)) <<< ((8 : Int32) &&& 31))).toUInt32.toUInt16.toUInt32.toInt32) = d5 := StrChars.pair_says cd5.1 cd5.2
  rw [e59]
  show Go p e below _ (T3.setTop (mkF m 59 #[vr t, vi 9] [(.int d5)]))
  exact W3.retI hx hEL hs hlk (by decide +kernel) (by decide +kernel) hret (by simp) (nar_retw cd5) (D 59 rfl) (fun S hS => ⟨rfl, rfl⟩)
set_option maxRecDepth 65536 in
set_option maxHeartbeats 40000000 in
theorem rm352 (B : EV l Z a0 zc fm) (x1 : Addr) (kc : ClassId) (d1 d2 d3 d4 d5 : Int32) (h0 : Heap) {n0 : Nat} (O0 : Old Z n0 h0) (SA1 : sq0 Z) (SH0 : sq1 Z) (SL8 : sq2 Z) (Ac : Arv Z h0 x1 kc .char (5 : Int32) [(.int d1), (.int d2), (.int d3), (.int d4), (.int d5)] (.int 0)) (cd1 : ¬ d1 < 0 ∧ ¬ (65535 : Int32) < d1) (cd2 : ¬ d2 < 0 ∧ ¬ (65535 : Int32) < d2) (cd3 : ¬ d3 < 0 ∧ ¬ (65535 : Int32) < d3) (cd4 : ¬ d4 < 0 ∧ ¬ (65535 : Int32) < d4) (cd5 : ¬ d5 < 0 ∧ ¬ (65535 : Int32) < d5) (nd1 : ¬ (255 : Int32) < d1) (nd2 : ¬ (255 : Int32) < d2) (nd3 : ¬ (255 : Int32) < d3) (nd4 : ¬ (255 : Int32) < d4) (wd : (255 : Int32) < d5) :
    Met l Z EL0 n0 (⟨"java/lang/StringUTF16", "compress", "([CII)[B"⟩ : MethodName) jdk_52_method_16_code 6 (some (.array .byte)) [] (rO 3 2 15 40) #[(.ref x1), (.int 0), (.int 5)] h0 [] [] (fun v h' S => ∃ (r : Addr) (kc : ClassId), v = some (.ref r) ∧ h0.size ≤ r ∧ Arv Z h' r kc .byte (10 : Int32) [(.int (StrChars.lo8 d1)), (.int (StrChars.hi8 d1)), (.int (StrChars.lo8 d2)), (.int (StrChars.hi8 d2)), (.int (StrChars.lo8 d3)), (.int (StrChars.hi8 d3)), (.int (StrChars.lo8 d4)), (.int (StrChars.hi8 d4)), (.int (StrChars.lo8 d5)), (.int (StrChars.hi8 d5))] (.int 0)) := by
  obtain ⟨hw, hEL, SC, hzc, SF, rfm⟩ := id B
  refine Met.of (plainFor_of_name pn0) O0 ?_
  intro p e s m below meth c T0 hx hby hml hret hlk hnm hs W0
  have W0 : Wk p l e _ s m _ below meth c Z EL0 n0 [] "java/lang/StringUTF16" [] T0 0 0 h0 := W0
  have D := @tk c _ _ hby tk8
  refine Go.of (fun _ kk => castTop (ef212 m x1 (0 : Int32) (5 : Int32)) kk) ?_
  refine W0.pv hx D 0 1 1 [_, _, _, _, _, _] [.int 5] rfl ?_
  refine W0.newP hx (hw _ (mI 3 rfl)) rfl (D 1 rfl) rfl (by decide +kernel) (cap := 5) (by decide +kernel) (by decide +kernel) (by decide +kernel) (by decide +kernel) (fun T1 h1 b1 c1 eb1 gb1 W1 K1 A1 => ?_)
  have V1 : Arv Z h1 b1 c1 .byte (5 : Int32) [(.int 0), (.int 0), (.int 0), (.int 0), (.int 0)] (.int 0) := A1
  refine W1.pv hx D 3 6 9 [_, _, _, _, _, _] [.int 5, .int 0, _, .int 0, _] rfl ?_
  have k3 := (Ac.keep K1 nin0)
  refine W1.callS hx hEL (hw _ (mI 31 rfl)) (hw _ (mI 32 rfl)) (hw _ (mI 29 rfl)) (hw _ (mI 33 rfl)) (by decide +kernel) (argsL := [(.ref x1), (.int 0), (.ref b1), (.int 0), (.int 5)]) (rest := []) (rm350 B x1 b1 kc d1 d2 d3 d4 d5 c1 h1 W1.old k3 cd1 cd2 cd3 cd4 cd5 nd1 nd2 nd3 nd4 wd V1 gb1.1 (ne_of_born (Nat.le_of_eq eb1.symm) Ac.lt (Nat.le_refl _))) (allS (mI 0 rfl) all0) (by decide +kernel) (Wd := 0) (by decide +kernel) (by decide +kernel) (by decide +kernel) (allS ⟨gb1.1, (Or.inr gb1.2)⟩ all0) rfl (by rw [hml]; rfl) (lenOf pd3 rfl) rfl (by show 2 * 0 + _ ≤ _; exact Nat.le_of_eq rfl) (D 9 rfl) (fun T2 h2 v2 P2 Ws2 K2 q2 => ?_)
  have W2 := Ws2 [] all0
  obtain rfl := q2
  refine W2.pu hx D 12 [(3, false)] 3 23 [_, _, _, _, vi 4, _] [.int 5, .int 0, _] rfl ⟨trivial, (XT.ii_eq_f (by decide +kernel))⟩ ?_
  have k5 := (k3.keep K2 (ninS (ne_of_born (Nat.le_of_eq eb1.symm) Ac.lt (Nat.le_refl _)) nin0))
  refine W2.callS hx hEL (hw _ (mI 131 rfl)) (hw _ (mI 132 rfl)) (hw _ (mI 29 rfl)) (hw _ (mI 133 rfl)) (by decide +kernel) (argsL := [(.ref x1), (.int 0), (.int 5)]) (rest := []) (rm302 B x1 kc d1 d2 d3 d4 d5 h2 W2.old SA1 SH0 SL8 k5) all0 (by decide +kernel) (Wd := 0) (by decide +kernel) (by decide +kernel) (by decide +kernel) all0 rfl (by rw [hml]; rfl) (lenOf pd4 rfl) rfl (by show 2 * 0 + _ ≤ _; exact Nat.le_of_eq rfl) (D 23 rfl) (fun T4 h4 v4 P4 Ws4 K4 q4 => ?_)
  have W4 := Ws4 [] all0
  obtain ⟨r4, kc4, rfl, lr4, A4⟩ := q4
  have gr4 : n0 ≤ r4 ∧ s.heap.size ≤ r4 := ⟨Nat.le_trans W2.n0le lr4, Nat.le_trans W2.s0le lr4⟩
  refine W4.pv hx D 26 3 32 [_, _, _, _, _, _] [.int 4, _] rfl ?_
  refine W4.callS hx hEL (hw _ (mI 141 rfl)) (hw _ (mI 142 rfl)) (hw _ (mI 29 rfl)) (hw _ (mI 143 rfl)) (by decide +kernel) (argsL := [(.ref r4), (.int 4)]) (rest := []) (rm351 B r4 kc4 d1 d2 d3 d4 d5 h4 W4.old SA1 SH0 SL8 A4 cd5) all0 (by decide +kernel) (Wd := 0) (by decide +kernel) (by decide +kernel) (by decide +kernel) all0 rfl (by rw [hml]; rfl) (lenOf pd5 rfl) rfl (by show 2 * 0 + _ ≤ _; exact Nat.le_of_eq rfl) (D 32 rfl) (fun T6 h6 v6 P6 Ws6 K6 q6 => ?_)
  have W6 := Ws6 [] all0
  obtain ⟨rfl, rfl⟩ := q6
  refine W6.pu hx D 35 [(1, true)] 1 56 [_, _, _, _, _, _] [_] rfl ⟨trivial, (XT.ii_gt_t wd)⟩ ?_
  exact W6.retA hx hEL hs hlk (by decide +kernel) (by decide +kernel) hret rfl rfl (D 56 rfl) (fun S hS => ⟨r4, kc4, rfl, hs ▸ gr4.2, A4⟩)
set_option maxRecDepth 65536 in
set_option maxHeartbeats 40000000 in
theorem rm353 (B : EV l Z a0 zc fm) (x0 x1 : Addr) (kc : ClassId) (d1 d2 d3 d4 d5 : Int32) (h0 : Heap) {n0 : Nat} (O0 : Old Z n0 h0) (SA1 : sq0 Z) (SH0 : sq1 Z) (SL8 : sq2 Z) (Ac : Arv Z h0 x1 kc .char (5 : Int32) [(.int d1), (.int d2), (.int d3), (.int d4), (.int d5)] (.int 0)) (cd1 : ¬ d1 < 0 ∧ ¬ (65535 : Int32) < d1) (cd2 : ¬ d2 < 0 ∧ ¬ (65535 : Int32) < d2) (cd3 : ¬ d3 < 0 ∧ ¬ (65535 : Int32) < d3) (cd4 : ¬ d4 < 0 ∧ ¬ (65535 : Int32) < d4) (cd5 : ¬ d5 < 0 ∧ ¬ (65535 : Int32) < d5) (nd1 : ¬ (255 : Int32) < d1) (nd2 : ¬ (255 : Int32) < d2) (nd3 : ¬ (255 : Int32) < d3) (nd4 : ¬ (255 : Int32) < d4) (wd : (255 : Int32) < d5) (Exx : Exa Z h0 x0 "java/lang/String") (Fxv : Fld Z h0 x0 "java/lang/String" "value" "[B" .null) (Fxc : Fld Z h0 x0 "java/lang/String" "coder" "B" (.int 0)) (gxx : n0 ≤ x0) :
    Met l Z EL0 n0 (⟨"java/lang/String", "<init>", "([CIILjava/lang/Void;)V"⟩ : MethodName) jdk_42_method_149_code 6 none [] (rO 4 2 15 57) #[(.ref x0), (.ref x1), (.int 0), (.int 5), .null] h0 [x0] [x0] (fun v h' S => v = none ∧ Str Z h' x0 [d1, d2, d3, d4, d5]) := by
  obtain ⟨hw, hEL, SC, hzc, SF, rfm⟩ := id B
  refine Met.of (plainFor_of_name pn1) O0 ?_
  intro p e s m below meth c T0 hx hby hml hret hlk hnm hs W0
  have W0 : Wk p l e _ s m _ below meth c Z EL0 n0 [x0] "java/lang/String" [x0] T0 0 0 h0 := W0
  have D := @tk c _ _ hby tk9
  refine Go.of (fun _ kk => castTop (ef213 m x0 x1 (0 : Int32) (5 : Int32)) kk) ?_
  refine W0.pv hx D 0 1 1 [_, _, _, _, _, _] [_] rfl ?_
  refine W0.initO hx (hw _ (mI 23 rfl)) (hw _ (mI 24 rfl)) (hw _ (mI 25 rfl)) rfl (by rw [hml]; rfl) rfl (D 1 rfl) (by decide +kernel) (Wd := 0) (by show 2 * 0 + _ ≤ _; exact Nat.le_of_eq rfl) (by decide +kernel) (fun T1 W1 => ?_)
  refine W1.pu hx D 4 [(1, true)] 0 27 [_, _, _, _, _, _] [] rfl ⟨trivial, (XT.i0_ne_t (by decide +kernel))⟩ ?_
  refine W1.getS hx (host := "") (Or.inl (hw _ (mI 26 rfl))) Via.refl SC rfl (D 27 rfl) (fun T2 W2 => ?_)
  refine W2.pu hx D 30 [(0, false)] 3 36 [_, _, _, _, _, _] [.int 5, .int 0, _] rfl ⟨trivial, (XT.i0_eq_f hzc)⟩ ?_
  refine W2.callS hx hEL (hw _ (mI 27 rfl)) (hw _ (mI 28 rfl)) (hw _ (mI 29 rfl)) (hw _ (mI 30 rfl)) (by decide +kernel) (argsL := [(.ref x1), (.int 0), (.int 5)]) (rest := []) (rm352 B x1 kc d1 d2 d3 d4 d5 h0 W2.old SA1 SH0 SL8 Ac cd1 cd2 cd3 cd4 cd5 nd1 nd2 nd3 nd4 wd) all0 (by decide +kernel) (Wd := 0) (by decide +kernel) (by decide +kernel) (by decide +kernel) all0 rfl (by rw [hml]; rfl) (lenOf pd4 rfl) rfl (by show 2 * 0 + _ ≤ _; exact Nat.le_of_eq rfl) (D 36 rfl) (fun T3 h3 v3 P3 Ws3 K3 q3 => ?_)
  have W3 := Ws3 [] all0
  obtain ⟨r3, kc3, rfl, lr3, A3⟩ := q3
  have gr3 : n0 ≤ r3 ∧ s.heap.size ≤ r3 := ⟨Nat.le_trans W2.n0le lr3, Nat.le_trans W2.s0le lr3⟩
  refine W3.pv hx D 39 4 45 [_, _, _, _, _, _] [.int 5, _, _] rfl ?_
  refine W3.callS hx hEL (hw _ (mI 34 rfl)) (hw _ (mI 35 rfl)) (hw _ (mI 29 rfl)) (hw _ (mI 36 rfl)) (by decide +kernel) (argsL := [(.ref r3), (.int 5)]) (rest := [(.ref x0)]) (rm303 B r3 kc3 d1 d2 d3 d4 d5 h3 W3.old A3) all0 (by decide +kernel) (Wd := 1) (by decide +kernel) (by decide +kernel) (by decide +kernel) all0 rfl (by rw [hml]; rfl) (lenOf pd6 rfl) rfl (by show 2 * 0 + _ ≤ _; exact Nat.le_of_eq rfl) (D 45 rfl) (fun T4 h4 v4 P4 Ws4 K4 q4 => ?_)
  have W4 := Ws4 [] all0
  obtain ⟨rfl, rfl⟩ := q4
  show Go p e below _ (T4.setTop (mkF m 48 #[vr x0, vr x1, vi 0, vi 5, vN, vr r3] [(.int 1), (.ref x0)]))
  have k5 := (Fxc.keep K3 nin0)
  have k6 := (Exx.keep K3)
  refine W4.putF hx (host := "") (Or.inl (hw _ (mI 37 rfl))) Via.refl k5 k6 (Or.inr ⟨(hw _ (mI 5 rfl)), rfl, hnm⟩) (hw _ (mI 2 rfl)) (ty := .byte) (by decide +kernel) rfl rfl gxx (Or.inl (mI 0 rfl)) (Or.inl (mI 0 rfl)) rfl rfl (D 48 rfl) (fun T7 h7 W7 w7 => ?_)
  have k8 := (Fxv.keep K3 nin0)
  have K7 := Keep.of_wr w7
  have k9 := k8.other w7 (Or.inr (slot_ne (Or.inr (hw _ (mI 4 rfl))) (Or.inr (hw _ (mI 5 rfl))) (by decide +kernel) (t := (.array .byte)) (t' := .byte) (by decide +kernel) (by decide +kernel)))
  have k10 := k5.same w7
  refine W7.pv hx D 51 2 54 [_, _, _, _, _, _] [_, _] rfl ?_
  have k11 := (k6.keep K7)
  refine W7.putF hx (host := "") (Or.inl (hw _ (mI 38 rfl))) Via.refl k9 k11 (Or.inr ⟨(hw _ (mI 4 rfl)), rfl, hnm⟩) (hw _ (mI 2 rfl)) (ty := (.array .byte)) (by decide +kernel) rfl rfl gxx (Or.inl (mI 0 rfl)) (Or.inl (mI 0 rfl)) rfl rfl (D 54 rfl) (fun T12 h12 W12 w12 => ?_)
  have K12 := Keep.of_wr w12
  have k13 := k10.other w12 (Or.inr (slot_ne (Or.inr (hw _ (mI 5 rfl))) (Or.inr (hw _ (mI 4 rfl))) (by decide +kernel) (t := .byte) (t' := (.array .byte)) (by decide +kernel) (by decide +kernel)))
  have k14 := k9.same w12
  show Go p e below _ (T12.setTop (mkF m 57 #[vr x0, vr x1, vi 0, vi 5, vN, vr r3] []))
  have k15 := (k11.keep K12)
  have k16 := ((A3.keep K7 (ninS (ne_of_born lr3 Exx.lt (Nat.le_refl _)).symm nin0)).keep K12 (ninS (ne_of_born lr3 Exx.lt (Nat.le_refl _)).symm nin0))
  exact W12.retV hx hEL hs hlk (by decide +kernel) (by decide +kernel) hret (D 57 rfl) (fun S hS => ⟨rfl, ⟨r3, kc3, _, _, _, k15, k14, k13, k16, Or.inr ⟨rfl, rfl, rfl, d5, List.mem_of_getElem? (i := 4) rfl, wd⟩, (allSi cd1 (allSi cd2 (allSi cd3 (allSi cd4 (allSi cd5 all0i))))), Nat.le_of_ble_eq_true rfl⟩⟩)
set_option maxRecDepth 65536 in
set_option maxHeartbeats 40000000 in
theorem rm354 (B : EV l Z a0 zc fm) (x0 x1 : Addr) (kc : ClassId) (d1 d2 d3 d4 d5 : Int32) (h0 : Heap) {n0 : Nat} (O0 : Old Z n0 h0) (SA1 : sq0 Z) (SH0 : sq1 Z) (SL8 : sq2 Z) (Ac : Arv Z h0 x1 kc .char (5 : Int32) [(.int d1), (.int d2), (.int d3), (.int d4), (.int d5)] (.int 0)) (cd1 : ¬ d1 < 0 ∧ ¬ (65535 : Int32) < d1) (cd2 : ¬ d2 < 0 ∧ ¬ (65535 : Int32) < d2) (cd3 : ¬ d3 < 0 ∧ ¬ (65535 : Int32) < d3) (cd4 : ¬ d4 < 0 ∧ ¬ (65535 : Int32) < d4) (cd5 : ¬ d5 < 0 ∧ ¬ (65535 : Int32) < d5) (nd1 : ¬ (255 : Int32) < d1) (nd2 : ¬ (255 : Int32) < d2) (nd3 : ¬ (255 : Int32) < d3) (nd4 : ¬ (255 : Int32) < d4) (wd : (255 : Int32) < d5) (Exx : Exa Z h0 x0 "java/lang/String") (Fxv : Fld Z h0 x0 "java/lang/String" "value" "[B" .null) (Fxc : Fld Z h0 x0 "java/lang/String" "coder" "B" (.int 0)) (gxx : n0 ≤ x0) :
    Met l Z EL0 n0 (⟨"java/lang/String", "<init>", "([C)V"⟩ : MethodName) jdk_42_method_3_code 2 none [] (rO 5 2 15 74) #[(.ref x0), (.ref x1)] h0 [x0] [x0] (fun v h' S => v = none ∧ Str Z h' x0 [d1, d2, d3, d4, d5]) := by
  obtain ⟨hw, hEL, SC, hzc, SF, rfm⟩ := id B
  refine Met.of (plainFor_of_name pn1) O0 ?_
  intro p e s m below meth c T0 hx hby hml hret hlk hnm hs W0
  have W0 : Wk p l e _ s m _ below meth c Z EL0 n0 [x0] "java/lang/String" [x0] T0 0 0 h0 := W0
  have D := @tk c _ _ hby tk10
  refine Go.of (fun _ kk => castTop (ef214 m x0 x1) kk) ?_
  refine W0.pv hx D 0 4 4 [_, _] [_, .int 0, _, _] rfl ?_
  refine W0.alen hx Ac rfl rfl (D 4 rfl) ?_
  refine W0.pv hx D 5 1 6 [_, _] [.null, _, _, _, _] rfl ?_
  refine W0.callP hx hEL rfl (hw _ (mI 19 rfl)) (hw _ (mI 20 rfl)) (hw _ (mI 1 rfl)) (hw _ (mI 22 rfl)) (by decide +kernel) (a := x0) (argsL := [(.ref x1), (.int 0), (.int 5), .null]) (rest := []) (rm353 B x0 x1 kc d1 d2 d3 d4 d5 h0 W0.old SA1 SH0 SL8 Ac cd1 cd2 cd3 cd4 cd5 nd1 nd2 nd3 nd4 wd Exx Fxv Fxc gxx) (allS (mI 0 rfl) all0) (by decide +kernel) (Wd := 0) (by decide +kernel) (by decide +kernel) (by decide +kernel) (allS ⟨gxx, (Or.inl (mI 0 rfl))⟩ all0) rfl (by rw [hml]; rfl) (lenOf pd7 rfl) rfl (by show 2 * 0 + _ ≤ _; exact Nat.le_of_eq rfl) (D 6 rfl) (fun T1 h1 v1 P1 Ws1 K1 q1 => ?_)
  have W1 := Ws1 [] all0
  obtain ⟨rfl, S1⟩ := q1
  show Go p e below _ (T1.setTop (mkF m 9 #[vr x0, vr x1] []))
  exact W1.retV hx hEL hs hlk (by decide +kernel) (by decide +kernel) hret (D 9 rfl) (fun S hS => ⟨rfl, S1⟩)
set_option maxRecDepth 65536 in
set_option maxHeartbeats 40000000 in
theorem rm400 (B : EV l Z a0 zc fm)  (h0 : Heap) {n0 : Nat} (O0 : Old Z n0 h0)  :
    Met l Z EL0 n0 (⟨"java/lang/StringUTF16", "newBytesLength", "(I)I"⟩ : MethodName) jdk_52_method_3_code 1 (some .int) [] (rO 0 0 0 0) #[(.int 6)] h0 [] [] (fun v h' S => v = some (.int 12) ∧ h0 = h') := by
  obtain ⟨hw, hEL, SC, hzc, SF, rfm⟩ := id B
  refine Met.of (plainFor_of_name pn0) O0 ?_
  intro p e s m below meth c T0 hx hby hml hret hlk hnm hs W0
  have W0 : Wk p l e _ s m _ below meth c Z EL0 n0 [] "java/lang/StringUTF16" [] T0 0 0 h0 := W0
  have D := @tk c _ _ hby tk2
  refine Go.of (fun _ kk => castTop (ef200 m (6 : Int32)) kk) ?_
  refine W0.pu hx D 0 [(1, true)] 1 13 [_] [.int 6] rfl ⟨trivial, (XT.i0_ge_t (by decide +kernel))⟩ ?_
  refine W0.ldcI hx (hw _ (mI 140 rfl)) rfl (D 13 rfl) ?_
  refine W0.pu hx D 15 [(0, true)] 3 58 [_] [.int 12] rfl ⟨trivial, (XT.ii_lt_t (by decide +kernel))⟩ ?_
  exact W0.retI hx hEL hs hlk (by decide +kernel) (by decide +kernel) hret (by simp) rfl (D 58 rfl) (fun S hS => ⟨rfl, rfl⟩)
set_option maxRecDepth 65536 in
set_option maxHeartbeats 40000000 in
theorem rm401 (B : EV l Z a0 zc fm)  (h0 : Heap) {n0 : Nat} (O0 : Old Z n0 h0)  :
    Met l Z EL0 n0 (⟨"java/lang/StringUTF16", "newBytesFor", "(I)[B"⟩ : MethodName) jdk_52_method_2_code 1 (some (.array .byte)) [] (rO 1 1 12 12) #[(.int 6)] h0 [] [] (fun v h' S => ∃ (r : Addr) (kc : ClassId), v = some (.ref r) ∧ h0.size ≤ r ∧ Arv Z h' r kc .byte (12 : Int32) [(.int 0), (.int 0), (.int 0), (.int 0), (.int 0), (.int 0), (.int 0), (.int 0), (.int 0), (.int 0), (.int 0), (.int 0)] (.int 0) ∧ S r) := by
  obtain ⟨hw, hEL, SC, hzc, SF, rfm⟩ := id B
  refine Met.of (plainFor_of_name pn0) O0 ?_
  intro p e s m below meth c T0 hx hby hml hret hlk hnm hs W0
  have W0 : Wk p l e _ s m _ below meth c Z EL0 n0 [] "java/lang/StringUTF16" [] T0 0 0 h0 := W0
  have D := @tk c _ _ hby tk3
  refine Go.of (fun _ kk => castTop (ef200 m (6 : Int32)) kk) ?_
  refine W0.pv hx D 0 1 1 [_] [.int 6] rfl ?_
  refine W0.callS hx hEL (hw _ (mI 137 rfl)) (hw _ (mI 138 rfl)) (hw _ (mI 29 rfl)) (hw _ (mI 139 rfl)) (by decide +kernel) (argsL := [(.int 6)]) (rest := []) (rm400 B  h0 W0.old ) all0 (by decide +kernel) (Wd := 0) (by decide +kernel) (by decide +kernel) (by decide +kernel) all0 rfl (by rw [hml]; rfl) (lenOf pd1 rfl) rfl (by show 2 * 0 + _ ≤ _; exact Nat.le_of_eq rfl) (D 1 rfl) (fun T1 h1 v1 P1 Ws1 K1 q1 => ?_)
  have W1 := Ws1 [] all0
  obtain ⟨rfl, rfl⟩ := q1
  show Go p e below _ (T1.setTop (mkF m 4 #[vi 6] [(.int 12)]))
  refine W1.newP hx (hw _ (mI 3 rfl)) rfl (D 4 rfl) rfl (by decide +kernel) (cap := 12) (by decide +kernel) (by decide +kernel) (by decide +kernel) (by decide +kernel) (fun T2 h2 b2 c2 eb2 gb2 W2 K2 A2 => ?_)
  have V2 : Arv Z h2 b2 c2 .byte (12 : Int32) [(.int 0), (.int 0), (.int 0), (.int 0), (.int 0), (.int 0), (.int 0), (.int 0), (.int 0), (.int 0), (.int 0), (.int 0)] (.int 0) := A2
  show Go p e below _ (T2.setTop (mkF m 6 #[vi 6] [(.ref b2)]))
  exact W2.retA hx hEL hs hlk (by decide +kernel) (by decide +kernel) hret rfl rfl (D 6 rfl) (fun S hS => ⟨b2, c2, rfl, hs ▸ gb2.2, V2, hS _ (mI 0 rfl)⟩)
set_option maxRecDepth 65536 in
set_option maxHeartbeats 40000000 in
theorem rm402 (B : EV l Z a0 zc fm) (x1 : Addr) (kc : ClassId) (d1 d2 d3 d4 d5 d6 : Int32) (h0 : Heap) {n0 : Nat} (O0 : Old Z n0 h0) (SA1 : sq0 Z) (SH0 : sq1 Z) (SL8 : sq2 Z) (Ac : Arv Z h0 x1 kc .char (6 : Int32) [(.int d1), (.int d2), (.int d3), (.int d4), (.int d5), (.int d6)] (.int 0)) :
    Met l Z EL0 n0 (⟨"java/lang/StringUTF16", "toBytes", "([CII)[B"⟩ : MethodName) jdk_52_method_14_code 5 (some (.array .byte)) [] (rO 2 1 12 24) #[(.ref x1), (.int 0), (.int 6)] h0 [] [] (fun v h' S => ∃ (r : Addr) (kc : ClassId), v = some (.ref r) ∧ h0.size ≤ r ∧ Arv Z h' r kc .byte (12 : Int32) [(.int (StrChars.lo8 d1)), (.int (StrChars.hi8 d1)), (.int (StrChars.lo8 d2)), (.int (StrChars.hi8 d2)), (.int (StrChars.lo8 d3)), (.int (StrChars.hi8 d3)), (.int (StrChars.lo8 d4)), (.int (StrChars.hi8 d4)), (.int (StrChars.lo8 d5)), (.int (StrChars.hi8 d5)), (.int (StrChars.lo8 d6)), (.int (StrChars.hi8 d6))] (.int 0)) := by
  obtain ⟨hw, hEL, SC, hzc, SF, rfm⟩ := id B
  refine Met.of (plainFor_of_name pn0) O0 ?_
  intro p e s m below meth c T0 hx hby hml hret hlk hnm hs W0
  have W0 : Wk p l e _ s m _ below meth c Z EL0 n0 [] "java/lang/StringUTF16" [] T0 0 0 h0 := W0
  have D := @tk c _ _ hby tk4
  refine Go.of (fun _ kk => castTop (ef202 m x1 (0 : Int32) (6 : Int32)) kk) ?_
  refine W0.pv hx D 0 1 1 [_, _, _, _, _] [.int 6] rfl ?_
  refine W0.callS hx hEL (hw _ (mI 134 rfl)) (hw _ (mI 135 rfl)) (hw _ (mI 29 rfl)) (hw _ (mI 136 rfl)) (by decide +kernel) (argsL := [(.int 6)]) (rest := []) (rm401 B  h0 W0.old ) all0 (by decide +kernel) (Wd := 0) (by decide +kernel) (by decide +kernel) (by decide +kernel) all0 rfl (by rw [hml]; rfl) (lenOf pd2 rfl) rfl (by show 2 * 0 + _ ≤ _; exact Nat.le_of_eq rfl) (D 1 rfl) (fun T1 h1 v1 P1 Ws1 K1 q1 => ?_)
  obtain ⟨r1, kc1, rfl, lr1, A1, sr1⟩ := q1
  have W1 := Ws1 [r1] (allS sr1 all0)
  have gr1 : n0 ≤ r1 ∧ s.heap.size ≤ r1 := ⟨Nat.le_trans W0.n0le lr1, Nat.le_trans W0.s0le lr1⟩
  refine W1.pu hx D 4 [(5, false)] 4 19 [_, _, _, _, vi 0] [.int 0, _, .int 0, _] rfl ⟨trivial, (XT.ii_ge_f (by decide +kernel))⟩ ?_
  have k2 := (Ac.keep K1 nin0)
  refine W1.caload hx k2 ⟨by decide, by decide⟩ (v := (.int d1)) rfl rfl rfl (D 19 rfl) ?_
  show Go p e below _ (T1.setTop (mkF m 20 #[vr x1, vi 0, vi 6, vr r1, vi 0] [(.int d1), (.int 0), (.ref r1)]))
  refine W1.callS hx hEL (hw _ (mI 82 rfl)) (hw _ (mI 83 rfl)) (hw _ (mI 29 rfl)) (hw _ (mI 84 rfl)) (by decide +kernel) (argsL := [(.ref r1), (.int 0), (.int d1)]) (rest := []) (rm110 B r1 d1 kc1 (0 : Int32) (0 : Int32) (0 : Int32) (0 : Int32) (0 : Int32) (0 : Int32) (0 : Int32) (0 : Int32) (0 : Int32) (0 : Int32) (0 : Int32) (0 : Int32) h1 W1.old SA1 SH0 SL8 A1 gr1.1) (allS (mI 0 rfl) all0) (by decide +kernel) (Wd := 0) (by decide +kernel) (by decide +kernel) (by decide +kernel) (allS ⟨gr1.1, (Or.inr gr1.2)⟩ all0) rfl (by rw [hml]; rfl) (lenOf pd0 rfl) rfl (by show 2 * 0 + _ ≤ _; exact Nat.le_of_eq rfl) (D 20 rfl) (fun T3 h3 v3 P3 Ws3 K3 q3 => ?_)
  have W3 := Ws3 [] all0
  obtain ⟨rfl, A3⟩ := q3
  refine W3.pu hx D 23 [(5, false)] 4 19 [_, vi 1, _, _, vi 1] [.int 1, _, .int 1, _] rfl ⟨trivial, (XT.ii_ge_f (by decide +kernel))⟩ ?_
  have k4 := (k2.keep K3 (ninS (ne_of_born lr1 Ac.lt (Nat.le_refl _)) nin0))
  refine W3.caload hx k4 ⟨by decide, by decide⟩ (v := (.int d2)) rfl rfl rfl (D 19 rfl) ?_
  show Go p e below _ (T3.setTop (mkF m 20 #[vr x1, vi 1, vi 6, vr r1, vi 1] [(.int d2), (.int 1), (.ref r1)]))
  refine W3.callS hx hEL (hw _ (mI 82 rfl)) (hw _ (mI 83 rfl)) (hw _ (mI 29 rfl)) (hw _ (mI 84 rfl)) (by decide +kernel) (argsL := [(.ref r1), (.int 1), (.int d2)]) (rest := []) (rm111 B r1 d2 kc1 (StrChars.lo8 d1) (StrChars.hi8 d1) (0 : Int32) (0 : Int32) (0 : Int32) (0 : Int32) (0 : Int32) (0 : Int32) (0 : Int32) (0 : Int32) (0 : Int32) (0 : Int32) h3 W3.old SA1 SH0 SL8 A3 gr1.1) (allS (mI 0 rfl) all0) (by decide +kernel) (Wd := 0) (by decide +kernel) (by decide +kernel) (by decide +kernel) (allS ⟨gr1.1, (Or.inr gr1.2)⟩ all0) rfl (by rw [hml]; rfl) (lenOf pd0 rfl) rfl (by show 2 * 0 + _ ≤ _; exact Nat.le_of_eq rfl) (D 20 rfl) (fun T5 h5 v5 P5 Ws5 K5 q5 => ?_)
  have W5 := Ws5 [] all0
  obtain ⟨rfl, A5⟩ := q5
  refine W5.pu hx D 23 [(5, false)] 4 19 [_, vi 2, _, _, vi 2] [.int 2, _, .int 2, _] rfl ⟨trivial, (XT.ii_ge_f (by decide +kernel))⟩ ?_
  have k6 := (k4.keep K5 (ninS (ne_of_born lr1 Ac.lt (Nat.le_refl _)) nin0))
  refine W5.caload hx k6 ⟨by decide, by decide⟩ (v := (.int d3)) rfl rfl rfl (D 19 rfl) ?_
  show Go p e below _ (T5.setTop (mkF m 20 #[vr x1, vi 2, vi 6, vr r1, vi 2] [(.int d3), (.int 2), (.ref r1)]))
  refine W5.callS hx hEL (hw _ (mI 82 rfl)) (hw _ (mI 83 rfl)) (hw _ (mI 29 rfl)) (hw _ (mI 84 rfl)) (by decide +kernel) (argsL := [(.ref r1), (.int 2), (.int d3)]) (rest := []) (rm112 B r1 d3 kc1 (StrChars.lo8 d1) (StrChars.hi8 d1) (StrChars.lo8 d2) (StrChars.hi8 d2) (0 : Int32) (0 : Int32) (0 : Int32) (0 : Int32) (0 : Int32) (0 : Int32) (0 : Int32) (0 : Int32) h5 W5.old SA1 SH0 SL8 A5 gr1.1) (allS (mI 0 rfl) all0) (by decide +kernel) (Wd := 0) (by decide +kernel) (by decide +kernel) (by decide +kernel) (allS ⟨gr1.1, (Or.inr gr1.2)⟩ all0) rfl (by rw [hml]; rfl) (lenOf pd0 rfl) rfl (by show 2 * 0 + _ ≤ _; exact Nat.le_of_eq rfl) (D 20 rfl) (fun T7 h7 v7 P7 Ws7 K7 q7 => ?_)
  have W7 := Ws7 [] all0
  obtain ⟨rfl, A7⟩ := q7
  refine W7.pu hx D 23 [(5, false)] 4 19 [_, vi 3, _, _, vi 3] [.int 3, _, .int 3, _] rfl ⟨trivial, (XT.ii_ge_f (by decide +kernel))⟩ ?_
  have k8 := (k6.keep K7 (ninS (ne_of_born lr1 Ac.lt (Nat.le_refl _)) nin0))
  refine W7.caload hx k8 ⟨by decide, by decide⟩ (v := (.int d4)) rfl rfl rfl (D 19 rfl) ?_
  show Go p e below _ (T7.setTop (mkF m 20 #[vr x1, vi 3, vi 6, vr r1, vi 3] [(.int d4), (.int 3), (.ref r1)]))
  refine W7.callS hx hEL (hw _ (mI 82 rfl)) (hw _ (mI 83 rfl)) (hw _ (mI 29 rfl)) (hw _ (mI 84 rfl)) (by decide +kernel) (argsL := [(.ref r1), (.int 3), (.int d4)]) (rest := []) (rm113 B r1 d4 kc1 (StrChars.lo8 d1) (StrChars.hi8 d1) (StrChars.lo8 d2) (StrChars.hi8 d2) (StrChars.lo8 d3) (StrChars.hi8 d3) (0 : Int32) (0 : Int32) (0 : Int32) (0 : Int32) (0 : Int32) (0 : Int32) h7 W7.old SA1 SH0 SL8 A7 gr1.1) (allS (mI 0 rfl) all0) (by decide +kernel) (Wd := 0) (by decide +kernel) (by decide +kernel) (by decide +kernel) (allS ⟨gr1.1, (Or.inr gr1.2)⟩ all0) rfl (by rw [hml]; rfl) (lenOf pd0 rfl) rfl (by show 2 * 0 + _ ≤ _; exact Nat.le_of_eq rfl) (D 20 rfl) (fun T9 h9 v9 P9 Ws9 K9 q9 => ?_)
  have W9 := Ws9 [] all0
  obtain ⟨rfl, A9⟩ := q9
  refine W9.pu hx D 23 [(5, false)] 4 19 [_, vi 4, _, _, vi 4] [.int 4, _, .int 4, _] rfl ⟨trivial, (XT.ii_ge_f (by decide +kernel))⟩ ?_
  have k10 := (k8.keep K9 (ninS (ne_of_born lr1 Ac.lt (Nat.le_refl _)) nin0))
  refine W9.caload hx k10 ⟨by decide, by decide⟩ (v := (.int d5)) rfl rfl rfl (D 19 rfl) ?_
  show Go p e below _ (T9.setTop (mkF m 20 #[vr x1, vi 4, vi 6, vr r1, vi 4] [(.int d5), (.int 4), (.ref r1)]))
  refine W9.callS hx hEL (hw _ (mI 82 rfl)) (hw _ (mI 83 rfl)) (hw _ (mI 29 rfl)) (hw _ (mI 84 rfl)) (by decide +kernel) (argsL := [(.ref r1), (.int 4), (.int d5)]) (rest := []) (rm114 B r1 d5 kc1 (StrChars.lo8 d1) (StrChars.hi8 d1) (StrChars.lo8 d2) (StrChars.hi8 d2) (StrChars.lo8 d3) (StrChars.hi8 d3) (StrChars.lo8 d4) (StrChars.hi8 d4) (0 : Int32) (0 : Int32) (0 : Int32) (0 : Int32) h9 W9.old SA1 SH0 SL8 A9 gr1.1) (allS (mI 0 rfl) all0) (by decide +kernel) (Wd := 0) (by decide +kernel) (by decide +kernel) (by decide +kernel) (allS ⟨gr1.1, (Or.inr gr1.2)⟩ all0) rfl (by rw [hml]; rfl) (lenOf pd0 rfl) rfl (by show 2 * 0 + _ ≤ _; exact Nat.le_of_eq rfl) (D 20 rfl) (fun T11 h11 v11 P11 Ws11 K11 q11 => ?_)
  have W11 := Ws11 [] all0
  obtain ⟨rfl, A11⟩ := q11
  refine W11.pu hx D 23 [(5, false)] 4 19 [_, vi 5, _, _, vi 5] [.int 5, _, .int 5, _] rfl ⟨trivial, (XT.ii_ge_f (by decide +kernel))⟩ ?_
  have k12 := (k10.keep K11 (ninS (ne_of_born lr1 Ac.lt (Nat.le_refl _)) nin0))
  refine W11.caload hx k12 ⟨by decide, by decide⟩ (v := (.int d6)) rfl rfl rfl (D 19 rfl) ?_
  show Go p e below _ (T11.setTop (mkF m 20 #[vr x1, vi 5, vi 6, vr r1, vi 5] [(.int d6), (.int 5), (.ref r1)]))
  refine W11.callS hx hEL (hw _ (mI 82 rfl)) (hw _ (mI 83 rfl)) (hw _ (mI 29 rfl)) (hw _ (mI 84 rfl)) (by decide +kernel) (argsL := [(.ref r1), (.int 5), (.int d6)]) (rest := []) (rm115 B r1 d6 kc1 (StrChars.lo8 d1) (StrChars.hi8 d1) (StrChars.lo8 d2) (StrChars.hi8 d2) (StrChars.lo8 d3) (StrChars.hi8 d3) (StrChars.lo8 d4) (StrChars.hi8 d4) (StrChars.lo8 d5) (StrChars.hi8 d5) (0 : Int32) (0 : Int32) h11 W11.old SA1 SH0 SL8 A11 gr1.1) (allS (mI 0 rfl) all0) (by decide +kernel) (Wd := 0) (by decide +kernel) (by decide +kernel) (by decide +kernel) (allS ⟨gr1.1, (Or.inr gr1.2)⟩ all0) rfl (by rw [hml]; rfl) (lenOf pd0 rfl) rfl (by show 2 * 0 + _ ≤ _; exact Nat.le_of_eq rfl) (D 20 rfl) (fun T13 h13 v13 P13 Ws13 K13 q13 => ?_)
  have W13 := Ws13 [] all0
  obtain ⟨rfl, A13⟩ := q13
  refine W13.pu hx D 23 [(5, true)] 1 33 [_, vi 6, _, _, vi 6] [_] rfl ⟨trivial, (XT.ii_ge_t (by decide +kernel))⟩ ?_
  exact W13.retA hx hEL hs hlk (by decide +kernel) (by decide +kernel) hret rfl rfl (D 33 rfl) (fun S hS => ⟨r1, kc1, rfl, hs ▸ gr1.2, A13⟩)
set_option maxRecDepth 65536 in
set_option maxHeartbeats 40000000 in
theorem rm403 (B : EV l Z a0 zc fm) (t : Addr) (kc : ClassId) (d1 d2 d3 d4 d5 d6 : Int32) (h0 : Heap) {n0 : Nat} (O0 : Old Z n0 h0) (Ab : Arv Z h0 t kc .byte (12 : Int32) [(.int (StrChars.lo8 d1)), (.int (StrChars.hi8 d1)), (.int (StrChars.lo8 d2)), (.int (StrChars.hi8 d2)), (.int (StrChars.lo8 d3)), (.int (StrChars.hi8 d3)), (.int (StrChars.lo8 d4)), (.int (StrChars.hi8 d4)), (.int (StrChars.lo8 d5)), (.int (StrChars.hi8 d5)), (.int (StrChars.lo8 d6)), (.int (StrChars.hi8 d6))] (.int 0)) :
    Met l Z EL0 n0 (⟨"java/lang/StringUTF16", "coderFromArrayLen", "([BI)B"⟩ : MethodName) jdk_52_method_15_code 2 (some .byte) [] (rO 0 0 0 0) #[(.ref t), (.int 6)] h0 [] [] (fun v h' S => v = some (.int 1) ∧ h0 = h') := by
  obtain ⟨hw, hEL, SC, hzc, SF, rfm⟩ := id B
  refine Met.of (plainFor_of_name pn0) O0 ?_
  intro p e s m below meth c T0 hx hby hml hret hlk hnm hs W0
  have W0 : Wk p l e _ s m _ below meth c Z EL0 n0 [] "java/lang/StringUTF16" [] T0 0 0 h0 := W0
  have D := @tk c _ _ hby tk5
  refine Go.of (fun _ kk => castTop (ef203 m t (6 : Int32)) kk) ?_
  refine W0.pv hx D 0 2 2 [_, _] [_, .int 6] rfl ?_
  refine W0.alen hx Ab rfl rfl (D 2 rfl) ?_
  refine W0.pv hx D 3 4 8 [_, _] [.int ((((-6 : Int32).toUInt32 >>> ((31 : Int32) &&& 31).toUInt32).toInt32).toInt8.toInt32)] rfl ?_
  have e8 : ((((-6 : Int32).toUInt32 >>> ((31 : Int32) &&& 31).toUInt32).toInt32).toInt8.toInt32) = (1 : Int32) := by decide +kernel
  rw [e8]
  show Go p e below _ (T0.setTop (mkF m 8 #[vr t, vi 6] [(.int 1)]))
  exact W0.retI hx hEL hs hlk (by decide +kernel) (by decide +kernel) hret (by simp) rfl (D 8 rfl) (fun S hS => ⟨rfl, rfl⟩)
set_option maxRecDepth 65536 in
set_option maxHeartbeats 40000000 in
theorem rm460 (B : EV l Z a0 zc fm) (x1 x2 : Addr) (kc : ClassId) (d1 d2 d3 d4 d5 d6 : Int32) (kb : ClassId) (h0 : Heap) {n0 : Nat} (O0 : Old Z n0 h0) (Ac : Arv Z h0 x1 kc .char (6 : Int32) [(.int d1), (.int d2), (.int d3), (.int d4), (.int d5), (.int d6)] (.int 0)) (cd1 : ¬ d1 < 0 ∧ ¬ (65535 : Int32) < d1) (cd2 : ¬ d2 < 0 ∧ ¬ (65535 : Int32) < d2) (cd3 : ¬ d3 < 0 ∧ ¬ (65535 : Int32) < d3) (cd4 : ¬ d4 < 0 ∧ ¬ (65535 : Int32) < d4) (cd5 : ¬ d5 < 0 ∧ ¬ (65535 : Int32) < d5) (cd6 : ¬ d6 < 0 ∧ ¬ (65535 : Int32) < d6) (nd1 : ¬ (255 : Int32) < d1) (nd2 : ¬ (255 : Int32) < d2) (nd3 : ¬ (255 : Int32) < d3) (nd4 : ¬ (255 : Int32) < d4) (nd5 : ¬ (255 : Int32) < d5) (wd : (255 : Int32) < d6) (Ab : Arv Z h0 x2 kb .byte (6 : Int32) [(.int 0), (.int 0), (.int 0), (.int 0), (.int 0), (.int 0)] (.int 0)) (g2 : n0 ≤ x2) (nx : x1 ≠ x2) :
    Met l Z EL0 n0 (⟨"java/lang/StringUTF16", "compress", "([CI[BII)I"⟩ : MethodName) jdk_52_method_21_code 7 (some .int) [] (rO 0 0 0 0) #[(.ref x1), (.int 0), (.ref x2), (.int 0), (.int 6)] h0 [x2] [x2] (fun v h' S => v = some (.int 5)) := by
  obtain ⟨hw, hEL, SC, hzc, SF, rfm⟩ := id B
  refine Met.of (plainFor_of_name pn0) O0 ?_
  intro p e s m below meth c T0 hx hby hml hret hlk hnm hs W0
  have W0 : Wk p l e _ s m _ below meth c Z EL0 n0 [x2] "java/lang/StringUTF16" [x2] T0 0 0 h0 := W0
  have D := @tk c _ _ hby tk6
  refine Go.of (fun _ kk => castTop (ef210 m x1 (0 : Int32) x2 (0 : Int32) (6 : Int32)) kk) ?_
  refine W0.pu hx D 0 [(4, false)] 2 12 [_, _, _, _, _, vi 0, _] [.int 0, _] rfl ⟨trivial, (XT.ii_ge_f (by decide +kernel))⟩ ?_
  refine W0.caload hx Ac ⟨by decide, by decide⟩ (v := (.int d1)) rfl rfl rfl (D 12 rfl) ?_
  refine W0.pu hx D 13 [(3, true)] 4 31 [_, _, _, _, _, _, _] [.int (d1.toInt8.toInt32), .int 0, _] rfl ⟨trivial, (XT.ii_le_t nd1)⟩ ?_
  refine W0.stB hx Ab ⟨by decide, by decide⟩ 0 rfl (Nat.le_of_ble_eq_true rfl) g2 (Or.inl (mI 0 rfl)) (mI 0 rfl) rfl rfl (D 31 rfl) (fun T1 h1 W1 K1 A1 => ?_)
  have V1 : Arv Z h1 x2 kb .byte (6 : Int32) [(.int (d1.toInt8.toInt32)), (.int 0), (.int 0), (.int 0), (.int 0), (.int 0)] (.int 0) := (by rw [(nar_byte _)] at A1; exact A1)
  refine W1.pu hx D 32 [(6, false)] 2 12 [_, vi 1, _, vi 1, _, vi 1, _] [.int 1, _] rfl ⟨trivial, (XT.ii_ge_f (by decide +kernel))⟩ ?_
  have k2 := (Ac.keep K1 (ninS nx nin0))
  refine W1.caload hx k2 ⟨by decide, by decide⟩ (v := (.int d2)) rfl rfl rfl (D 12 rfl) ?_
  refine W1.pu hx D 13 [(3, true)] 4 31 [_, _, _, _, _, _, _] [.int (d2.toInt8.toInt32), .int 1, _] rfl ⟨trivial, (XT.ii_le_t nd2)⟩ ?_
  refine W1.stB hx V1 ⟨by decide, by decide⟩ 1 rfl (Nat.le_of_ble_eq_true rfl) g2 (Or.inl (mI 0 rfl)) (mI 0 rfl) rfl rfl (D 31 rfl) (fun T3 h3 W3 K3 A3 => ?_)
  have V3 : Arv Z h3 x2 kb .byte (6 : Int32) [(.int (d1.toInt8.toInt32)), (.int (d2.toInt8.toInt32)), (.int 0), (.int 0), (.int 0), (.int 0)] (.int 0) := (by rw [(nar_byte _)] at A3; exact A3)
  refine W3.pu hx D 32 [(6, false)] 2 12 [_, vi 2, _, vi 2, _, vi 2, _] [.int 2, _] rfl ⟨trivial, (XT.ii_ge_f (by decide +kernel))⟩ ?_
  have k4 := (k2.keep K3 (ninS nx nin0))
  refine W3.caload hx k4 ⟨by decide, by decide⟩ (v := (.int d3)) rfl rfl rfl (D 12 rfl) ?_
  refine W3.pu hx D 13 [(3, true)] 4 31 [_, _, _, _, _, _, _] [.int (d3.toInt8.toInt32), .int 2, _] rfl ⟨trivial, (XT.ii_le_t nd3)⟩ ?_
  refine W3.stB hx V3 ⟨by decide, by decide⟩ 2 rfl (Nat.le_of_ble_eq_true rfl) g2 (Or.inl (mI 0 rfl)) (mI 0 rfl) rfl rfl (D 31 rfl) (fun T5 h5 W5 K5 A5 => ?_)
  have V5 : Arv Z h5 x2 kb .byte (6 : Int32) [(.int (d1.toInt8.toInt32)), (.int (d2.toInt8.toInt32)), (.int (d3.toInt8.toInt32)), (.int 0), (.int 0), (.int 0)] (.int 0) := (by rw [(nar_byte _)] at A5; exact A5)
  refine W5.pu hx D 32 [(6, false)] 2 12 [_, vi 3, _, vi 3, _, vi 3, _] [.int 3, _] rfl ⟨trivial, (XT.ii_ge_f (by decide +kernel))⟩ ?_
  have k6 := (k4.keep K5 (ninS nx nin0))
  refine W5.caload hx k6 ⟨by decide, by decide⟩ (v := (.int d4)) rfl rfl rfl (D 12 rfl) ?_
  refine W5.pu hx D 13 [(3, true)] 4 31 [_, _, _, _, _, _, _] [.int (d4.toInt8.toInt32), .int 3, _] rfl ⟨trivial, (XT.ii_le_t nd4)⟩ ?_
  refine W5.stB hx V5 ⟨by decide, by decide⟩ 3 rfl (Nat.le_of_ble_eq_true rfl) g2 (Or.inl (mI 0 rfl)) (mI 0 rfl) rfl rfl (D 31 rfl) (fun T7 h7 W7 K7 A7 => ?_)
  have V7 : Arv Z h7 x2 kb .byte (6 : Int32) [(.int (d1.toInt8.toInt32)), (.int (d2.toInt8.toInt32)), (.int (d3.toInt8.toInt32)), (.int (d4.toInt8.toInt32)), (.int 0), (.int 0)] (.int 0) := (by rw [(nar_byte _)] at A7; exact A7)
  refine W7.pu hx D 32 [(6, false)] 2 12 [_, vi 4, _, vi 4, _, vi 4, _] [.int 4, _] rfl ⟨trivial, (XT.ii_ge_f (by decide +kernel))⟩ ?_
  have k8 := (k6.keep K7 (ninS nx nin0))
  refine W7.caload hx k8 ⟨by decide, by decide⟩ (v := (.int d5)) rfl rfl rfl (D 12 rfl) ?_
  refine W7.pu hx D 13 [(3, true)] 4 31 [_, _, _, _, _, _, _] [.int (d5.toInt8.toInt32), .int 4, _] rfl ⟨trivial, (XT.ii_le_t nd5)⟩ ?_
  refine W7.stB hx V7 ⟨by decide, by decide⟩ 4 rfl (Nat.le_of_ble_eq_true rfl) g2 (Or.inl (mI 0 rfl)) (mI 0 rfl) rfl rfl (D 31 rfl) (fun T9 h9 W9 K9 A9 => ?_)
  have V9 : Arv Z h9 x2 kb .byte (6 : Int32) [(.int (d1.toInt8.toInt32)), (.int (d2.toInt8.toInt32)), (.int (d3.toInt8.toInt32)), (.int (d4.toInt8.toInt32)), (.int (d5.toInt8.toInt32)), (.int 0)] (.int 0) := (by rw [(nar_byte _)] at A9; exact A9)
  refine W9.pu hx D 32 [(6, false)] 2 12 [_, vi 5, _, vi 5, _, vi 5, _] [.int 5, _] rfl ⟨trivial, (XT.ii_ge_f (by decide +kernel))⟩ ?_
  have k10 := (k8.keep K9 (ninS nx nin0))
  refine W9.caload hx k10 ⟨by decide, by decide⟩ (v := (.int d6)) rfl rfl rfl (D 12 rfl) ?_
  refine W9.pu hx D 13 [(3, false)] 1 25 [_, _, _, _, _, _, _] [.int 5] rfl ⟨trivial, (XT.ii_le_f wd)⟩ ?_
  exact W9.retI hx hEL hs hlk (by decide +kernel) (by decide +kernel) hret (by simp) rfl (D 25 rfl) (fun S hS => rfl)
set_option maxRecDepth 65536 in
set_option maxHeartbeats 40000000 in
theorem rm461 (B : EV l Z a0 zc fm) (t : Addr) (kc : ClassId) (d1 d2 d3 d4 d5 d6 : Int32) (h0 : Heap) {n0 : Nat} (O0 : Old Z n0 h0) (SA1 : sq0 Z) (SH0 : sq1 Z) (SL8 : sq2 Z) (Ab : Arv Z h0 t kc .byte (12 : Int32) [(.int (StrChars.lo8 d1)), (.int (StrChars.hi8 d1)), (.int (StrChars.lo8 d2)), (.int (StrChars.hi8 d2)), (.int (StrChars.lo8 d3)), (.int (StrChars.hi8 d3)), (.int (StrChars.lo8 d4)), (.int (StrChars.hi8 d4)), (.int (StrChars.lo8 d5)), (.int (StrChars.hi8 d5)), (.int (StrChars.lo8 d6)), (.int (StrChars.hi8 d6))] (.int 0)) (cd6 : ¬ d6 < 0 ∧ ¬ (65535 : Int32) < d6) :
    Met l Z EL0 n0 (⟨"java/lang/StringUTF16", "getChar", "([BI)C"⟩ : MethodName) jdk_52_method_5_code 2 (some .char) [] (rO 0 0 0 0) #[(.ref t), (.int 5)] h0 [] [] (fun v h' S => v = some (.int d6) ∧ h0 = h') := by
  obtain ⟨hw, hEL, SC, hzc, SF, rfm⟩ := id B
  refine Met.of (plainFor_of_name pn0) O0 ?_
  intro p e s m below meth c T0 hx hby hml hret hlk hnm hs W0
  have W0 : Wk p l e _ s m _ below meth c Z EL0 n0 [] "java/lang/StringUTF16" [] T0 0 0 h0 := W0
  have D := @tk c _ _ hby tk7
  refine Go.of (fun _ kk => castTop (ef203 m t (5 : Int32)) kk) ?_
  show Go p e below _ (T0.setTop (mkF m 0 #[vr t, vi 5] []))
  refine W0.getS hx (host := "") (Or.inl (hw _ (mI 85 rfl))) Via.refl SA1 rfl (D 0 rfl) (fun T1 W1 => ?_)
  refine W1.pu hx D 3 [(0, true)] 7 37 [_, vi 11] [.int 10, _] rfl ⟨trivial, (XT.i0_ne_t (by decide +kernel))⟩ ?_
  refine W1.baload hx Ab ⟨by decide, by decide⟩ (v := (.int (StrChars.lo8 d6))) rfl rfl rfl (D 37 rfl) ?_
  refine W1.pv hx D 38 2 42 [_, _] [.int ((StrChars.lo8 d6) &&& (255 : Int32))] rfl ?_
  refine W1.getS hx (host := "") (Or.inl (hw _ (mI 86 rfl))) Via.refl SH0 rfl (D 42 rfl) (fun T2 W2 => ?_)
  refine W2.pv hx D 45 3 48 [_, _] [.int 11, _, .int (((StrChars.lo8 d6) &&& (255 : Int32)) <<< ((0 : Int32) &&& 31))] rfl ?_
  refine W2.baload hx Ab ⟨by decide, by decide⟩ (v := (.int (StrChars.hi8 d6))) rfl rfl rfl (D 48 rfl) ?_
  refine W2.pv hx D 49 2 53 [_, _] [.int ((StrChars.hi8 d6) &&& (255 : Int32)), _] rfl ?_
  refine W2.getS hx (host := "") (Or.inl (hw _ (mI 87 rfl))) Via.refl SL8 rfl (D 53 rfl) (fun T3 W3 => ?_)
  refine W3.pv hx D 56 3 59 [_, _] [.int (((((StrChars.lo8 d6) &&& (255 : Int32)) <<< ((0 : Int32) &&& 31)) ||| (((StrChars.hi8 d6) &&& (255 : Int32)) <<< ((8 : Int32) &&& 31))).toUInt32.toUInt16.toUInt32.toInt32)] rfl ?_
  have e59 : (((((StrChars.lo8 d6) &&& (255 : Int32)) <<< ((0 : Int32) &&& 31)) ||| (((StrChars.hi8 d6) &&& (255 : Int32)) <<< ((8 : Int32) &&& 31))).toUInt32.toUInt16.toUInt32.toInt32) = d6 := StrChars.pair_says cd6.1 cd6.2
  rw [e59]
  show Go p e below _ (T3.setTop (mkF m 59 #[vr t, vi 11] [(.int d6)]))
  exact W3.retI hx hEL hs hlk (by decide +kernel) (by decide +kernel) hret (by simp) (nar_retw cd6) (D 59 rfl) (fun S hS => ⟨rfl, rfl⟩)
set_option maxRecDepth 65536 in
set_option maxHeartbeats 40000000 in
theorem rm462 (B : EV l Z a0 zc fm) (x1 : Addr) (kc : ClassId) (d1 d2 d3 d4 d5 d6 : Int32) (h0 : Heap) {n0 : Nat} (O0 : Old Z n0 h0) (SA1 : sq0 Z) (SH0 : sq1 Z) (SL8 : sq2 Z) (Ac : Arv Z h0 x1 kc .char (6 : Int32) [(.int d1), (.int d2), (.int d3), (.int d4), (.int d5), (.int d6)] (.int 0)) (cd1 : ¬ d1 < 0 ∧ ¬ (65535 : Int32) < d1) (cd2 : ¬ d2 < 0 ∧ ¬ (65535 : Int32) < d2) (cd3 : ¬ d3 < 0 ∧ ¬ (65535 : Int32) < d3) (cd4 : ¬ d4 < 0 ∧ ¬ (65535 : Int32) < d4) (cd5 : ¬ d5 < 0 ∧ ¬ (65535 : Int32) < d5) (cd6 : ¬ d6 < 0 ∧ ¬ (65535 : Int32) < d6) (nd1 : ¬ (255 : Int32) < d1) (nd2 : ¬ (255 : Int32) < d2) (nd3 : ¬ (255 : Int32) < d3) (nd4 : ¬ (255 : Int32) < d4) (nd5 : ¬ (255 : Int32) < d5) (wd : (255 : Int32) < d6) :
    Met l Z EL0 n0 (⟨"java/lang/StringUTF16", "compress", "([CII)[B"⟩ : MethodName) jdk_52_method_16_code 6 (some (.array .byte)) [] (rO 3 2 18 40) #[(.ref x1), (.int 0), (.int 6)] h0 [] [] (fun v h' S => ∃ (r : Addr) (kc : ClassId), v = some (.ref r) ∧ h0.size ≤ r ∧ Arv Z h' r kc .byte (12 : Int32) [(.int (StrChars.lo8 d1)), (.int (StrChars.hi8 d1)), (.int (StrChars.lo8 d2)), (.int (StrChars.hi8 d2)), (.int (StrChars.lo8 d3)), (.int (StrChars.hi8 d3)), (.int (StrChars.lo8 d4)), (.int (StrChars.hi8 d4)), (.int (StrChars.lo8 d5)), (.int (StrChars.hi8 d5)), (.int (StrChars.lo8 d6)), (.int (StrChars.hi8 d6))] (.int 0)) := by
  obtain ⟨hw, hEL, SC, hzc, SF, rfm⟩ := id B
  refine Met.of (plainFor_of_name pn0) O0 ?_
  intro p e s m below meth c T0 hx hby hml hret hlk hnm hs W0
  have W0 : Wk p l e _ s m _ below meth c Z EL0 n0 [] "java/lang/StringUTF16" [] T0 0 0 h0 := W0
  have D := @tk c _ _ hby tk8
  refine Go.of (fun _ kk => castTop (ef212 m x1 (0 : Int32) (6 : Int32)) kk) ?_
  refine W0.pv hx D 0 1 1 [_, _, _, _, _, _] [.int 6] rfl ?_
  refine W0.newP hx (hw _ (mI 3 rfl)) rfl (D 1 rfl) rfl (by decide +kernel) (cap := 6) (by decide +kernel) (by decide +kernel) (by decide +kernel) (by decide +kernel) (fun T1 h1 b1 c1 eb1 gb1 W1 K1 A1 => ?_)
  have V1 : Arv Z h1 b1 c1 .byte (6 : Int32) [(.int 0), (.int 0), (.int 0), (.int 0), (.int 0), (.int 0)] (.int 0) := A1
  refine W1.pv hx D 3 6 9 [_, _, _, _, _, _] [.int 6, .int 0, _, .int 0, _] rfl ?_
  have k3 := (Ac.keep K1 nin0)
  refine W1.callS hx hEL (hw _ (mI 31 rfl)) (hw _ (mI 32 rfl)) (hw _ (mI 29 rfl)) (hw _ (mI 33 rfl)) (by decide +kernel) (argsL := [(.ref x1), (.int 0), (.ref b1), (.int 0), (.int 6)]) (rest := []) (rm460 B x1 b1 kc d1 d2 d3 d4 d5 d6 c1 h1 W1.old k3 cd1 cd2 cd3 cd4 cd5 cd6 nd1 nd2 nd3 nd4 nd5 wd V1 gb1.1 (ne_of_born (Nat.le_of_eq eb1.symm) Ac.lt (Nat.le_refl _))) (allS (mI 0 rfl) all0) (by decide +kernel) (Wd := 0) (by decide +kernel) (by decide +kernel) (by decide +kernel) (allS ⟨gb1.1, (Or.inr gb1.2)⟩ all0) rfl (by rw [hml]; rfl) (lenOf pd3 rfl) rfl (by show 2 * 0 + _ ≤ _; exact Nat.le_of_eq rfl) (D 9 rfl) (fun T2 h2 v2 P2 Ws2 K2 q2 => ?_)
  have W2 := Ws2 [] all0
  obtain rfl := q2
  refine W2.pu hx D 12 [(3, false)] 3 23 [_, _, _, _, vi 5, _] [.int 6, .int 0, _] rfl ⟨trivial, (XT.ii_eq_f (by decide +kernel))⟩ ?_
  have k5 := (k3.keep K2 (ninS (ne_of_born (Nat.le_of_eq eb1.symm) Ac.lt (Nat.le_refl _)) nin0))
  refine W2.callS hx hEL (hw _ (mI 131 rfl)) (hw _ (mI 132 rfl)) (hw _ (mI 29 rfl)) (hw _ (mI 133 rfl)) (by decide +kernel) (argsL := [(.ref x1), (.int 0), (.int 6)]) (rest := []) (rm402 B x1 kc d1 d2 d3 d4 d5 d6 h2 W2.old SA1 SH0 SL8 k5) all0 (by decide +kernel) (Wd := 0) (by decide +kernel) (by decide +kernel) (by decide +kernel) all0 rfl (by rw [hml]; rfl) (lenOf pd4 rfl) rfl (by show 2 * 0 + _ ≤ _; exact Nat.le_of_eq rfl) (D 23 rfl) (fun T4 h4 v4 P4 Ws4 K4 q4 => ?_)
  have W4 := Ws4 [] all0
  obtain ⟨r4, kc4, rfl, lr4, A4⟩ := q4
  have gr4 : n0 ≤ r4 ∧ s.heap.size ≤ r4 := ⟨Nat.le_trans W2.n0le lr4, Nat.le_trans W2.s0le lr4⟩
  refine W4.pv hx D 26 3 32 [_, _, _, _, _, _] [.int 5, _] rfl ?_
  refine W4.callS hx hEL (hw _ (mI 141 rfl)) (hw _ (mI 142 rfl)) (hw _ (mI 29 rfl)) (hw _ (mI 143 rfl)) (by decide +kernel) (argsL := [(.ref r4), (.int 5)]) (rest := []) (rm461 B r4 kc4 d1 d2 d3 d4 d5 d6 h4 W4.old SA1 SH0 SL8 A4 cd6) all0 (by decide +kernel) (Wd := 0) (by decide +kernel) (by decide +kernel) (by decide +kernel) all0 rfl (by rw [hml]; rfl) (lenOf pd5 rfl) rfl (by show 2 * 0 + _ ≤ _; exact Nat.le_of_eq rfl) (D 32 rfl) (fun T6 h6 v6 P6 Ws6 K6 q6 => ?_)
  have W6 := Ws6 [] all0
  obtain ⟨rfl, rfl⟩ := q6
  refine W6.pu hx D 35 [(1, true)] 1 56 [_, _, _, _, _, _] [_] rfl ⟨trivial, (XT.ii_gt_t wd)⟩ ?_
  exact W6.retA hx hEL hs hlk (by decide +kernel) (by decide +kernel) hret rfl rfl (D 56 rfl) (fun S hS => ⟨r4, kc4, rfl, hs ▸ gr4.2, A4⟩)
set_option maxRecDepth 65536 in
set_option maxHeartbeats 40000000 in
theorem rm463 (B : EV l Z a0 zc fm) (x0 x1 : Addr) (kc : ClassId) (d1 d2 d3 d4 d5 d6 : Int32) (h0 : Heap) {n0 : Nat} (O0 : Old Z n0 h0) (SA1 : sq0 Z) (SH0 : sq1 Z) (SL8 : sq2 Z) (Ac : Arv Z h0 x1 kc .char (6 : Int32) [(.int d1), (.int d2), (.int d3), (.int d4), (.int d5), (.int d6)] (.int 0)) (cd1 : ¬ d1 < 0 ∧ ¬ (65535 : Int32) < d1) (cd2 : ¬ d2 < 0 ∧ ¬ (65535 : Int32) < d2) (cd3 : ¬ d3 < 0 ∧ ¬ (65535 : Int32) < d3) (cd4 : ¬ d4 < 0 ∧ ¬ (65535 : Int32) < d4) (cd5 : ¬ d5 < 0 ∧ ¬ (65535 : Int32) < d5) (cd6 : ¬ d6 < 0 ∧ ¬ (65535 : Int32) < d6) (nd1 : ¬ (255 : Int32) < d1) (nd2 : ¬ (255 : Int32) < d2) (nd3 : ¬ (255 : Int32) < d3) (nd4 : ¬ (255 : Int32) < d4) (nd5 : ¬ (255 : Int32) < d5) (wd : (255 : Int32) < d6) (Exx : Exa Z h0 x0 "java/lang/String") (Fxv : Fld Z h0 x0 "java/lang/String" "value" "[B" .null) (Fxc : Fld Z h0 x0 "java/lang/String" "coder" "B" (.int 0)) (gxx : n0 ≤ x0) :
    Met l Z EL0 n0 (⟨"java/lang/String", "<init>", "([CIILjava/lang/Void;)V"⟩ : MethodName) jdk_42_method_149_code 6 none [] (rO 4 2 18 57) #[(.ref x0), (.ref x1), (.int 0), (.int 6), .null] h0 [x0] [x0] (fun v h' S => v = none ∧ Str Z h' x0 [d1, d2, d3, d4, d5, d6]) := by
  obtain ⟨hw, hEL, SC, hzc, SF, rfm⟩ := id B
  refine Met.of (plainFor_of_name pn1) O0 ?_
  intro p e s m below meth c T0 hx hby hml hret hlk hnm hs W0
  have W0 : Wk p l e _ s m _ below meth c Z EL0 n0 [x0] "java/lang/String" [x0] T0 0 0 h0 := W0
  have D := @tk c _ _ hby tk9
  refine Go.of (fun _ kk => castTop (ef213 m x0 x1 (0 : Int32) (6 : Int32)) kk) ?_
  refine W0.pv hx D 0 1 1 [_, _, _, _, _, _] [_] rfl ?_
  refine W0.initO hx (hw _ (mI 23 rfl)) (hw _ (mI 24 rfl)) (hw _ (mI 25 rfl)) rfl (by rw [hml]; rfl) rfl (D 1 rfl) (by decide +kernel) (Wd := 0) (by show 2 * 0 + _ ≤ _; exact Nat.le_of_eq rfl) (by decide +kernel) (fun T1 W1 => ?_)
  refine W1.pu hx D 4 [(1, true)] 0 27 [_, _, _, _, _, _] [] rfl ⟨trivial, (XT.i0_ne_t (by decide +kernel))⟩ ?_
  refine W1.getS hx (host := "") (Or.inl (hw _ (mI 26 rfl))) Via.refl SC rfl (D 27 rfl) (fun T2 W2 => ?_)
  refine W2.pu hx D 30 [(0, false)] 3 36 [_, _, _, _, _, _] [.int 6, .int 0, _] rfl ⟨trivial, (XT.i0_eq_f hzc)⟩ ?_
  refine W2.callS hx hEL (hw _ (mI 27 rfl)) (hw _ (mI 28 rfl)) (hw _ (mI 29 rfl)) (hw _ (mI 30 rfl)) (by decide +kernel) (argsL := [(.ref x1), (.int 0), (.int 6)]) (rest := []) (rm462 B x1 kc d1 d2 d3 d4 d5 d6 h0 W2.old SA1 SH0 SL8 Ac cd1 cd2 cd3 cd4 cd5 cd6 nd1 nd2 nd3 nd4 nd5 wd) all0 (by decide +kernel) (Wd := 0) (by decide +kernel) (by decide +kernel) (by decide +kernel) all0 rfl (by rw [hml]; rfl) (lenOf pd4 rfl) rfl (by show 2 * 0 + _ ≤ _; exact Nat.le_of_eq rfl) (D 36 rfl) (fun T3 h3 v3 P3 Ws3 K3 q3 => ?_)
  have W3 := Ws3 [] all0
  obtain ⟨r3, kc3, rfl, lr3, A3⟩ := q3
  have gr3 : n0 ≤ r3 ∧ s.heap.size ≤ r3 := ⟨Nat.le_trans W2.n0le lr3, Nat.le_trans W2.s0le lr3⟩
  refine W3.pv hx D 39 4 45 [_, _, _, _, _, _] [.int 6, _, _] rfl ?_
  refine W3.callS hx hEL (hw _ (mI 34 rfl)) (hw _ (mI 35 rfl)) (hw _ (mI 29 rfl)) (hw _ (mI 36 rfl)) (by decide +kernel) (argsL := [(.ref r3), (.int 6)]) (rest := [(.ref x0)]) (rm403 B r3 kc3 d1 d2 d3 d4 d5 d6 h3 W3.old A3) all0 (by decide +kernel) (Wd := 1) (by decide +kernel) (by decide +kernel) (by decide +kernel) all0 rfl (by rw [hml]; rfl) (lenOf pd6 rfl) rfl (by show 2 * 0 + _ ≤ _; exact Nat.le_of_eq rfl) (D 45 rfl) (fun T4 h4 v4 P4 Ws4 K4 q4 => ?_)
  have W4 := Ws4 [] all0
  obtain ⟨rfl, rfl⟩ := q4
  show Go p e below _ (T4.setTop (mkF m 48 #[vr x0, vr x1, vi 0, vi 6, vN, vr r3] [(.int 1), (.ref x0)]))
  have k5 := (Fxc.keep K3 nin0)
  have k6 := (Exx.keep K3)
  refine W4.putF hx (host := "") (Or.inl (hw _ (mI 37 rfl))) Via.refl k5 k6 (Or.inr ⟨(hw _ (mI 5 rfl)), rfl, hnm⟩) (hw _ (mI 2 rfl)) (ty := .byte) (by decide +kernel) rfl rfl gxx (Or.inl (mI 0 rfl)) (Or.inl (mI 0 rfl)) rfl rfl (D 48 rfl) (fun T7 h7 W7 w7 => ?_)
  have k8 := (Fxv.keep K3 nin0)
  have K7 := Keep.of_wr w7
  have k9 := k8.other w7 (Or.inr (slot_ne (Or.inr (hw _ (mI 4 rfl))) (Or.inr (hw _ (mI 5 rfl))) (by decide +kernel) (t := (.array .byte)) (t' := .byte) (by decide +kernel) (by decide +kernel)))
  have k10 := k5.same w7
  refine W7.pv hx D 51 2 54 [_, _, _, _, _, _] [_, _] rfl ?_
  have k11 := (k6.keep K7)
  refine W7.putF hx (host := "") (Or.inl (hw _ (mI 38 rfl))) Via.refl k9 k11 (Or.inr ⟨(hw _ (mI 4 rfl)), rfl, hnm⟩) (hw _ (mI 2 rfl)) (ty := (.array .byte)) (by decide +kernel) rfl rfl gxx (Or.inl (mI 0 rfl)) (Or.inl (mI 0 rfl)) rfl rfl (D 54 rfl) (fun T12 h12 W12 w12 => ?_)
  have K12 := Keep.of_wr w12
  have k13 := k10.other w12 (Or.inr (slot_ne (Or.inr (hw _ (mI 5 rfl))) (Or.inr (hw _ (mI 4 rfl))) (by decide +kernel) (t := .byte) (t' := (.array .byte)) (by decide +kernel) (by decide +kernel)))
  have k14 := k9.same w12
  show Go p e below _ (T12.setTop (mkF m 57 #[vr x0, vr x1, vi 0, vi 6, vN, vr r3] []))
  have k15 := (k11.keep K12)
  have k16 := ((A3.keep K7 (ninS (ne_of_born lr3 Exx.lt (Nat.le_refl _)).symm nin0)).keep K12 (ninS (ne_of_born lr3 Exx.lt (Nat.le_refl _)).symm nin0))
  exact W12.retV hx hEL hs hlk (by decide +kernel) (by decide +kernel) hret (D 57 rfl) (fun S hS => ⟨rfl, ⟨r3, kc3, _, _, _, k15, k14, k13, k16, Or.inr ⟨rfl, rfl, rfl, d6, List.mem_of_getElem? (i := 5) rfl, wd⟩, (allSi cd1 (allSi cd2 (allSi cd3 (allSi cd4 (allSi cd5 (allSi cd6 all0i)))))), Nat.le_of_ble_eq_true rfl⟩⟩)
set_option maxRecDepth 65536 in
set_option maxHeartbeats 40000000 in
theorem rm464 (B : EV l Z a0 zc fm) (x0 x1 : Addr) (kc : ClassId) (d1 d2 d3 d4 d5 d6 : Int32) (h0 : Heap) {n0 : Nat} (O0 : Old Z n0 h0) (SA1 : sq0 Z) (SH0 : sq1 Z) (SL8 : sq2 Z) (Ac : Arv Z h0 x1 kc .char (6 : Int32) [(.int d1), (.int d2), (.int d3), (.int d4), (.int d5), (.int d6)] (.int 0)) (cd1 : ¬ d1 < 0 ∧ ¬ (65535 : Int32) < d1) (cd2 : ¬ d2 < 0 ∧ ¬ (65535 : Int32) < d2) (cd3 : ¬ d3 < 0 ∧ ¬ (65535 : Int32) < d3) (cd4 : ¬ d4 < 0 ∧ ¬ (65535 : Int32) < d4) (cd5 : ¬ d5 < 0 ∧ ¬ (65535 : Int32) < d5) (cd6 : ¬ d6 < 0 ∧ ¬ (65535 : Int32) < d6) (nd1 : ¬ (255 : Int32) < d1) (nd2 : ¬ (255 : Int32) < d2) (nd3 : ¬ (255 : Int32) < d3) (nd4 : ¬ (255 : Int32) < d4) (nd5 : ¬ (255 : Int32) < d5) (wd : (255 : Int32) < d6) (Exx : Exa Z h0 x0 "java/lang/String") (Fxv : Fld Z h0 x0 "java/lang/String" "value" "[B" .null) (Fxc : Fld Z h0 x0 "java/lang/String" "coder" "B" (.int 0)) (gxx : n0 ≤ x0) :
    Met l Z EL0 n0 (⟨"java/lang/String", "<init>", "([C)V"⟩ : MethodName) jdk_42_method_3_code 2 none [] (rO 5 2 18 74) #[(.ref x0), (.ref x1)] h0 [x0] [x0] (fun v h' S => v = none ∧ Str Z h' x0 [d1, d2, d3, d4, d5, d6]) := by
  obtain ⟨hw, hEL, SC, hzc, SF, rfm⟩ := id B
  refine Met.of (plainFor_of_name pn1) O0 ?_
  intro p e s m below meth c T0 hx hby hml hret hlk hnm hs W0
  have W0 : Wk p l e _ s m _ below meth c Z EL0 n0 [x0] "java/lang/String" [x0] T0 0 0 h0 := W0
  have D := @tk c _ _ hby tk10
  refine Go.of (fun _ kk => castTop (ef214 m x0 x1) kk) ?_
  refine W0.pv hx D 0 4 4 [_, _] [_, .int 0, _, _] rfl ?_
  refine W0.alen hx Ac rfl rfl (D 4 rfl) ?_
  refine W0.pv hx D 5 1 6 [_, _] [.null, _, _, _, _] rfl ?_
  refine W0.callP hx hEL rfl (hw _ (mI 19 rfl)) (hw _ (mI 20 rfl)) (hw _ (mI 1 rfl)) (hw _ (mI 22 rfl)) (by decide +kernel) (a := x0) (argsL := [(.ref x1), (.int 0), (.int 6), .null]) (rest := []) (rm463 B x0 x1 kc d1 d2 d3 d4 d5 d6 h0 W0.old SA1 SH0 SL8 Ac cd1 cd2 cd3 cd4 cd5 cd6 nd1 nd2 nd3 nd4 nd5 wd Exx Fxv Fxc gxx) (allS (mI 0 rfl) all0) (by decide +kernel) (Wd := 0) (by decide +kernel) (by decide +kernel) (by decide +kernel) (allS ⟨gxx, (Or.inl (mI 0 rfl))⟩ all0) rfl (by rw [hml]; rfl) (lenOf pd7 rfl) rfl (by show 2 * 0 + _ ≤ _; exact Nat.le_of_eq rfl) (D 6 rfl) (fun T1 h1 v1 P1 Ws1 K1 q1 => ?_)
  have W1 := Ws1 [] all0
  obtain ⟨rfl, S1⟩ := q1
  show Go p e below _ (T1.setTop (mkF m 9 #[vr x0, vr x1] []))
  exact W1.retV hx hEL hs hlk (by decide +kernel) (by decide +kernel) hret (D 9 rfl) (fun S hS => ⟨rfl, S1⟩)
set_option maxRecDepth 65536 in
set_option maxHeartbeats 40000000 in
theorem rm21 (B : EV l Z a0 zc fm) (d1 : Int32) (h0 : Heap) {n0 : Nat} (O0 : Old Z n0 h0) (cd1 : ¬ d1 < 0 ∧ ¬ (65535 : Int32) < d1) (wd : (255 : Int32) < d1) :
    Met l Z EL0 n0 (⟨"java/lang/StringLatin1", "canEncode", "(C)Z"⟩ : MethodName) jdk_43_method_3_code 1 (some .boolean) [] (rO 0 0 0 0) #[(.int d1)] h0 [] [] (fun v h' S => v = some (.int 0) ∧ h0 = h') := by
  obtain ⟨hw, hEL, SC, hzc, SF, rfm⟩ := id B
  refine Met.of (plainFor_of_name pn2) O0 ?_
  intro p e s m below meth c T0 hx hby hml hret hlk hnm hs W0
  have W0 : Wk p l e _ s m _ below meth c Z EL0 n0 [] "java/lang/StringLatin1" [] T0 0 0 h0 := W0
  have D := @tk c _ _ hby tk11
  refine Go.of (fun _ kk => castTop (ef200 m d1) kk) ?_
  refine W0.pu hx D 0 [(2, true)] 1 12 [_] [.int 0] rfl ⟨trivial, (XT.ii_gt_t wd)⟩ ?_
  exact W0.retI hx hEL hs hlk (by decide +kernel) (by decide +kernel) hret (by simp) rfl (D 12 rfl) (fun S hS => ⟨rfl, rfl⟩)
set_option maxRecDepth 65536 in
set_option maxHeartbeats 40000000 in
theorem rm24 (B : EV l Z a0 zc fm) (q1 : Int32) (h0 : Heap) {n0 : Nat} (O0 : Old Z n0 h0) (cq1 : ¬ q1 < 0 ∧ ¬ (255 : Int32) < q1) :
    Met l Z EL0 n0 (⟨"java/lang/StringLatin1", "canEncode", "(C)Z"⟩ : MethodName) jdk_43_method_3_code 1 (some .boolean) [] (rO 0 0 0 0) #[(.int q1)] h0 [] [] (fun v h' S => v = some (.int 1) ∧ h0 = h') := by
  obtain ⟨hw, hEL, SC, hzc, SF, rfm⟩ := id B
  refine Met.of (plainFor_of_name pn2) O0 ?_
  intro p e s m below meth c T0 hx hby hml hret hlk hnm hs W0
  have W0 : Wk p l e _ s m _ below meth c Z EL0 n0 [] "java/lang/StringLatin1" [] T0 0 0 h0 := W0
  have D := @tk c _ _ hby tk11
  refine Go.of (fun _ kk => castTop (ef200 m q1) kk) ?_
  refine W0.pu hx D 0 [(2, false)] 2 12 [_] [.int 1] rfl ⟨trivial, (XT.ii_gt_f cq1.2)⟩ ?_
  exact W0.retI hx hEL hs hlk (by decide +kernel) (by decide +kernel) hret (by simp) rfl (D 12 rfl) (fun S hS => ⟨rfl, rfl⟩)
set_option maxRecDepth 65536 in
set_option maxHeartbeats 40000000 in
theorem rm25 (B : EV l Z a0 zc fm) (q1 : Int32) (h0 : Heap) {n0 : Nat} (O0 : Old Z n0 h0)  :
    Met l Z EL0 n0 (⟨"java/lang/StringLatin1", "toBytes", "(C)[B"⟩ : MethodName) jdk_43_method_46_code 1 (some (.array .byte)) [] (rO 0 1 1 0) #[(.int q1)] h0 [] [] (fun v h' S => ∃ (r : Addr) (kc : ClassId), v = some (.ref r) ∧ h0.size ≤ r ∧ Arv Z h' r kc .byte (1 : Int32) [(.int (q1.toInt8.toInt32))] (.int 0)) := by
  obtain ⟨hw, hEL, SC, hzc, SF, rfm⟩ := id B
  refine Met.of (plainFor_of_name pn2) O0 ?_
  intro p e s m below meth c T0 hx hby hml hret hlk hnm hs W0
  have W0 : Wk p l e _ s m _ below meth c Z EL0 n0 [] "java/lang/StringLatin1" [] T0 0 0 h0 := W0
  have D := @tk c _ _ hby tk12
  refine Go.of (fun _ kk => castTop (ef200 m q1) kk) ?_
  refine W0.pv hx D 0 1 1 [_] [.int 1] rfl ?_
  refine W0.newP hx (hw _ (mI 3 rfl)) rfl (D 1 rfl) rfl (by decide +kernel) (cap := 1) (by decide +kernel) (by decide +kernel) (by decide +kernel) (by decide +kernel) (fun T1 h1 b1 c1 eb1 gb1 W1 K1 A1 => ?_)
  have V1 : Arv Z h1 b1 c1 .byte (1 : Int32) [(.int 0)] (.int 0) := A1
  refine W1.pv hx D 3 4 7 [_] [.int (q1.toInt8.toInt32), .int 0, _, _] rfl ?_
  refine W1.stB hx V1 ⟨by decide, by decide⟩ 0 rfl (Nat.le_of_ble_eq_true rfl) gb1.1 (Or.inr gb1.2) (mI 0 rfl) rfl rfl (D 7 rfl) (fun T2 h2 W2 K2 A2 => ?_)
  have V2 : Arv Z h2 b1 c1 .byte (1 : Int32) [(.int (q1.toInt8.toInt32))] (.int 0) := (by rw [(nar_byte _)] at A2; exact A2)
  show Go p e below _ (T2.setTop (mkF m 8 #[vi q1] [(.ref b1)]))
  exact W2.retA hx hEL hs hlk (by decide +kernel) (by decide +kernel) hret rfl rfl (D 8 rfl) (fun S hS => ⟨b1, c1, rfl, hs ▸ gb1.2, V2⟩)
theorem ef26 (m : MethodId) (x0 x1 : Addr) (x2 : Int32)  : entryFrame m #[(.ref x0), (.ref x1), (.int x2)] 3 = mkF m 0 #[vr x0, vr x1, vi x2] [] := by first | (simp [entryFrame, mkF, argsToLocals, Value.category]; done) | rfl | rfl
set_option maxRecDepth 65536 in
set_option maxHeartbeats 40000000 in
theorem rm26 (B : EV l Z a0 zc fm) (x1 x2 : Addr) (z3 : Int32) (h0 : Heap) {n0 : Nat} (O0 : Old Z n0 h0) (E1 : Exa Z h0 x1 "java/lang/String") (F1 : Fld Z h0 x1 "java/lang/String" "value" "[B" .null) (F2 : Fld Z h0 x1 "java/lang/String" "coder" "B" (.int 0)) (g1 : n0 ≤ x1) (hn3 : narrow .byte (.int z3) = .int z3) (hf3 : fits .byte (.int z3) = true) :
    Met l Z EL0 n0 (⟨"java/lang/String", "<init>", "([BB)V"⟩ : MethodName) jdk_42_method_151_code 3 none [] (rO 1 0 0 12) #[(.ref x1), (.ref x2), (.int z3)] h0 [x1] [x1] (fun v h' S => v = none ∧ Fld Z h' x1 "java/lang/String" "value" "[B" (.ref x2) ∧ Fld Z h' x1 "java/lang/String" "coder" "B" (.int z3)) := by
  obtain ⟨hw, hEL, SC, hzc, SF, rfm⟩ := id B
  refine Met.of (plainFor_of_name pn1) O0 ?_
  intro p e s m below meth c T0 hx hby hml hret hlk hnm hs W0
  have W0 : Wk p l e _ s m _ below meth c Z EL0 n0 [x1] "java/lang/String" [x1] T0 0 0 h0 := W0
  have D := @tk c _ _ hby tk13
  refine Go.of (fun _ kk => castTop (ef26 m x1 x2 z3) kk) ?_
  refine W0.pv hx D 0 1 1 [_, _, _] [_] rfl ?_
  refine W0.initO hx (hw _ (mI 23 rfl)) (hw _ (mI 24 rfl)) (hw _ (mI 25 rfl)) rfl (by rw [hml]; rfl) rfl (D 1 rfl) (by decide +kernel) (Wd := 0) (by show 2 * 0 + _ ≤ _; exact Nat.le_of_eq rfl) (by decide +kernel) (fun T1 W1 => ?_)
  refine W1.pv hx D 4 2 6 [_, _, _] [_, _] rfl ?_
  refine W1.putF hx (host := "") (Or.inl (hw _ (mI 38 rfl))) Via.refl F1 E1 (Or.inr ⟨(hw _ (mI 4 rfl)), rfl, hnm⟩) (hw _ (mI 2 rfl)) (ty := (.array .byte)) (by decide +kernel) rfl rfl g1 (Or.inl (mI 0 rfl)) (Or.inl (mI 0 rfl)) rfl rfl (D 6 rfl) (fun T2 h2 W2 w2 => ?_)
  have K2 := Keep.of_wr w2
  have k3 := F2.other w2 (Or.inr (slot_ne (Or.inr (hw _ (mI 5 rfl))) (Or.inr (hw _ (mI 4 rfl))) (by decide +kernel) (t := .byte) (t' := (.array .byte)) (by decide +kernel) (by decide +kernel)))
  have k4 := F1.same w2
  refine W2.pv hx D 9 2 11 [_, _, _] [_, _] rfl ?_
  have k5 := (E1.keep K2)
  refine W2.putF hx (host := "") (Or.inl (hw _ (mI 37 rfl))) Via.refl k3 k5 (Or.inr ⟨(hw _ (mI 5 rfl)), rfl, hnm⟩) (hw _ (mI 2 rfl)) (ty := .byte) (by decide +kernel) hn3 hf3 g1 (Or.inl (mI 0 rfl)) (Or.inl (mI 0 rfl)) rfl rfl (D 11 rfl) (fun T6 h6 W6 w6 => ?_)
  have K6 := Keep.of_wr w6
  have k7 := k4.other w6 (Or.inr (slot_ne (Or.inr (hw _ (mI 4 rfl))) (Or.inr (hw _ (mI 5 rfl))) (by decide +kernel) (t := (.array .byte)) (t' := .byte) (by decide +kernel) (by decide +kernel)))
  have k8 := k3.same w6
  show Go p e below _ (T6.setTop (mkF m 14 #[vr x1, vr x2, vi z3] []))
  exact W6.retV hx hEL hs hlk (by decide +kernel) (by decide +kernel) hret (D 14 rfl) (fun S hS => ⟨rfl, k7, k8⟩)
set_option maxRecDepth 65536 in
set_option maxHeartbeats 40000000 in
theorem rm27 (B : EV l Z a0 zc fm) (q1 : Int32) (h0 : Heap) {n0 : Nat} (O0 : Old Z n0 h0) (cq1 : ¬ q1 < 0 ∧ ¬ (255 : Int32) < q1) :
    Met l Z EL0 n0 (⟨"java/lang/String", "valueOf", "(C)Ljava/lang/String;"⟩ : MethodName) jdk_42_method_139_code 1 (some (.object "java/lang/String")) [] (rO 2 2 5 27) #[(.int q1)] h0 [] [] (fun v h' S => ∃ r : Addr, v = some (.ref r) ∧ h0.size ≤ r ∧ Str Z h' r [q1]) := by
  obtain ⟨hw, hEL, SC, hzc, SF, rfm⟩ := id B
  refine Met.of (plainFor_of_name pn1) O0 ?_
  intro p e s m below meth c T0 hx hby hml hret hlk hnm hs W0
  have W0 : Wk p l e _ s m _ below meth c Z EL0 n0 [] "java/lang/String" [] T0 0 0 h0 := W0
  have D := @tk c _ _ hby tk14
  refine Go.of (fun _ kk => castTop (ef200 m q1) kk) ?_
  show Go p e below _ (T0.setTop (mkF m 0 #[vi q1] []))
  refine W0.getS hx (host := "") (Or.inl (hw _ (mI 26 rfl))) Via.refl SC rfl (D 0 rfl) (fun T1 W1 => ?_)
  refine W1.pu hx D 3 [(0, false)] 1 7 [_] [_] rfl ⟨trivial, (XT.i0_eq_f hzc)⟩ ?_
  refine W1.callS hx hEL (hw _ (mI 69 rfl)) (hw _ (mI 70 rfl)) (hw _ (mI 56 rfl)) (hw _ (mI 71 rfl)) (by decide +kernel) (argsL := [(.int q1)]) (rest := []) (rm24 B q1 h0 W1.old cq1) all0 (by decide +kernel) (Wd := 0) (by decide +kernel) (by decide +kernel) (by decide +kernel) all0 rfl (by rw [hml]; rfl) (lenOf pd8 rfl) rfl (by show 2 * 0 + _ ≤ _; exact Nat.le_of_eq rfl) (D 7 rfl) (fun T2 h2 v2 P2 Ws2 K2 q2 => ?_)
  have W2 := Ws2 [] all0
  obtain ⟨rfl, rfl⟩ := q2
  refine W2.pu hx D 10 [(0, false)] 0 13 [_] [] rfl ⟨trivial, (XT.i0_eq_f (by decide +kernel))⟩ ?_
  refine W2.newO hx (hw _ (mI 53 rfl)) (hw _ (mI 2 rfl)) (hw _ (mI 1 rfl)) rfl (D 13 rfl) (by decide +kernel) (by decide +kernel) (fun T3 h3 b3 eb3 gb3 W3 K3 E3 D3 => ?_)
  have k4 : Fld Z h3 b3 "java/lang/String" "value" "[B" .null := D3 (Or.inr (hw _ (mI 4 rfl))) (ty := (.array .byte)) (by decide +kernel)
  have k5 : Fld Z h3 b3 "java/lang/String" "coder" "B" (.int 0) := D3 (Or.inr (hw _ (mI 5 rfl))) (ty := .byte) (by decide +kernel)
  refine W3.pv hx D 16 2 18 [_] [_, _, _] rfl ?_
  refine W3.callS hx hEL (hw _ (mI 72 rfl)) (hw _ (mI 73 rfl)) (hw _ (mI 56 rfl)) (hw _ (mI 74 rfl)) (by decide +kernel) (argsL := [(.int q1)]) (rest := [(.ref b3), (.ref b3)]) (rm25 B q1 h3 W3.old ) all0 (by decide +kernel) (Wd := 2) (by decide +kernel) (by decide +kernel) (by decide +kernel) all0 rfl (by rw [hml]; rfl) (lenOf pd9 rfl) rfl (by show 2 * 0 + _ ≤ _; exact Nat.le_of_eq rfl) (D 18 rfl) (fun T6 h6 v6 P6 Ws6 K6 q6 => ?_)
  have W6 := Ws6 [] all0
  obtain ⟨r6, kc6, rfl, lr6, A6⟩ := q6
  have gr6 : n0 ≤ r6 ∧ s.heap.size ≤ r6 := ⟨Nat.le_trans W3.n0le lr6, Nat.le_trans W3.s0le lr6⟩
  refine W6.pv hx D 21 1 22 [_] [.int 0, _, _, _] rfl ?_
  have k8 := (E3.keep K6)
  have k9 := (k4.keep K6 nin0)
  have k10 := (k5.keep K6 nin0)
  refine W6.callP hx hEL rfl (hw _ (mI 75 rfl)) (hw _ (mI 76 rfl)) (hw _ (mI 1 rfl)) (hw _ (mI 77 rfl)) (by decide +kernel) (a := b3) (argsL := [(.ref r6), (.int 0)]) (rest := [(.ref b3)]) (rm26 B b3 r6 (0 : Int32) h6 W6.old k8 k9 k10 gb3.1 rfl rfl) (allS (mI 0 rfl) all0) (by decide +kernel) (Wd := 1) (by decide +kernel) (by decide +kernel) (by decide +kernel) (allS ⟨gb3.1, (Or.inr gb3.2)⟩ all0) rfl (by rw [hml]; rfl) (lenOf pd10 rfl) rfl (by show 2 * 0 + _ ≤ _; exact Nat.le_of_eq rfl) (D 22 rfl) (fun T7 h7 v7 P7 Ws7 K7 q7 => ?_)
  have W7 := Ws7 [] all0
  obtain ⟨rfl, Fv7, Fc7⟩ := q7
  show Go p e below _ (T7.setTop (mkF m 25 #[vi q1] [(.ref b3)]))
  have k11 := (k8.keep K7)
  have k12 := (A6.keep K7 (ninS (ne_of_born lr6 E3.lt (Nat.le_refl _)).symm nin0))
  exact W7.retA hx hEL hs hlk (by decide +kernel) (by decide +kernel) hret rfl rfl (D 25 rfl) (fun S hS => ⟨b3, rfl, hs ▸ gb3.2, ⟨r6, kc6, _, _, _, k11, Fv7, Fc7, k12, StrChars.Road.codOf (cs := [q1]) (n := 1) rfl (allSi cq1.2 all0i), up255 (allSi cq1 all0i), Nat.le_of_ble_eq_true rfl⟩⟩)
set_option maxRecDepth 65536 in
set_option maxHeartbeats 40000000 in
theorem rm22 (B : EV l Z a0 zc fm) (d1 : Int32) (h0 : Heap) {n0 : Nat} (O0 : Old Z n0 h0) (SA1 : sq0 Z) (SH0 : sq1 Z) (SL8 : sq2 Z) (cd1 : ¬ d1 < 0 ∧ ¬ (65535 : Int32) < d1) (wd : (255 : Int32) < d1) :
    Met l Z EL0 n0 (⟨"java/lang/String", "valueOf", "(C)Ljava/lang/String;"⟩ : MethodName) jdk_42_method_139_code 1 (some (.object "java/lang/String")) [] (rO 2 2 6 29) #[(.int d1)] h0 [] [] (fun v h' S => ∃ r : Addr, v = some (.ref r) ∧ h0.size ≤ r ∧ Str Z h' r [d1]) := by
  obtain ⟨hw, hEL, SC, hzc, SF, rfm⟩ := id B
  refine Met.of (plainFor_of_name pn1) O0 ?_
  intro p e s m below meth c T0 hx hby hml hret hlk hnm hs W0
  have W0 : Wk p l e _ s m _ below meth c Z EL0 n0 [] "java/lang/String" [] T0 0 0 h0 := W0
  have D := @tk c _ _ hby tk14
  refine Go.of (fun _ kk => castTop (ef200 m d1) kk) ?_
  show Go p e below _ (T0.setTop (mkF m 0 #[vi d1] []))
  refine W0.getS hx (host := "") (Or.inl (hw _ (mI 26 rfl))) Via.refl SC rfl (D 0 rfl) (fun T1 W1 => ?_)
  refine W1.pu hx D 3 [(0, false)] 1 7 [_] [_] rfl ⟨trivial, (XT.i0_eq_f hzc)⟩ ?_
  refine W1.callS hx hEL (hw _ (mI 69 rfl)) (hw _ (mI 70 rfl)) (hw _ (mI 56 rfl)) (hw _ (mI 71 rfl)) (by decide +kernel) (argsL := [(.int d1)]) (rest := []) (rm21 B d1 h0 W1.old cd1 wd) all0 (by decide +kernel) (Wd := 0) (by decide +kernel) (by decide +kernel) (by decide +kernel) all0 rfl (by rw [hml]; rfl) (lenOf pd8 rfl) rfl (by show 2 * 0 + _ ≤ _; exact Nat.le_of_eq rfl) (D 7 rfl) (fun T2 h2 v2 P2 Ws2 K2 q2 => ?_)
  have W2 := Ws2 [] all0
  obtain ⟨rfl, rfl⟩ := q2
  refine W2.pu hx D 10 [(0, true)] 0 26 [_] [] rfl ⟨trivial, (XT.i0_eq_t (by decide +kernel))⟩ ?_
  refine W2.newO hx (hw _ (mI 53 rfl)) (hw _ (mI 2 rfl)) (hw _ (mI 1 rfl)) rfl (D 26 rfl) (by decide +kernel) (by decide +kernel) (fun T3 h3 b3 eb3 gb3 W3 K3 E3 D3 => ?_)
  have k4 : Fld Z h3 b3 "java/lang/String" "value" "[B" .null := D3 (Or.inr (hw _ (mI 4 rfl))) (ty := (.array .byte)) (by decide +kernel)
  have k5 : Fld Z h3 b3 "java/lang/String" "coder" "B" (.int 0) := D3 (Or.inr (hw _ (mI 5 rfl))) (ty := .byte) (by decide +kernel)
  refine W3.pv hx D 29 2 31 [_] [_, _, _] rfl ?_
  refine W3.callS hx hEL (hw _ (mI 79 rfl)) (hw _ (mI 80 rfl)) (hw _ (mI 29 rfl)) (hw _ (mI 81 rfl)) (by decide +kernel) (argsL := [(.int d1)]) (rest := [(.ref b3), (.ref b3)]) (rm20 B d1 h3 W3.old SA1 SH0 SL8) all0 (by decide +kernel) (Wd := 2) (by decide +kernel) (by decide +kernel) (by decide +kernel) all0 rfl (by rw [hml]; rfl) (lenOf pd9 rfl) rfl (by show 2 * 0 + _ ≤ _; exact Nat.le_of_eq rfl) (D 31 rfl) (fun T6 h6 v6 P6 Ws6 K6 q6 => ?_)
  have W6 := Ws6 [] all0
  obtain ⟨r6, kc6, rfl, lr6, A6⟩ := q6
  have gr6 : n0 ≤ r6 ∧ s.heap.size ≤ r6 := ⟨Nat.le_trans W3.n0le lr6, Nat.le_trans W3.s0le lr6⟩
  refine W6.pv hx D 34 1 35 [_] [.int 1, _, _, _] rfl ?_
  have k8 := (E3.keep K6)
  have k9 := (k4.keep K6 nin0)
  have k10 := (k5.keep K6 nin0)
  refine W6.callP hx hEL rfl (hw _ (mI 75 rfl)) (hw _ (mI 76 rfl)) (hw _ (mI 1 rfl)) (hw _ (mI 77 rfl)) (by decide +kernel) (a := b3) (argsL := [(.ref r6), (.int 1)]) (rest := [(.ref b3)]) (rm26 B b3 r6 (1 : Int32) h6 W6.old k8 k9 k10 gb3.1 rfl rfl) (allS (mI 0 rfl) all0) (by decide +kernel) (Wd := 1) (by decide +kernel) (by decide +kernel) (by decide +kernel) (allS ⟨gb3.1, (Or.inr gb3.2)⟩ all0) rfl (by rw [hml]; rfl) (lenOf pd10 rfl) rfl (by show 2 * 0 + _ ≤ _; exact Nat.le_of_eq rfl) (D 35 rfl) (fun T7 h7 v7 P7 Ws7 K7 q7 => ?_)
  have W7 := Ws7 [] all0
  obtain ⟨rfl, Fv7, Fc7⟩ := q7
  show Go p e below _ (T7.setTop (mkF m 38 #[vi d1] [(.ref b3)]))
  have k11 := (k8.keep K7)
  have k12 := (A6.keep K7 (ninS (ne_of_born lr6 E3.lt (Nat.le_refl _)).symm nin0))
  exact W7.retA hx hEL hs hlk (by decide +kernel) (by decide +kernel) hret rfl rfl (D 38 rfl) (fun S hS => ⟨b3, rfl, hs ▸ gb3.2, ⟨r6, kc6, _, _, _, k11, Fv7, Fc7, k12, Or.inr ⟨rfl, rfl, rfl, d1, List.mem_of_getElem? (i := 0) rfl, wd⟩, (allSi cd1 all0i), Nat.le_of_ble_eq_true rfl⟩⟩)
theorem ef604 (m : MethodId) (x0 : Addr) (x1 x2 : Int32)  : entryFrame m #[(.ref x0), (.int x1), (.int x2)] 4 = mkF m 0 #[vr x0, vi x1, vi x2, U0] [] := by first | (simp [entryFrame, mkF, argsToLocals, Value.category]; done) | rfl | rfl
set_option maxRecDepth 65536 in
set_option maxHeartbeats 40000000 in
theorem rm604 (B : EV l Z a0 zc fm) (x1 : Addr) (q1 q2 q3 q4 x2 x3 : Int32) (h0 : Heap) {n0 : Nat} (O0 : Old Z n0 h0) (SA1 : sq0 Z) (SH0 : sq1 Z) (SL8 : sq2 Z) (Sa : Str Z h0 x1 [q1, q2, q3, q4]) (cq1 : ¬ q1 < 0 ∧ ¬ (255 : Int32) < q1) (cq2 : ¬ q2 < 0 ∧ ¬ (255 : Int32) < q2) (cq3 : ¬ q3 < 0 ∧ ¬ (255 : Int32) < q3) (cq4 : ¬ q4 < 0 ∧ ¬ (255 : Int32) < q4) (hp : x2 = (0 : Int32) ∨ x2 = (1 : Int32) ∨ x2 = (2 : Int32) ∨ x2 = (3 : Int32)) (cx : ¬ x3 < 0 ∧ ¬ (65535 : Int32) < x3) :
    Met l Z EL0 n0 (⟨"com/example/grantwork/grantwork/store/EffectOfPinLaw", "replaced", "(Ljava/lang/String;IC)Ljava/lang/String;"⟩ : MethodName) method_4_code 4 (some (.object "java/lang/String")) [] (rO 6 4 20 88) #[(.ref x1), (.int x2), (.int x3)] h0 [] [] (fun v h' S => ∃ (r : Addr) (cs : List Int32), v = some (.ref r) ∧ h0.size ≤ r ∧ Str Z h' r cs) := by
  obtain ⟨hw, hEL, SC, hzc, SF, rfm⟩ := id B
  refine Met.of (plainFor_of_name pn3) O0 ?_
  intro p e s m below meth c T0 hx hby hml hret hlk hnm hs W0
  have W0 : Wk p l e _ s m _ below meth c Z EL0 n0 [] "com/example/grantwork/grantwork/store/EffectOfPinLaw" [] T0 0 0 h0 := W0
  have D := @tk c _ _ hby tk15
  have hws := fun d hd => hw d (ws_in d hd)
  have hln := fun d hd => hw d (ln_in d hd)
  have hch := fun d hd => hw d (ch_in d hd)
  refine Go.of (fun _ kk => castTop (ef604 m x1 x2 x3) kk) ?_
  show Go p e below _ (T0.setTop (mkF m 0 #[vr x1, vi x2, vi x3, U0] []))
  obtain ⟨t1, kb1, E1, Fv1, Fc1, A1⟩ := Sa.open_ (snd255 (allSi cq1 (allSi cq2 (allSi cq3 (allSi cq4 all0i)))))
  have V1 : Arv Z h0 t1 kb1 .byte (4 : Int32) [(.int (StrChars.lo8 q1)), (.int (StrChars.lo8 q2)), (.int (StrChars.lo8 q3)), (.int (StrChars.lo8 q4))] (.int 0) := A1
  refine W0.pv hx D 0 1 1 [_, _, _, _] [_] rfl ?_
  refine W0.strLen hx hln (hw _ (mI 2 rfl)) SC hzc Sa (hw _ (mI 89 rfl)) (hw _ (mI 90 rfl)) (hw _ (mI 92 rfl)) (hw _ (mI 91 rfl)) (by decide +kernel) (Wd := 0) (by decide +kernel) (by decide +kernel) (by decide +kernel) rfl (by rw [hml]; rfl) rfl (by show 2 * 0 + _ ≤ _; exact Nat.le_of_eq rfl) (D 1 rfl) (fun T2 W2 => ?_)
  show Go p e below _ (T2.setTop (mkF m 4 #[vr x1, vi x2, vi x3, U0] [(.int 4)]))
  refine W2.pu hx D 4 [(1, false)] 1 9 [_, _, _, _] [.int 4] rfl ⟨trivial, (XT.ii_ne_f (by decide +kernel))⟩ ?_
  refine W2.newP hx (hw _ (mI 13 rfl)) rfl (D 9 rfl) rfl (by decide +kernel) (cap := 4) (by decide +kernel) (by decide +kernel) (by decide +kernel) (by decide +kernel) (fun T3 h3 b3 c3 eb3 gb3 W3 K3 A3 => ?_)
  have V3 : Arv Z h3 b3 c3 .char (4 : Int32) [(.int 0), (.int 0), (.int 0), (.int 0)] (.int 0) := A3
  refine W3.pv hx D 11 5 16 [_, _, _, _] [.int 0, _, .int 0, _] rfl ?_
  have k5 := (Sa.keep0 K3)
  refine W3.strChar hx hch (hw _ (mI 2 rfl)) SC hzc SF rfm k5 (snd255 (allSi cq1 (allSi cq2 (allSi cq3 (allSi cq4 all0i))))) (i := 0) (Nat.le_of_ble_eq_true rfl) rfl (hw _ (mI 102 rfl)) (hw _ (mI 103 rfl)) (hw _ (mI 105 rfl)) (hw _ (mI 104 rfl)) (by decide +kernel) (Wd := 2) (by decide +kernel) (by decide +kernel) (by decide +kernel) rfl (by rw [hml]; rfl) rfl (by show 2 * 0 + _ ≤ _; exact Nat.le_of_eq rfl) (D 16 rfl) (fun T4 W4 => ?_)
  show Go p e below _ (T4.setTop (mkF m 19 #[vr x1, vi x2, vi x3, vr b3] [(.int q1), (.int 0), (.ref b3)]))
  refine W4.stC hx V3 ⟨by decide, by decide⟩ 0 rfl (Nat.le_of_ble_eq_true rfl) gb3.1 (Or.inr gb3.2) rfl rfl (D 19 rfl) (fun T6 h6 W6 K6 A6 => ?_)
  have V6 : Arv Z h6 b3 c3 .char (4 : Int32) [(.int q1), (.int 0), (.int 0), (.int 0)] (.int 0) := (by rw [(nar_char cq1)] at A6; exact A6)
  refine W6.pv hx D 20 4 24 [_, _, _, _] [.int 1, _, .int 1, _] rfl ?_
  have k9 := ((E1.keep K3).keep K6)
  have k10 := ((Fv1.keep K3 nin0).keep K6 (ninS (ne_of_born (Nat.le_of_eq eb3.symm) Sa.exa.lt (Nat.le_refl _)) nin0))
  have k11 := ((Fc1.keep K3 nin0).keep K6 (ninS (ne_of_born (Nat.le_of_eq eb3.symm) Sa.exa.lt (Nat.le_refl _)) nin0))
  have k12 := ((V1.keep K3 nin0).keep K6 (ninS (ne_of_born (Nat.le_of_eq eb3.symm) V1.lt (Nat.le_refl _)) nin0))
  have S8 : Str Z h6 x1 [q1, q2, q3, q4] := ⟨t1, kb1, 0, _, _, k9, k10, k11, k12, StrChars.Road.codOf (cs := [q1, q2, q3, q4]) (n := 4) rfl (allSi cq1.2 (allSi cq2.2 (allSi cq3.2 (allSi cq4.2 all0i)))), up255 (allSi cq1 (allSi cq2 (allSi cq3 (allSi cq4 all0i)))), Nat.le_of_ble_eq_true rfl⟩
  refine W6.strChar hx hch (hw _ (mI 2 rfl)) SC hzc SF rfm S8 (snd255 (allSi cq1 (allSi cq2 (allSi cq3 (allSi cq4 all0i))))) (i := 1) (Nat.le_of_ble_eq_true rfl) rfl (hw _ (mI 102 rfl)) (hw _ (mI 103 rfl)) (hw _ (mI 105 rfl)) (hw _ (mI 104 rfl)) (by decide +kernel) (Wd := 2) (by decide +kernel) (by decide +kernel) (by decide +kernel) rfl (by rw [hml]; rfl) rfl (by show 2 * 0 + _ ≤ _; exact Nat.le_of_eq rfl) (D 24 rfl) (fun T7 W7 => ?_)
  show Go p e below _ (T7.setTop (mkF m 27 #[vr x1, vi x2, vi x3, vr b3] [(.int q2), (.int 1), (.ref b3)]))
  refine W7.stC hx V6 ⟨by decide, by decide⟩ 1 rfl (Nat.le_of_ble_eq_true rfl) gb3.1 (Or.inr gb3.2) rfl rfl (D 27 rfl) (fun T13 h13 W13 K13 A13 => ?_)
  have V13 : Arv Z h13 b3 c3 .char (4 : Int32) [(.int q1), (.int q2), (.int 0), (.int 0)] (.int 0) := (by rw [(nar_char cq2)] at A13; exact A13)
  refine W13.pv hx D 28 4 32 [_, _, _, _] [.int 2, _, .int 2, _] rfl ?_
  have k16 := (k9.keep K13)
  have k17 := (k10.keep K13 (ninS (ne_of_born (Nat.le_of_eq eb3.symm) Sa.exa.lt (Nat.le_refl _)) nin0))
  have k18 := (k11.keep K13 (ninS (ne_of_born (Nat.le_of_eq eb3.symm) Sa.exa.lt (Nat.le_refl _)) nin0))
  have k19 := (k12.keep K13 (ninS (ne_of_born (Nat.le_of_eq eb3.symm) V1.lt (Nat.le_refl _)) nin0))
  have S15 : Str Z h13 x1 [q1, q2, q3, q4] := ⟨t1, kb1, 0, _, _, k16, k17, k18, k19, StrChars.Road.codOf (cs := [q1, q2, q3, q4]) (n := 4) rfl (allSi cq1.2 (allSi cq2.2 (allSi cq3.2 (allSi cq4.2 all0i)))), up255 (allSi cq1 (allSi cq2 (allSi cq3 (allSi cq4 all0i)))), Nat.le_of_ble_eq_true rfl⟩
  refine W13.strChar hx hch (hw _ (mI 2 rfl)) SC hzc SF rfm S15 (snd255 (allSi cq1 (allSi cq2 (allSi cq3 (allSi cq4 all0i))))) (i := 2) (Nat.le_of_ble_eq_true rfl) rfl (hw _ (mI 102 rfl)) (hw _ (mI 103 rfl)) (hw _ (mI 105 rfl)) (hw _ (mI 104 rfl)) (by decide +kernel) (Wd := 2) (by decide +kernel) (by decide +kernel) (by decide +kernel) rfl (by rw [hml]; rfl) rfl (by show 2 * 0 + _ ≤ _; exact Nat.le_of_eq rfl) (D 32 rfl) (fun T14 W14 => ?_)
  show Go p e below _ (T14.setTop (mkF m 35 #[vr x1, vi x2, vi x3, vr b3] [(.int q3), (.int 2), (.ref b3)]))
  refine W14.stC hx V13 ⟨by decide, by decide⟩ 2 rfl (Nat.le_of_ble_eq_true rfl) gb3.1 (Or.inr gb3.2) rfl rfl (D 35 rfl) (fun T20 h20 W20 K20 A20 => ?_)
  have V20 : Arv Z h20 b3 c3 .char (4 : Int32) [(.int q1), (.int q2), (.int q3), (.int 0)] (.int 0) := (by rw [(nar_char cq3)] at A20; exact A20)
  refine W20.pv hx D 36 4 40 [_, _, _, _] [.int 3, _, .int 3, _] rfl ?_
  have k23 := (k16.keep K20)
  have k24 := (k17.keep K20 (ninS (ne_of_born (Nat.le_of_eq eb3.symm) Sa.exa.lt (Nat.le_refl _)) nin0))
  have k25 := (k18.keep K20 (ninS (ne_of_born (Nat.le_of_eq eb3.symm) Sa.exa.lt (Nat.le_refl _)) nin0))
  have k26 := (k19.keep K20 (ninS (ne_of_born (Nat.le_of_eq eb3.symm) V1.lt (Nat.le_refl _)) nin0))
  have S22 : Str Z h20 x1 [q1, q2, q3, q4] := ⟨t1, kb1, 0, _, _, k23, k24, k25, k26, StrChars.Road.codOf (cs := [q1, q2, q3, q4]) (n := 4) rfl (allSi cq1.2 (allSi cq2.2 (allSi cq3.2 (allSi cq4.2 all0i)))), up255 (allSi cq1 (allSi cq2 (allSi cq3 (allSi cq4 all0i)))), Nat.le_of_ble_eq_true rfl⟩
  refine W20.strChar hx hch (hw _ (mI 2 rfl)) SC hzc SF rfm S22 (snd255 (allSi cq1 (allSi cq2 (allSi cq3 (allSi cq4 all0i))))) (i := 3) (Nat.le_of_ble_eq_true rfl) rfl (hw _ (mI 102 rfl)) (hw _ (mI 103 rfl)) (hw _ (mI 105 rfl)) (hw _ (mI 104 rfl)) (by decide +kernel) (Wd := 2) (by decide +kernel) (by decide +kernel) (by decide +kernel) rfl (by rw [hml]; rfl) rfl (by show 2 * 0 + _ ≤ _; exact Nat.le_of_eq rfl) (D 40 rfl) (fun T21 W21 => ?_)
  show Go p e below _ (T21.setTop (mkF m 43 #[vr x1, vi x2, vi x3, vr b3] [(.int q4), (.int 3), (.ref b3)]))
  refine W21.stC hx V20 ⟨by decide, by decide⟩ 3 rfl (Nat.le_of_ble_eq_true rfl) gb3.1 (Or.inr gb3.2) rfl rfl (D 43 rfl) (fun T27 h27 W27 K27 A27 => ?_)
  have V27 : Arv Z h27 b3 c3 .char (4 : Int32) [(.int q1), (.int q2), (.int q3), (.int q4)] (.int 0) := (by rw [(nar_char cq4)] at A27; exact A27)
  refine W27.pv hx D 44 3 47 [_, _, _, _] [_, _, _] rfl ?_
  rcases hp with rfl | rfl | rfl | rfl
  · show Go p e below _ (T27.setTop (mkF m 47 #[vr x1, vi 0, vi x3, vr b3] [(.int x3), (.int 0), (.ref b3)]))
    by_cases hw28 : (255 : Int32) < x3
    · show Go p e below _ (T27.setTop (mkF m 47 #[vr x1, vi 0, vi x3, vr b3] [(.int x3), (.int 0), (.ref b3)]))
      refine W27.stC hx V27 ⟨by decide, by decide⟩ 0 rfl (Nat.le_of_ble_eq_true rfl) gb3.1 (Or.inr gb3.2) rfl rfl (D 47 rfl) (fun T29 h29 W29 K29 A29 => ?_)
      have V29 : Arv Z h29 b3 c3 .char (4 : Int32) [(.int x3), (.int q2), (.int q3), (.int q4)] (.int 0) := (by rw [(nar_wide cx)] at A29; exact A29)
      show Go p e below _ (T29.setTop (mkF m 48 #[vr x1, vi 0, vi x3, vr b3] []))
      refine W29.newO hx (hw _ (mI 15 rfl)) (hw _ (mI 2 rfl)) (hw _ (mI 1 rfl)) rfl (D 48 rfl) (by decide +kernel) (by decide +kernel) (fun T30 h30 b30 eb30 gb30 W30 K30 E30 D30 => ?_)
      have k31 : Fld Z h30 b30 "java/lang/String" "value" "[B" .null := D30 (Or.inr (hw _ (mI 4 rfl))) (ty := (.array .byte)) (by decide +kernel)
      have k32 : Fld Z h30 b30 "java/lang/String" "coder" "B" (.int 0) := D30 (Or.inr (hw _ (mI 5 rfl))) (ty := .byte) (by decide +kernel)
      refine W30.pv hx D 51 2 53 [_, _, _, _] [_, _, _] rfl ?_
      have k34 := (V29.keep K30 nin0)
      refine W30.callP hx hEL rfl (hw _ (mI 16 rfl)) (hw _ (mI 17 rfl)) (hw _ (mI 1 rfl)) (hw _ (mI 18 rfl)) (by decide +kernel) (a := b30) (argsL := [(.ref b3)]) (rest := [(.ref b30)]) (rm214 B b30 b3 c3 x3 q2 q3 q4 h30 W30.old SA1 SH0 SL8 k34 cx (up1 cq2) (up1 cq3) (up1 cq4) hw28 E30 k31 k32 gb30.1) (allS (mI 0 rfl) all0) (by decide +kernel) (Wd := 1) (by decide +kernel) (by decide +kernel) (by decide +kernel) (allS ⟨gb30.1, (Or.inr gb30.2)⟩ all0) rfl (by rw [hml]; rfl) (lenOf pd11 rfl) rfl (by show 2 * 0 + _ ≤ _; exact Nat.le_of_eq rfl) (D 53 rfl) (fun T33 h33 v33 P33 Ws33 K33 q33 => ?_)
      have W33 := Ws33 [] all0
      obtain ⟨rfl, S33⟩ := q33
      show Go p e below _ (T33.setTop (mkF m 56 #[vr x1, vi 0, vi x3, vr b3] [(.ref b30)]))
      exact W33.retA hx hEL hs hlk (by decide +kernel) (by decide +kernel) hret rfl rfl (D 56 rfl) (fun S hS => ⟨b30, _, rfl, hs ▸ gb30.2, S33⟩)
    · show Go p e below _ (T27.setTop (mkF m 47 #[vr x1, vi 0, vi x3, vr b3] [(.int x3), (.int 0), (.ref b3)]))
      refine W27.stC hx V27 ⟨by decide, by decide⟩ 0 rfl (Nat.le_of_ble_eq_true rfl) gb3.1 (Or.inr gb3.2) rfl rfl (D 47 rfl) (fun T35 h35 W35 K35 A35 => ?_)
      have V35 : Arv Z h35 b3 c3 .char (4 : Int32) [(.int x3), (.int q2), (.int q3), (.int q4)] (.int 0) := (by rw [(nar_char ⟨cx.1, hw28⟩)] at A35; exact A35)
      show Go p e below _ (T35.setTop (mkF m 48 #[vr x1, vi 0, vi x3, vr b3] []))
      refine W35.newO hx (hw _ (mI 15 rfl)) (hw _ (mI 2 rfl)) (hw _ (mI 1 rfl)) rfl (D 48 rfl) (by decide +kernel) (by decide +kernel) (fun T36 h36 b36 eb36 gb36 W36 K36 E36 D36 => ?_)
      have k37 : Fld Z h36 b36 "java/lang/String" "value" "[B" .null := D36 (Or.inr (hw _ (mI 4 rfl))) (ty := (.array .byte)) (by decide +kernel)
      have k38 : Fld Z h36 b36 "java/lang/String" "coder" "B" (.int 0) := D36 (Or.inr (hw _ (mI 5 rfl))) (ty := .byte) (by decide +kernel)
      refine W36.pv hx D 51 2 53 [_, _, _, _] [_, _, _] rfl ?_
      have k40 := (V35.keep K36 nin0)
      refine W36.newStr hx hws (hw _ (mI 2 rfl)) SC hzc (hw _ (mI 16 rfl)) (hw _ (mI 17 rfl)) (hw _ (mI 18 rfl)) E36 k37 k38 (cs := [x3, q2, q3, q4]) (n := 4) k40 rfl rfl (by decide +kernel) (by decide +kernel) (allSi ⟨cx.1, hw28⟩ (allSi cq2 (allSi cq3 (allSi cq4 all0i)))) gb36.1 (Or.inr gb36.2) (mI 0 rfl) (by decide +kernel) (Wd := 1) (by decide +kernel) (by decide +kernel) (by decide +kernel) rfl (by rw [hml]; rfl) rfl (by show 2 * 0 + _ ≤ _; exact Nat.le_of_eq rfl) (D 53 rfl) (fun T39 h39 W39 K39 S39 => ?_)
      show Go p e below _ (T39.setTop (mkF m 56 #[vr x1, vi 0, vi x3, vr b3] [(.ref b36)]))
      exact W39.retA hx hEL hs hlk (by decide +kernel) (by decide +kernel) hret rfl rfl (D 56 rfl) (fun S hS => ⟨b36, _, rfl, hs ▸ gb36.2, S39⟩)
  · show Go p e below _ (T27.setTop (mkF m 47 #[vr x1, vi 1, vi x3, vr b3] [(.int x3), (.int 1), (.ref b3)]))
    by_cases hw41 : (255 : Int32) < x3
    · show Go p e below _ (T27.setTop (mkF m 47 #[vr x1, vi 1, vi x3, vr b3] [(.int x3), (.int 1), (.ref b3)]))
      refine W27.stC hx V27 ⟨by decide, by decide⟩ 1 rfl (Nat.le_of_ble_eq_true rfl) gb3.1 (Or.inr gb3.2) rfl rfl (D 47 rfl) (fun T42 h42 W42 K42 A42 => ?_)
      have V42 : Arv Z h42 b3 c3 .char (4 : Int32) [(.int q1), (.int x3), (.int q3), (.int q4)] (.int 0) := (by rw [(nar_wide cx)] at A42; exact A42)
      show Go p e below _ (T42.setTop (mkF m 48 #[vr x1, vi 1, vi x3, vr b3] []))
      refine W42.newO hx (hw _ (mI 15 rfl)) (hw _ (mI 2 rfl)) (hw _ (mI 1 rfl)) rfl (D 48 rfl) (by decide +kernel) (by decide +kernel) (fun T43 h43 b43 eb43 gb43 W43 K43 E43 D43 => ?_)
      have k44 : Fld Z h43 b43 "java/lang/String" "value" "[B" .null := D43 (Or.inr (hw _ (mI 4 rfl))) (ty := (.array .byte)) (by decide +kernel)
      have k45 : Fld Z h43 b43 "java/lang/String" "coder" "B" (.int 0) := D43 (Or.inr (hw _ (mI 5 rfl))) (ty := .byte) (by decide +kernel)
      refine W43.pv hx D 51 2 53 [_, _, _, _] [_, _, _] rfl ?_
      have k47 := (V42.keep K43 nin0)
      refine W43.callP hx hEL rfl (hw _ (mI 16 rfl)) (hw _ (mI 17 rfl)) (hw _ (mI 1 rfl)) (hw _ (mI 18 rfl)) (by decide +kernel) (a := b43) (argsL := [(.ref b3)]) (rest := [(.ref b43)]) (rm224 B b43 b3 c3 q1 x3 q3 q4 h43 W43.old SA1 SH0 SL8 k47 (up1 cq1) cx (up1 cq3) (up1 cq4) cq1.2 hw41 E43 k44 k45 gb43.1) (allS (mI 0 rfl) all0) (by decide +kernel) (Wd := 1) (by decide +kernel) (by decide +kernel) (by decide +kernel) (allS ⟨gb43.1, (Or.inr gb43.2)⟩ all0) rfl (by rw [hml]; rfl) (lenOf pd11 rfl) rfl (by show 2 * 0 + _ ≤ _; exact Nat.le_of_eq rfl) (D 53 rfl) (fun T46 h46 v46 P46 Ws46 K46 q46 => ?_)
      have W46 := Ws46 [] all0
      obtain ⟨rfl, S46⟩ := q46
      show Go p e below _ (T46.setTop (mkF m 56 #[vr x1, vi 1, vi x3, vr b3] [(.ref b43)]))
      exact W46.retA hx hEL hs hlk (by decide +kernel) (by decide +kernel) hret rfl rfl (D 56 rfl) (fun S hS => ⟨b43, _, rfl, hs ▸ gb43.2, S46⟩)
    · show Go p e below _ (T27.setTop (mkF m 47 #[vr x1, vi 1, vi x3, vr b3] [(.int x3), (.int 1), (.ref b3)]))
      refine W27.stC hx V27 ⟨by decide, by decide⟩ 1 rfl (Nat.le_of_ble_eq_true rfl) gb3.1 (Or.inr gb3.2) rfl rfl (D 47 rfl) (fun T48 h48 W48 K48 A48 => ?_)
      have V48 : Arv Z h48 b3 c3 .char (4 : Int32) [(.int q1), (.int x3), (.int q3), (.int q4)] (.int 0) := (by rw [(nar_char ⟨cx.1, hw41⟩)] at A48; exact A48)
      show Go p e below _ (T48.setTop (mkF m 48 #[vr x1, vi 1, vi x3, vr b3] []))
      refine W48.newO hx (hw _ (mI 15 rfl)) (hw _ (mI 2 rfl)) (hw _ (mI 1 rfl)) rfl (D 48 rfl) (by decide +kernel) (by decide +kernel) (fun T49 h49 b49 eb49 gb49 W49 K49 E49 D49 => ?_)
      have k50 : Fld Z h49 b49 "java/lang/String" "value" "[B" .null := D49 (Or.inr (hw _ (mI 4 rfl))) (ty := (.array .byte)) (by decide +kernel)
      have k51 : Fld Z h49 b49 "java/lang/String" "coder" "B" (.int 0) := D49 (Or.inr (hw _ (mI 5 rfl))) (ty := .byte) (by decide +kernel)
      refine W49.pv hx D 51 2 53 [_, _, _, _] [_, _, _] rfl ?_
      have k53 := (V48.keep K49 nin0)
      refine W49.newStr hx hws (hw _ (mI 2 rfl)) SC hzc (hw _ (mI 16 rfl)) (hw _ (mI 17 rfl)) (hw _ (mI 18 rfl)) E49 k50 k51 (cs := [q1, x3, q3, q4]) (n := 4) k53 rfl rfl (by decide +kernel) (by decide +kernel) (allSi cq1 (allSi ⟨cx.1, hw41⟩ (allSi cq3 (allSi cq4 all0i)))) gb49.1 (Or.inr gb49.2) (mI 0 rfl) (by decide +kernel) (Wd := 1) (by decide +kernel) (by decide +kernel) (by decide +kernel) rfl (by rw [hml]; rfl) rfl (by show 2 * 0 + _ ≤ _; exact Nat.le_of_eq rfl) (D 53 rfl) (fun T52 h52 W52 K52 S52 => ?_)
      show Go p e below _ (T52.setTop (mkF m 56 #[vr x1, vi 1, vi x3, vr b3] [(.ref b49)]))
      exact W52.retA hx hEL hs hlk (by decide +kernel) (by decide +kernel) hret rfl rfl (D 56 rfl) (fun S hS => ⟨b49, _, rfl, hs ▸ gb49.2, S52⟩)
  · show Go p e below _ (T27.setTop (mkF m 47 #[vr x1, vi 2, vi x3, vr b3] [(.int x3), (.int 2), (.ref b3)]))
    by_cases hw54 : (255 : Int32) < x3
    · show Go p e below _ (T27.setTop (mkF m 47 #[vr x1, vi 2, vi x3, vr b3] [(.int x3), (.int 2), (.ref b3)]))
      refine W27.stC hx V27 ⟨by decide, by decide⟩ 2 rfl (Nat.le_of_ble_eq_true rfl) gb3.1 (Or.inr gb3.2) rfl rfl (D 47 rfl) (fun T55 h55 W55 K55 A55 => ?_)
      have V55 : Arv Z h55 b3 c3 .char (4 : Int32) [(.int q1), (.int q2), (.int x3), (.int q4)] (.int 0) := (by rw [(nar_wide cx)] at A55; exact A55)
      show Go p e below _ (T55.setTop (mkF m 48 #[vr x1, vi 2, vi x3, vr b3] []))
      refine W55.newO hx (hw _ (mI 15 rfl)) (hw _ (mI 2 rfl)) (hw _ (mI 1 rfl)) rfl (D 48 rfl) (by decide +kernel) (by decide +kernel) (fun T56 h56 b56 eb56 gb56 W56 K56 E56 D56 => ?_)
      have k57 : Fld Z h56 b56 "java/lang/String" "value" "[B" .null := D56 (Or.inr (hw _ (mI 4 rfl))) (ty := (.array .byte)) (by decide +kernel)
      have k58 : Fld Z h56 b56 "java/lang/String" "coder" "B" (.int 0) := D56 (Or.inr (hw _ (mI 5 rfl))) (ty := .byte) (by decide +kernel)
      refine W56.pv hx D 51 2 53 [_, _, _, _] [_, _, _] rfl ?_
      have k60 := (V55.keep K56 nin0)
      refine W56.callP hx hEL rfl (hw _ (mI 16 rfl)) (hw _ (mI 17 rfl)) (hw _ (mI 1 rfl)) (hw _ (mI 18 rfl)) (by decide +kernel) (a := b56) (argsL := [(.ref b3)]) (rest := [(.ref b56)]) (rm234 B b56 b3 c3 q1 q2 x3 q4 h56 W56.old SA1 SH0 SL8 k60 (up1 cq1) (up1 cq2) cx (up1 cq4) cq1.2 cq2.2 hw54 E56 k57 k58 gb56.1) (allS (mI 0 rfl) all0) (by decide +kernel) (Wd := 1) (by decide +kernel) (by decide +kernel) (by decide +kernel) (allS ⟨gb56.1, (Or.inr gb56.2)⟩ all0) rfl (by rw [hml]; rfl) (lenOf pd11 rfl) rfl (by show 2 * 0 + _ ≤ _; exact Nat.le_of_eq rfl) (D 53 rfl) (fun T59 h59 v59 P59 Ws59 K59 q59 => ?_)
      have W59 := Ws59 [] all0
      obtain ⟨rfl, S59⟩ := q59
      show Go p e below _ (T59.setTop (mkF m 56 #[vr x1, vi 2, vi x3, vr b3] [(.ref b56)]))
      exact W59.retA hx hEL hs hlk (by decide +kernel) (by decide +kernel) hret rfl rfl (D 56 rfl) (fun S hS => ⟨b56, _, rfl, hs ▸ gb56.2, S59⟩)
    · show Go p e below _ (T27.setTop (mkF m 47 #[vr x1, vi 2, vi x3, vr b3] [(.int x3), (.int 2), (.ref b3)]))
      refine W27.stC hx V27 ⟨by decide, by decide⟩ 2 rfl (Nat.le_of_ble_eq_true rfl) gb3.1 (Or.inr gb3.2) rfl rfl (D 47 rfl) (fun T61 h61 W61 K61 A61 => ?_)
      have V61 : Arv Z h61 b3 c3 .char (4 : Int32) [(.int q1), (.int q2), (.int x3), (.int q4)] (.int 0) := (by rw [(nar_char ⟨cx.1, hw54⟩)] at A61; exact A61)
      show Go p e below _ (T61.setTop (mkF m 48 #[vr x1, vi 2, vi x3, vr b3] []))
      refine W61.newO hx (hw _ (mI 15 rfl)) (hw _ (mI 2 rfl)) (hw _ (mI 1 rfl)) rfl (D 48 rfl) (by decide +kernel) (by decide +kernel) (fun T62 h62 b62 eb62 gb62 W62 K62 E62 D62 => ?_)
      have k63 : Fld Z h62 b62 "java/lang/String" "value" "[B" .null := D62 (Or.inr (hw _ (mI 4 rfl))) (ty := (.array .byte)) (by decide +kernel)
      have k64 : Fld Z h62 b62 "java/lang/String" "coder" "B" (.int 0) := D62 (Or.inr (hw _ (mI 5 rfl))) (ty := .byte) (by decide +kernel)
      refine W62.pv hx D 51 2 53 [_, _, _, _] [_, _, _] rfl ?_
      have k66 := (V61.keep K62 nin0)
      refine W62.newStr hx hws (hw _ (mI 2 rfl)) SC hzc (hw _ (mI 16 rfl)) (hw _ (mI 17 rfl)) (hw _ (mI 18 rfl)) E62 k63 k64 (cs := [q1, q2, x3, q4]) (n := 4) k66 rfl rfl (by decide +kernel) (by decide +kernel) (allSi cq1 (allSi cq2 (allSi ⟨cx.1, hw54⟩ (allSi cq4 all0i)))) gb62.1 (Or.inr gb62.2) (mI 0 rfl) (by decide +kernel) (Wd := 1) (by decide +kernel) (by decide +kernel) (by decide +kernel) rfl (by rw [hml]; rfl) rfl (by show 2 * 0 + _ ≤ _; exact Nat.le_of_eq rfl) (D 53 rfl) (fun T65 h65 W65 K65 S65 => ?_)
      show Go p e below _ (T65.setTop (mkF m 56 #[vr x1, vi 2, vi x3, vr b3] [(.ref b62)]))
      exact W65.retA hx hEL hs hlk (by decide +kernel) (by decide +kernel) hret rfl rfl (D 56 rfl) (fun S hS => ⟨b62, _, rfl, hs ▸ gb62.2, S65⟩)
  · show Go p e below _ (T27.setTop (mkF m 47 #[vr x1, vi 3, vi x3, vr b3] [(.int x3), (.int 3), (.ref b3)]))
    by_cases hw67 : (255 : Int32) < x3
    · show Go p e below _ (T27.setTop (mkF m 47 #[vr x1, vi 3, vi x3, vr b3] [(.int x3), (.int 3), (.ref b3)]))
      refine W27.stC hx V27 ⟨by decide, by decide⟩ 3 rfl (Nat.le_of_ble_eq_true rfl) gb3.1 (Or.inr gb3.2) rfl rfl (D 47 rfl) (fun T68 h68 W68 K68 A68 => ?_)
      have V68 : Arv Z h68 b3 c3 .char (4 : Int32) [(.int q1), (.int q2), (.int q3), (.int x3)] (.int 0) := (by rw [(nar_wide cx)] at A68; exact A68)
      show Go p e below _ (T68.setTop (mkF m 48 #[vr x1, vi 3, vi x3, vr b3] []))
      refine W68.newO hx (hw _ (mI 15 rfl)) (hw _ (mI 2 rfl)) (hw _ (mI 1 rfl)) rfl (D 48 rfl) (by decide +kernel) (by decide +kernel) (fun T69 h69 b69 eb69 gb69 W69 K69 E69 D69 => ?_)
      have k70 : Fld Z h69 b69 "java/lang/String" "value" "[B" .null := D69 (Or.inr (hw _ (mI 4 rfl))) (ty := (.array .byte)) (by decide +kernel)
      have k71 : Fld Z h69 b69 "java/lang/String" "coder" "B" (.int 0) := D69 (Or.inr (hw _ (mI 5 rfl))) (ty := .byte) (by decide +kernel)
      refine W69.pv hx D 51 2 53 [_, _, _, _] [_, _, _] rfl ?_
      have k73 := (V68.keep K69 nin0)
      refine W69.callP hx hEL rfl (hw _ (mI 16 rfl)) (hw _ (mI 17 rfl)) (hw _ (mI 1 rfl)) (hw _ (mI 18 rfl)) (by decide +kernel) (a := b69) (argsL := [(.ref b3)]) (rest := [(.ref b69)]) (rm244 B b69 b3 c3 q1 q2 q3 x3 h69 W69.old SA1 SH0 SL8 k73 (up1 cq1) (up1 cq2) (up1 cq3) cx cq1.2 cq2.2 cq3.2 hw67 E69 k70 k71 gb69.1) (allS (mI 0 rfl) all0) (by decide +kernel) (Wd := 1) (by decide +kernel) (by decide +kernel) (by decide +kernel) (allS ⟨gb69.1, (Or.inr gb69.2)⟩ all0) rfl (by rw [hml]; rfl) (lenOf pd11 rfl) rfl (by show 2 * 0 + _ ≤ _; exact Nat.le_of_eq rfl) (D 53 rfl) (fun T72 h72 v72 P72 Ws72 K72 q72 => ?_)
      have W72 := Ws72 [] all0
      obtain ⟨rfl, S72⟩ := q72
      show Go p e below _ (T72.setTop (mkF m 56 #[vr x1, vi 3, vi x3, vr b3] [(.ref b69)]))
      exact W72.retA hx hEL hs hlk (by decide +kernel) (by decide +kernel) hret rfl rfl (D 56 rfl) (fun S hS => ⟨b69, _, rfl, hs ▸ gb69.2, S72⟩)
    · show Go p e below _ (T27.setTop (mkF m 47 #[vr x1, vi 3, vi x3, vr b3] [(.int x3), (.int 3), (.ref b3)]))
      refine W27.stC hx V27 ⟨by decide, by decide⟩ 3 rfl (Nat.le_of_ble_eq_true rfl) gb3.1 (Or.inr gb3.2) rfl rfl (D 47 rfl) (fun T74 h74 W74 K74 A74 => ?_)
      have V74 : Arv Z h74 b3 c3 .char (4 : Int32) [(.int q1), (.int q2), (.int q3), (.int x3)] (.int 0) := (by rw [(nar_char ⟨cx.1, hw67⟩)] at A74; exact A74)
      show Go p e below _ (T74.setTop (mkF m 48 #[vr x1, vi 3, vi x3, vr b3] []))
      refine W74.newO hx (hw _ (mI 15 rfl)) (hw _ (mI 2 rfl)) (hw _ (mI 1 rfl)) rfl (D 48 rfl) (by decide +kernel) (by decide +kernel) (fun T75 h75 b75 eb75 gb75 W75 K75 E75 D75 => ?_)
      have k76 : Fld Z h75 b75 "java/lang/String" "value" "[B" .null := D75 (Or.inr (hw _ (mI 4 rfl))) (ty := (.array .byte)) (by decide +kernel)
      have k77 : Fld Z h75 b75 "java/lang/String" "coder" "B" (.int 0) := D75 (Or.inr (hw _ (mI 5 rfl))) (ty := .byte) (by decide +kernel)
      refine W75.pv hx D 51 2 53 [_, _, _, _] [_, _, _] rfl ?_
      have k79 := (V74.keep K75 nin0)
      refine W75.newStr hx hws (hw _ (mI 2 rfl)) SC hzc (hw _ (mI 16 rfl)) (hw _ (mI 17 rfl)) (hw _ (mI 18 rfl)) E75 k76 k77 (cs := [q1, q2, q3, x3]) (n := 4) k79 rfl rfl (by decide +kernel) (by decide +kernel) (allSi cq1 (allSi cq2 (allSi cq3 (allSi ⟨cx.1, hw67⟩ all0i)))) gb75.1 (Or.inr gb75.2) (mI 0 rfl) (by decide +kernel) (Wd := 1) (by decide +kernel) (by decide +kernel) (by decide +kernel) rfl (by rw [hml]; rfl) rfl (by show 2 * 0 + _ ≤ _; exact Nat.le_of_eq rfl) (D 53 rfl) (fun T78 h78 W78 K78 S78 => ?_)
      show Go p e below _ (T78.setTop (mkF m 56 #[vr x1, vi 3, vi x3, vr b3] [(.ref b75)]))
      exact W78.retA hx hEL hs hlk (by decide +kernel) (by decide +kernel) hret rfl rfl (D 56 rfl) (fun S hS => ⟨b75, _, rfl, hs ▸ gb75.2, S78⟩)
theorem ef614 (m : MethodId) (x0 : Addr) (x1 : Int32)  : entryFrame m #[(.ref x0), (.int x1)] 3 = mkF m 0 #[vr x0, vi x1, U0] [] := by first | (simp [entryFrame, mkF, argsToLocals, Value.category]; done) | rfl | rfl
set_option maxRecDepth 65536 in
set_option maxHeartbeats 40000000 in
theorem rm614 (B : EV l Z a0 zc fm) (x1 : Addr) (q1 q2 q3 q4 x3 : Int32) (h0 : Heap) {n0 : Nat} (O0 : Old Z n0 h0) (SA1 : sq0 Z) (SH0 : sq1 Z) (SL8 : sq2 Z) (Sa : Str Z h0 x1 [q1, q2, q3, q4]) (cq1 : ¬ q1 < 0 ∧ ¬ (255 : Int32) < q1) (cq2 : ¬ q2 < 0 ∧ ¬ (255 : Int32) < q2) (cq3 : ¬ q3 < 0 ∧ ¬ (255 : Int32) < q3) (cq4 : ¬ q4 < 0 ∧ ¬ (255 : Int32) < q4) (cx : ¬ x3 < 0 ∧ ¬ (65535 : Int32) < x3) :
    Met l Z EL0 n0 (⟨"com/example/grantwork/grantwork/store/EffectOfPinLaw", "appended", "(Ljava/lang/String;C)Ljava/lang/String;"⟩ : MethodName) method_5_code 3 (some (.object "java/lang/String")) [] (rO 6 4 24 88) #[(.ref x1), (.int x3)] h0 [] [] (fun v h' S => ∃ (r : Addr) (cs : List Int32), v = some (.ref r) ∧ h0.size ≤ r ∧ Str Z h' r cs) := by
  obtain ⟨hw, hEL, SC, hzc, SF, rfm⟩ := id B
  refine Met.of (plainFor_of_name pn3) O0 ?_
  intro p e s m below meth c T0 hx hby hml hret hlk hnm hs W0
  have W0 : Wk p l e _ s m _ below meth c Z EL0 n0 [] "com/example/grantwork/grantwork/store/EffectOfPinLaw" [] T0 0 0 h0 := W0
  have D := @tk c _ _ hby tk16
  have hws := fun d hd => hw d (ws_in d hd)
  have hln := fun d hd => hw d (ln_in d hd)
  have hch := fun d hd => hw d (ch_in d hd)
  refine Go.of (fun _ kk => castTop (ef614 m x1 x3) kk) ?_
  show Go p e below _ (T0.setTop (mkF m 0 #[vr x1, vi x3, U0] []))
  obtain ⟨t1, kb1, E1, Fv1, Fc1, A1⟩ := Sa.open_ (snd255 (allSi cq1 (allSi cq2 (allSi cq3 (allSi cq4 all0i)))))
  have V1 : Arv Z h0 t1 kb1 .byte (4 : Int32) [(.int (StrChars.lo8 q1)), (.int (StrChars.lo8 q2)), (.int (StrChars.lo8 q3)), (.int (StrChars.lo8 q4))] (.int 0) := A1
  refine W0.pv hx D 0 1 1 [_, _, _] [_] rfl ?_
  refine W0.strLen hx hln (hw _ (mI 2 rfl)) SC hzc Sa (hw _ (mI 89 rfl)) (hw _ (mI 90 rfl)) (hw _ (mI 92 rfl)) (hw _ (mI 91 rfl)) (by decide +kernel) (Wd := 0) (by decide +kernel) (by decide +kernel) (by decide +kernel) rfl (by rw [hml]; rfl) rfl (by show 2 * 0 + _ ≤ _; exact Nat.le_of_eq rfl) (D 1 rfl) (fun T2 W2 => ?_)
  show Go p e below _ (T2.setTop (mkF m 4 #[vr x1, vi x3, U0] [(.int 4)]))
  refine W2.pu hx D 4 [(1, false)] 1 9 [_, _, _] [.int 5] rfl ⟨trivial, (XT.ii_ne_f (by decide +kernel))⟩ ?_
  refine W2.newP hx (hw _ (mI 13 rfl)) rfl (D 9 rfl) rfl (by decide +kernel) (cap := 5) (by decide +kernel) (by decide +kernel) (by decide +kernel) (by decide +kernel) (fun T3 h3 b3 c3 eb3 gb3 W3 K3 A3 => ?_)
  have V3 : Arv Z h3 b3 c3 .char (5 : Int32) [(.int 0), (.int 0), (.int 0), (.int 0), (.int 0)] (.int 0) := A3
  refine W3.pv hx D 11 5 16 [_, _, _] [.int 0, _, .int 0, _] rfl ?_
  have k5 := (Sa.keep0 K3)
  refine W3.strChar hx hch (hw _ (mI 2 rfl)) SC hzc SF rfm k5 (snd255 (allSi cq1 (allSi cq2 (allSi cq3 (allSi cq4 all0i))))) (i := 0) (Nat.le_of_ble_eq_true rfl) rfl (hw _ (mI 102 rfl)) (hw _ (mI 103 rfl)) (hw _ (mI 105 rfl)) (hw _ (mI 104 rfl)) (by decide +kernel) (Wd := 2) (by decide +kernel) (by decide +kernel) (by decide +kernel) rfl (by rw [hml]; rfl) rfl (by show 2 * 0 + _ ≤ _; exact Nat.le_of_eq rfl) (D 16 rfl) (fun T4 W4 => ?_)
  show Go p e below _ (T4.setTop (mkF m 19 #[vr x1, vi x3, vr b3] [(.int q1), (.int 0), (.ref b3)]))
  refine W4.stC hx V3 ⟨by decide, by decide⟩ 0 rfl (Nat.le_of_ble_eq_true rfl) gb3.1 (Or.inr gb3.2) rfl rfl (D 19 rfl) (fun T6 h6 W6 K6 A6 => ?_)
  have V6 : Arv Z h6 b3 c3 .char (5 : Int32) [(.int q1), (.int 0), (.int 0), (.int 0), (.int 0)] (.int 0) := (by rw [(nar_char cq1)] at A6; exact A6)
  refine W6.pv hx D 20 4 24 [_, _, _] [.int 1, _, .int 1, _] rfl ?_
  have k9 := ((E1.keep K3).keep K6)
  have k10 := ((Fv1.keep K3 nin0).keep K6 (ninS (ne_of_born (Nat.le_of_eq eb3.symm) Sa.exa.lt (Nat.le_refl _)) nin0))
  have k11 := ((Fc1.keep K3 nin0).keep K6 (ninS (ne_of_born (Nat.le_of_eq eb3.symm) Sa.exa.lt (Nat.le_refl _)) nin0))
  have k12 := ((V1.keep K3 nin0).keep K6 (ninS (ne_of_born (Nat.le_of_eq eb3.symm) V1.lt (Nat.le_refl _)) nin0))
  have S8 : Str Z h6 x1 [q1, q2, q3, q4] := ⟨t1, kb1, 0, _, _, k9, k10, k11, k12, StrChars.Road.codOf (cs := [q1, q2, q3, q4]) (n := 4) rfl (allSi cq1.2 (allSi cq2.2 (allSi cq3.2 (allSi cq4.2 all0i)))), up255 (allSi cq1 (allSi cq2 (allSi cq3 (allSi cq4 all0i)))), Nat.le_of_ble_eq_true rfl⟩
  refine W6.strChar hx hch (hw _ (mI 2 rfl)) SC hzc SF rfm S8 (snd255 (allSi cq1 (allSi cq2 (allSi cq3 (allSi cq4 all0i))))) (i := 1) (Nat.le_of_ble_eq_true rfl) rfl (hw _ (mI 102 rfl)) (hw _ (mI 103 rfl)) (hw _ (mI 105 rfl)) (hw _ (mI 104 rfl)) (by decide +kernel) (Wd := 2) (by decide +kernel) (by decide +kernel) (by decide +kernel) rfl (by rw [hml]; rfl) rfl (by show 2 * 0 + _ ≤ _; exact Nat.le_of_eq rfl) (D 24 rfl) (fun T7 W7 => ?_)
  show Go p e below _ (T7.setTop (mkF m 27 #[vr x1, vi x3, vr b3] [(.int q2), (.int 1), (.ref b3)]))
  refine W7.stC hx V6 ⟨by decide, by decide⟩ 1 rfl (Nat.le_of_ble_eq_true rfl) gb3.1 (Or.inr gb3.2) rfl rfl (D 27 rfl) (fun T13 h13 W13 K13 A13 => ?_)
  have V13 : Arv Z h13 b3 c3 .char (5 : Int32) [(.int q1), (.int q2), (.int 0), (.int 0), (.int 0)] (.int 0) := (by rw [(nar_char cq2)] at A13; exact A13)
  refine W13.pv hx D 28 4 32 [_, _, _] [.int 2, _, .int 2, _] rfl ?_
  have k16 := (k9.keep K13)
  have k17 := (k10.keep K13 (ninS (ne_of_born (Nat.le_of_eq eb3.symm) Sa.exa.lt (Nat.le_refl _)) nin0))
  have k18 := (k11.keep K13 (ninS (ne_of_born (Nat.le_of_eq eb3.symm) Sa.exa.lt (Nat.le_refl _)) nin0))
  have k19 := (k12.keep K13 (ninS (ne_of_born (Nat.le_of_eq eb3.symm) V1.lt (Nat.le_refl _)) nin0))
  have S15 : Str Z h13 x1 [q1, q2, q3, q4] := ⟨t1, kb1, 0, _, _, k16, k17, k18, k19, StrChars.Road.codOf (cs := [q1, q2, q3, q4]) (n := 4) rfl (allSi cq1.2 (allSi cq2.2 (allSi cq3.2 (allSi cq4.2 all0i)))), up255 (allSi cq1 (allSi cq2 (allSi cq3 (allSi cq4 all0i)))), Nat.le_of_ble_eq_true rfl⟩
  refine W13.strChar hx hch (hw _ (mI 2 rfl)) SC hzc SF rfm S15 (snd255 (allSi cq1 (allSi cq2 (allSi cq3 (allSi cq4 all0i))))) (i := 2) (Nat.le_of_ble_eq_true rfl) rfl (hw _ (mI 102 rfl)) (hw _ (mI 103 rfl)) (hw _ (mI 105 rfl)) (hw _ (mI 104 rfl)) (by decide +kernel) (Wd := 2) (by decide +kernel) (by decide +kernel) (by decide +kernel) rfl (by rw [hml]; rfl) rfl (by show 2 * 0 + _ ≤ _; exact Nat.le_of_eq rfl) (D 32 rfl) (fun T14 W14 => ?_)
  show Go p e below _ (T14.setTop (mkF m 35 #[vr x1, vi x3, vr b3] [(.int q3), (.int 2), (.ref b3)]))
  refine W14.stC hx V13 ⟨by decide, by decide⟩ 2 rfl (Nat.le_of_ble_eq_true rfl) gb3.1 (Or.inr gb3.2) rfl rfl (D 35 rfl) (fun T20 h20 W20 K20 A20 => ?_)
  have V20 : Arv Z h20 b3 c3 .char (5 : Int32) [(.int q1), (.int q2), (.int q3), (.int 0), (.int 0)] (.int 0) := (by rw [(nar_char cq3)] at A20; exact A20)
  refine W20.pv hx D 36 4 40 [_, _, _] [.int 3, _, .int 3, _] rfl ?_
  have k23 := (k16.keep K20)
  have k24 := (k17.keep K20 (ninS (ne_of_born (Nat.le_of_eq eb3.symm) Sa.exa.lt (Nat.le_refl _)) nin0))
  have k25 := (k18.keep K20 (ninS (ne_of_born (Nat.le_of_eq eb3.symm) Sa.exa.lt (Nat.le_refl _)) nin0))
  have k26 := (k19.keep K20 (ninS (ne_of_born (Nat.le_of_eq eb3.symm) V1.lt (Nat.le_refl _)) nin0))
  have S22 : Str Z h20 x1 [q1, q2, q3, q4] := ⟨t1, kb1, 0, _, _, k23, k24, k25, k26, StrChars.Road.codOf (cs := [q1, q2, q3, q4]) (n := 4) rfl (allSi cq1.2 (allSi cq2.2 (allSi cq3.2 (allSi cq4.2 all0i)))), up255 (allSi cq1 (allSi cq2 (allSi cq3 (allSi cq4 all0i)))), Nat.le_of_ble_eq_true rfl⟩
  refine W20.strChar hx hch (hw _ (mI 2 rfl)) SC hzc SF rfm S22 (snd255 (allSi cq1 (allSi cq2 (allSi cq3 (allSi cq4 all0i))))) (i := 3) (Nat.le_of_ble_eq_true rfl) rfl (hw _ (mI 102 rfl)) (hw _ (mI 103 rfl)) (hw _ (mI 105 rfl)) (hw _ (mI 104 rfl)) (by decide +kernel) (Wd := 2) (by decide +kernel) (by decide +kernel) (by decide +kernel) rfl (by rw [hml]; rfl) rfl (by show 2 * 0 + _ ≤ _; exact Nat.le_of_eq rfl) (D 40 rfl) (fun T21 W21 => ?_)
  show Go p e below _ (T21.setTop (mkF m 43 #[vr x1, vi x3, vr b3] [(.int q4), (.int 3), (.ref b3)]))
  refine W21.stC hx V20 ⟨by decide, by decide⟩ 3 rfl (Nat.le_of_ble_eq_true rfl) gb3.1 (Or.inr gb3.2) rfl rfl (D 43 rfl) (fun T27 h27 W27 K27 A27 => ?_)
  have V27 : Arv Z h27 b3 c3 .char (5 : Int32) [(.int q1), (.int q2), (.int q3), (.int q4), (.int 0)] (.int 0) := (by rw [(nar_char cq4)] at A27; exact A27)
  refine W27.pv hx D 44 3 47 [_, _, _] [_, .int 4, _] rfl ?_
  by_cases hw28 : (255 : Int32) < x3
  · show Go p e below _ (T27.setTop (mkF m 47 #[vr x1, vi x3, vr b3] [(.int x3), (.int 4), (.ref b3)]))
    refine W27.stC hx V27 ⟨by decide, by decide⟩ 4 rfl (Nat.le_of_ble_eq_true rfl) gb3.1 (Or.inr gb3.2) rfl rfl (D 47 rfl) (fun T29 h29 W29 K29 A29 => ?_)
    have V29 : Arv Z h29 b3 c3 .char (5 : Int32) [(.int q1), (.int q2), (.int q3), (.int q4), (.int x3)] (.int 0) := (by rw [(nar_wide cx)] at A29; exact A29)
    show Go p e below _ (T29.setTop (mkF m 48 #[vr x1, vi x3, vr b3] []))
    refine W29.newO hx (hw _ (mI 15 rfl)) (hw _ (mI 2 rfl)) (hw _ (mI 1 rfl)) rfl (D 48 rfl) (by decide +kernel) (by decide +kernel) (fun T30 h30 b30 eb30 gb30 W30 K30 E30 D30 => ?_)
    have k31 : Fld Z h30 b30 "java/lang/String" "value" "[B" .null := D30 (Or.inr (hw _ (mI 4 rfl))) (ty := (.array .byte)) (by decide +kernel)
    have k32 : Fld Z h30 b30 "java/lang/String" "coder" "B" (.int 0) := D30 (Or.inr (hw _ (mI 5 rfl))) (ty := .byte) (by decide +kernel)
    refine W30.pv hx D 51 2 53 [_, _, _] [_, _, _] rfl ?_
    have k34 := (V29.keep K30 nin0)
    refine W30.callP hx hEL rfl (hw _ (mI 16 rfl)) (hw _ (mI 17 rfl)) (hw _ (mI 1 rfl)) (hw _ (mI 18 rfl)) (by decide +kernel) (a := b30) (argsL := [(.ref b3)]) (rest := [(.ref b30)]) (rm354 B b30 b3 c3 q1 q2 q3 q4 x3 h30 W30.old SA1 SH0 SL8 k34 (up1 cq1) (up1 cq2) (up1 cq3) (up1 cq4) cx cq1.2 cq2.2 cq3.2 cq4.2 hw28 E30 k31 k32 gb30.1) (allS (mI 0 rfl) all0) (by decide +kernel) (Wd := 1) (by decide +kernel) (by decide +kernel) (by decide +kernel) (allS ⟨gb30.1, (Or.inr gb30.2)⟩ all0) rfl (by rw [hml]; rfl) (lenOf pd11 rfl) rfl (by show 2 * 0 + _ ≤ _; exact Nat.le_of_eq rfl) (D 53 rfl) (fun T33 h33 v33 P33 Ws33 K33 q33 => ?_)
    have W33 := Ws33 [] all0
    obtain ⟨rfl, S33⟩ := q33
    show Go p e below _ (T33.setTop (mkF m 56 #[vr x1, vi x3, vr b3] [(.ref b30)]))
    exact W33.retA hx hEL hs hlk (by decide +kernel) (by decide +kernel) hret rfl rfl (D 56 rfl) (fun S hS => ⟨b30, _, rfl, hs ▸ gb30.2, S33⟩)
  · show Go p e below _ (T27.setTop (mkF m 47 #[vr x1, vi x3, vr b3] [(.int x3), (.int 4), (.ref b3)]))
    refine W27.stC hx V27 ⟨by decide, by decide⟩ 4 rfl (Nat.le_of_ble_eq_true rfl) gb3.1 (Or.inr gb3.2) rfl rfl (D 47 rfl) (fun T35 h35 W35 K35 A35 => ?_)
    have V35 : Arv Z h35 b3 c3 .char (5 : Int32) [(.int q1), (.int q2), (.int q3), (.int q4), (.int x3)] (.int 0) := (by rw [(nar_char ⟨cx.1, hw28⟩)] at A35; exact A35)
    show Go p e below _ (T35.setTop (mkF m 48 #[vr x1, vi x3, vr b3] []))
    refine W35.newO hx (hw _ (mI 15 rfl)) (hw _ (mI 2 rfl)) (hw _ (mI 1 rfl)) rfl (D 48 rfl) (by decide +kernel) (by decide +kernel) (fun T36 h36 b36 eb36 gb36 W36 K36 E36 D36 => ?_)
    have k37 : Fld Z h36 b36 "java/lang/String" "value" "[B" .null := D36 (Or.inr (hw _ (mI 4 rfl))) (ty := (.array .byte)) (by decide +kernel)
    have k38 : Fld Z h36 b36 "java/lang/String" "coder" "B" (.int 0) := D36 (Or.inr (hw _ (mI 5 rfl))) (ty := .byte) (by decide +kernel)
    refine W36.pv hx D 51 2 53 [_, _, _] [_, _, _] rfl ?_
    have k40 := (V35.keep K36 nin0)
    refine W36.newStr hx hws (hw _ (mI 2 rfl)) SC hzc (hw _ (mI 16 rfl)) (hw _ (mI 17 rfl)) (hw _ (mI 18 rfl)) E36 k37 k38 (cs := [q1, q2, q3, q4, x3]) (n := 5) k40 rfl rfl (by decide +kernel) (by decide +kernel) (allSi cq1 (allSi cq2 (allSi cq3 (allSi cq4 (allSi ⟨cx.1, hw28⟩ all0i))))) gb36.1 (Or.inr gb36.2) (mI 0 rfl) (by decide +kernel) (Wd := 1) (by decide +kernel) (by decide +kernel) (by decide +kernel) rfl (by rw [hml]; rfl) rfl (by show 2 * 0 + _ ≤ _; exact Nat.le_of_eq rfl) (D 53 rfl) (fun T39 h39 W39 K39 S39 => ?_)
    show Go p e below _ (T39.setTop (mkF m 56 #[vr x1, vi x3, vr b3] [(.ref b36)]))
    exact W39.retA hx hEL hs hlk (by decide +kernel) (by decide +kernel) hret rfl rfl (D 56 rfl) (fun S hS => ⟨b36, _, rfl, hs ▸ gb36.2, S39⟩)
theorem ef624 (m : MethodId) (x0 : Addr)  : entryFrame m #[(.ref x0)] 2 = mkF m 0 #[vr x0, U0] [] := by first | (simp [entryFrame, mkF, argsToLocals, Value.category]; done) | rfl | rfl
set_option maxRecDepth 65536 in
set_option maxHeartbeats 40000000 in
theorem rm624 (B : EV l Z a0 zc fm) (x1 : Addr) (q1 q2 q3 q4 : Int32) (h0 : Heap) {n0 : Nat} (O0 : Old Z n0 h0) (Sa : Str Z h0 x1 [q1, q2, q3, q4]) (cq1 : ¬ q1 < 0 ∧ ¬ (255 : Int32) < q1) (cq2 : ¬ q2 < 0 ∧ ¬ (255 : Int32) < q2) (cq3 : ¬ q3 < 0 ∧ ¬ (255 : Int32) < q3) (cq4 : ¬ q4 < 0 ∧ ¬ (255 : Int32) < q4) :
    Met l Z EL0 n0 (⟨"com/example/grantwork/grantwork/store/EffectOfPinLaw", "dropLast", "(Ljava/lang/String;)Ljava/lang/String;"⟩ : MethodName) method_6_code 2 (some (.object "java/lang/String")) [] (rO 4 3 10 66) #[(.ref x1)] h0 [] [] (fun v h' S => ∃ (r : Addr) (cs : List Int32), v = some (.ref r) ∧ h0.size ≤ r ∧ Str Z h' r cs) := by
  obtain ⟨hw, hEL, SC, hzc, SF, rfm⟩ := id B
  refine Met.of (plainFor_of_name pn3) O0 ?_
  intro p e s m below meth c T0 hx hby hml hret hlk hnm hs W0
  have W0 : Wk p l e _ s m _ below meth c Z EL0 n0 [] "com/example/grantwork/grantwork/store/EffectOfPinLaw" [] T0 0 0 h0 := W0
  have D := @tk c _ _ hby tk17
  have hws := fun d hd => hw d (ws_in d hd)
  have hln := fun d hd => hw d (ln_in d hd)
  have hch := fun d hd => hw d (ch_in d hd)
  refine Go.of (fun _ kk => castTop (ef624 m x1) kk) ?_
  show Go p e below _ (T0.setTop (mkF m 0 #[vr x1, U0] []))
  obtain ⟨t1, kb1, E1, Fv1, Fc1, A1⟩ := Sa.open_ (snd255 (allSi cq1 (allSi cq2 (allSi cq3 (allSi cq4 all0i)))))
  have V1 : Arv Z h0 t1 kb1 .byte (4 : Int32) [(.int (StrChars.lo8 q1)), (.int (StrChars.lo8 q2)), (.int (StrChars.lo8 q3)), (.int (StrChars.lo8 q4))] (.int 0) := A1
  refine W0.pv hx D 0 1 1 [_, _] [_] rfl ?_
  refine W0.strLen hx hln (hw _ (mI 2 rfl)) SC hzc Sa (hw _ (mI 89 rfl)) (hw _ (mI 90 rfl)) (hw _ (mI 92 rfl)) (hw _ (mI 91 rfl)) (by decide +kernel) (Wd := 0) (by decide +kernel) (by decide +kernel) (by decide +kernel) rfl (by rw [hml]; rfl) rfl (by show 2 * 0 + _ ≤ _; exact Nat.le_of_eq rfl) (D 1 rfl) (fun T2 W2 => ?_)
  show Go p e below _ (T2.setTop (mkF m 4 #[vr x1, U0] [(.int 4)]))
  refine W2.pu hx D 4 [(1, false)] 1 9 [_, _] [.int 3] rfl ⟨trivial, (XT.ii_ne_f (by decide +kernel))⟩ ?_
  refine W2.newP hx (hw _ (mI 13 rfl)) rfl (D 9 rfl) rfl (by decide +kernel) (cap := 3) (by decide +kernel) (by decide +kernel) (by decide +kernel) (by decide +kernel) (fun T3 h3 b3 c3 eb3 gb3 W3 K3 A3 => ?_)
  have V3 : Arv Z h3 b3 c3 .char (3 : Int32) [(.int 0), (.int 0), (.int 0)] (.int 0) := A3
  refine W3.pv hx D 11 5 16 [_, _] [.int 0, _, .int 0, _] rfl ?_
  have k5 := (Sa.keep0 K3)
  refine W3.strChar hx hch (hw _ (mI 2 rfl)) SC hzc SF rfm k5 (snd255 (allSi cq1 (allSi cq2 (allSi cq3 (allSi cq4 all0i))))) (i := 0) (Nat.le_of_ble_eq_true rfl) rfl (hw _ (mI 102 rfl)) (hw _ (mI 103 rfl)) (hw _ (mI 105 rfl)) (hw _ (mI 104 rfl)) (by decide +kernel) (Wd := 2) (by decide +kernel) (by decide +kernel) (by decide +kernel) rfl (by rw [hml]; rfl) rfl (by show 2 * 0 + _ ≤ _; exact Nat.le_of_eq rfl) (D 16 rfl) (fun T4 W4 => ?_)
  show Go p e below _ (T4.setTop (mkF m 19 #[vr x1, vr b3] [(.int q1), (.int 0), (.ref b3)]))
  refine W4.stC hx V3 ⟨by decide, by decide⟩ 0 rfl (Nat.le_of_ble_eq_true rfl) gb3.1 (Or.inr gb3.2) rfl rfl (D 19 rfl) (fun T6 h6 W6 K6 A6 => ?_)
  have V6 : Arv Z h6 b3 c3 .char (3 : Int32) [(.int q1), (.int 0), (.int 0)] (.int 0) := (by rw [(nar_char cq1)] at A6; exact A6)
  refine W6.pv hx D 20 4 24 [_, _] [.int 1, _, .int 1, _] rfl ?_
  have k9 := ((E1.keep K3).keep K6)
  have k10 := ((Fv1.keep K3 nin0).keep K6 (ninS (ne_of_born (Nat.le_of_eq eb3.symm) Sa.exa.lt (Nat.le_refl _)) nin0))
  have k11 := ((Fc1.keep K3 nin0).keep K6 (ninS (ne_of_born (Nat.le_of_eq eb3.symm) Sa.exa.lt (Nat.le_refl _)) nin0))
  have k12 := ((V1.keep K3 nin0).keep K6 (ninS (ne_of_born (Nat.le_of_eq eb3.symm) V1.lt (Nat.le_refl _)) nin0))
  have S8 : Str Z h6 x1 [q1, q2, q3, q4] := ⟨t1, kb1, 0, _, _, k9, k10, k11, k12, StrChars.Road.codOf (cs := [q1, q2, q3, q4]) (n := 4) rfl (allSi cq1.2 (allSi cq2.2 (allSi cq3.2 (allSi cq4.2 all0i)))), up255 (allSi cq1 (allSi cq2 (allSi cq3 (allSi cq4 all0i)))), Nat.le_of_ble_eq_true rfl⟩
  refine W6.strChar hx hch (hw _ (mI 2 rfl)) SC hzc SF rfm S8 (snd255 (allSi cq1 (allSi cq2 (allSi cq3 (allSi cq4 all0i))))) (i := 1) (Nat.le_of_ble_eq_true rfl) rfl (hw _ (mI 102 rfl)) (hw _ (mI 103 rfl)) (hw _ (mI 105 rfl)) (hw _ (mI 104 rfl)) (by decide +kernel) (Wd := 2) (by decide +kernel) (by decide +kernel) (by decide +kernel) rfl (by rw [hml]; rfl) rfl (by show 2 * 0 + _ ≤ _; exact Nat.le_of_eq rfl) (D 24 rfl) (fun T7 W7 => ?_)
  show Go p e below _ (T7.setTop (mkF m 27 #[vr x1, vr b3] [(.int q2), (.int 1), (.ref b3)]))
  refine W7.stC hx V6 ⟨by decide, by decide⟩ 1 rfl (Nat.le_of_ble_eq_true rfl) gb3.1 (Or.inr gb3.2) rfl rfl (D 27 rfl) (fun T13 h13 W13 K13 A13 => ?_)
  have V13 : Arv Z h13 b3 c3 .char (3 : Int32) [(.int q1), (.int q2), (.int 0)] (.int 0) := (by rw [(nar_char cq2)] at A13; exact A13)
  refine W13.pv hx D 28 4 32 [_, _] [.int 2, _, .int 2, _] rfl ?_
  have k16 := (k9.keep K13)
  have k17 := (k10.keep K13 (ninS (ne_of_born (Nat.le_of_eq eb3.symm) Sa.exa.lt (Nat.le_refl _)) nin0))
  have k18 := (k11.keep K13 (ninS (ne_of_born (Nat.le_of_eq eb3.symm) Sa.exa.lt (Nat.le_refl _)) nin0))
  have k19 := (k12.keep K13 (ninS (ne_of_born (Nat.le_of_eq eb3.symm) V1.lt (Nat.le_refl _)) nin0))
  have S15 : Str Z h13 x1 [q1, q2, q3, q4] := ⟨t1, kb1, 0, _, _, k16, k17, k18, k19, StrChars.Road.codOf (cs := [q1, q2, q3, q4]) (n := 4) rfl (allSi cq1.2 (allSi cq2.2 (allSi cq3.2 (allSi cq4.2 all0i)))), up255 (allSi cq1 (allSi cq2 (allSi cq3 (allSi cq4 all0i)))), Nat.le_of_ble_eq_true rfl⟩
  refine W13.strChar hx hch (hw _ (mI 2 rfl)) SC hzc SF rfm S15 (snd255 (allSi cq1 (allSi cq2 (allSi cq3 (allSi cq4 all0i))))) (i := 2) (Nat.le_of_ble_eq_true rfl) rfl (hw _ (mI 102 rfl)) (hw _ (mI 103 rfl)) (hw _ (mI 105 rfl)) (hw _ (mI 104 rfl)) (by decide +kernel) (Wd := 2) (by decide +kernel) (by decide +kernel) (by decide +kernel) rfl (by rw [hml]; rfl) rfl (by show 2 * 0 + _ ≤ _; exact Nat.le_of_eq rfl) (D 32 rfl) (fun T14 W14 => ?_)
  show Go p e below _ (T14.setTop (mkF m 35 #[vr x1, vr b3] [(.int q3), (.int 2), (.ref b3)]))
  refine W14.stC hx V13 ⟨by decide, by decide⟩ 2 rfl (Nat.le_of_ble_eq_true rfl) gb3.1 (Or.inr gb3.2) rfl rfl (D 35 rfl) (fun T20 h20 W20 K20 A20 => ?_)
  have V20 : Arv Z h20 b3 c3 .char (3 : Int32) [(.int q1), (.int q2), (.int q3)] (.int 0) := (by rw [(nar_char cq3)] at A20; exact A20)
  show Go p e below _ (T20.setTop (mkF m 36 #[vr x1, vr b3] []))
  refine W20.newO hx (hw _ (mI 15 rfl)) (hw _ (mI 2 rfl)) (hw _ (mI 1 rfl)) rfl (D 36 rfl) (by decide +kernel) (by decide +kernel) (fun T21 h21 b21 eb21 gb21 W21 K21 E21 D21 => ?_)
  have k22 : Fld Z h21 b21 "java/lang/String" "value" "[B" .null := D21 (Or.inr (hw _ (mI 4 rfl))) (ty := (.array .byte)) (by decide +kernel)
  have k23 : Fld Z h21 b21 "java/lang/String" "coder" "B" (.int 0) := D21 (Or.inr (hw _ (mI 5 rfl))) (ty := .byte) (by decide +kernel)
  refine W21.pv hx D 39 2 41 [_, _] [_, _, _] rfl ?_
  have k25 := (V20.keep K21 nin0)
  refine W21.newStr hx hws (hw _ (mI 2 rfl)) SC hzc (hw _ (mI 16 rfl)) (hw _ (mI 17 rfl)) (hw _ (mI 18 rfl)) E21 k22 k23 (cs := [q1, q2, q3]) (n := 3) k25 rfl rfl (by decide +kernel) (by decide +kernel) (allSi cq1 (allSi cq2 (allSi cq3 all0i))) gb21.1 (Or.inr gb21.2) (mI 0 rfl) (by decide +kernel) (Wd := 1) (by decide +kernel) (by decide +kernel) (by decide +kernel) rfl (by rw [hml]; rfl) rfl (by show 2 * 0 + _ ≤ _; exact Nat.le_of_eq rfl) (D 41 rfl) (fun T24 h24 W24 K24 S24 => ?_)
  show Go p e below _ (T24.setTop (mkF m 44 #[vr x1, vr b3] [(.ref b21)]))
  exact W24.retA hx hEL hs hlk (by decide +kernel) (by decide +kernel) hret rfl rfl (D 44 rfl) (fun S hS => ⟨b21, _, rfl, hs ▸ gb21.2, S24⟩)
theorem ef634 (m : MethodId) (x0 : Int64)  : entryFrame m #[(.long x0)] 3 = mkF m 0 #[.val (.long x0), S0, U0] [] := by first | (simp [entryFrame, mkF, argsToLocals, Value.category]; done) | rfl | rfl
set_option maxRecDepth 65536 in
set_option maxHeartbeats 40000000 in
theorem rm634 (B : EV l Z a0 zc fm) (j1 : Int64) (h0 : Heap) {n0 : Nat} (O0 : Old Z n0 h0)  :
    Met l Z EL0 n0 (⟨"com/example/grantwork/grantwork/store/EffectOfPinLaw", "drawn4", "(J)Ljava/lang/String;"⟩ : MethodName) method_8_code 3 (some (.object "java/lang/String")) [] (rO 4 3 12 66) #[(.long j1)] h0 [] [] (fun v h' S => ∃ (r : Addr) (cs : List Int32), v = some (.ref r) ∧ h0.size ≤ r ∧ Str Z h' r cs) := by
  obtain ⟨hw, hEL, SC, hzc, SF, rfm⟩ := id B
  refine Met.of (plainFor_of_name pn3) O0 ?_
  intro p e s m below meth c T0 hx hby hml hret hlk hnm hs W0
  have W0 : Wk p l e _ s m _ below meth c Z EL0 n0 [] "com/example/grantwork/grantwork/store/EffectOfPinLaw" [] T0 0 0 h0 := W0
  have D := @tk c _ _ hby tk18
  have hws := fun d hd => hw d (ws_in d hd)
  refine Go.of (fun _ kk => castTop (ef634 m j1) kk) ?_
  refine W0.pv hx D 0 1 1 [_, _, _] [.int 4] rfl ?_
  refine W0.newP hx (hw _ (mI 13 rfl)) rfl (D 1 rfl) rfl (by decide +kernel) (cap := 4) (by decide +kernel) (by decide +kernel) (by decide +kernel) (by decide +kernel) (fun T1 h1 b1 c1 eb1 gb1 W1 K1 A1 => ?_)
  have V1 : Arv Z h1 b1 c1 .char (4 : Int32) [(.int 0), (.int 0), (.int 0), (.int 0)] (.int 0) := A1
  refine W1.pv hx D 3 4 7 [_, _, _] [_, .int 0, _] rfl ?_
  refine W1.ldcJ hx (hw _ (mI 14 rfl)) rfl (D 7 rfl) ?_
  refine W1.pv hx D 10 3 13 [_, _, _] [.int (((j1 &&& (255 : Int64)).toInt32).toUInt32.toUInt16.toUInt32.toInt32), _, _] rfl ?_
  obtain ⟨q2, hq2, cq2⟩ := char255L j1
  rw [hq2]
  show Go p e below _ (T1.setTop (mkF m 13 #[.val (.long j1), S0, vr b1] [(.int q2), (.int 0), (.ref b1)]))
  refine W1.stC hx V1 ⟨by decide, by decide⟩ 0 rfl (Nat.le_of_ble_eq_true rfl) gb1.1 (Or.inr gb1.2) rfl rfl (D 13 rfl) (fun T3 h3 W3 K3 A3 => ?_)
  have V3 : Arv Z h3 b1 c1 .char (4 : Int32) [(.int q2), (.int 0), (.int 0), (.int 0)] (.int 0) := (by rw [(nar_char cq2)] at A3; exact A3)
  refine W3.pv hx D 14 5 20 [_, _, _] [.long ((j1.toUInt64 >>> (((8 : Int32) &&& 63).toInt64).toUInt64).toInt64), .int 1, _] rfl ?_
  refine W3.ldcJ hx (hw _ (mI 14 rfl)) rfl (D 20 rfl) ?_
  refine W3.pv hx D 23 3 26 [_, _, _] [.int (((((j1.toUInt64 >>> (((8 : Int32) &&& 63).toInt64).toUInt64).toInt64) &&& (255 : Int64)).toInt32).toUInt32.toUInt16.toUInt32.toInt32), _, _] rfl ?_
  obtain ⟨q4, hq4, cq4⟩ := char255L ((j1.toUInt64 >>> (((8 : Int32) &&& 63).toInt64).toUInt64).toInt64)
  rw [hq4]
  show Go p e below _ (T3.setTop (mkF m 26 #[.val (.long j1), S0, vr b1] [(.int q4), (.int 1), (.ref b1)]))
  refine W3.stC hx V3 ⟨by decide, by decide⟩ 1 rfl (Nat.le_of_ble_eq_true rfl) gb1.1 (Or.inr gb1.2) rfl rfl (D 26 rfl) (fun T5 h5 W5 K5 A5 => ?_)
  have V5 : Arv Z h5 b1 c1 .char (4 : Int32) [(.int q2), (.int q4), (.int 0), (.int 0)] (.int 0) := (by rw [(nar_char cq4)] at A5; exact A5)
  refine W5.pv hx D 27 5 33 [_, _, _] [.long ((j1.toUInt64 >>> (((16 : Int32) &&& 63).toInt64).toUInt64).toInt64), .int 2, _] rfl ?_
  refine W5.ldcJ hx (hw _ (mI 14 rfl)) rfl (D 33 rfl) ?_
  refine W5.pv hx D 36 3 39 [_, _, _] [.int (((((j1.toUInt64 >>> (((16 : Int32) &&& 63).toInt64).toUInt64).toInt64) &&& (255 : Int64)).toInt32).toUInt32.toUInt16.toUInt32.toInt32), _, _] rfl ?_
  obtain ⟨q6, hq6, cq6⟩ := char255L ((j1.toUInt64 >>> (((16 : Int32) &&& 63).toInt64).toUInt64).toInt64)
  rw [hq6]
  show Go p e below _ (T5.setTop (mkF m 39 #[.val (.long j1), S0, vr b1] [(.int q6), (.int 2), (.ref b1)]))
  refine W5.stC hx V5 ⟨by decide, by decide⟩ 2 rfl (Nat.le_of_ble_eq_true rfl) gb1.1 (Or.inr gb1.2) rfl rfl (D 39 rfl) (fun T7 h7 W7 K7 A7 => ?_)
  have V7 : Arv Z h7 b1 c1 .char (4 : Int32) [(.int q2), (.int q4), (.int q6), (.int 0)] (.int 0) := (by rw [(nar_char cq6)] at A7; exact A7)
  refine W7.pv hx D 40 5 46 [_, _, _] [.long ((j1.toUInt64 >>> (((24 : Int32) &&& 63).toInt64).toUInt64).toInt64), .int 3, _] rfl ?_
  refine W7.ldcJ hx (hw _ (mI 14 rfl)) rfl (D 46 rfl) ?_
  refine W7.pv hx D 49 3 52 [_, _, _] [.int (((((j1.toUInt64 >>> (((24 : Int32) &&& 63).toInt64).toUInt64).toInt64) &&& (255 : Int64)).toInt32).toUInt32.toUInt16.toUInt32.toInt32), _, _] rfl ?_
  obtain ⟨q8, hq8, cq8⟩ := char255L ((j1.toUInt64 >>> (((24 : Int32) &&& 63).toInt64).toUInt64).toInt64)
  rw [hq8]
  show Go p e below _ (T7.setTop (mkF m 52 #[.val (.long j1), S0, vr b1] [(.int q8), (.int 3), (.ref b1)]))
  refine W7.stC hx V7 ⟨by decide, by decide⟩ 3 rfl (Nat.le_of_ble_eq_true rfl) gb1.1 (Or.inr gb1.2) rfl rfl (D 52 rfl) (fun T9 h9 W9 K9 A9 => ?_)
  have V9 : Arv Z h9 b1 c1 .char (4 : Int32) [(.int q2), (.int q4), (.int q6), (.int q8)] (.int 0) := (by rw [(nar_char cq8)] at A9; exact A9)
  show Go p e below _ (T9.setTop (mkF m 53 #[.val (.long j1), S0, vr b1] []))
  refine W9.newO hx (hw _ (mI 15 rfl)) (hw _ (mI 2 rfl)) (hw _ (mI 1 rfl)) rfl (D 53 rfl) (by decide +kernel) (by decide +kernel) (fun T10 h10 b10 eb10 gb10 W10 K10 E10 D10 => ?_)
  have k11 : Fld Z h10 b10 "java/lang/String" "value" "[B" .null := D10 (Or.inr (hw _ (mI 4 rfl))) (ty := (.array .byte)) (by decide +kernel)
  have k12 : Fld Z h10 b10 "java/lang/String" "coder" "B" (.int 0) := D10 (Or.inr (hw _ (mI 5 rfl))) (ty := .byte) (by decide +kernel)
  refine W10.pv hx D 56 2 58 [_, _, _] [_, _, _] rfl ?_
  have k14 := (V9.keep K10 nin0)
  refine W10.newStr hx hws (hw _ (mI 2 rfl)) SC hzc (hw _ (mI 16 rfl)) (hw _ (mI 17 rfl)) (hw _ (mI 18 rfl)) E10 k11 k12 (cs := [q2, q4, q6, q8]) (n := 4) k14 rfl rfl (by decide +kernel) (by decide +kernel) (allSi cq2 (allSi cq4 (allSi cq6 (allSi cq8 all0i)))) gb10.1 (Or.inr gb10.2) (mI 0 rfl) (by decide +kernel) (Wd := 1) (by decide +kernel) (by decide +kernel) (by decide +kernel) rfl (by rw [hml]; rfl) rfl (by show 2 * 0 + _ ≤ _; exact Nat.le_of_eq rfl) (D 58 rfl) (fun T13 h13 W13 K13 S13 => ?_)
  show Go p e below _ (T13.setTop (mkF m 61 #[.val (.long j1), S0, vr b1] [(.ref b10)]))
  exact W13.retA hx hEL hs hlk (by decide +kernel) (by decide +kernel) hret rfl rfl (D 61 rfl) (fun S hS => ⟨b10, _, rfl, hs ▸ gb10.2, S13⟩)
set_option maxRecDepth 65536 in
set_option maxHeartbeats 40000000 in
theorem rm605 (B : EV l Z a0 zc fm) (x1 : Addr) (q1 q2 q3 q4 q5 x2 x3 : Int32) (h0 : Heap) {n0 : Nat} (O0 : Old Z n0 h0) (SA1 : sq0 Z) (SH0 : sq1 Z) (SL8 : sq2 Z) (Sa : Str Z h0 x1 [q1, q2, q3, q4, q5]) (cq1 : ¬ q1 < 0 ∧ ¬ (255 : Int32) < q1) (cq2 : ¬ q2 < 0 ∧ ¬ (255 : Int32) < q2) (cq3 : ¬ q3 < 0 ∧ ¬ (255 : Int32) < q3) (cq4 : ¬ q4 < 0 ∧ ¬ (255 : Int32) < q4) (cq5 : ¬ q5 < 0 ∧ ¬ (255 : Int32) < q5) (hp : x2 = (0 : Int32) ∨ x2 = (1 : Int32) ∨ x2 = (2 : Int32) ∨ x2 = (3 : Int32) ∨ x2 = (4 : Int32)) (cx : ¬ x3 < 0 ∧ ¬ (65535 : Int32) < x3) :
    Met l Z EL0 n0 (⟨"com/example/grantwork/grantwork/store/EffectOfPinLaw", "replaced", "(Ljava/lang/String;IC)Ljava/lang/String;"⟩ : MethodName) method_4_code 4 (some (.object "java/lang/String")) [] (rO 6 4 24 88) #[(.ref x1), (.int x2), (.int x3)] h0 [] [] (fun v h' S => ∃ (r : Addr) (cs : List Int32), v = some (.ref r) ∧ h0.size ≤ r ∧ Str Z h' r cs) := by
  obtain ⟨hw, hEL, SC, hzc, SF, rfm⟩ := id B
  refine Met.of (plainFor_of_name pn3) O0 ?_
  intro p e s m below meth c T0 hx hby hml hret hlk hnm hs W0
  have W0 : Wk p l e _ s m _ below meth c Z EL0 n0 [] "com/example/grantwork/grantwork/store/EffectOfPinLaw" [] T0 0 0 h0 := W0
  have D := @tk c _ _ hby tk15
  have hws := fun d hd => hw d (ws_in d hd)
  have hln := fun d hd => hw d (ln_in d hd)
  have hch := fun d hd => hw d (ch_in d hd)
  refine Go.of (fun _ kk => castTop (ef604 m x1 x2 x3) kk) ?_
  show Go p e below _ (T0.setTop (mkF m 0 #[vr x1, vi x2, vi x3, U0] []))
  obtain ⟨t1, kb1, E1, Fv1, Fc1, A1⟩ := Sa.open_ (snd255 (allSi cq1 (allSi cq2 (allSi cq3 (allSi cq4 (allSi cq5 all0i))))))
  have V1 : Arv Z h0 t1 kb1 .byte (5 : Int32) [(.int (StrChars.lo8 q1)), (.int (StrChars.lo8 q2)), (.int (StrChars.lo8 q3)), (.int (StrChars.lo8 q4)), (.int (StrChars.lo8 q5))] (.int 0) := A1
  refine W0.pv hx D 0 1 1 [_, _, _, _] [_] rfl ?_
  refine W0.strLen hx hln (hw _ (mI 2 rfl)) SC hzc Sa (hw _ (mI 89 rfl)) (hw _ (mI 90 rfl)) (hw _ (mI 92 rfl)) (hw _ (mI 91 rfl)) (by decide +kernel) (Wd := 0) (by decide +kernel) (by decide +kernel) (by decide +kernel) rfl (by rw [hml]; rfl) rfl (by show 2 * 0 + _ ≤ _; exact Nat.le_of_eq rfl) (D 1 rfl) (fun T2 W2 => ?_)
  show Go p e below _ (T2.setTop (mkF m 4 #[vr x1, vi x2, vi x3, U0] [(.int 5)]))
  refine W2.pu hx D 4 [(1, true)] 1 58 [_, _, _, _] [.int 5] rfl ⟨trivial, (XT.ii_ne_t (by decide +kernel))⟩ ?_
  refine W2.newP hx (hw _ (mI 13 rfl)) rfl (D 58 rfl) rfl (by decide +kernel) (cap := 5) (by decide +kernel) (by decide +kernel) (by decide +kernel) (by decide +kernel) (fun T3 h3 b3 c3 eb3 gb3 W3 K3 A3 => ?_)
  have V3 : Arv Z h3 b3 c3 .char (5 : Int32) [(.int 0), (.int 0), (.int 0), (.int 0), (.int 0)] (.int 0) := A3
  refine W3.pv hx D 60 5 65 [_, _, _, _] [.int 0, _, .int 0, _] rfl ?_
  have k5 := (Sa.keep0 K3)
  refine W3.strChar hx hch (hw _ (mI 2 rfl)) SC hzc SF rfm k5 (snd255 (allSi cq1 (allSi cq2 (allSi cq3 (allSi cq4 (allSi cq5 all0i)))))) (i := 0) (Nat.le_of_ble_eq_true rfl) rfl (hw _ (mI 102 rfl)) (hw _ (mI 103 rfl)) (hw _ (mI 105 rfl)) (hw _ (mI 104 rfl)) (by decide +kernel) (Wd := 2) (by decide +kernel) (by decide +kernel) (by decide +kernel) rfl (by rw [hml]; rfl) rfl (by show 2 * 0 + _ ≤ _; exact Nat.le_of_eq rfl) (D 65 rfl) (fun T4 W4 => ?_)
  show Go p e below _ (T4.setTop (mkF m 68 #[vr x1, vi x2, vi x3, vr b3] [(.int q1), (.int 0), (.ref b3)]))
  refine W4.stC hx V3 ⟨by decide, by decide⟩ 0 rfl (Nat.le_of_ble_eq_true rfl) gb3.1 (Or.inr gb3.2) rfl rfl (D 68 rfl) (fun T6 h6 W6 K6 A6 => ?_)
  have V6 : Arv Z h6 b3 c3 .char (5 : Int32) [(.int q1), (.int 0), (.int 0), (.int 0), (.int 0)] (.int 0) := (by rw [(nar_char cq1)] at A6; exact A6)
  refine W6.pv hx D 69 4 73 [_, _, _, _] [.int 1, _, .int 1, _] rfl ?_
  have k9 := ((E1.keep K3).keep K6)
  have k10 := ((Fv1.keep K3 nin0).keep K6 (ninS (ne_of_born (Nat.le_of_eq eb3.symm) Sa.exa.lt (Nat.le_refl _)) nin0))
  have k11 := ((Fc1.keep K3 nin0).keep K6 (ninS (ne_of_born (Nat.le_of_eq eb3.symm) Sa.exa.lt (Nat.le_refl _)) nin0))
  have k12 := ((V1.keep K3 nin0).keep K6 (ninS (ne_of_born (Nat.le_of_eq eb3.symm) V1.lt (Nat.le_refl _)) nin0))
  have S8 : Str Z h6 x1 [q1, q2, q3, q4, q5] := ⟨t1, kb1, 0, _, _, k9, k10, k11, k12, StrChars.Road.codOf (cs := [q1, q2, q3, q4, q5]) (n := 5) rfl (allSi cq1.2 (allSi cq2.2 (allSi cq3.2 (allSi cq4.2 (allSi cq5.2 all0i))))), up255 (allSi cq1 (allSi cq2 (allSi cq3 (allSi cq4 (allSi cq5 all0i))))), Nat.le_of_ble_eq_true rfl⟩
  refine W6.strChar hx hch (hw _ (mI 2 rfl)) SC hzc SF rfm S8 (snd255 (allSi cq1 (allSi cq2 (allSi cq3 (allSi cq4 (allSi cq5 all0i)))))) (i := 1) (Nat.le_of_ble_eq_true rfl) rfl (hw _ (mI 102 rfl)) (hw _ (mI 103 rfl)) (hw _ (mI 105 rfl)) (hw _ (mI 104 rfl)) (by decide +kernel) (Wd := 2) (by decide +kernel) (by decide +kernel) (by decide +kernel) rfl (by rw [hml]; rfl) rfl (by show 2 * 0 + _ ≤ _; exact Nat.le_of_eq rfl) (D 73 rfl) (fun T7 W7 => ?_)
  show Go p e below _ (T7.setTop (mkF m 76 #[vr x1, vi x2, vi x3, vr b3] [(.int q2), (.int 1), (.ref b3)]))
  refine W7.stC hx V6 ⟨by decide, by decide⟩ 1 rfl (Nat.le_of_ble_eq_true rfl) gb3.1 (Or.inr gb3.2) rfl rfl (D 76 rfl) (fun T13 h13 W13 K13 A13 => ?_)
  have V13 : Arv Z h13 b3 c3 .char (5 : Int32) [(.int q1), (.int q2), (.int 0), (.int 0), (.int 0)] (.int 0) := (by rw [(nar_char cq2)] at A13; exact A13)
  refine W13.pv hx D 77 4 81 [_, _, _, _] [.int 2, _, .int 2, _] rfl ?_
  have k16 := (k9.keep K13)
  have k17 := (k10.keep K13 (ninS (ne_of_born (Nat.le_of_eq eb3.symm) Sa.exa.lt (Nat.le_refl _)) nin0))
  have k18 := (k11.keep K13 (ninS (ne_of_born (Nat.le_of_eq eb3.symm) Sa.exa.lt (Nat.le_refl _)) nin0))
  have k19 := (k12.keep K13 (ninS (ne_of_born (Nat.le_of_eq eb3.symm) V1.lt (Nat.le_refl _)) nin0))
  have S15 : Str Z h13 x1 [q1, q2, q3, q4, q5] := ⟨t1, kb1, 0, _, _, k16, k17, k18, k19, StrChars.Road.codOf (cs := [q1, q2, q3, q4, q5]) (n := 5) rfl (allSi cq1.2 (allSi cq2.2 (allSi cq3.2 (allSi cq4.2 (allSi cq5.2 all0i))))), up255 (allSi cq1 (allSi cq2 (allSi cq3 (allSi cq4 (allSi cq5 all0i))))), Nat.le_of_ble_eq_true rfl⟩
  refine W13.strChar hx hch (hw _ (mI 2 rfl)) SC hzc SF rfm S15 (snd255 (allSi cq1 (allSi cq2 (allSi cq3 (allSi cq4 (allSi cq5 all0i)))))) (i := 2) (Nat.le_of_ble_eq_true rfl) rfl (hw _ (mI 102 rfl)) (hw _ (mI 103 rfl)) (hw _ (mI 105 rfl)) (hw _ (mI 104 rfl)) (by decide +kernel) (Wd := 2) (by decide +kernel) (by decide +kernel) (by decide +kernel) rfl (by rw [hml]; rfl) rfl (by show 2 * 0 + _ ≤ _; exact Nat.le_of_eq rfl) (D 81 rfl) (fun T14 W14 => ?_)
  show Go p e below _ (T14.setTop (mkF m 84 #[vr x1, vi x2, vi x3, vr b3] [(.int q3), (.int 2), (.ref b3)]))
  refine W14.stC hx V13 ⟨by decide, by decide⟩ 2 rfl (Nat.le_of_ble_eq_true rfl) gb3.1 (Or.inr gb3.2) rfl rfl (D 84 rfl) (fun T20 h20 W20 K20 A20 => ?_)
  have V20 : Arv Z h20 b3 c3 .char (5 : Int32) [(.int q1), (.int q2), (.int q3), (.int 0), (.int 0)] (.int 0) := (by rw [(nar_char cq3)] at A20; exact A20)
  refine W20.pv hx D 85 4 89 [_, _, _, _] [.int 3, _, .int 3, _] rfl ?_
  have k23 := (k16.keep K20)
  have k24 := (k17.keep K20 (ninS (ne_of_born (Nat.le_of_eq eb3.symm) Sa.exa.lt (Nat.le_refl _)) nin0))
  have k25 := (k18.keep K20 (ninS (ne_of_born (Nat.le_of_eq eb3.symm) Sa.exa.lt (Nat.le_refl _)) nin0))
  have k26 := (k19.keep K20 (ninS (ne_of_born (Nat.le_of_eq eb3.symm) V1.lt (Nat.le_refl _)) nin0))
  have S22 : Str Z h20 x1 [q1, q2, q3, q4, q5] := ⟨t1, kb1, 0, _, _, k23, k24, k25, k26, StrChars.Road.codOf (cs := [q1, q2, q3, q4, q5]) (n := 5) rfl (allSi cq1.2 (allSi cq2.2 (allSi cq3.2 (allSi cq4.2 (allSi cq5.2 all0i))))), up255 (allSi cq1 (allSi cq2 (allSi cq3 (allSi cq4 (allSi cq5 all0i))))), Nat.le_of_ble_eq_true rfl⟩
  refine W20.strChar hx hch (hw _ (mI 2 rfl)) SC hzc SF rfm S22 (snd255 (allSi cq1 (allSi cq2 (allSi cq3 (allSi cq4 (allSi cq5 all0i)))))) (i := 3) (Nat.le_of_ble_eq_true rfl) rfl (hw _ (mI 102 rfl)) (hw _ (mI 103 rfl)) (hw _ (mI 105 rfl)) (hw _ (mI 104 rfl)) (by decide +kernel) (Wd := 2) (by decide +kernel) (by decide +kernel) (by decide +kernel) rfl (by rw [hml]; rfl) rfl (by show 2 * 0 + _ ≤ _; exact Nat.le_of_eq rfl) (D 89 rfl) (fun T21 W21 => ?_)
  show Go p e below _ (T21.setTop (mkF m 92 #[vr x1, vi x2, vi x3, vr b3] [(.int q4), (.int 3), (.ref b3)]))
  refine W21.stC hx V20 ⟨by decide, by decide⟩ 3 rfl (Nat.le_of_ble_eq_true rfl) gb3.1 (Or.inr gb3.2) rfl rfl (D 92 rfl) (fun T27 h27 W27 K27 A27 => ?_)
  have V27 : Arv Z h27 b3 c3 .char (5 : Int32) [(.int q1), (.int q2), (.int q3), (.int q4), (.int 0)] (.int 0) := (by rw [(nar_char cq4)] at A27; exact A27)
  refine W27.pv hx D 93 4 97 [_, _, _, _] [.int 4, _, .int 4, _] rfl ?_
  have k30 := (k23.keep K27)
  have k31 := (k24.keep K27 (ninS (ne_of_born (Nat.le_of_eq eb3.symm) Sa.exa.lt (Nat.le_refl _)) nin0))
  have k32 := (k25.keep K27 (ninS (ne_of_born (Nat.le_of_eq eb3.symm) Sa.exa.lt (Nat.le_refl _)) nin0))
  have k33 := (k26.keep K27 (ninS (ne_of_born (Nat.le_of_eq eb3.symm) V1.lt (Nat.le_refl _)) nin0))
  have S29 : Str Z h27 x1 [q1, q2, q3, q4, q5] := ⟨t1, kb1, 0, _, _, k30, k31, k32, k33, StrChars.Road.codOf (cs := [q1, q2, q3, q4, q5]) (n := 5) rfl (allSi cq1.2 (allSi cq2.2 (allSi cq3.2 (allSi cq4.2 (allSi cq5.2 all0i))))), up255 (allSi cq1 (allSi cq2 (allSi cq3 (allSi cq4 (allSi cq5 all0i))))), Nat.le_of_ble_eq_true rfl⟩
  refine W27.strChar hx hch (hw _ (mI 2 rfl)) SC hzc SF rfm S29 (snd255 (allSi cq1 (allSi cq2 (allSi cq3 (allSi cq4 (allSi cq5 all0i)))))) (i := 4) (Nat.le_of_ble_eq_true rfl) rfl (hw _ (mI 102 rfl)) (hw _ (mI 103 rfl)) (hw _ (mI 105 rfl)) (hw _ (mI 104 rfl)) (by decide +kernel) (Wd := 2) (by decide +kernel) (by decide +kernel) (by decide +kernel) rfl (by rw [hml]; rfl) rfl (by show 2 * 0 + _ ≤ _; exact Nat.le_of_eq rfl) (D 97 rfl) (fun T28 W28 => ?_)
  show Go p e below _ (T28.setTop (mkF m 100 #[vr x1, vi x2, vi x3, vr b3] [(.int q5), (.int 4), (.ref b3)]))
  refine W28.stC hx V27 ⟨by decide, by decide⟩ 4 rfl (Nat.le_of_ble_eq_true rfl) gb3.1 (Or.inr gb3.2) rfl rfl (D 100 rfl) (fun T34 h34 W34 K34 A34 => ?_)
  have V34 : Arv Z h34 b3 c3 .char (5 : Int32) [(.int q1), (.int q2), (.int q3), (.int q4), (.int q5)] (.int 0) := (by rw [(nar_char cq5)] at A34; exact A34)
  refine W34.pv hx D 101 3 104 [_, _, _, _] [_, _, _] rfl ?_
  rcases hp with rfl | rfl | rfl | rfl | rfl
  · show Go p e below _ (T34.setTop (mkF m 104 #[vr x1, vi 0, vi x3, vr b3] [(.int x3), (.int 0), (.ref b3)]))
    by_cases hw35 : (255 : Int32) < x3
    · show Go p e below _ (T34.setTop (mkF m 104 #[vr x1, vi 0, vi x3, vr b3] [(.int x3), (.int 0), (.ref b3)]))
      refine W34.stC hx V34 ⟨by decide, by decide⟩ 0 rfl (Nat.le_of_ble_eq_true rfl) gb3.1 (Or.inr gb3.2) rfl rfl (D 104 rfl) (fun T36 h36 W36 K36 A36 => ?_)
      have V36 : Arv Z h36 b3 c3 .char (5 : Int32) [(.int x3), (.int q2), (.int q3), (.int q4), (.int q5)] (.int 0) := (by rw [(nar_wide cx)] at A36; exact A36)
      show Go p e below _ (T36.setTop (mkF m 105 #[vr x1, vi 0, vi x3, vr b3] []))
      refine W36.newO hx (hw _ (mI 15 rfl)) (hw _ (mI 2 rfl)) (hw _ (mI 1 rfl)) rfl (D 105 rfl) (by decide +kernel) (by decide +kernel) (fun T37 h37 b37 eb37 gb37 W37 K37 E37 D37 => ?_)
      have k38 : Fld Z h37 b37 "java/lang/String" "value" "[B" .null := D37 (Or.inr (hw _ (mI 4 rfl))) (ty := (.array .byte)) (by decide +kernel)
      have k39 : Fld Z h37 b37 "java/lang/String" "coder" "B" (.int 0) := D37 (Or.inr (hw _ (mI 5 rfl))) (ty := .byte) (by decide +kernel)
      refine W37.pv hx D 108 2 110 [_, _, _, _] [_, _, _] rfl ?_
      have k41 := (V36.keep K37 nin0)
      refine W37.callP hx hEL rfl (hw _ (mI 16 rfl)) (hw _ (mI 17 rfl)) (hw _ (mI 1 rfl)) (hw _ (mI 18 rfl)) (by decide +kernel) (a := b37) (argsL := [(.ref b3)]) (rest := [(.ref b37)]) (rm314 B b37 b3 c3 x3 q2 q3 q4 q5 h37 W37.old SA1 SH0 SL8 k41 cx (up1 cq2) (up1 cq3) (up1 cq4) (up1 cq5) hw35 E37 k38 k39 gb37.1) (allS (mI 0 rfl) all0) (by decide +kernel) (Wd := 1) (by decide +kernel) (by decide +kernel) (by decide +kernel) (allS ⟨gb37.1, (Or.inr gb37.2)⟩ all0) rfl (by rw [hml]; rfl) (lenOf pd11 rfl) rfl (by show 2 * 0 + _ ≤ _; exact Nat.le_of_eq rfl) (D 110 rfl) (fun T40 h40 v40 P40 Ws40 K40 q40 => ?_)
      have W40 := Ws40 [] all0
      obtain ⟨rfl, S40⟩ := q40
      show Go p e below _ (T40.setTop (mkF m 113 #[vr x1, vi 0, vi x3, vr b3] [(.ref b37)]))
      exact W40.retA hx hEL hs hlk (by decide +kernel) (by decide +kernel) hret rfl rfl (D 113 rfl) (fun S hS => ⟨b37, _, rfl, hs ▸ gb37.2, S40⟩)
    · show Go p e below _ (T34.setTop (mkF m 104 #[vr x1, vi 0, vi x3, vr b3] [(.int x3), (.int 0), (.ref b3)]))
      refine W34.stC hx V34 ⟨by decide, by decide⟩ 0 rfl (Nat.le_of_ble_eq_true rfl) gb3.1 (Or.inr gb3.2) rfl rfl (D 104 rfl) (fun T42 h42 W42 K42 A42 => ?_)
      have V42 : Arv Z h42 b3 c3 .char (5 : Int32) [(.int x3), (.int q2), (.int q3), (.int q4), (.int q5)] (.int 0) := (by rw [(nar_char ⟨cx.1, hw35⟩)] at A42; exact A42)
      show Go p e below _ (T42.setTop (mkF m 105 #[vr x1, vi 0, vi x3, vr b3] []))
      refine W42.newO hx (hw _ (mI 15 rfl)) (hw _ (mI 2 rfl)) (hw _ (mI 1 rfl)) rfl (D 105 rfl) (by decide +kernel) (by decide +kernel) (fun T43 h43 b43 eb43 gb43 W43 K43 E43 D43 => ?_)
      have k44 : Fld Z h43 b43 "java/lang/String" "value" "[B" .null := D43 (Or.inr (hw _ (mI 4 rfl))) (ty := (.array .byte)) (by decide +kernel)
      have k45 : Fld Z h43 b43 "java/lang/String" "coder" "B" (.int 0) := D43 (Or.inr (hw _ (mI 5 rfl))) (ty := .byte) (by decide +kernel)
      refine W43.pv hx D 108 2 110 [_, _, _, _] [_, _, _] rfl ?_
      have k47 := (V42.keep K43 nin0)
      refine W43.newStr hx hws (hw _ (mI 2 rfl)) SC hzc (hw _ (mI 16 rfl)) (hw _ (mI 17 rfl)) (hw _ (mI 18 rfl)) E43 k44 k45 (cs := [x3, q2, q3, q4, q5]) (n := 5) k47 rfl rfl (by decide +kernel) (by decide +kernel) (allSi ⟨cx.1, hw35⟩ (allSi cq2 (allSi cq3 (allSi cq4 (allSi cq5 all0i))))) gb43.1 (Or.inr gb43.2) (mI 0 rfl) (by decide +kernel) (Wd := 1) (by decide +kernel) (by decide +kernel) (by decide +kernel) rfl (by rw [hml]; rfl) rfl (by show 2 * 0 + _ ≤ _; exact Nat.le_of_eq rfl) (D 110 rfl) (fun T46 h46 W46 K46 S46 => ?_)
      show Go p e below _ (T46.setTop (mkF m 113 #[vr x1, vi 0, vi x3, vr b3] [(.ref b43)]))
      exact W46.retA hx hEL hs hlk (by decide +kernel) (by decide +kernel) hret rfl rfl (D 113 rfl) (fun S hS => ⟨b43, _, rfl, hs ▸ gb43.2, S46⟩)
  · show Go p e below _ (T34.setTop (mkF m 104 #[vr x1, vi 1, vi x3, vr b3] [(.int x3), (.int 1), (.ref b3)]))
    by_cases hw48 : (255 : Int32) < x3
    · show Go p e below _ (T34.setTop (mkF m 104 #[vr x1, vi 1, vi x3, vr b3] [(.int x3), (.int 1), (.ref b3)]))
      refine W34.stC hx V34 ⟨by decide, by decide⟩ 1 rfl (Nat.le_of_ble_eq_true rfl) gb3.1 (Or.inr gb3.2) rfl rfl (D 104 rfl) (fun T49 h49 W49 K49 A49 => ?_)
      have V49 : Arv Z h49 b3 c3 .char (5 : Int32) [(.int q1), (.int x3), (.int q3), (.int q4), (.int q5)] (.int 0) := (by rw [(nar_wide cx)] at A49; exact A49)
      show Go p e below _ (T49.setTop (mkF m 105 #[vr x1, vi 1, vi x3, vr b3] []))
      refine W49.newO hx (hw _ (mI 15 rfl)) (hw _ (mI 2 rfl)) (hw _ (mI 1 rfl)) rfl (D 105 rfl) (by decide +kernel) (by decide +kernel) (fun T50 h50 b50 eb50 gb50 W50 K50 E50 D50 => ?_)
      have k51 : Fld Z h50 b50 "java/lang/String" "value" "[B" .null := D50 (Or.inr (hw _ (mI 4 rfl))) (ty := (.array .byte)) (by decide +kernel)
      have k52 : Fld Z h50 b50 "java/lang/String" "coder" "B" (.int 0) := D50 (Or.inr (hw _ (mI 5 rfl))) (ty := .byte) (by decide +kernel)
      refine W50.pv hx D 108 2 110 [_, _, _, _] [_, _, _] rfl ?_
      have k54 := (V49.keep K50 nin0)
      refine W50.callP hx hEL rfl (hw _ (mI 16 rfl)) (hw _ (mI 17 rfl)) (hw _ (mI 1 rfl)) (hw _ (mI 18 rfl)) (by decide +kernel) (a := b50) (argsL := [(.ref b3)]) (rest := [(.ref b50)]) (rm324 B b50 b3 c3 q1 x3 q3 q4 q5 h50 W50.old SA1 SH0 SL8 k54 (up1 cq1) cx (up1 cq3) (up1 cq4) (up1 cq5) cq1.2 hw48 E50 k51 k52 gb50.1) (allS (mI 0 rfl) all0) (by decide +kernel) (Wd := 1) (by decide +kernel) (by decide +kernel) (by decide +kernel) (allS ⟨gb50.1, (Or.inr gb50.2)⟩ all0) rfl (by rw [hml]; rfl) (lenOf pd11 rfl) rfl (by show 2 * 0 + _ ≤ _; exact Nat.le_of_eq rfl) (D 110 rfl) (fun T53 h53 v53 P53 Ws53 K53 q53 => ?_)
      have W53 := Ws53 [] all0
      obtain ⟨rfl, S53⟩ := q53
      show Go p e below _ (T53.setTop (mkF m 113 #[vr x1, vi 1, vi x3, vr b3] [(.ref b50)]))
      exact W53.retA hx hEL hs hlk (by decide +kernel) (by decide +kernel) hret rfl rfl (D 113 rfl) (fun S hS => ⟨b50, _, rfl, hs ▸ gb50.2, S53⟩)
    · show Go p e below _ (T34.setTop (mkF m 104 #[vr x1, vi 1, vi x3, vr b3] [(.int x3), (.int 1), (.ref b3)]))
      refine W34.stC hx V34 ⟨by decide, by decide⟩ 1 rfl (Nat.le_of_ble_eq_true rfl) gb3.1 (Or.inr gb3.2) rfl rfl (D 104 rfl) (fun T55 h55 W55 K55 A55 => ?_)
      have V55 : Arv Z h55 b3 c3 .char (5 : Int32) [(.int q1), (.int x3), (.int q3), (.int q4), (.int q5)] (.int 0) := (by rw [(nar_char ⟨cx.1, hw48⟩)] at A55; exact A55)
      show Go p e below _ (T55.setTop (mkF m 105 #[vr x1, vi 1, vi x3, vr b3] []))
      refine W55.newO hx (hw _ (mI 15 rfl)) (hw _ (mI 2 rfl)) (hw _ (mI 1 rfl)) rfl (D 105 rfl) (by decide +kernel) (by decide +kernel) (fun T56 h56 b56 eb56 gb56 W56 K56 E56 D56 => ?_)
      have k57 : Fld Z h56 b56 "java/lang/String" "value" "[B" .null := D56 (Or.inr (hw _ (mI 4 rfl))) (ty := (.array .byte)) (by decide +kernel)
      have k58 : Fld Z h56 b56 "java/lang/String" "coder" "B" (.int 0) := D56 (Or.inr (hw _ (mI 5 rfl))) (ty := .byte) (by decide +kernel)
      refine W56.pv hx D 108 2 110 [_, _, _, _] [_, _, _] rfl ?_
      have k60 := (V55.keep K56 nin0)
      refine W56.newStr hx hws (hw _ (mI 2 rfl)) SC hzc (hw _ (mI 16 rfl)) (hw _ (mI 17 rfl)) (hw _ (mI 18 rfl)) E56 k57 k58 (cs := [q1, x3, q3, q4, q5]) (n := 5) k60 rfl rfl (by decide +kernel) (by decide +kernel) (allSi cq1 (allSi ⟨cx.1, hw48⟩ (allSi cq3 (allSi cq4 (allSi cq5 all0i))))) gb56.1 (Or.inr gb56.2) (mI 0 rfl) (by decide +kernel) (Wd := 1) (by decide +kernel) (by decide +kernel) (by decide +kernel) rfl (by rw [hml]; rfl) rfl (by show 2 * 0 + _ ≤ _; exact Nat.le_of_eq rfl) (D 110 rfl) (fun T59 h59 W59 K59 S59 => ?_)
      show Go p e below _ (T59.setTop (mkF m 113 #[vr x1, vi 1, vi x3, vr b3] [(.ref b56)]))
      exact W59.retA hx hEL hs hlk (by decide +kernel) (by decide +kernel) hret rfl rfl (D 113 rfl) (fun S hS => ⟨b56, _, rfl, hs ▸ gb56.2, S59⟩)
  · show Go p e below _ (T34.setTop (mkF m 104 #[vr x1, vi 2, vi x3, vr b3] [(.int x3), (.int 2), (.ref b3)]))
    by_cases hw61 : (255 : Int32) < x3
    · show Go p e below _ (T34.setTop (mkF m 104 #[vr x1, vi 2, vi x3, vr b3] [(.int x3), (.int 2), (.ref b3)]))
      refine W34.stC hx V34 ⟨by decide, by decide⟩ 2 rfl (Nat.le_of_ble_eq_true rfl) gb3.1 (Or.inr gb3.2) rfl rfl (D 104 rfl) (fun T62 h62 W62 K62 A62 => ?_)
      have V62 : Arv Z h62 b3 c3 .char (5 : Int32) [(.int q1), (.int q2), (.int x3), (.int q4), (.int q5)] (.int 0) := (by rw [(nar_wide cx)] at A62; exact A62)
      show Go p e below _ (T62.setTop (mkF m 105 #[vr x1, vi 2, vi x3, vr b3] []))
      refine W62.newO hx (hw _ (mI 15 rfl)) (hw _ (mI 2 rfl)) (hw _ (mI 1 rfl)) rfl (D 105 rfl) (by decide +kernel) (by decide +kernel) (fun T63 h63 b63 eb63 gb63 W63 K63 E63 D63 => ?_)
      have k64 : Fld Z h63 b63 "java/lang/String" "value" "[B" .null := D63 (Or.inr (hw _ (mI 4 rfl))) (ty := (.array .byte)) (by decide +kernel)
      have k65 : Fld Z h63 b63 "java/lang/String" "coder" "B" (.int 0) := D63 (Or.inr (hw _ (mI 5 rfl))) (ty := .byte) (by decide +kernel)
      refine W63.pv hx D 108 2 110 [_, _, _, _] [_, _, _] rfl ?_
      have k67 := (V62.keep K63 nin0)
      refine W63.callP hx hEL rfl (hw _ (mI 16 rfl)) (hw _ (mI 17 rfl)) (hw _ (mI 1 rfl)) (hw _ (mI 18 rfl)) (by decide +kernel) (a := b63) (argsL := [(.ref b3)]) (rest := [(.ref b63)]) (rm334 B b63 b3 c3 q1 q2 x3 q4 q5 h63 W63.old SA1 SH0 SL8 k67 (up1 cq1) (up1 cq2) cx (up1 cq4) (up1 cq5) cq1.2 cq2.2 hw61 E63 k64 k65 gb63.1) (allS (mI 0 rfl) all0) (by decide +kernel) (Wd := 1) (by decide +kernel) (by decide +kernel) (by decide +kernel) (allS ⟨gb63.1, (Or.inr gb63.2)⟩ all0) rfl (by rw [hml]; rfl) (lenOf pd11 rfl) rfl (by show 2 * 0 + _ ≤ _; exact Nat.le_of_eq rfl) (D 110 rfl) (fun T66 h66 v66 P66 Ws66 K66 q66 => ?_)
      have W66 := Ws66 [] all0
      obtain ⟨rfl, S66⟩ := q66
      show Go p e below _ (T66.setTop (mkF m 113 #[vr x1, vi 2, vi x3, vr b3] [(.ref b63)]))
      exact W66.retA hx hEL hs hlk (by decide +kernel) (by decide +kernel) hret rfl rfl (D 113 rfl) (fun S hS => ⟨b63, _, rfl, hs ▸ gb63.2, S66⟩)
    · show Go p e below _ (T34.setTop (mkF m 104 #[vr x1, vi 2, vi x3, vr b3] [(.int x3), (.int 2), (.ref b3)]))
      refine W34.stC hx V34 ⟨by decide, by decide⟩ 2 rfl (Nat.le_of_ble_eq_true rfl) gb3.1 (Or.inr gb3.2) rfl rfl (D 104 rfl) (fun T68 h68 W68 K68 A68 => ?_)
      have V68 : Arv Z h68 b3 c3 .char (5 : Int32) [(.int q1), (.int q2), (.int x3), (.int q4), (.int q5)] (.int 0) := (by rw [(nar_char ⟨cx.1, hw61⟩)] at A68; exact A68)
      show Go p e below _ (T68.setTop (mkF m 105 #[vr x1, vi 2, vi x3, vr b3] []))
      refine W68.newO hx (hw _ (mI 15 rfl)) (hw _ (mI 2 rfl)) (hw _ (mI 1 rfl)) rfl (D 105 rfl) (by decide +kernel) (by decide +kernel) (fun T69 h69 b69 eb69 gb69 W69 K69 E69 D69 => ?_)
      have k70 : Fld Z h69 b69 "java/lang/String" "value" "[B" .null := D69 (Or.inr (hw _ (mI 4 rfl))) (ty := (.array .byte)) (by decide +kernel)
      have k71 : Fld Z h69 b69 "java/lang/String" "coder" "B" (.int 0) := D69 (Or.inr (hw _ (mI 5 rfl))) (ty := .byte) (by decide +kernel)
      refine W69.pv hx D 108 2 110 [_, _, _, _] [_, _, _] rfl ?_
      have k73 := (V68.keep K69 nin0)
      refine W69.newStr hx hws (hw _ (mI 2 rfl)) SC hzc (hw _ (mI 16 rfl)) (hw _ (mI 17 rfl)) (hw _ (mI 18 rfl)) E69 k70 k71 (cs := [q1, q2, x3, q4, q5]) (n := 5) k73 rfl rfl (by decide +kernel) (by decide +kernel) (allSi cq1 (allSi cq2 (allSi ⟨cx.1, hw61⟩ (allSi cq4 (allSi cq5 all0i))))) gb69.1 (Or.inr gb69.2) (mI 0 rfl) (by decide +kernel) (Wd := 1) (by decide +kernel) (by decide +kernel) (by decide +kernel) rfl (by rw [hml]; rfl) rfl (by show 2 * 0 + _ ≤ _; exact Nat.le_of_eq rfl) (D 110 rfl) (fun T72 h72 W72 K72 S72 => ?_)
      show Go p e below _ (T72.setTop (mkF m 113 #[vr x1, vi 2, vi x3, vr b3] [(.ref b69)]))
      exact W72.retA hx hEL hs hlk (by decide +kernel) (by decide +kernel) hret rfl rfl (D 113 rfl) (fun S hS => ⟨b69, _, rfl, hs ▸ gb69.2, S72⟩)
  · show Go p e below _ (T34.setTop (mkF m 104 #[vr x1, vi 3, vi x3, vr b3] [(.int x3), (.int 3), (.ref b3)]))
    by_cases hw74 : (255 : Int32) < x3
    · show Go p e below _ (T34.setTop (mkF m 104 #[vr x1, vi 3, vi x3, vr b3] [(.int x3), (.int 3), (.ref b3)]))
      refine W34.stC hx V34 ⟨by decide, by decide⟩ 3 rfl (Nat.le_of_ble_eq_true rfl) gb3.1 (Or.inr gb3.2) rfl rfl (D 104 rfl) (fun T75 h75 W75 K75 A75 => ?_)
      have V75 : Arv Z h75 b3 c3 .char (5 : Int32) [(.int q1), (.int q2), (.int q3), (.int x3), (.int q5)] (.int 0) := (by rw [(nar_wide cx)] at A75; exact A75)
      show Go p e below _ (T75.setTop (mkF m 105 #[vr x1, vi 3, vi x3, vr b3] []))
      refine W75.newO hx (hw _ (mI 15 rfl)) (hw _ (mI 2 rfl)) (hw _ (mI 1 rfl)) rfl (D 105 rfl) (by decide +kernel) (by decide +kernel) (fun T76 h76 b76 eb76 gb76 W76 K76 E76 D76 => ?_)
      have k77 : Fld Z h76 b76 "java/lang/String" "value" "[B" .null := D76 (Or.inr (hw _ (mI 4 rfl))) (ty := (.array .byte)) (by decide +kernel)
      have k78 : Fld Z h76 b76 "java/lang/String" "coder" "B" (.int 0) := D76 (Or.inr (hw _ (mI 5 rfl))) (ty := .byte) (by decide +kernel)
      refine W76.pv hx D 108 2 110 [_, _, _, _] [_, _, _] rfl ?_
      have k80 := (V75.keep K76 nin0)
      refine W76.callP hx hEL rfl (hw _ (mI 16 rfl)) (hw _ (mI 17 rfl)) (hw _ (mI 1 rfl)) (hw _ (mI 18 rfl)) (by decide +kernel) (a := b76) (argsL := [(.ref b3)]) (rest := [(.ref b76)]) (rm344 B b76 b3 c3 q1 q2 q3 x3 q5 h76 W76.old SA1 SH0 SL8 k80 (up1 cq1) (up1 cq2) (up1 cq3) cx (up1 cq5) cq1.2 cq2.2 cq3.2 hw74 E76 k77 k78 gb76.1) (allS (mI 0 rfl) all0) (by decide +kernel) (Wd := 1) (by decide +kernel) (by decide +kernel) (by decide +kernel) (allS ⟨gb76.1, (Or.inr gb76.2)⟩ all0) rfl (by rw [hml]; rfl) (lenOf pd11 rfl) rfl (by show 2 * 0 + _ ≤ _; exact Nat.le_of_eq rfl) (D 110 rfl) (fun T79 h79 v79 P79 Ws79 K79 q79 => ?_)
      have W79 := Ws79 [] all0
      obtain ⟨rfl, S79⟩ := q79
      show Go p e below _ (T79.setTop (mkF m 113 #[vr x1, vi 3, vi x3, vr b3] [(.ref b76)]))
      exact W79.retA hx hEL hs hlk (by decide +kernel) (by decide +kernel) hret rfl rfl (D 113 rfl) (fun S hS => ⟨b76, _, rfl, hs ▸ gb76.2, S79⟩)
    · show Go p e below _ (T34.setTop (mkF m 104 #[vr x1, vi 3, vi x3, vr b3] [(.int x3), (.int 3), (.ref b3)]))
      refine W34.stC hx V34 ⟨by decide, by decide⟩ 3 rfl (Nat.le_of_ble_eq_true rfl) gb3.1 (Or.inr gb3.2) rfl rfl (D 104 rfl) (fun T81 h81 W81 K81 A81 => ?_)
      have V81 : Arv Z h81 b3 c3 .char (5 : Int32) [(.int q1), (.int q2), (.int q3), (.int x3), (.int q5)] (.int 0) := (by rw [(nar_char ⟨cx.1, hw74⟩)] at A81; exact A81)
      show Go p e below _ (T81.setTop (mkF m 105 #[vr x1, vi 3, vi x3, vr b3] []))
      refine W81.newO hx (hw _ (mI 15 rfl)) (hw _ (mI 2 rfl)) (hw _ (mI 1 rfl)) rfl (D 105 rfl) (by decide +kernel) (by decide +kernel) (fun T82 h82 b82 eb82 gb82 W82 K82 E82 D82 => ?_)
      have k83 : Fld Z h82 b82 "java/lang/String" "value" "[B" .null := D82 (Or.inr (hw _ (mI 4 rfl))) (ty := (.array .byte)) (by decide +kernel)
      have k84 : Fld Z h82 b82 "java/lang/String" "coder" "B" (.int 0) := D82 (Or.inr (hw _ (mI 5 rfl))) (ty := .byte) (by decide +kernel)
      refine W82.pv hx D 108 2 110 [_, _, _, _] [_, _, _] rfl ?_
      have k86 := (V81.keep K82 nin0)
      refine W82.newStr hx hws (hw _ (mI 2 rfl)) SC hzc (hw _ (mI 16 rfl)) (hw _ (mI 17 rfl)) (hw _ (mI 18 rfl)) E82 k83 k84 (cs := [q1, q2, q3, x3, q5]) (n := 5) k86 rfl rfl (by decide +kernel) (by decide +kernel) (allSi cq1 (allSi cq2 (allSi cq3 (allSi ⟨cx.1, hw74⟩ (allSi cq5 all0i))))) gb82.1 (Or.inr gb82.2) (mI 0 rfl) (by decide +kernel) (Wd := 1) (by decide +kernel) (by decide +kernel) (by decide +kernel) rfl (by rw [hml]; rfl) rfl (by show 2 * 0 + _ ≤ _; exact Nat.le_of_eq rfl) (D 110 rfl) (fun T85 h85 W85 K85 S85 => ?_)
      show Go p e below _ (T85.setTop (mkF m 113 #[vr x1, vi 3, vi x3, vr b3] [(.ref b82)]))
      exact W85.retA hx hEL hs hlk (by decide +kernel) (by decide +kernel) hret rfl rfl (D 113 rfl) (fun S hS => ⟨b82, _, rfl, hs ▸ gb82.2, S85⟩)
  · show Go p e below _ (T34.setTop (mkF m 104 #[vr x1, vi 4, vi x3, vr b3] [(.int x3), (.int 4), (.ref b3)]))
    by_cases hw87 : (255 : Int32) < x3
    · show Go p e below _ (T34.setTop (mkF m 104 #[vr x1, vi 4, vi x3, vr b3] [(.int x3), (.int 4), (.ref b3)]))
      refine W34.stC hx V34 ⟨by decide, by decide⟩ 4 rfl (Nat.le_of_ble_eq_true rfl) gb3.1 (Or.inr gb3.2) rfl rfl (D 104 rfl) (fun T88 h88 W88 K88 A88 => ?_)
      have V88 : Arv Z h88 b3 c3 .char (5 : Int32) [(.int q1), (.int q2), (.int q3), (.int q4), (.int x3)] (.int 0) := (by rw [(nar_wide cx)] at A88; exact A88)
      show Go p e below _ (T88.setTop (mkF m 105 #[vr x1, vi 4, vi x3, vr b3] []))
      refine W88.newO hx (hw _ (mI 15 rfl)) (hw _ (mI 2 rfl)) (hw _ (mI 1 rfl)) rfl (D 105 rfl) (by decide +kernel) (by decide +kernel) (fun T89 h89 b89 eb89 gb89 W89 K89 E89 D89 => ?_)
      have k90 : Fld Z h89 b89 "java/lang/String" "value" "[B" .null := D89 (Or.inr (hw _ (mI 4 rfl))) (ty := (.array .byte)) (by decide +kernel)
      have k91 : Fld Z h89 b89 "java/lang/String" "coder" "B" (.int 0) := D89 (Or.inr (hw _ (mI 5 rfl))) (ty := .byte) (by decide +kernel)
      refine W89.pv hx D 108 2 110 [_, _, _, _] [_, _, _] rfl ?_
      have k93 := (V88.keep K89 nin0)
      refine W89.callP hx hEL rfl (hw _ (mI 16 rfl)) (hw _ (mI 17 rfl)) (hw _ (mI 1 rfl)) (hw _ (mI 18 rfl)) (by decide +kernel) (a := b89) (argsL := [(.ref b3)]) (rest := [(.ref b89)]) (rm354 B b89 b3 c3 q1 q2 q3 q4 x3 h89 W89.old SA1 SH0 SL8 k93 (up1 cq1) (up1 cq2) (up1 cq3) (up1 cq4) cx cq1.2 cq2.2 cq3.2 cq4.2 hw87 E89 k90 k91 gb89.1) (allS (mI 0 rfl) all0) (by decide +kernel) (Wd := 1) (by decide +kernel) (by decide +kernel) (by decide +kernel) (allS ⟨gb89.1, (Or.inr gb89.2)⟩ all0) rfl (by rw [hml]; rfl) (lenOf pd11 rfl) rfl (by show 2 * 0 + _ ≤ _; exact Nat.le_of_eq rfl) (D 110 rfl) (fun T92 h92 v92 P92 Ws92 K92 q92 => ?_)
      have W92 := Ws92 [] all0
      obtain ⟨rfl, S92⟩ := q92
      show Go p e below _ (T92.setTop (mkF m 113 #[vr x1, vi 4, vi x3, vr b3] [(.ref b89)]))
      exact W92.retA hx hEL hs hlk (by decide +kernel) (by decide +kernel) hret rfl rfl (D 113 rfl) (fun S hS => ⟨b89, _, rfl, hs ▸ gb89.2, S92⟩)
    · show Go p e below _ (T34.setTop (mkF m 104 #[vr x1, vi 4, vi x3, vr b3] [(.int x3), (.int 4), (.ref b3)]))
      refine W34.stC hx V34 ⟨by decide, by decide⟩ 4 rfl (Nat.le_of_ble_eq_true rfl) gb3.1 (Or.inr gb3.2) rfl rfl (D 104 rfl) (fun T94 h94 W94 K94 A94 => ?_)
      have V94 : Arv Z h94 b3 c3 .char (5 : Int32) [(.int q1), (.int q2), (.int q3), (.int q4), (.int x3)] (.int 0) := (by rw [(nar_char ⟨cx.1, hw87⟩)] at A94; exact A94)
      show Go p e below _ (T94.setTop (mkF m 105 #[vr x1, vi 4, vi x3, vr b3] []))
      refine W94.newO hx (hw _ (mI 15 rfl)) (hw _ (mI 2 rfl)) (hw _ (mI 1 rfl)) rfl (D 105 rfl) (by decide +kernel) (by decide +kernel) (fun T95 h95 b95 eb95 gb95 W95 K95 E95 D95 => ?_)
      have k96 : Fld Z h95 b95 "java/lang/String" "value" "[B" .null := D95 (Or.inr (hw _ (mI 4 rfl))) (ty := (.array .byte)) (by decide +kernel)
      have k97 : Fld Z h95 b95 "java/lang/String" "coder" "B" (.int 0) := D95 (Or.inr (hw _ (mI 5 rfl))) (ty := .byte) (by decide +kernel)
      refine W95.pv hx D 108 2 110 [_, _, _, _] [_, _, _] rfl ?_
      have k99 := (V94.keep K95 nin0)
      refine W95.newStr hx hws (hw _ (mI 2 rfl)) SC hzc (hw _ (mI 16 rfl)) (hw _ (mI 17 rfl)) (hw _ (mI 18 rfl)) E95 k96 k97 (cs := [q1, q2, q3, q4, x3]) (n := 5) k99 rfl rfl (by decide +kernel) (by decide +kernel) (allSi cq1 (allSi cq2 (allSi cq3 (allSi cq4 (allSi ⟨cx.1, hw87⟩ all0i))))) gb95.1 (Or.inr gb95.2) (mI 0 rfl) (by decide +kernel) (Wd := 1) (by decide +kernel) (by decide +kernel) (by decide +kernel) rfl (by rw [hml]; rfl) rfl (by show 2 * 0 + _ ≤ _; exact Nat.le_of_eq rfl) (D 110 rfl) (fun T98 h98 W98 K98 S98 => ?_)
      show Go p e below _ (T98.setTop (mkF m 113 #[vr x1, vi 4, vi x3, vr b3] [(.ref b95)]))
      exact W98.retA hx hEL hs hlk (by decide +kernel) (by decide +kernel) hret rfl rfl (D 113 rfl) (fun S hS => ⟨b95, _, rfl, hs ▸ gb95.2, S98⟩)
set_option maxRecDepth 65536 in
set_option maxHeartbeats 40000000 in
theorem rm615 (B : EV l Z a0 zc fm) (x1 : Addr) (q1 q2 q3 q4 q5 x3 : Int32) (h0 : Heap) {n0 : Nat} (O0 : Old Z n0 h0) (SA1 : sq0 Z) (SH0 : sq1 Z) (SL8 : sq2 Z) (Sa : Str Z h0 x1 [q1, q2, q3, q4, q5]) (cq1 : ¬ q1 < 0 ∧ ¬ (255 : Int32) < q1) (cq2 : ¬ q2 < 0 ∧ ¬ (255 : Int32) < q2) (cq3 : ¬ q3 < 0 ∧ ¬ (255 : Int32) < q3) (cq4 : ¬ q4 < 0 ∧ ¬ (255 : Int32) < q4) (cq5 : ¬ q5 < 0 ∧ ¬ (255 : Int32) < q5) (cx : ¬ x3 < 0 ∧ ¬ (65535 : Int32) < x3) :
    Met l Z EL0 n0 (⟨"com/example/grantwork/grantwork/store/EffectOfPinLaw", "appended", "(Ljava/lang/String;C)Ljava/lang/String;"⟩ : MethodName) method_5_code 3 (some (.object "java/lang/String")) [] (rO 6 4 28 88) #[(.ref x1), (.int x3)] h0 [] [] (fun v h' S => ∃ (r : Addr) (cs : List Int32), v = some (.ref r) ∧ h0.size ≤ r ∧ Str Z h' r cs) := by
  obtain ⟨hw, hEL, SC, hzc, SF, rfm⟩ := id B
  refine Met.of (plainFor_of_name pn3) O0 ?_
  intro p e s m below meth c T0 hx hby hml hret hlk hnm hs W0
  have W0 : Wk p l e _ s m _ below meth c Z EL0 n0 [] "com/example/grantwork/grantwork/store/EffectOfPinLaw" [] T0 0 0 h0 := W0
  have D := @tk c _ _ hby tk16
  have hws := fun d hd => hw d (ws_in d hd)
  have hln := fun d hd => hw d (ln_in d hd)
  have hch := fun d hd => hw d (ch_in d hd)
  refine Go.of (fun _ kk => castTop (ef614 m x1 x3) kk) ?_
  show Go p e below _ (T0.setTop (mkF m 0 #[vr x1, vi x3, U0] []))
  obtain ⟨t1, kb1, E1, Fv1, Fc1, A1⟩ := Sa.open_ (snd255 (allSi cq1 (allSi cq2 (allSi cq3 (allSi cq4 (allSi cq5 all0i))))))
  have V1 : Arv Z h0 t1 kb1 .byte (5 : Int32) [(.int (StrChars.lo8 q1)), (.int (StrChars.lo8 q2)), (.int (StrChars.lo8 q3)), (.int (StrChars.lo8 q4)), (.int (StrChars.lo8 q5))] (.int 0) := A1
  refine W0.pv hx D 0 1 1 [_, _, _] [_] rfl ?_
  refine W0.strLen hx hln (hw _ (mI 2 rfl)) SC hzc Sa (hw _ (mI 89 rfl)) (hw _ (mI 90 rfl)) (hw _ (mI 92 rfl)) (hw _ (mI 91 rfl)) (by decide +kernel) (Wd := 0) (by decide +kernel) (by decide +kernel) (by decide +kernel) rfl (by rw [hml]; rfl) rfl (by show 2 * 0 + _ ≤ _; exact Nat.le_of_eq rfl) (D 1 rfl) (fun T2 W2 => ?_)
  show Go p e below _ (T2.setTop (mkF m 4 #[vr x1, vi x3, U0] [(.int 5)]))
  refine W2.pu hx D 4 [(1, true)] 1 59 [_, _, _] [.int 6] rfl ⟨trivial, (XT.ii_ne_t (by decide +kernel))⟩ ?_
  refine W2.newP hx (hw _ (mI 13 rfl)) rfl (D 59 rfl) rfl (by decide +kernel) (cap := 6) (by decide +kernel) (by decide +kernel) (by decide +kernel) (by decide +kernel) (fun T3 h3 b3 c3 eb3 gb3 W3 K3 A3 => ?_)
  have V3 : Arv Z h3 b3 c3 .char (6 : Int32) [(.int 0), (.int 0), (.int 0), (.int 0), (.int 0), (.int 0)] (.int 0) := A3
  refine W3.pv hx D 61 5 66 [_, _, _] [.int 0, _, .int 0, _] rfl ?_
  have k5 := (Sa.keep0 K3)
  refine W3.strChar hx hch (hw _ (mI 2 rfl)) SC hzc SF rfm k5 (snd255 (allSi cq1 (allSi cq2 (allSi cq3 (allSi cq4 (allSi cq5 all0i)))))) (i := 0) (Nat.le_of_ble_eq_true rfl) rfl (hw _ (mI 102 rfl)) (hw _ (mI 103 rfl)) (hw _ (mI 105 rfl)) (hw _ (mI 104 rfl)) (by decide +kernel) (Wd := 2) (by decide +kernel) (by decide +kernel) (by decide +kernel) rfl (by rw [hml]; rfl) rfl (by show 2 * 0 + _ ≤ _; exact Nat.le_of_eq rfl) (D 66 rfl) (fun T4 W4 => ?_)
  show Go p e below _ (T4.setTop (mkF m 69 #[vr x1, vi x3, vr b3] [(.int q1), (.int 0), (.ref b3)]))
  refine W4.stC hx V3 ⟨by decide, by decide⟩ 0 rfl (Nat.le_of_ble_eq_true rfl) gb3.1 (Or.inr gb3.2) rfl rfl (D 69 rfl) (fun T6 h6 W6 K6 A6 => ?_)
  have V6 : Arv Z h6 b3 c3 .char (6 : Int32) [(.int q1), (.int 0), (.int 0), (.int 0), (.int 0), (.int 0)] (.int 0) := (by rw [(nar_char cq1)] at A6; exact A6)
  refine W6.pv hx D 70 4 74 [_, _, _] [.int 1, _, .int 1, _] rfl ?_
  have k9 := ((E1.keep K3).keep K6)
  have k10 := ((Fv1.keep K3 nin0).keep K6 (ninS (ne_of_born (Nat.le_of_eq eb3.symm) Sa.exa.lt (Nat.le_refl _)) nin0))
  have k11 := ((Fc1.keep K3 nin0).keep K6 (ninS (ne_of_born (Nat.le_of_eq eb3.symm) Sa.exa.lt (Nat.le_refl _)) nin0))
  have k12 := ((V1.keep K3 nin0).keep K6 (ninS (ne_of_born (Nat.le_of_eq eb3.symm) V1.lt (Nat.le_refl _)) nin0))
  have S8 : Str Z h6 x1 [q1, q2, q3, q4, q5] := ⟨t1, kb1, 0, _, _, k9, k10, k11, k12, StrChars.Road.codOf (cs := [q1, q2, q3, q4, q5]) (n := 5) rfl (allSi cq1.2 (allSi cq2.2 (allSi cq3.2 (allSi cq4.2 (allSi cq5.2 all0i))))), up255 (allSi cq1 (allSi cq2 (allSi cq3 (allSi cq4 (allSi cq5 all0i))))), Nat.le_of_ble_eq_true rfl⟩
  refine W6.strChar hx hch (hw _ (mI 2 rfl)) SC hzc SF rfm S8 (snd255 (allSi cq1 (allSi cq2 (allSi cq3 (allSi cq4 (allSi cq5 all0i)))))) (i := 1) (Nat.le_of_ble_eq_true rfl) rfl (hw _ (mI 102 rfl)) (hw _ (mI 103 rfl)) (hw _ (mI 105 rfl)) (hw _ (mI 104 rfl)) (by decide +kernel) (Wd := 2) (by decide +kernel) (by decide +kernel) (by decide +kernel) rfl (by rw [hml]; rfl) rfl (by show 2 * 0 + _ ≤ _; exact Nat.le_of_eq rfl) (D 74 rfl) (fun T7 W7 => ?_)
  show Go p e below _ (T7.setTop (mkF m 77 #[vr x1, vi x3, vr b3] [(.int q2), (.int 1), (.ref b3)]))
  refine W7.stC hx V6 ⟨by decide, by decide⟩ 1 rfl (Nat.le_of_ble_eq_true rfl) gb3.1 (Or.inr gb3.2) rfl rfl (D 77 rfl) (fun T13 h13 W13 K13 A13 => ?_)
  have V13 : Arv Z h13 b3 c3 .char (6 : Int32) [(.int q1), (.int q2), (.int 0), (.int 0), (.int 0), (.int 0)] (.int 0) := (by rw [(nar_char cq2)] at A13; exact A13)
  refine W13.pv hx D 78 4 82 [_, _, _] [.int 2, _, .int 2, _] rfl ?_
  have k16 := (k9.keep K13)
  have k17 := (k10.keep K13 (ninS (ne_of_born (Nat.le_of_eq eb3.symm) Sa.exa.lt (Nat.le_refl _)) nin0))
  have k18 := (k11.keep K13 (ninS (ne_of_born (Nat.le_of_eq eb3.symm) Sa.exa.lt (Nat.le_refl _)) nin0))
  have k19 := (k12.keep K13 (ninS (ne_of_born (Nat.le_of_eq eb3.symm) V1.lt (Nat.le_refl _)) nin0))
  have S15 : Str Z h13 x1 [q1, q2, q3, q4, q5] := ⟨t1, kb1, 0, _, _, k16, k17, k18, k19, StrChars.Road.codOf (cs := [q1, q2, q3, q4, q5]) (n := 5) rfl (allSi cq1.2 (allSi cq2.2 (allSi cq3.2 (allSi cq4.2 (allSi cq5.2 all0i))))), up255 (allSi cq1 (allSi cq2 (allSi cq3 (allSi cq4 (allSi cq5 all0i))))), Nat.le_of_ble_eq_true rfl⟩
  refine W13.strChar hx hch (hw _ (mI 2 rfl)) SC hzc SF rfm S15 (snd255 (allSi cq1 (allSi cq2 (allSi cq3 (allSi cq4 (allSi cq5 all0i)))))) (i := 2) (Nat.le_of_ble_eq_true rfl) rfl (hw _ (mI 102 rfl)) (hw _ (mI 103 rfl)) (hw _ (mI 105 rfl)) (hw _ (mI 104 rfl)) (by decide +kernel) (Wd := 2) (by decide +kernel) (by decide +kernel) (by decide +kernel) rfl (by rw [hml]; rfl) rfl (by show 2 * 0 + _ ≤ _; exact Nat.le_of_eq rfl) (D 82 rfl) (fun T14 W14 => ?_)
  show Go p e below _ (T14.setTop (mkF m 85 #[vr x1, vi x3, vr b3] [(.int q3), (.int 2), (.ref b3)]))
  refine W14.stC hx V13 ⟨by decide, by decide⟩ 2 rfl (Nat.le_of_ble_eq_true rfl) gb3.1 (Or.inr gb3.2) rfl rfl (D 85 rfl) (fun T20 h20 W20 K20 A20 => ?_)
  have V20 : Arv Z h20 b3 c3 .char (6 : Int32) [(.int q1), (.int q2), (.int q3), (.int 0), (.int 0), (.int 0)] (.int 0) := (by rw [(nar_char cq3)] at A20; exact A20)
  refine W20.pv hx D 86 4 90 [_, _, _] [.int 3, _, .int 3, _] rfl ?_
  have k23 := (k16.keep K20)
  have k24 := (k17.keep K20 (ninS (ne_of_born (Nat.le_of_eq eb3.symm) Sa.exa.lt (Nat.le_refl _)) nin0))
  have k25 := (k18.keep K20 (ninS (ne_of_born (Nat.le_of_eq eb3.symm) Sa.exa.lt (Nat.le_refl _)) nin0))
  have k26 := (k19.keep K20 (ninS (ne_of_born (Nat.le_of_eq eb3.symm) V1.lt (Nat.le_refl _)) nin0))
  have S22 : Str Z h20 x1 [q1, q2, q3, q4, q5] := ⟨t1, kb1, 0, _, _, k23, k24, k25, k26, StrChars.Road.codOf (cs := [q1, q2, q3, q4, q5]) (n := 5) rfl (allSi cq1.2 (allSi cq2.2 (allSi cq3.2 (allSi cq4.2 (allSi cq5.2 all0i))))), up255 (allSi cq1 (allSi cq2 (allSi cq3 (allSi cq4 (allSi cq5 all0i))))), Nat.le_of_ble_eq_true rfl⟩
  refine W20.strChar hx hch (hw _ (mI 2 rfl)) SC hzc SF rfm S22 (snd255 (allSi cq1 (allSi cq2 (allSi cq3 (allSi cq4 (allSi cq5 all0i)))))) (i := 3) (Nat.le_of_ble_eq_true rfl) rfl (hw _ (mI 102 rfl)) (hw _ (mI 103 rfl)) (hw _ (mI 105 rfl)) (hw _ (mI 104 rfl)) (by decide +kernel) (Wd := 2) (by decide +kernel) (by decide +kernel) (by decide +kernel) rfl (by rw [hml]; rfl) rfl (by show 2 * 0 + _ ≤ _; exact Nat.le_of_eq rfl) (D 90 rfl) (fun T21 W21 => ?_)
  show Go p e below _ (T21.setTop (mkF m 93 #[vr x1, vi x3, vr b3] [(.int q4), (.int 3), (.ref b3)]))
  refine W21.stC hx V20 ⟨by decide, by decide⟩ 3 rfl (Nat.le_of_ble_eq_true rfl) gb3.1 (Or.inr gb3.2) rfl rfl (D 93 rfl) (fun T27 h27 W27 K27 A27 => ?_)
  have V27 : Arv Z h27 b3 c3 .char (6 : Int32) [(.int q1), (.int q2), (.int q3), (.int q4), (.int 0), (.int 0)] (.int 0) := (by rw [(nar_char cq4)] at A27; exact A27)
  refine W27.pv hx D 94 4 98 [_, _, _] [.int 4, _, .int 4, _] rfl ?_
  have k30 := (k23.keep K27)
  have k31 := (k24.keep K27 (ninS (ne_of_born (Nat.le_of_eq eb3.symm) Sa.exa.lt (Nat.le_refl _)) nin0))
  have k32 := (k25.keep K27 (ninS (ne_of_born (Nat.le_of_eq eb3.symm) Sa.exa.lt (Nat.le_refl _)) nin0))
  have k33 := (k26.keep K27 (ninS (ne_of_born (Nat.le_of_eq eb3.symm) V1.lt (Nat.le_refl _)) nin0))
  have S29 : Str Z h27 x1 [q1, q2, q3, q4, q5] := ⟨t1, kb1, 0, _, _, k30, k31, k32, k33, StrChars.Road.codOf (cs := [q1, q2, q3, q4, q5]) (n := 5) rfl (allSi cq1.2 (allSi cq2.2 (allSi cq3.2 (allSi cq4.2 (allSi cq5.2 all0i))))), up255 (allSi cq1 (allSi cq2 (allSi cq3 (allSi cq4 (allSi cq5 all0i))))), Nat.le_of_ble_eq_true rfl⟩
  refine W27.strChar hx hch (hw _ (mI 2 rfl)) SC hzc SF rfm S29 (snd255 (allSi cq1 (allSi cq2 (allSi cq3 (allSi cq4 (allSi cq5 all0i)))))) (i := 4) (Nat.le_of_ble_eq_true rfl) rfl (hw _ (mI 102 rfl)) (hw _ (mI 103 rfl)) (hw _ (mI 105 rfl)) (hw _ (mI 104 rfl)) (by decide +kernel) (Wd := 2) (by decide +kernel) (by decide +kernel) (by decide +kernel) rfl (by rw [hml]; rfl) rfl (by show 2 * 0 + _ ≤ _; exact Nat.le_of_eq rfl) (D 98 rfl) (fun T28 W28 => ?_)
  show Go p e below _ (T28.setTop (mkF m 101 #[vr x1, vi x3, vr b3] [(.int q5), (.int 4), (.ref b3)]))
  refine W28.stC hx V27 ⟨by decide, by decide⟩ 4 rfl (Nat.le_of_ble_eq_true rfl) gb3.1 (Or.inr gb3.2) rfl rfl (D 101 rfl) (fun T34 h34 W34 K34 A34 => ?_)
  have V34 : Arv Z h34 b3 c3 .char (6 : Int32) [(.int q1), (.int q2), (.int q3), (.int q4), (.int q5), (.int 0)] (.int 0) := (by rw [(nar_char cq5)] at A34; exact A34)
  refine W34.pv hx D 102 3 105 [_, _, _] [_, .int 5, _] rfl ?_
  by_cases hw35 : (255 : Int32) < x3
  · show Go p e below _ (T34.setTop (mkF m 105 #[vr x1, vi x3, vr b3] [(.int x3), (.int 5), (.ref b3)]))
    refine W34.stC hx V34 ⟨by decide, by decide⟩ 5 rfl (Nat.le_of_ble_eq_true rfl) gb3.1 (Or.inr gb3.2) rfl rfl (D 105 rfl) (fun T36 h36 W36 K36 A36 => ?_)
    have V36 : Arv Z h36 b3 c3 .char (6 : Int32) [(.int q1), (.int q2), (.int q3), (.int q4), (.int q5), (.int x3)] (.int 0) := (by rw [(nar_wide cx)] at A36; exact A36)
    show Go p e below _ (T36.setTop (mkF m 106 #[vr x1, vi x3, vr b3] []))
    refine W36.newO hx (hw _ (mI 15 rfl)) (hw _ (mI 2 rfl)) (hw _ (mI 1 rfl)) rfl (D 106 rfl) (by decide +kernel) (by decide +kernel) (fun T37 h37 b37 eb37 gb37 W37 K37 E37 D37 => ?_)
    have k38 : Fld Z h37 b37 "java/lang/String" "value" "[B" .null := D37 (Or.inr (hw _ (mI 4 rfl))) (ty := (.array .byte)) (by decide +kernel)
    have k39 : Fld Z h37 b37 "java/lang/String" "coder" "B" (.int 0) := D37 (Or.inr (hw _ (mI 5 rfl))) (ty := .byte) (by decide +kernel)
    refine W37.pv hx D 109 2 111 [_, _, _] [_, _, _] rfl ?_
    have k41 := (V36.keep K37 nin0)
    refine W37.callP hx hEL rfl (hw _ (mI 16 rfl)) (hw _ (mI 17 rfl)) (hw _ (mI 1 rfl)) (hw _ (mI 18 rfl)) (by decide +kernel) (a := b37) (argsL := [(.ref b3)]) (rest := [(.ref b37)]) (rm464 B b37 b3 c3 q1 q2 q3 q4 q5 x3 h37 W37.old SA1 SH0 SL8 k41 (up1 cq1) (up1 cq2) (up1 cq3) (up1 cq4) (up1 cq5) cx cq1.2 cq2.2 cq3.2 cq4.2 cq5.2 hw35 E37 k38 k39 gb37.1) (allS (mI 0 rfl) all0) (by decide +kernel) (Wd := 1) (by decide +kernel) (by decide +kernel) (by decide +kernel) (allS ⟨gb37.1, (Or.inr gb37.2)⟩ all0) rfl (by rw [hml]; rfl) (lenOf pd11 rfl) rfl (by show 2 * 0 + _ ≤ _; exact Nat.le_of_eq rfl) (D 111 rfl) (fun T40 h40 v40 P40 Ws40 K40 q40 => ?_)
    have W40 := Ws40 [] all0
    obtain ⟨rfl, S40⟩ := q40
    show Go p e below _ (T40.setTop (mkF m 114 #[vr x1, vi x3, vr b3] [(.ref b37)]))
    exact W40.retA hx hEL hs hlk (by decide +kernel) (by decide +kernel) hret rfl rfl (D 114 rfl) (fun S hS => ⟨b37, _, rfl, hs ▸ gb37.2, S40⟩)
  · show Go p e below _ (T34.setTop (mkF m 105 #[vr x1, vi x3, vr b3] [(.int x3), (.int 5), (.ref b3)]))
    refine W34.stC hx V34 ⟨by decide, by decide⟩ 5 rfl (Nat.le_of_ble_eq_true rfl) gb3.1 (Or.inr gb3.2) rfl rfl (D 105 rfl) (fun T42 h42 W42 K42 A42 => ?_)
    have V42 : Arv Z h42 b3 c3 .char (6 : Int32) [(.int q1), (.int q2), (.int q3), (.int q4), (.int q5), (.int x3)] (.int 0) := (by rw [(nar_char ⟨cx.1, hw35⟩)] at A42; exact A42)
    show Go p e below _ (T42.setTop (mkF m 106 #[vr x1, vi x3, vr b3] []))
    refine W42.newO hx (hw _ (mI 15 rfl)) (hw _ (mI 2 rfl)) (hw _ (mI 1 rfl)) rfl (D 106 rfl) (by decide +kernel) (by decide +kernel) (fun T43 h43 b43 eb43 gb43 W43 K43 E43 D43 => ?_)
    have k44 : Fld Z h43 b43 "java/lang/String" "value" "[B" .null := D43 (Or.inr (hw _ (mI 4 rfl))) (ty := (.array .byte)) (by decide +kernel)
    have k45 : Fld Z h43 b43 "java/lang/String" "coder" "B" (.int 0) := D43 (Or.inr (hw _ (mI 5 rfl))) (ty := .byte) (by decide +kernel)
    refine W43.pv hx D 109 2 111 [_, _, _] [_, _, _] rfl ?_
    have k47 := (V42.keep K43 nin0)
    refine W43.newStr hx hws (hw _ (mI 2 rfl)) SC hzc (hw _ (mI 16 rfl)) (hw _ (mI 17 rfl)) (hw _ (mI 18 rfl)) E43 k44 k45 (cs := [q1, q2, q3, q4, q5, x3]) (n := 6) k47 rfl rfl (by decide +kernel) (by decide +kernel) (allSi cq1 (allSi cq2 (allSi cq3 (allSi cq4 (allSi cq5 (allSi ⟨cx.1, hw35⟩ all0i)))))) gb43.1 (Or.inr gb43.2) (mI 0 rfl) (by decide +kernel) (Wd := 1) (by decide +kernel) (by decide +kernel) (by decide +kernel) rfl (by rw [hml]; rfl) rfl (by show 2 * 0 + _ ≤ _; exact Nat.le_of_eq rfl) (D 111 rfl) (fun T46 h46 W46 K46 S46 => ?_)
    show Go p e below _ (T46.setTop (mkF m 114 #[vr x1, vi x3, vr b3] [(.ref b43)]))
    exact W46.retA hx hEL hs hlk (by decide +kernel) (by decide +kernel) hret rfl rfl (D 114 rfl) (fun S hS => ⟨b43, _, rfl, hs ▸ gb43.2, S46⟩)
set_option maxRecDepth 65536 in
set_option maxHeartbeats 40000000 in
theorem rm625 (B : EV l Z a0 zc fm) (x1 : Addr) (q1 q2 q3 q4 q5 : Int32) (h0 : Heap) {n0 : Nat} (O0 : Old Z n0 h0) (Sa : Str Z h0 x1 [q1, q2, q3, q4, q5]) (cq1 : ¬ q1 < 0 ∧ ¬ (255 : Int32) < q1) (cq2 : ¬ q2 < 0 ∧ ¬ (255 : Int32) < q2) (cq3 : ¬ q3 < 0 ∧ ¬ (255 : Int32) < q3) (cq4 : ¬ q4 < 0 ∧ ¬ (255 : Int32) < q4) (cq5 : ¬ q5 < 0 ∧ ¬ (255 : Int32) < q5) :
    Met l Z EL0 n0 (⟨"com/example/grantwork/grantwork/store/EffectOfPinLaw", "dropLast", "(Ljava/lang/String;)Ljava/lang/String;"⟩ : MethodName) method_6_code 2 (some (.object "java/lang/String")) [] (rO 4 3 12 66) #[(.ref x1)] h0 [] [] (fun v h' S => ∃ (r : Addr) (cs : List Int32), v = some (.ref r) ∧ h0.size ≤ r ∧ Str Z h' r cs) := by
  obtain ⟨hw, hEL, SC, hzc, SF, rfm⟩ := id B
  refine Met.of (plainFor_of_name pn3) O0 ?_
  intro p e s m below meth c T0 hx hby hml hret hlk hnm hs W0
  have W0 : Wk p l e _ s m _ below meth c Z EL0 n0 [] "com/example/grantwork/grantwork/store/EffectOfPinLaw" [] T0 0 0 h0 := W0
  have D := @tk c _ _ hby tk17
  have hws := fun d hd => hw d (ws_in d hd)
  have hln := fun d hd => hw d (ln_in d hd)
  have hch := fun d hd => hw d (ch_in d hd)
  refine Go.of (fun _ kk => castTop (ef624 m x1) kk) ?_
  show Go p e below _ (T0.setTop (mkF m 0 #[vr x1, U0] []))
  obtain ⟨t1, kb1, E1, Fv1, Fc1, A1⟩ := Sa.open_ (snd255 (allSi cq1 (allSi cq2 (allSi cq3 (allSi cq4 (allSi cq5 all0i))))))
  have V1 : Arv Z h0 t1 kb1 .byte (5 : Int32) [(.int (StrChars.lo8 q1)), (.int (StrChars.lo8 q2)), (.int (StrChars.lo8 q3)), (.int (StrChars.lo8 q4)), (.int (StrChars.lo8 q5))] (.int 0) := A1
  refine W0.pv hx D 0 1 1 [_, _] [_] rfl ?_
  refine W0.strLen hx hln (hw _ (mI 2 rfl)) SC hzc Sa (hw _ (mI 89 rfl)) (hw _ (mI 90 rfl)) (hw _ (mI 92 rfl)) (hw _ (mI 91 rfl)) (by decide +kernel) (Wd := 0) (by decide +kernel) (by decide +kernel) (by decide +kernel) rfl (by rw [hml]; rfl) rfl (by show 2 * 0 + _ ≤ _; exact Nat.le_of_eq rfl) (D 1 rfl) (fun T2 W2 => ?_)
  show Go p e below _ (T2.setTop (mkF m 4 #[vr x1, U0] [(.int 5)]))
  refine W2.pu hx D 4 [(1, true)] 1 46 [_, _] [.int 4] rfl ⟨trivial, (XT.ii_ne_t (by decide +kernel))⟩ ?_
  refine W2.newP hx (hw _ (mI 13 rfl)) rfl (D 46 rfl) rfl (by decide +kernel) (cap := 4) (by decide +kernel) (by decide +kernel) (by decide +kernel) (by decide +kernel) (fun T3 h3 b3 c3 eb3 gb3 W3 K3 A3 => ?_)
  have V3 : Arv Z h3 b3 c3 .char (4 : Int32) [(.int 0), (.int 0), (.int 0), (.int 0)] (.int 0) := A3
  refine W3.pv hx D 48 5 53 [_, _] [.int 0, _, .int 0, _] rfl ?_
  have k5 := (Sa.keep0 K3)
  refine W3.strChar hx hch (hw _ (mI 2 rfl)) SC hzc SF rfm k5 (snd255 (allSi cq1 (allSi cq2 (allSi cq3 (allSi cq4 (allSi cq5 all0i)))))) (i := 0) (Nat.le_of_ble_eq_true rfl) rfl (hw _ (mI 102 rfl)) (hw _ (mI 103 rfl)) (hw _ (mI 105 rfl)) (hw _ (mI 104 rfl)) (by decide +kernel) (Wd := 2) (by decide +kernel) (by decide +kernel) (by decide +kernel) rfl (by rw [hml]; rfl) rfl (by show 2 * 0 + _ ≤ _; exact Nat.le_of_eq rfl) (D 53 rfl) (fun T4 W4 => ?_)
  show Go p e below _ (T4.setTop (mkF m 56 #[vr x1, vr b3] [(.int q1), (.int 0), (.ref b3)]))
  refine W4.stC hx V3 ⟨by decide, by decide⟩ 0 rfl (Nat.le_of_ble_eq_true rfl) gb3.1 (Or.inr gb3.2) rfl rfl (D 56 rfl) (fun T6 h6 W6 K6 A6 => ?_)
  have V6 : Arv Z h6 b3 c3 .char (4 : Int32) [(.int q1), (.int 0), (.int 0), (.int 0)] (.int 0) := (by rw [(nar_char cq1)] at A6; exact A6)
  refine W6.pv hx D 57 4 61 [_, _] [.int 1, _, .int 1, _] rfl ?_
  have k9 := ((E1.keep K3).keep K6)
  have k10 := ((Fv1.keep K3 nin0).keep K6 (ninS (ne_of_born (Nat.le_of_eq eb3.symm) Sa.exa.lt (Nat.le_refl _)) nin0))
  have k11 := ((Fc1.keep K3 nin0).keep K6 (ninS (ne_of_born (Nat.le_of_eq eb3.symm) Sa.exa.lt (Nat.le_refl _)) nin0))
  have k12 := ((V1.keep K3 nin0).keep K6 (ninS (ne_of_born (Nat.le_of_eq eb3.symm) V1.lt (Nat.le_refl _)) nin0))
  have S8 : Str Z h6 x1 [q1, q2, q3, q4, q5] := ⟨t1, kb1, 0, _, _, k9, k10, k11, k12, StrChars.Road.codOf (cs := [q1, q2, q3, q4, q5]) (n := 5) rfl (allSi cq1.2 (allSi cq2.2 (allSi cq3.2 (allSi cq4.2 (allSi cq5.2 all0i))))), up255 (allSi cq1 (allSi cq2 (allSi cq3 (allSi cq4 (allSi cq5 all0i))))), Nat.le_of_ble_eq_true rfl⟩
  refine W6.strChar hx hch (hw _ (mI 2 rfl)) SC hzc SF rfm S8 (snd255 (allSi cq1 (allSi cq2 (allSi cq3 (allSi cq4 (allSi cq5 all0i)))))) (i := 1) (Nat.le_of_ble_eq_true rfl) rfl (hw _ (mI 102 rfl)) (hw _ (mI 103 rfl)) (hw _ (mI 105 rfl)) (hw _ (mI 104 rfl)) (by decide +kernel) (Wd := 2) (by decide +kernel) (by decide +kernel) (by decide +kernel) rfl (by rw [hml]; rfl) rfl (by show 2 * 0 + _ ≤ _; exact Nat.le_of_eq rfl) (D 61 rfl) (fun T7 W7 => ?_)
  show Go p e below _ (T7.setTop (mkF m 64 #[vr x1, vr b3] [(.int q2), (.int 1), (.ref b3)]))
  refine W7.stC hx V6 ⟨by decide, by decide⟩ 1 rfl (Nat.le_of_ble_eq_true rfl) gb3.1 (Or.inr gb3.2) rfl rfl (D 64 rfl) (fun T13 h13 W13 K13 A13 => ?_)
  have V13 : Arv Z h13 b3 c3 .char (4 : Int32) [(.int q1), (.int q2), (.int 0), (.int 0)] (.int 0) := (by rw [(nar_char cq2)] at A13; exact A13)
  refine W13.pv hx D 65 4 69 [_, _] [.int 2, _, .int 2, _] rfl ?_
  have k16 := (k9.keep K13)
  have k17 := (k10.keep K13 (ninS (ne_of_born (Nat.le_of_eq eb3.symm) Sa.exa.lt (Nat.le_refl _)) nin0))
  have k18 := (k11.keep K13 (ninS (ne_of_born (Nat.le_of_eq eb3.symm) Sa.exa.lt (Nat.le_refl _)) nin0))
  have k19 := (k12.keep K13 (ninS (ne_of_born (Nat.le_of_eq eb3.symm) V1.lt (Nat.le_refl _)) nin0))
  have S15 : Str Z h13 x1 [q1, q2, q3, q4, q5] := ⟨t1, kb1, 0, _, _, k16, k17, k18, k19, StrChars.Road.codOf (cs := [q1, q2, q3, q4, q5]) (n := 5) rfl (allSi cq1.2 (allSi cq2.2 (allSi cq3.2 (allSi cq4.2 (allSi cq5.2 all0i))))), up255 (allSi cq1 (allSi cq2 (allSi cq3 (allSi cq4 (allSi cq5 all0i))))), Nat.le_of_ble_eq_true rfl⟩
  refine W13.strChar hx hch (hw _ (mI 2 rfl)) SC hzc SF rfm S15 (snd255 (allSi cq1 (allSi cq2 (allSi cq3 (allSi cq4 (allSi cq5 all0i)))))) (i := 2) (Nat.le_of_ble_eq_true rfl) rfl (hw _ (mI 102 rfl)) (hw _ (mI 103 rfl)) (hw _ (mI 105 rfl)) (hw _ (mI 104 rfl)) (by decide +kernel) (Wd := 2) (by decide +kernel) (by decide +kernel) (by decide +kernel) rfl (by rw [hml]; rfl) rfl (by show 2 * 0 + _ ≤ _; exact Nat.le_of_eq rfl) (D 69 rfl) (fun T14 W14 => ?_)
  show Go p e below _ (T14.setTop (mkF m 72 #[vr x1, vr b3] [(.int q3), (.int 2), (.ref b3)]))
  refine W14.stC hx V13 ⟨by decide, by decide⟩ 2 rfl (Nat.le_of_ble_eq_true rfl) gb3.1 (Or.inr gb3.2) rfl rfl (D 72 rfl) (fun T20 h20 W20 K20 A20 => ?_)
  have V20 : Arv Z h20 b3 c3 .char (4 : Int32) [(.int q1), (.int q2), (.int q3), (.int 0)] (.int 0) := (by rw [(nar_char cq3)] at A20; exact A20)
  refine W20.pv hx D 73 4 77 [_, _] [.int 3, _, .int 3, _] rfl ?_
  have k23 := (k16.keep K20)
  have k24 := (k17.keep K20 (ninS (ne_of_born (Nat.le_of_eq eb3.symm) Sa.exa.lt (Nat.le_refl _)) nin0))
  have k25 := (k18.keep K20 (ninS (ne_of_born (Nat.le_of_eq eb3.symm) Sa.exa.lt (Nat.le_refl _)) nin0))
  have k26 := (k19.keep K20 (ninS (ne_of_born (Nat.le_of_eq eb3.symm) V1.lt (Nat.le_refl _)) nin0))
  have S22 : Str Z h20 x1 [q1, q2, q3, q4, q5] := ⟨t1, kb1, 0, _, _, k23, k24, k25, k26, StrChars.Road.codOf (cs := [q1, q2, q3, q4, q5]) (n := 5) rfl (allSi cq1.2 (allSi cq2.2 (allSi cq3.2 (allSi cq4.2 (allSi cq5.2 all0i))))), up255 (allSi cq1 (allSi cq2 (allSi cq3 (allSi cq4 (allSi cq5 all0i))))), Nat.le_of_ble_eq_true rfl⟩
  refine W20.strChar hx hch (hw _ (mI 2 rfl)) SC hzc SF rfm S22 (snd255 (allSi cq1 (allSi cq2 (allSi cq3 (allSi cq4 (allSi cq5 all0i)))))) (i := 3) (Nat.le_of_ble_eq_true rfl) rfl (hw _ (mI 102 rfl)) (hw _ (mI 103 rfl)) (hw _ (mI 105 rfl)) (hw _ (mI 104 rfl)) (by decide +kernel) (Wd := 2) (by decide +kernel) (by decide +kernel) (by decide +kernel) rfl (by rw [hml]; rfl) rfl (by show 2 * 0 + _ ≤ _; exact Nat.le_of_eq rfl) (D 77 rfl) (fun T21 W21 => ?_)
  show Go p e below _ (T21.setTop (mkF m 80 #[vr x1, vr b3] [(.int q4), (.int 3), (.ref b3)]))
  refine W21.stC hx V20 ⟨by decide, by decide⟩ 3 rfl (Nat.le_of_ble_eq_true rfl) gb3.1 (Or.inr gb3.2) rfl rfl (D 80 rfl) (fun T27 h27 W27 K27 A27 => ?_)
  have V27 : Arv Z h27 b3 c3 .char (4 : Int32) [(.int q1), (.int q2), (.int q3), (.int q4)] (.int 0) := (by rw [(nar_char cq4)] at A27; exact A27)
  show Go p e below _ (T27.setTop (mkF m 81 #[vr x1, vr b3] []))
  refine W27.newO hx (hw _ (mI 15 rfl)) (hw _ (mI 2 rfl)) (hw _ (mI 1 rfl)) rfl (D 81 rfl) (by decide +kernel) (by decide +kernel) (fun T28 h28 b28 eb28 gb28 W28 K28 E28 D28 => ?_)
  have k29 : Fld Z h28 b28 "java/lang/String" "value" "[B" .null := D28 (Or.inr (hw _ (mI 4 rfl))) (ty := (.array .byte)) (by decide +kernel)
  have k30 : Fld Z h28 b28 "java/lang/String" "coder" "B" (.int 0) := D28 (Or.inr (hw _ (mI 5 rfl))) (ty := .byte) (by decide +kernel)
  refine W28.pv hx D 84 2 86 [_, _] [_, _, _] rfl ?_
  have k32 := (V27.keep K28 nin0)
  refine W28.newStr hx hws (hw _ (mI 2 rfl)) SC hzc (hw _ (mI 16 rfl)) (hw _ (mI 17 rfl)) (hw _ (mI 18 rfl)) E28 k29 k30 (cs := [q1, q2, q3, q4]) (n := 4) k32 rfl rfl (by decide +kernel) (by decide +kernel) (allSi cq1 (allSi cq2 (allSi cq3 (allSi cq4 all0i)))) gb28.1 (Or.inr gb28.2) (mI 0 rfl) (by decide +kernel) (Wd := 1) (by decide +kernel) (by decide +kernel) (by decide +kernel) rfl (by rw [hml]; rfl) rfl (by show 2 * 0 + _ ≤ _; exact Nat.le_of_eq rfl) (D 86 rfl) (fun T31 h31 W31 K31 S31 => ?_)
  show Go p e below _ (T31.setTop (mkF m 89 #[vr x1, vr b3] [(.ref b28)]))
  exact W31.retA hx hEL hs hlk (by decide +kernel) (by decide +kernel) hret rfl rfl (D 89 rfl) (fun S hS => ⟨b28, _, rfl, hs ▸ gb28.2, S31⟩)
set_option maxRecDepth 65536 in
set_option maxHeartbeats 40000000 in
theorem rm635 (B : EV l Z a0 zc fm) (j1 : Int64) (h0 : Heap) {n0 : Nat} (O0 : Old Z n0 h0)  :
    Met l Z EL0 n0 (⟨"com/example/grantwork/grantwork/store/EffectOfPinLaw", "drawn5", "(J)Ljava/lang/String;"⟩ : MethodName) method_7_code 3 (some (.object "java/lang/String")) [] (rO 4 3 14 66) #[(.long j1)] h0 [] [] (fun v h' S => ∃ (r : Addr) (cs : List Int32), v = some (.ref r) ∧ h0.size ≤ r ∧ Str Z h' r cs) := by
  obtain ⟨hw, hEL, SC, hzc, SF, rfm⟩ := id B
  refine Met.of (plainFor_of_name pn3) O0 ?_
  intro p e s m below meth c T0 hx hby hml hret hlk hnm hs W0
  have W0 : Wk p l e _ s m _ below meth c Z EL0 n0 [] "com/example/grantwork/grantwork/store/EffectOfPinLaw" [] T0 0 0 h0 := W0
  have D := @tk c _ _ hby tk19
  have hws := fun d hd => hw d (ws_in d hd)
  refine Go.of (fun _ kk => castTop (ef634 m j1) kk) ?_
  refine W0.pv hx D 0 1 1 [_, _, _] [.int 5] rfl ?_
  refine W0.newP hx (hw _ (mI 13 rfl)) rfl (D 1 rfl) rfl (by decide +kernel) (cap := 5) (by decide +kernel) (by decide +kernel) (by decide +kernel) (by decide +kernel) (fun T1 h1 b1 c1 eb1 gb1 W1 K1 A1 => ?_)
  have V1 : Arv Z h1 b1 c1 .char (5 : Int32) [(.int 0), (.int 0), (.int 0), (.int 0), (.int 0)] (.int 0) := A1
  refine W1.pv hx D 3 4 7 [_, _, _] [_, .int 0, _] rfl ?_
  refine W1.ldcJ hx (hw _ (mI 14 rfl)) rfl (D 7 rfl) ?_
  refine W1.pv hx D 10 3 13 [_, _, _] [.int (((j1 &&& (255 : Int64)).toInt32).toUInt32.toUInt16.toUInt32.toInt32), _, _] rfl ?_
  obtain ⟨q2, hq2, cq2⟩ := char255L j1
  rw [hq2]
  show Go p e below _ (T1.setTop (mkF m 13 #[.val (.long j1), S0, vr b1] [(.int q2), (.int 0), (.ref b1)]))
  refine W1.stC hx V1 ⟨by decide, by decide⟩ 0 rfl (Nat.le_of_ble_eq_true rfl) gb1.1 (Or.inr gb1.2) rfl rfl (D 13 rfl) (fun T3 h3 W3 K3 A3 => ?_)
  have V3 : Arv Z h3 b1 c1 .char (5 : Int32) [(.int q2), (.int 0), (.int 0), (.int 0), (.int 0)] (.int 0) := (by rw [(nar_char cq2)] at A3; exact A3)
  refine W3.pv hx D 14 5 20 [_, _, _] [.long ((j1.toUInt64 >>> (((8 : Int32) &&& 63).toInt64).toUInt64).toInt64), .int 1, _] rfl ?_
  refine W3.ldcJ hx (hw _ (mI 14 rfl)) rfl (D 20 rfl) ?_
  refine W3.pv hx D 23 3 26 [_, _, _] [.int (((((j1.toUInt64 >>> (((8 : Int32) &&& 63).toInt64).toUInt64).toInt64) &&& (255 : Int64)).toInt32).toUInt32.toUInt16.toUInt32.toInt32), _, _] rfl ?_
  obtain ⟨q4, hq4, cq4⟩ := char255L ((j1.toUInt64 >>> (((8 : Int32) &&& 63).toInt64).toUInt64).toInt64)
  rw [hq4]
  show Go p e below _ (T3.setTop (mkF m 26 #[.val (.long j1), S0, vr b1] [(.int q4), (.int 1), (.ref b1)]))
  refine W3.stC hx V3 ⟨by decide, by decide⟩ 1 rfl (Nat.le_of_ble_eq_true rfl) gb1.1 (Or.inr gb1.2) rfl rfl (D 26 rfl) (fun T5 h5 W5 K5 A5 => ?_)
  have V5 : Arv Z h5 b1 c1 .char (5 : Int32) [(.int q2), (.int q4), (.int 0), (.int 0), (.int 0)] (.int 0) := (by rw [(nar_char cq4)] at A5; exact A5)
  refine W5.pv hx D 27 5 33 [_, _, _] [.long ((j1.toUInt64 >>> (((16 : Int32) &&& 63).toInt64).toUInt64).toInt64), .int 2, _] rfl ?_
  refine W5.ldcJ hx (hw _ (mI 14 rfl)) rfl (D 33 rfl) ?_
  refine W5.pv hx D 36 3 39 [_, _, _] [.int (((((j1.toUInt64 >>> (((16 : Int32) &&& 63).toInt64).toUInt64).toInt64) &&& (255 : Int64)).toInt32).toUInt32.toUInt16.toUInt32.toInt32), _, _] rfl ?_
  obtain ⟨q6, hq6, cq6⟩ := char255L ((j1.toUInt64 >>> (((16 : Int32) &&& 63).toInt64).toUInt64).toInt64)
  rw [hq6]
  show Go p e below _ (T5.setTop (mkF m 39 #[.val (.long j1), S0, vr b1] [(.int q6), (.int 2), (.ref b1)]))
  refine W5.stC hx V5 ⟨by decide, by decide⟩ 2 rfl (Nat.le_of_ble_eq_true rfl) gb1.1 (Or.inr gb1.2) rfl rfl (D 39 rfl) (fun T7 h7 W7 K7 A7 => ?_)
  have V7 : Arv Z h7 b1 c1 .char (5 : Int32) [(.int q2), (.int q4), (.int q6), (.int 0), (.int 0)] (.int 0) := (by rw [(nar_char cq6)] at A7; exact A7)
  refine W7.pv hx D 40 5 46 [_, _, _] [.long ((j1.toUInt64 >>> (((24 : Int32) &&& 63).toInt64).toUInt64).toInt64), .int 3, _] rfl ?_
  refine W7.ldcJ hx (hw _ (mI 14 rfl)) rfl (D 46 rfl) ?_
  refine W7.pv hx D 49 3 52 [_, _, _] [.int (((((j1.toUInt64 >>> (((24 : Int32) &&& 63).toInt64).toUInt64).toInt64) &&& (255 : Int64)).toInt32).toUInt32.toUInt16.toUInt32.toInt32), _, _] rfl ?_
  obtain ⟨q8, hq8, cq8⟩ := char255L ((j1.toUInt64 >>> (((24 : Int32) &&& 63).toInt64).toUInt64).toInt64)
  rw [hq8]
  show Go p e below _ (T7.setTop (mkF m 52 #[.val (.long j1), S0, vr b1] [(.int q8), (.int 3), (.ref b1)]))
  refine W7.stC hx V7 ⟨by decide, by decide⟩ 3 rfl (Nat.le_of_ble_eq_true rfl) gb1.1 (Or.inr gb1.2) rfl rfl (D 52 rfl) (fun T9 h9 W9 K9 A9 => ?_)
  have V9 : Arv Z h9 b1 c1 .char (5 : Int32) [(.int q2), (.int q4), (.int q6), (.int q8), (.int 0)] (.int 0) := (by rw [(nar_char cq8)] at A9; exact A9)
  refine W9.pv hx D 53 5 59 [_, _, _] [.long ((j1.toUInt64 >>> (((32 : Int32) &&& 63).toInt64).toUInt64).toInt64), .int 4, _] rfl ?_
  refine W9.ldcJ hx (hw _ (mI 14 rfl)) rfl (D 59 rfl) ?_
  refine W9.pv hx D 62 3 65 [_, _, _] [.int (((((j1.toUInt64 >>> (((32 : Int32) &&& 63).toInt64).toUInt64).toInt64) &&& (255 : Int64)).toInt32).toUInt32.toUInt16.toUInt32.toInt32), _, _] rfl ?_
  obtain ⟨q10, hq10, cq10⟩ := char255L ((j1.toUInt64 >>> (((32 : Int32) &&& 63).toInt64).toUInt64).toInt64)
  rw [hq10]
  show Go p e below _ (T9.setTop (mkF m 65 #[.val (.long j1), S0, vr b1] [(.int q10), (.int 4), (.ref b1)]))
  refine W9.stC hx V9 ⟨by decide, by decide⟩ 4 rfl (Nat.le_of_ble_eq_true rfl) gb1.1 (Or.inr gb1.2) rfl rfl (D 65 rfl) (fun T11 h11 W11 K11 A11 => ?_)
  have V11 : Arv Z h11 b1 c1 .char (5 : Int32) [(.int q2), (.int q4), (.int q6), (.int q8), (.int q10)] (.int 0) := (by rw [(nar_char cq10)] at A11; exact A11)
  show Go p e below _ (T11.setTop (mkF m 66 #[.val (.long j1), S0, vr b1] []))
  refine W11.newO hx (hw _ (mI 15 rfl)) (hw _ (mI 2 rfl)) (hw _ (mI 1 rfl)) rfl (D 66 rfl) (by decide +kernel) (by decide +kernel) (fun T12 h12 b12 eb12 gb12 W12 K12 E12 D12 => ?_)
  have k13 : Fld Z h12 b12 "java/lang/String" "value" "[B" .null := D12 (Or.inr (hw _ (mI 4 rfl))) (ty := (.array .byte)) (by decide +kernel)
  have k14 : Fld Z h12 b12 "java/lang/String" "coder" "B" (.int 0) := D12 (Or.inr (hw _ (mI 5 rfl))) (ty := .byte) (by decide +kernel)
  refine W12.pv hx D 69 2 71 [_, _, _] [_, _, _] rfl ?_
  have k16 := (V11.keep K12 nin0)
  refine W12.newStr hx hws (hw _ (mI 2 rfl)) SC hzc (hw _ (mI 16 rfl)) (hw _ (mI 17 rfl)) (hw _ (mI 18 rfl)) E12 k13 k14 (cs := [q2, q4, q6, q8, q10]) (n := 5) k16 rfl rfl (by decide +kernel) (by decide +kernel) (allSi cq2 (allSi cq4 (allSi cq6 (allSi cq8 (allSi cq10 all0i))))) gb12.1 (Or.inr gb12.2) (mI 0 rfl) (by decide +kernel) (Wd := 1) (by decide +kernel) (by decide +kernel) (by decide +kernel) rfl (by rw [hml]; rfl) rfl (by show 2 * 0 + _ ≤ _; exact Nat.le_of_eq rfl) (D 71 rfl) (fun T15 h15 W15 K15 S15 => ?_)
  show Go p e below _ (T15.setTop (mkF m 74 #[.val (.long j1), S0, vr b1] [(.ref b12)]))
  exact W15.retA hx hEL hs hlk (by decide +kernel) (by decide +kernel) hret rfl rfl (D 74 rfl) (fun S hS => ⟨b12, _, rfl, hs ▸ gb12.2, S15⟩)
theorem ef3 (m : MethodId) (x0 : Addr)  : entryFrame m #[(.ref x0), .null] 3 = mkF m 0 #[vr x0, vN, U0] [] := by first | (simp [entryFrame, mkF, argsToLocals, Value.category]; done) | rfl | rfl
set_option maxRecDepth 65536 in
set_option maxHeartbeats 40000000 in
theorem rm3 (B : EV l Z a0 zc fm) (x1 : Addr) (h0 : Heap) {n0 : Nat} (O0 : Old Z n0 h0)  :
    Met l Z EL0 n0 (⟨"java/lang/String", "equals", "(Ljava/lang/Object;)Z"⟩ : MethodName) jdk_42_method_66_code 3 (some .boolean) [] (rO 0 0 0 0) #[(.ref x1), .null] h0 [] [] (fun v h' S => v = some (.int 0) ∧ h0 = h') := by
  obtain ⟨hw, hEL, SC, hzc, SF, rfm⟩ := id B
  refine Met.of (plainFor_of_name pn1) O0 ?_
  intro p e s m below meth c T0 hx hby hml hret hlk hnm hs W0
  have W0 : Wk p l e _ s m _ below meth c Z EL0 n0 [] "java/lang/String" [] T0 0 0 h0 := W0
  have D := @tk c _ _ hby tk20
  refine Go.of (fun _ kk => castTop (ef3 m x1) kk) ?_
  refine W0.pv hx D 0 2 2 [_, _, _] [.null, _] rfl ?_
  refine gof T0 m 7 #[vr x1, vN, U0] [] (fun _ kk => XT.acmpYes (g := (mkF m 2 #[vr x1, vN, U0] [.null, (.ref x1)])) W0.here hx rfl (pc0 := 2) (pc' := 7) rfl (D 2 rfl) (x := (.ref x1)) (y := .null) (rest := []) rfl rfl rfl (XT.aa_ne_t (x := (.ref x1)) (y := .null) nofun) (by decide) (by decide) kk) ?_
  refine W0.pv hx D 7 1 8 [_, _, _] [.null] rfl ?_
  refine W0.instNull hx rfl rfl (D 8 rfl) ?_
  refine W0.pu hx D 11 [(0, true)] 1 55 [_, _, _] [.int 0] rfl ⟨trivial, (XT.i0_eq_t (by decide +kernel))⟩ ?_
  exact W0.retI hx hEL hs hlk (by decide +kernel) (by decide +kernel) hret (by simp) rfl (D 55 rfl) (fun S hS => ⟨rfl, rfl⟩)
theorem ef4 (m : MethodId) (x0 : Addr)  : entryFrame m #[(.ref x0)] 5 = mkF m 0 #[vr x0, U0, U0, U0, U0] [] := by first | (simp [entryFrame, mkF, argsToLocals, Value.category]; done) | rfl | rfl
set_option maxRecDepth 65536 in
set_option maxHeartbeats 40000000 in
theorem rm4 (B : EV l Z a0 zc fm) (x1 : Addr) (cs : List Int32) (e0 e1 e2 s0 s1 s2 av : Addr) (kv : ClassId) (h0 : Heap) {n0 : Nat} (O0 : Old Z n0 h0) (OE0 : Exa Z Z.heap e0 "com/example/grantwork/grantwork/store/Effect") (OE1 : Exa Z Z.heap e1 "com/example/grantwork/grantwork/store/Effect") (OE2 : Exa Z Z.heap e2 "com/example/grantwork/grantwork/store/Effect") (OF0 : Fld Z Z.heap e0 "com/example/grantwork/grantwork/store/Effect" "mWord" "Ljava/lang/String;" (.ref s0)) (OF1 : Fld Z Z.heap e1 "com/example/grantwork/grantwork/store/Effect" "mWord" "Ljava/lang/String;" (.ref s1)) (OF2 : Fld Z Z.heap e2 "com/example/grantwork/grantwork/store/Effect" "mWord" "Ljava/lang/String;" (.ref s2)) (OS0 : Str Z Z.heap s0 [(97 : Int32), (108 : Int32), (108 : Int32), (111 : Int32), (119 : Int32)]) (OS1 : Str Z Z.heap s1 [(100 : Int32), (101 : Int32), (110 : Int32), (121 : Int32)]) (OS2 : Str Z Z.heap s2 [(108 : Int32), (105 : Int32), (109 : Int32), (105 : Int32), (116 : Int32)]) (OA : Arv Z Z.heap av kv (.object "com/example/grantwork/grantwork/store/Effect") (3 : Int32) [(.ref e0), (.ref e1), (.ref e2)] .null) (OT : Sta Z Z.heap "com/example/grantwork/grantwork/store/Effect" "EFFECTS" "[Lcom/example/grantwork/grantwork/store/Effect;" (.ref av)) (OC0 : Sta Z Z.heap "com/example/grantwork/grantwork/store/Effect" "ALLOW" "Lcom/example/grantwork/grantwork/store/Effect;" (.ref e0)) (OC1 : Sta Z Z.heap "com/example/grantwork/grantwork/store/Effect" "DENY" "Lcom/example/grantwork/grantwork/store/Effect;" (.ref e1)) (OC2 : Sta Z Z.heap "com/example/grantwork/grantwork/store/Effect" "LIMIT" "Lcom/example/grantwork/grantwork/store/Effect;" (.ref e2)) (Sa : Str Z h0 x1 cs) :
    Met l Z EL0 n0 (⟨"com/example/grantwork/grantwork/store/Effect", "of", "(Ljava/lang/String;)Lcom/example/grantwork/grantwork/store/Effect;"⟩ : MethodName) prog_23_method_4_code 5 (some (.object "com/example/grantwork/grantwork/store/Effect")) [] (rO 2 0 0 28) #[(.ref x1)] h0 [] [] (fun v h' S => v = some (wrOf e0 e1 e2 cs)) := by
  obtain ⟨hw, hEL, SC, hzc, SF, rfm⟩ := id B
  refine Met.of (plainFor_of_name pn4) O0 ?_
  intro p e s m below meth c T0 hx hby hml hret hlk hnm hs W0
  have W0 : Wk p l e _ s m _ below meth c Z EL0 n0 [] "com/example/grantwork/grantwork/store/Effect" [] T0 0 0 h0 := W0
  have D := @tk c _ _ hby tk21
  have heq := fun d hd => hw d (eq_in d hd)
  refine Go.of (fun _ kk => castTop (ef4 m x1) kk) ?_
  show Go p e below _ (T0.setTop (mkF m 0 #[vr x1, U0, U0, U0, U0] []))
  refine W0.getS hx (host := "") (Or.inl (hw _ (mI 43 rfl))) Via.refl OT rfl (D 0 rfl) (fun T1 W1 => ?_)
  refine W1.pv hx D 3 2 5 [_, _, _, _, _] [_] rfl ?_
  have k2 := OA.ext W1.old.2
  refine W1.alen hx k2 rfl rfl (D 5 rfl) ?_
  refine W1.pu hx D 6 [(5, false)] 2 16 [_, _, vi 3, vi 0, _] [.int 0, _] rfl ⟨trivial, (XT.ii_ge_f (by decide +kernel))⟩ ?_
  refine W1.aaload hx k2 rfl ⟨by decide, by decide⟩ (v := (.ref e0)) rfl rfl rfl (D 16 rfl) ?_
  refine W1.pv hx D 17 2 21 [_, _, _, _, _] [_] rfl ?_
  have k3 := OF0.ext W1.old.2
  refine W1.getF hx (host := "") (Or.inl (hw _ (mI 46 rfl))) Via.refl k3 rfl rfl (D 21 rfl) (fun T4 W4 => ?_)
  refine W4.pv hx D 24 1 25 [_, _, _, _, _] [_, _] rfl ?_
  have k6 := OS0.ext W4.old.2
  refine W4.strEq hx heq (hw _ (mI 2 rfl)) SC hzc k6 Sa (hw _ (mI 48 rfl)) (hw _ (mI 49 rfl)) (hw _ (mI 51 rfl)) (hw _ (mI 50 rfl)) (by decide +kernel) (Wd := 0) (by decide +kernel) (by decide +kernel) (by decide +kernel) rfl (by rw [hml]; rfl) rfl (by show 2 * 0 + _ ≤ _; exact Nat.le_of_eq rfl) (D 25 rfl) (fun T5 z5 hz5 W5 => ?_)
  rcases hz5 with ⟨rfl, hn5⟩ | ⟨rfl, hn5⟩
  · refine W5.pu hx D 28 [(0, false)] 1 33 [_, _, _, _, _] [_] rfl ⟨trivial, (XT.i0_eq_f (by decide +kernel))⟩ ?_
    have ew : wrOf e0 e1 e2 cs = (.ref e0) := by unfold wrOf; rw [if_pos hn5]
    exact W5.retA hx hEL hs hlk (by decide +kernel) (by decide +kernel) hret rfl rfl (D 33 rfl) (fun S hS => (by rw [ew]))
  · refine W5.pu hx D 28 [(0, true), (4, false)] 2 16 [_, _, _, vi 1, _] [.int 1, _] rfl ⟨⟨trivial, (XT.i0_eq_t (by decide +kernel))⟩, (XT.ii_ge_f (by decide +kernel))⟩ ?_
    refine W5.aaload hx k2 rfl ⟨by decide, by decide⟩ (v := (.ref e1)) rfl rfl rfl (D 16 rfl) ?_
    refine W5.pv hx D 17 2 21 [_, _, _, _, _] [_] rfl ?_
    have k7 := OF1.ext W5.old.2
    refine W5.getF hx (host := "") (Or.inl (hw _ (mI 46 rfl))) Via.refl k7 rfl rfl (D 21 rfl) (fun T8 W8 => ?_)
    refine W8.pv hx D 24 1 25 [_, _, _, _, _] [_, _] rfl ?_
    have k10 := OS1.ext W8.old.2
    refine W8.strEq hx heq (hw _ (mI 2 rfl)) SC hzc k10 Sa (hw _ (mI 48 rfl)) (hw _ (mI 49 rfl)) (hw _ (mI 51 rfl)) (hw _ (mI 50 rfl)) (by decide +kernel) (Wd := 0) (by decide +kernel) (by decide +kernel) (by decide +kernel) rfl (by rw [hml]; rfl) rfl (by show 2 * 0 + _ ≤ _; exact Nat.le_of_eq rfl) (D 25 rfl) (fun T9 z9 hz9 W9 => ?_)
    rcases hz9 with ⟨rfl, hn9⟩ | ⟨rfl, hn9⟩
    · refine W9.pu hx D 28 [(0, false)] 1 33 [_, _, _, _, _] [_] rfl ⟨trivial, (XT.i0_eq_f (by decide +kernel))⟩ ?_
      have ew : wrOf e0 e1 e2 cs = (.ref e1) := by unfold wrOf; rw [if_neg hn5, if_pos hn9]
      exact W9.retA hx hEL hs hlk (by decide +kernel) (by decide +kernel) hret rfl rfl (D 33 rfl) (fun S hS => (by rw [ew]))
    · refine W9.pu hx D 28 [(0, true), (4, false)] 2 16 [_, _, _, vi 2, _] [.int 2, _] rfl ⟨⟨trivial, (XT.i0_eq_t (by decide +kernel))⟩, (XT.ii_ge_f (by decide +kernel))⟩ ?_
      refine W9.aaload hx k2 rfl ⟨by decide, by decide⟩ (v := (.ref e2)) rfl rfl rfl (D 16 rfl) ?_
      refine W9.pv hx D 17 2 21 [_, _, _, _, _] [_] rfl ?_
      have k11 := OF2.ext W9.old.2
      refine W9.getF hx (host := "") (Or.inl (hw _ (mI 46 rfl))) Via.refl k11 rfl rfl (D 21 rfl) (fun T12 W12 => ?_)
      refine W12.pv hx D 24 1 25 [_, _, _, _, _] [_, _] rfl ?_
      have k14 := OS2.ext W12.old.2
      refine W12.strEq hx heq (hw _ (mI 2 rfl)) SC hzc k14 Sa (hw _ (mI 48 rfl)) (hw _ (mI 49 rfl)) (hw _ (mI 51 rfl)) (hw _ (mI 50 rfl)) (by decide +kernel) (Wd := 0) (by decide +kernel) (by decide +kernel) (by decide +kernel) rfl (by rw [hml]; rfl) rfl (by show 2 * 0 + _ ≤ _; exact Nat.le_of_eq rfl) (D 25 rfl) (fun T13 z13 hz13 W13 => ?_)
      rcases hz13 with ⟨rfl, hn13⟩ | ⟨rfl, hn13⟩
      · refine W13.pu hx D 28 [(0, false)] 1 33 [_, _, _, _, _] [_] rfl ⟨trivial, (XT.i0_eq_f (by decide +kernel))⟩ ?_
        have ew : wrOf e0 e1 e2 cs = (.ref e2) := by unfold wrOf; rw [if_neg hn5, if_neg hn9, if_pos hn13]
        exact W13.retA hx hEL hs hlk (by decide +kernel) (by decide +kernel) hret rfl rfl (D 33 rfl) (fun S hS => (by rw [ew]))
      · refine W13.pu hx D 28 [(0, true), (4, true)] 1 41 [_, _, _, vi 3, _] [.null] rfl ⟨⟨trivial, (XT.i0_eq_t (by decide +kernel))⟩, (XT.ii_ge_t (by decide +kernel))⟩ ?_
        have ew : wrOf e0 e1 e2 cs = .null := by unfold wrOf; rw [if_neg hn5, if_neg hn9, if_neg hn13]
        exact W13.retA hx hEL hs hlk (by decide +kernel) (by decide +kernel) hret rfl rfl (D 41 rfl) (fun S hS => (by rw [ew]))
theorem ef5 (m : MethodId)   : entryFrame m #[.null] 5 = mkF m 0 #[vN, U0, U0, U0, U0] [] := by first | (simp [entryFrame, mkF, argsToLocals, Value.category]; done) | rfl | rfl
set_option maxRecDepth 65536 in
set_option maxHeartbeats 40000000 in
theorem rm5 (B : EV l Z a0 zc fm) (e0 e1 e2 s0 s1 s2 av : Addr) (kv : ClassId) (h0 : Heap) {n0 : Nat} (O0 : Old Z n0 h0) (OE0 : Exa Z Z.heap e0 "com/example/grantwork/grantwork/store/Effect") (OE1 : Exa Z Z.heap e1 "com/example/grantwork/grantwork/store/Effect") (OE2 : Exa Z Z.heap e2 "com/example/grantwork/grantwork/store/Effect") (OF0 : Fld Z Z.heap e0 "com/example/grantwork/grantwork/store/Effect" "mWord" "Ljava/lang/String;" (.ref s0)) (OF1 : Fld Z Z.heap e1 "com/example/grantwork/grantwork/store/Effect" "mWord" "Ljava/lang/String;" (.ref s1)) (OF2 : Fld Z Z.heap e2 "com/example/grantwork/grantwork/store/Effect" "mWord" "Ljava/lang/String;" (.ref s2)) (OS0 : Str Z Z.heap s0 [(97 : Int32), (108 : Int32), (108 : Int32), (111 : Int32), (119 : Int32)]) (OS1 : Str Z Z.heap s1 [(100 : Int32), (101 : Int32), (110 : Int32), (121 : Int32)]) (OS2 : Str Z Z.heap s2 [(108 : Int32), (105 : Int32), (109 : Int32), (105 : Int32), (116 : Int32)]) (OA : Arv Z Z.heap av kv (.object "com/example/grantwork/grantwork/store/Effect") (3 : Int32) [(.ref e0), (.ref e1), (.ref e2)] .null) (OT : Sta Z Z.heap "com/example/grantwork/grantwork/store/Effect" "EFFECTS" "[Lcom/example/grantwork/grantwork/store/Effect;" (.ref av)) (OC0 : Sta Z Z.heap "com/example/grantwork/grantwork/store/Effect" "ALLOW" "Lcom/example/grantwork/grantwork/store/Effect;" (.ref e0)) (OC1 : Sta Z Z.heap "com/example/grantwork/grantwork/store/Effect" "DENY" "Lcom/example/grantwork/grantwork/store/Effect;" (.ref e1)) (OC2 : Sta Z Z.heap "com/example/grantwork/grantwork/store/Effect" "LIMIT" "Lcom/example/grantwork/grantwork/store/Effect;" (.ref e2)) :
    Met l Z EL0 n0 (⟨"com/example/grantwork/grantwork/store/Effect", "of", "(Ljava/lang/String;)Lcom/example/grantwork/grantwork/store/Effect;"⟩ : MethodName) prog_23_method_4_code 5 (some (.object "com/example/grantwork/grantwork/store/Effect")) [] (rO 1 0 0 14) #[.null] h0 [] [] (fun v h' S => v = some .null) := by
  obtain ⟨hw, hEL, SC, hzc, SF, rfm⟩ := id B
  refine Met.of (plainFor_of_name pn4) O0 ?_
  intro p e s m below meth c T0 hx hby hml hret hlk hnm hs W0
  have W0 : Wk p l e _ s m _ below meth c Z EL0 n0 [] "com/example/grantwork/grantwork/store/Effect" [] T0 0 0 h0 := W0
  have D := @tk c _ _ hby tk21
  refine Go.of (fun _ kk => castTop (ef5 m ) kk) ?_
  show Go p e below _ (T0.setTop (mkF m 0 #[vN, U0, U0, U0, U0] []))
  refine W0.getS hx (host := "") (Or.inl (hw _ (mI 43 rfl))) Via.refl OT rfl (D 0 rfl) (fun T1 W1 => ?_)
  refine W1.pv hx D 3 2 5 [_, _, _, _, _] [_] rfl ?_
  have k2 := OA.ext W1.old.2
  refine W1.alen hx k2 rfl rfl (D 5 rfl) ?_
  refine W1.pu hx D 6 [(5, false)] 2 16 [_, _, vi 3, vi 0, _] [.int 0, _] rfl ⟨trivial, (XT.ii_ge_f (by decide +kernel))⟩ ?_
  refine W1.aaload hx k2 rfl ⟨by decide, by decide⟩ (v := (.ref e0)) rfl rfl rfl (D 16 rfl) ?_
  refine W1.pv hx D 17 2 21 [_, _, _, _, _] [_] rfl ?_
  have k3 := OF0.ext W1.old.2
  refine W1.getF hx (host := "") (Or.inl (hw _ (mI 46 rfl))) Via.refl k3 rfl rfl (D 21 rfl) (fun T4 W4 => ?_)
  refine W4.pv hx D 24 1 25 [_, _, _, _, _] [.null, _] rfl ?_
  have k6 := OS0.ext W4.old.2
  have k7 := k6.exa
  refine W4.callV hx hEL (hw _ (mI 48 rfl)) (hw _ (mI 49 rfl)) (hw _ (mI 51 rfl)) (hw _ (mI 50 rfl)) (hw _ (mI 1 rfl)) (hw _ (mI 52 rfl)) (by decide +kernel) k7 (a := s0) (argsL := [.null]) (rest := []) (rm3 B s0 h0 W4.old ) all0 (by decide +kernel) (Wd := 0) (by decide +kernel) (by decide +kernel) (by decide +kernel) all0 rfl (by rw [hml]; rfl) (lenOf pd12 rfl) rfl (by show 2 * 0 + _ ≤ _; exact Nat.le_of_eq rfl) (D 25 rfl) (fun T5 h5 v5 P5 Ws5 K5 q5 => ?_)
  have W5 := Ws5 [] all0
  obtain ⟨rfl, rfl⟩ := q5
  refine W5.pu hx D 28 [(0, true), (4, false)] 2 16 [_, _, _, vi 1, _] [.int 1, _] rfl ⟨⟨trivial, (XT.i0_eq_t (by decide +kernel))⟩, (XT.ii_ge_f (by decide +kernel))⟩ ?_
  refine W5.aaload hx k2 rfl ⟨by decide, by decide⟩ (v := (.ref e1)) rfl rfl rfl (D 16 rfl) ?_
  refine W5.pv hx D 17 2 21 [_, _, _, _, _] [_] rfl ?_
  have k8 := OF1.ext W5.old.2
  refine W5.getF hx (host := "") (Or.inl (hw _ (mI 46 rfl))) Via.refl k8 rfl rfl (D 21 rfl) (fun T9 W9 => ?_)
  refine W9.pv hx D 24 1 25 [_, _, _, _, _] [.null, _] rfl ?_
  have k11 := OS1.ext W9.old.2
  have k12 := k11.exa
  refine W9.callV hx hEL (hw _ (mI 48 rfl)) (hw _ (mI 49 rfl)) (hw _ (mI 51 rfl)) (hw _ (mI 50 rfl)) (hw _ (mI 1 rfl)) (hw _ (mI 52 rfl)) (by decide +kernel) k12 (a := s1) (argsL := [.null]) (rest := []) (rm3 B s1 h0 W9.old ) all0 (by decide +kernel) (Wd := 0) (by decide +kernel) (by decide +kernel) (by decide +kernel) all0 rfl (by rw [hml]; rfl) (lenOf pd12 rfl) rfl (by show 2 * 0 + _ ≤ _; exact Nat.le_of_eq rfl) (D 25 rfl) (fun T10 h10 v10 P10 Ws10 K10 q10 => ?_)
  have W10 := Ws10 [] all0
  obtain ⟨rfl, rfl⟩ := q10
  refine W10.pu hx D 28 [(0, true), (4, false)] 2 16 [_, _, _, vi 2, _] [.int 2, _] rfl ⟨⟨trivial, (XT.i0_eq_t (by decide +kernel))⟩, (XT.ii_ge_f (by decide +kernel))⟩ ?_
  refine W10.aaload hx k2 rfl ⟨by decide, by decide⟩ (v := (.ref e2)) rfl rfl rfl (D 16 rfl) ?_
  refine W10.pv hx D 17 2 21 [_, _, _, _, _] [_] rfl ?_
  have k13 := OF2.ext W10.old.2
  refine W10.getF hx (host := "") (Or.inl (hw _ (mI 46 rfl))) Via.refl k13 rfl rfl (D 21 rfl) (fun T14 W14 => ?_)
  refine W14.pv hx D 24 1 25 [_, _, _, _, _] [.null, _] rfl ?_
  have k16 := OS2.ext W14.old.2
  have k17 := k16.exa
  refine W14.callV hx hEL (hw _ (mI 48 rfl)) (hw _ (mI 49 rfl)) (hw _ (mI 51 rfl)) (hw _ (mI 50 rfl)) (hw _ (mI 1 rfl)) (hw _ (mI 52 rfl)) (by decide +kernel) k17 (a := s2) (argsL := [.null]) (rest := []) (rm3 B s2 h0 W14.old ) all0 (by decide +kernel) (Wd := 0) (by decide +kernel) (by decide +kernel) (by decide +kernel) all0 rfl (by rw [hml]; rfl) (lenOf pd12 rfl) rfl (by show 2 * 0 + _ ≤ _; exact Nat.le_of_eq rfl) (D 25 rfl) (fun T15 h15 v15 P15 Ws15 K15 q15 => ?_)
  have W15 := Ws15 [] all0
  obtain ⟨rfl, rfl⟩ := q15
  refine W15.pu hx D 28 [(0, true), (4, true)] 1 41 [_, _, _, vi 3, _] [.null] rfl ⟨⟨trivial, (XT.i0_eq_t (by decide +kernel))⟩, (XT.ii_ge_t (by decide +kernel))⟩ ?_
  exact W15.retA hx hEL hs hlk (by decide +kernel) (by decide +kernel) hret rfl rfl (D 41 rfl) (fun S hS => rfl)
theorem ef6 (m : MethodId) (x0 : Addr)  : entryFrame m #[(.ref x0)] 1 = mkF m 0 #[vr x0] [] := by first | (simp [entryFrame, mkF, argsToLocals, Value.category]; done) | rfl | rfl
set_option maxRecDepth 65536 in
set_option maxHeartbeats 40000000 in
theorem rm6 (B : EV l Z a0 zc fm) (x1 : Addr) (cs : List Int32) (e0 e1 e2 s0 s1 s2 av : Addr) (kv : ClassId) (h0 : Heap) {n0 : Nat} (O0 : Old Z n0 h0) (OE0 : Exa Z Z.heap e0 "com/example/grantwork/grantwork/store/Effect") (OE1 : Exa Z Z.heap e1 "com/example/grantwork/grantwork/store/Effect") (OE2 : Exa Z Z.heap e2 "com/example/grantwork/grantwork/store/Effect") (OF0 : Fld Z Z.heap e0 "com/example/grantwork/grantwork/store/Effect" "mWord" "Ljava/lang/String;" (.ref s0)) (OF1 : Fld Z Z.heap e1 "com/example/grantwork/grantwork/store/Effect" "mWord" "Ljava/lang/String;" (.ref s1)) (OF2 : Fld Z Z.heap e2 "com/example/grantwork/grantwork/store/Effect" "mWord" "Ljava/lang/String;" (.ref s2)) (OS0 : Str Z Z.heap s0 [(97 : Int32), (108 : Int32), (108 : Int32), (111 : Int32), (119 : Int32)]) (OS1 : Str Z Z.heap s1 [(100 : Int32), (101 : Int32), (110 : Int32), (121 : Int32)]) (OS2 : Str Z Z.heap s2 [(108 : Int32), (105 : Int32), (109 : Int32), (105 : Int32), (116 : Int32)]) (OA : Arv Z Z.heap av kv (.object "com/example/grantwork/grantwork/store/Effect") (3 : Int32) [(.ref e0), (.ref e1), (.ref e2)] .null) (OT : Sta Z Z.heap "com/example/grantwork/grantwork/store/Effect" "EFFECTS" "[Lcom/example/grantwork/grantwork/store/Effect;" (.ref av)) (OC0 : Sta Z Z.heap "com/example/grantwork/grantwork/store/Effect" "ALLOW" "Lcom/example/grantwork/grantwork/store/Effect;" (.ref e0)) (OC1 : Sta Z Z.heap "com/example/grantwork/grantwork/store/Effect" "DENY" "Lcom/example/grantwork/grantwork/store/Effect;" (.ref e1)) (OC2 : Sta Z Z.heap "com/example/grantwork/grantwork/store/Effect" "LIMIT" "Lcom/example/grantwork/grantwork/store/Effect;" (.ref e2)) (Sa : Str Z h0 x1 cs) :
    Met l Z EL0 n0 (⟨"com/example/grantwork/grantwork/store/EffectOfPinLaw", "expected", "(Ljava/lang/String;)Lcom/example/grantwork/grantwork/store/Effect;"⟩ : MethodName) method_3_code 1 (some (.object "com/example/grantwork/grantwork/store/Effect")) [] (rO 2 6 68 28) #[(.ref x1)] h0 [] [] (fun v h' S => v = some (wrOf e0 e1 e2 cs)) := by
  obtain ⟨hw, hEL, SC, hzc, SF, rfm⟩ := id B
  refine Met.of (plainFor_of_name pn3) O0 ?_
  intro p e s m below meth c T0 hx hby hml hret hlk hnm hs W0
  have W0 : Wk p l e _ s m _ below meth c Z EL0 n0 [] "com/example/grantwork/grantwork/store/EffectOfPinLaw" [] T0 0 0 h0 := W0
  have D := @tk c _ _ hby tk22
  have hSA := fun d hd => hw d (sa_in d hd)
  have heq := fun d hd => hw d (eq_in d hd)
  refine Go.of (fun _ kk => castTop (ef6 m x1) kk) ?_
  refine W0.pv hx D 0 3 7 [_] [_] rfl ?_
  refine W0.ldcC hx hEL (by decide +kernel) (hw _ (mI 0 rfl)) hSA [(.int 97), (.int 108), (.int 108), (.int 111), (.int 119)] (5 : Int32) (by decide +kernel) (by decide +kernel) (by decide +kernel) rfl (D 7 rfl) (n := 20) (by decide +kernel) (by decide +kernel) (by decide +kernel) (by decide +kernel) (fun T1 h1 b1 t1 kb1 W1 K1 E1 Fv1 Fc1 A1 N1 => ?_)
  have S1 : Str Z h1 b1 [(97 : Int32), (108 : Int32), (108 : Int32), (111 : Int32), (119 : Int32)] := ⟨t1, kb1, 0, (5 : Int32), _, E1, Fv1, Fc1, A1, Or.inl ⟨rfl, by decide +kernel, by decide +kernel, by decide +kernel⟩, by decide +kernel, by decide⟩
  show Go p e below _ (T1.setTop (mkF m 9 #[vr x1] [(.ref b1), (.ref x1)]))
  have k3 := (Sa.keep0 K1)
  refine W1.strEq hx heq (hw _ (mI 2 rfl)) SC hzc k3 S1 (hw _ (mI 63 rfl)) (hw _ (mI 49 rfl)) (hw _ (mI 51 rfl)) (hw _ (mI 50 rfl)) (by decide +kernel) (Wd := 0) (by decide +kernel) (by decide +kernel) (by decide +kernel) rfl (by rw [hml]; rfl) rfl (by show 2 * 0 + _ ≤ _; exact Nat.le_of_eq rfl) (D 9 rfl) (fun T2 z2 hz2 W2 => ?_)
  rcases hz2 with ⟨rfl, hn2⟩ | ⟨rfl, hn2⟩
  · refine W2.pu hx D 12 [(0, false)] 0 15 [_] [] rfl ⟨trivial, (XT.i0_eq_f (by decide +kernel))⟩ ?_
    refine W2.getS hx (host := "") (Or.inl (hw _ (mI 127 rfl))) Via.refl OC0 rfl (D 15 rfl) (fun T4 W4 => ?_)
    show Go p e below _ (T4.setTop (mkF m 18 #[vr x1] [(.ref e0)]))
    have ew : wrOf e0 e1 e2 cs = (.ref e0) := by unfold wrOf; rw [if_pos (Eq.symm hn2)]
    exact W4.retA hx hEL hs hlk (by decide +kernel) (by decide +kernel) hret rfl rfl (D 18 rfl) (fun S hS => (by rw [ew]))
  · refine W2.pu hx D 12 [(0, true)] 1 20 [_] [_] rfl ⟨trivial, (XT.i0_eq_t (by decide +kernel))⟩ ?_
    refine W2.ldcC hx hEL (by decide +kernel) (hw _ (mI 64 rfl)) hSA [(.int 100), (.int 101), (.int 110), (.int 121)] (4 : Int32) (by decide +kernel) (by decide +kernel) (by decide +kernel) rfl (D 20 rfl) (n := 16) (by decide +kernel) (by decide +kernel) (by decide +kernel) (by decide +kernel) (fun T5 h5 b5 t5 kb5 W5 K5 E5 Fv5 Fc5 A5 N5 => ?_)
    have S5 : Str Z h5 b5 [(100 : Int32), (101 : Int32), (110 : Int32), (121 : Int32)] := ⟨t5, kb5, 0, (4 : Int32), _, E5, Fv5, Fc5, A5, Or.inl ⟨rfl, by decide +kernel, by decide +kernel, by decide +kernel⟩, by decide +kernel, by decide⟩
    show Go p e below _ (T5.setTop (mkF m 22 #[vr x1] [(.ref b5), (.ref x1)]))
    have k7 := (k3.keep0 K5)
    refine W5.strEq hx heq (hw _ (mI 2 rfl)) SC hzc k7 S5 (hw _ (mI 63 rfl)) (hw _ (mI 49 rfl)) (hw _ (mI 51 rfl)) (hw _ (mI 50 rfl)) (by decide +kernel) (Wd := 0) (by decide +kernel) (by decide +kernel) (by decide +kernel) rfl (by rw [hml]; rfl) rfl (by show 2 * 0 + _ ≤ _; exact Nat.le_of_eq rfl) (D 22 rfl) (fun T6 z6 hz6 W6 => ?_)
    rcases hz6 with ⟨rfl, hn6⟩ | ⟨rfl, hn6⟩
    · refine W6.pu hx D 25 [(0, false)] 0 28 [_] [] rfl ⟨trivial, (XT.i0_eq_f (by decide +kernel))⟩ ?_
      refine W6.getS hx (host := "") (Or.inl (hw _ (mI 78 rfl))) Via.refl OC1 rfl (D 28 rfl) (fun T8 W8 => ?_)
      show Go p e below _ (T8.setTop (mkF m 31 #[vr x1] [(.ref e1)]))
      have ew : wrOf e0 e1 e2 cs = (.ref e1) := by unfold wrOf; rw [if_neg (fun z => hn2 z.symm), if_pos (Eq.symm hn6)]
      exact W8.retA hx hEL hs hlk (by decide +kernel) (by decide +kernel) hret rfl rfl (D 31 rfl) (fun S hS => (by rw [ew]))
    · refine W6.pu hx D 25 [(0, true)] 1 33 [_] [_] rfl ⟨trivial, (XT.i0_eq_t (by decide +kernel))⟩ ?_
      refine W6.ldcC hx hEL (by decide +kernel) (hw _ (mI 65 rfl)) hSA [(.int 108), (.int 105), (.int 109), (.int 105), (.int 116)] (5 : Int32) (by decide +kernel) (by decide +kernel) (by decide +kernel) rfl (D 33 rfl) (n := 20) (by decide +kernel) (by decide +kernel) (by decide +kernel) (by decide +kernel) (fun T9 h9 b9 t9 kb9 W9 K9 E9 Fv9 Fc9 A9 N9 => ?_)
      have S9 : Str Z h9 b9 [(108 : Int32), (105 : Int32), (109 : Int32), (105 : Int32), (116 : Int32)] := ⟨t9, kb9, 0, (5 : Int32), _, E9, Fv9, Fc9, A9, Or.inl ⟨rfl, by decide +kernel, by decide +kernel, by decide +kernel⟩, by decide +kernel, by decide⟩
      show Go p e below _ (T9.setTop (mkF m 35 #[vr x1] [(.ref b9), (.ref x1)]))
      have k11 := (k7.keep0 K9)
      refine W9.strEq hx heq (hw _ (mI 2 rfl)) SC hzc k11 S9 (hw _ (mI 63 rfl)) (hw _ (mI 49 rfl)) (hw _ (mI 51 rfl)) (hw _ (mI 50 rfl)) (by decide +kernel) (Wd := 0) (by decide +kernel) (by decide +kernel) (by decide +kernel) rfl (by rw [hml]; rfl) rfl (by show 2 * 0 + _ ≤ _; exact Nat.le_of_eq rfl) (D 35 rfl) (fun T10 z10 hz10 W10 => ?_)
      rcases hz10 with ⟨rfl, hn10⟩ | ⟨rfl, hn10⟩
      · refine W10.pu hx D 38 [(0, false)] 0 41 [_] [] rfl ⟨trivial, (XT.i0_eq_f (by decide +kernel))⟩ ?_
        refine W10.getS hx (host := "") (Or.inl (hw _ (mI 144 rfl))) Via.refl OC2 rfl (D 41 rfl) (fun T12 W12 => ?_)
        show Go p e below _ (T12.setTop (mkF m 44 #[vr x1] [(.ref e2)]))
        have ew : wrOf e0 e1 e2 cs = (.ref e2) := by unfold wrOf; rw [if_neg (fun z => hn2 z.symm), if_neg (fun z => hn6 z.symm), if_pos (Eq.symm hn10)]
        exact W12.retA hx hEL hs hlk (by decide +kernel) (by decide +kernel) hret rfl rfl (D 44 rfl) (fun S hS => (by rw [ew]))
      · refine W10.pu hx D 38 [(0, true)] 1 46 [_] [.null] rfl ⟨trivial, (XT.i0_eq_t (by decide +kernel))⟩ ?_
        have ew : wrOf e0 e1 e2 cs = .null := by unfold wrOf; rw [if_neg (fun z => hn2 z.symm), if_neg (fun z => hn6 z.symm), if_neg (fun z => hn10 z.symm)]
        exact W10.retA hx hEL hs hlk (by decide +kernel) (by decide +kernel) hret rfl rfl (D 46 rfl) (fun S hS => (by rw [ew]))
theorem ef7 (m : MethodId)   : entryFrame m #[.null] 1 = mkF m 0 #[vN] [] := by first | (simp [entryFrame, mkF, argsToLocals, Value.category]; done) | rfl | rfl
set_option maxRecDepth 65536 in
set_option maxHeartbeats 40000000 in
theorem rm7 (B : EV l Z a0 zc fm) (e0 e1 e2 s0 s1 s2 av : Addr) (kv : ClassId) (h0 : Heap) {n0 : Nat} (O0 : Old Z n0 h0) (OE0 : Exa Z Z.heap e0 "com/example/grantwork/grantwork/store/Effect") (OE1 : Exa Z Z.heap e1 "com/example/grantwork/grantwork/store/Effect") (OE2 : Exa Z Z.heap e2 "com/example/grantwork/grantwork/store/Effect") (OF0 : Fld Z Z.heap e0 "com/example/grantwork/grantwork/store/Effect" "mWord" "Ljava/lang/String;" (.ref s0)) (OF1 : Fld Z Z.heap e1 "com/example/grantwork/grantwork/store/Effect" "mWord" "Ljava/lang/String;" (.ref s1)) (OF2 : Fld Z Z.heap e2 "com/example/grantwork/grantwork/store/Effect" "mWord" "Ljava/lang/String;" (.ref s2)) (OS0 : Str Z Z.heap s0 [(97 : Int32), (108 : Int32), (108 : Int32), (111 : Int32), (119 : Int32)]) (OS1 : Str Z Z.heap s1 [(100 : Int32), (101 : Int32), (110 : Int32), (121 : Int32)]) (OS2 : Str Z Z.heap s2 [(108 : Int32), (105 : Int32), (109 : Int32), (105 : Int32), (116 : Int32)]) (OA : Arv Z Z.heap av kv (.object "com/example/grantwork/grantwork/store/Effect") (3 : Int32) [(.ref e0), (.ref e1), (.ref e2)] .null) (OT : Sta Z Z.heap "com/example/grantwork/grantwork/store/Effect" "EFFECTS" "[Lcom/example/grantwork/grantwork/store/Effect;" (.ref av)) (OC0 : Sta Z Z.heap "com/example/grantwork/grantwork/store/Effect" "ALLOW" "Lcom/example/grantwork/grantwork/store/Effect;" (.ref e0)) (OC1 : Sta Z Z.heap "com/example/grantwork/grantwork/store/Effect" "DENY" "Lcom/example/grantwork/grantwork/store/Effect;" (.ref e1)) (OC2 : Sta Z Z.heap "com/example/grantwork/grantwork/store/Effect" "LIMIT" "Lcom/example/grantwork/grantwork/store/Effect;" (.ref e2)) :
    Met l Z EL0 n0 (⟨"com/example/grantwork/grantwork/store/EffectOfPinLaw", "expected", "(Ljava/lang/String;)Lcom/example/grantwork/grantwork/store/Effect;"⟩ : MethodName) method_3_code 1 (some (.object "com/example/grantwork/grantwork/store/Effect")) [] (rO 0 0 0 0) #[.null] h0 [] [] (fun v h' S => v = some .null) := by
  obtain ⟨hw, hEL, SC, hzc, SF, rfm⟩ := id B
  refine Met.of (plainFor_of_name pn3) O0 ?_
  intro p e s m below meth c T0 hx hby hml hret hlk hnm hs W0
  have W0 : Wk p l e _ s m _ below meth c Z EL0 n0 [] "com/example/grantwork/grantwork/store/EffectOfPinLaw" [] T0 0 0 h0 := W0
  have D := @tk c _ _ hby tk22
  refine Go.of (fun _ kk => castTop (ef7 m ) kk) ?_
  refine W0.pv hx D 0 3 5 [_] [.null] rfl ?_
  exact W0.retA hx hEL hs hlk (by decide +kernel) (by decide +kernel) hret rfl rfl (D 5 rfl) (fun S hS => rfl)
theorem ef0 (m : MethodId) (x0 x1 x2 x3 : Int32) (x4 : Int64)  : entryFrame m #[(.int x0), (.int x1), (.int x2), (.int x3), (.long x4)] maxLocals = mkF m 0 #[vi x0, vi x1, vi x2, vi x3, .val (.long x4), S0, U0, U0, U0, U0, U0, U0] [] := by first | (simp [entryFrame, mkF, argsToLocals, Value.category, maxLocals]; done) | rfl | rfl
set_option maxRecDepth 65536 in
set_option maxHeartbeats 40000000 in
theorem rm0 (B : EV l Z a0 zc fm) (i0 i1 i2 i3 : Int32) (i4 : Int64) (e0 e1 e2 s0 s1 s2 av : Addr) (kv : ClassId) (h0 : Heap) {n0 : Nat} (O0 : Old Z n0 h0) (OE0 : Exa Z Z.heap e0 "com/example/grantwork/grantwork/store/Effect") (OE1 : Exa Z Z.heap e1 "com/example/grantwork/grantwork/store/Effect") (OE2 : Exa Z Z.heap e2 "com/example/grantwork/grantwork/store/Effect") (OF0 : Fld Z Z.heap e0 "com/example/grantwork/grantwork/store/Effect" "mWord" "Ljava/lang/String;" (.ref s0)) (OF1 : Fld Z Z.heap e1 "com/example/grantwork/grantwork/store/Effect" "mWord" "Ljava/lang/String;" (.ref s1)) (OF2 : Fld Z Z.heap e2 "com/example/grantwork/grantwork/store/Effect" "mWord" "Ljava/lang/String;" (.ref s2)) (OS0 : Str Z Z.heap s0 [(97 : Int32), (108 : Int32), (108 : Int32), (111 : Int32), (119 : Int32)]) (OS1 : Str Z Z.heap s1 [(100 : Int32), (101 : Int32), (110 : Int32), (121 : Int32)]) (OS2 : Str Z Z.heap s2 [(108 : Int32), (105 : Int32), (109 : Int32), (105 : Int32), (116 : Int32)]) (OA : Arv Z Z.heap av kv (.object "com/example/grantwork/grantwork/store/Effect") (3 : Int32) [(.ref e0), (.ref e1), (.ref e2)] .null) (OT : Sta Z Z.heap "com/example/grantwork/grantwork/store/Effect" "EFFECTS" "[Lcom/example/grantwork/grantwork/store/Effect;" (.ref av)) (OC0 : Sta Z Z.heap "com/example/grantwork/grantwork/store/Effect" "ALLOW" "Lcom/example/grantwork/grantwork/store/Effect;" (.ref e0)) (OC1 : Sta Z Z.heap "com/example/grantwork/grantwork/store/Effect" "DENY" "Lcom/example/grantwork/grantwork/store/Effect;" (.ref e1)) (OC2 : Sta Z Z.heap "com/example/grantwork/grantwork/store/Effect" "LIMIT" "Lcom/example/grantwork/grantwork/store/Effect;" (.ref e2)) (SA1 : sq0 Z) (SH0 : sq1 Z) (SL8 : sq2 Z) :
    Met l Z EL0 n0 x code maxLocals ret tables_1 room_1 #[(.int i0), (.int i1), (.int i2), (.int i3), (.long i4)] h0 [] [] (fun v h' S => v = some (.int 1)) := by
  obtain ⟨hw, hEL, SC, hzc, SF, rfm⟩ := id B
  refine Met.of (plainFor_of_name pn3) O0 ?_
  intro p e s m below meth c T0 hx hby hml hret hlk hnm hs W0
  have W0 : Wk p l e _ s m _ below meth c Z EL0 n0 [] "com/example/grantwork/grantwork/store/EffectOfPinLaw" [] T0 0 0 h0 := W0
  have D := @tk c _ _ hby tk23
  have hSA := fun d hd => hw d (sa_in d hd)
  have hln := fun d hd => hw d (ln_in d hd)
  have hch := fun d hd => hw d (ch_in d hd)
  refine Go.of (fun _ kk => castTop (ef0 m i0 i1 i2 i3 i4) kk) ?_
  have tl : ∀ (Tt : State) (ht : Heap) (ya yb cht : Int32) (bt rt : Addr) (cst : List Int32), Wk p l e room_1 s m #[(.int i0), (.int i1), (.int i2), (.int i3), (.long i4)] below meth c Z EL0 n0 [] "com/example/grantwork/grantwork/store/EffectOfPinLaw" [] Tt 6 52 ht → Str Z ht rt cst → Go p e below (Fend Z EL0 n0 s h0 [] (fun v h' S => v = some (.int 1)) room_1) (Tt.setTop (mkF m 184 #[vi i0, vi i1, vi i2, vi i3, .val (.long i4), S0, vi ya, vr bt, vi yb, vi cht, vr rt, U0] [(.ref rt)])) := by
    intro Tt ht ya yb cht bt rt cst Wt St
    show Go p e below _ (Tt.setTop (mkF m 184 #[vi i0, vi i1, vi i2, vi i3, .val (.long i4), S0, vi ya, vr bt, vi yb, vi cht, vr rt, U0] [(.ref rt)]))
    refine Wt.callS hx hEL (hw _ (mI 39 rfl)) (hw _ (mI 40 rfl)) (hw _ (mI 41 rfl)) (hw _ (mI 42 rfl)) (by decide +kernel) (argsL := [(.ref rt)]) (rest := []) (rm4 B rt cst e0 e1 e2 s0 s1 s2 av kv ht Wt.old OE0 OE1 OE2 OF0 OF1 OF2 OS0 OS1 OS2 OA OT OC0 OC1 OC2 St) all0 (by decide +kernel) (Wd := 0) (by decide +kernel) (by decide +kernel) (by decide +kernel) all0 rfl (by rw [hml]; rfl) (lenOf pd13 rfl) rfl (by show 2 * 0 + _ ≤ _; exact Nat.le_of_eq rfl) (D 184 rfl) (fun T1 h1 v1 P1 Ws1 K1 q1 => ?_)
    have W1 := Ws1 [] all0
    obtain ⟨wv2, ewv2⟩ : ∃ z, z = wrOf e0 e1 e2 cst := ⟨_, rfl⟩
    have rwv2 : wv2.isRef = true := by rw [ewv2]; exact wrOf_ref e0 e1 e2 _
    rw [← ewv2] at q1
    subst q1
    refine gof T1 m 191 #[vi i0, vi i1, vi i2, vi i3, .val (.long i4), S0, vi ya, vr bt, vi yb, vi cht, vr rt, .val wv2] [wv2] (fun _ kk => XS.astoreS W1.here hx rfl (D 187 rfl) rfl rwv2 (XT.cat1 rwv2) rfl (Or.inl rfl) (XS.aload W1.here hx rfl (D 189 rfl) rfl rwv2 kk)) ?_
    refine W1.pv hx D 191 1 193 [_, _, _, _, _, _, _, _, _, _, _, _] [_, _] rfl ?_
    have k4 := (St.keep0 K1)
    refine W1.callS hx hEL (hw _ (mI 60 rfl)) (hw _ (mI 61 rfl)) (hw _ (mI 11 rfl)) (hw _ (mI 62 rfl)) (by decide +kernel) (argsL := [(.ref rt)]) (rest := [wv2]) (rm6 B rt cst e0 e1 e2 s0 s1 s2 av kv h1 W1.old OE0 OE1 OE2 OF0 OF1 OF2 OS0 OS1 OS2 OA OT OC0 OC1 OC2 k4) all0 (by decide +kernel) (Wd := 1) (by decide +kernel) (by decide +kernel) (by decide +kernel) all0 rfl (by rw [hml]; rfl) (lenOf pd13 rfl) rfl (by show 2 * 0 + (Value.category wv2 + (0)) ≤ 1; rw [XT.cat1 rwv2]; decide) (D 193 rfl) (fun T3 h3 v3 P3 Ws3 K3 q3 => ?_)
    have W3 := Ws3 [] all0
    rw [← ewv2] at q3
    subst q3
    refine gof T3 m 199 #[vi i0, vi i1, vi i2, vi i3, .val (.long i4), S0, vi ya, vr bt, vi yb, vi cht, vr rt, .val wv2] [] (fun _ kk => XT.acmpNo (g := (mkF m 196 #[vi i0, vi i1, vi i2, vi i3, .val (.long i4), S0, vi ya, vr bt, vi yb, vi cht, vr rt, .val wv2] [wv2, wv2])) W3.here hx rfl (D 196 rfl) (x := wv2) (y := wv2) (rest := []) rfl rwv2 rwv2 (XT.aa_ne_f (x := wv2) (y := wv2) rfl) kk) ?_
    refine W3.pv hx D 199 2 204 [_, _, _, _, _, _, _, _, _, _, _, _] [.int 1] rfl ?_
    exact W3.retI hx hEL hs hlk (by decide +kernel) (by decide +kernel) hret (by simp) rfl (D 204 rfl) (fun S hS => rfl)
  refine W0.pv hx D 0 3 3 [_, _, _, _, _, _, _, _, _, _, _, _] [.int (i0 &&& (3 : Int32))] rfl ?_
  rcases and3 i0 with z5 | z5 | z5 | z5
  · rw [z5]
    refine W0.pu hx D 3 [(2, false)] 0 10 [_, _, _, _, _, _, vi 0, _, _, _, _, _] [] rfl ⟨trivial, (XT.i0_ne_f (by decide +kernel))⟩ ?_
    refine W0.ldcC hx hEL (by decide +kernel) (hw _ (mI 0 rfl)) hSA [(.int 97), (.int 108), (.int 108), (.int 111), (.int 119)] (5 : Int32) (by decide +kernel) (by decide +kernel) (by decide +kernel) rfl (D 10 rfl) (n := 20) (by decide +kernel) (by decide +kernel) (by decide +kernel) (by decide +kernel) (fun T6 h6 b6 t6 kb6 W6 K6 E6 Fv6 Fc6 A6 N6 => ?_)
    have S6 : Str Z h6 b6 [(97 : Int32), (108 : Int32), (108 : Int32), (111 : Int32), (119 : Int32)] := ⟨t6, kb6, 0, (5 : Int32), _, E6, Fv6, Fc6, A6, Or.inl ⟨rfl, by decide +kernel, by decide +kernel, by decide +kernel⟩, by decide +kernel, by decide⟩
    refine W6.pv hx D 12 5 34 [_, _, _, _, _, _, _, _, _, _, _, _] [.int (i1 &&& (7 : Int32))] rfl ?_
    rcases and7 i1 with z7 | z7 | z7 | z7 | z7 | z7 | z7 | z7
    · rw [z7]
      refine W6.pv hx D 34 2 37 [_, _, _, _, _, _, _, _, vi 0, _, _, _] [_] rfl ?_
      refine W6.ldcI hx (hw _ (mI 8 rfl)) rfl (D 37 rfl) ?_
      refine W6.pv hx D 39 2 41 [_, _, _, _, _, _, _, _, _, _, _, _] [.int ((i3 &&& (65535 : Int32)).toUInt32.toUInt16.toUInt32.toInt32)] rfl ?_
      obtain ⟨ch, hch, cch⟩ := wide16 (i3 &&& (65535 : Int32))
      rw [hch]
      refine W6.pu hx D 41 [(3, true), (1, false)] 4 184 [_, _, _, _, _, _, _, _, _, _, _, _] [_] rfl ⟨⟨trivial, (XT.ii_ne_t (by decide +kernel))⟩, (XT.i0_ne_f (by decide +kernel))⟩ ?_
      exact tl T6 h6 (0 : Int32) (0 : Int32) ch b6 b6 [(97 : Int32), (108 : Int32), (108 : Int32), (111 : Int32), (119 : Int32)] ((W6.more (by decide +kernel) (by decide +kernel)).sub all0) S6
    · rw [z7]
      refine W6.pv hx D 34 2 37 [_, _, _, _, _, _, _, _, vi 1, _, _, _] [_] rfl ?_
      refine W6.ldcI hx (hw _ (mI 8 rfl)) rfl (D 37 rfl) ?_
      refine W6.pv hx D 39 2 41 [_, _, _, _, _, _, _, _, _, _, _, _] [.int ((i3 &&& (65535 : Int32)).toUInt32.toUInt16.toUInt32.toInt32)] rfl ?_
      obtain ⟨ch, hch, cch⟩ := wide16 (i3 &&& (65535 : Int32))
      rw [hch]
      refine W6.pu hx D 41 [(3, true), (1, true), (2, false)] 2 76 [_, _, _, _, _, _, _, _, _, _, _, _] [_, _] rfl ⟨⟨⟨trivial, (XT.ii_ne_t (by decide +kernel))⟩, (XT.i0_ne_t (by decide +kernel))⟩, (XT.ii_ne_f (by decide +kernel))⟩ ?_
      refine W6.ldcI hx (hw _ (mI 88 rfl)) rfl (D 76 rfl) ?_
      refine W6.pv hx D 78 2 81 [_, _, _, _, _, _, _, _, _, _, _, _] [_, .int (i2 &&& (2147483647 : Int32)), _] rfl ?_
      refine W6.strLen hx hln (hw _ (mI 2 rfl)) SC hzc S6 (hw _ (mI 89 rfl)) (hw _ (mI 90 rfl)) (hw _ (mI 92 rfl)) (hw _ (mI 91 rfl)) (by decide +kernel) (Wd := 2) (by decide +kernel) (by decide +kernel) (by decide +kernel) rfl (by rw [hml]; rfl) rfl (by show 2 * 0 + _ ≤ _; exact Nat.le_of_eq rfl) (D 81 rfl) (fun T8 W8 => ?_)
      show Go p e below _ (T8.setTop (mkF m 84 #[vi i0, vi i1, vi i2, vi i3, .val (.long i4), S0, vi 0, vr b6, vi 1, vi ch, U0, U0] [(.int 5), (.int (i2 &&& (2147483647 : Int32))), (.ref b6)]))
      refine gof T8 m 85 #[vi i0, vi i1, vi i2, vi i3, .val (.long i4), S0, vi 0, vr b6, vi 1, vi ch, U0, U0] [(.int ((i2 &&& (2147483647 : Int32)) % (5 : Int32))), (.ref b6)] (fun _ kk => XS.irem W8.here hx rfl (D 84 rfl) rfl (by decide +kernel) (by rw [irem_eq_mod]; exact kk)) ?_
      refine W8.pv hx D 85 1 87 [_, _, _, _, _, _, _, _, _, _, _, _] [_, _, _] rfl ?_
      refine W8.callS hx hEL (hw _ (mI 99 rfl)) (hw _ (mI 100 rfl)) (hw _ (mI 11 rfl)) (hw _ (mI 101 rfl)) (by decide +kernel) (argsL := [(.ref b6), (.int ((i2 &&& (2147483647 : Int32)) % (5 : Int32))), (.int ch)]) (rest := []) (rm605 B b6 (97 : Int32) (108 : Int32) (108 : Int32) (111 : Int32) (119 : Int32) ((i2 &&& (2147483647 : Int32)) % (5 : Int32)) ch h6 W8.old SA1 SH0 SL8 S6 ⟨by decide, by decide⟩ ⟨by decide, by decide⟩ ⟨by decide, by decide⟩ ⟨by decide, by decide⟩ ⟨by decide, by decide⟩ (mod5p i2) cch) all0 (by decide +kernel) (Wd := 0) (by decide +kernel) (by decide +kernel) (by decide +kernel) all0 rfl (by rw [hml]; rfl) (lenOf pd14 rfl) rfl (by show 2 * 0 + _ ≤ _; exact Nat.le_of_eq rfl) (D 87 rfl) (fun T9 h9 v9 P9 Ws9 K9 q9 => ?_)
      have W9 := Ws9 [] all0
      obtain ⟨r9, cs9, rfl, lr9, S9⟩ := q9
      have gr9 : n0 ≤ r9 ∧ s.heap.size ≤ r9 := ⟨Nat.le_trans W8.n0le lr9, Nat.le_trans W8.s0le lr9⟩
      have E9 := S9.exa
      refine W9.pv hx D 90 3 184 [_, _, _, _, _, _, _, _, _, _, _, _] [_] rfl ?_
      exact tl T9 h9 (0 : Int32) (1 : Int32) ch b6 r9 cs9 ((W9.more (by decide +kernel) (by decide +kernel)).sub all0) S9
    · rw [z7]
      refine W6.pv hx D 34 2 37 [_, _, _, _, _, _, _, _, vi 2, _, _, _] [_] rfl ?_
      refine W6.ldcI hx (hw _ (mI 8 rfl)) rfl (D 37 rfl) ?_
      refine W6.pv hx D 39 2 41 [_, _, _, _, _, _, _, _, _, _, _, _] [.int ((i3 &&& (65535 : Int32)).toUInt32.toUInt16.toUInt32.toInt32)] rfl ?_
      obtain ⟨ch, hch, cch⟩ := wide16 (i3 &&& (65535 : Int32))
      rw [hch]
      refine W6.pu hx D 41 [(3, true), (1, true), (2, true), (2, false)] 1 103 [_, _, _, _, _, _, _, _, _, _, _, _] [_] rfl ⟨⟨⟨⟨trivial, (XT.ii_ne_t (by decide +kernel))⟩, (XT.i0_ne_t (by decide +kernel))⟩, (XT.ii_ne_t (by decide +kernel))⟩, (XT.ii_ne_f (by decide +kernel))⟩ ?_
      refine W6.callS hx hEL (hw _ (mI 145 rfl)) (hw _ (mI 146 rfl)) (hw _ (mI 11 rfl)) (hw _ (mI 147 rfl)) (by decide +kernel) (argsL := [(.long i4)]) (rest := []) (rm635 B i4 h6 W6.old ) all0 (by decide +kernel) (Wd := 0) (by decide +kernel) (by decide +kernel) (by decide +kernel) all0 rfl (by rw [hml]; rfl) (lenOf pd15 rfl) rfl (by show 2 * 0 + _ ≤ _; exact Nat.le_of_eq rfl) (D 103 rfl) (fun T10 h10 v10 P10 Ws10 K10 q10 => ?_)
      have W10 := Ws10 [] all0
      obtain ⟨r10, cs10, rfl, lr10, S10⟩ := q10
      have gr10 : n0 ≤ r10 ∧ s.heap.size ≤ r10 := ⟨Nat.le_trans W6.n0le lr10, Nat.le_trans W6.s0le lr10⟩
      have E10 := S10.exa
      refine W10.pv hx D 106 3 184 [_, _, _, _, _, _, _, _, _, _, _, _] [_] rfl ?_
      exact tl T10 h10 (0 : Int32) (2 : Int32) ch b6 r10 cs10 ((W10.more (by decide +kernel) (by decide +kernel)).sub all0) S10
    · rw [z7]
      refine W6.pv hx D 34 2 37 [_, _, _, _, _, _, _, _, vi 3, _, _, _] [_] rfl ?_
      refine W6.ldcI hx (hw _ (mI 8 rfl)) rfl (D 37 rfl) ?_
      refine W6.pv hx D 39 2 41 [_, _, _, _, _, _, _, _, _, _, _, _] [.int ((i3 &&& (65535 : Int32)).toUInt32.toUInt16.toUInt32.toInt32)] rfl ?_
      obtain ⟨ch, hch, cch⟩ := wide16 (i3 &&& (65535 : Int32))
      rw [hch]
      refine W6.pu hx D 41 [(3, true), (1, true), (2, true), (2, true), (2, false)] 1 119 [_, _, _, _, _, _, _, _, _, _, _, _] [_] rfl ⟨⟨⟨⟨⟨trivial, (XT.ii_ne_t (by decide +kernel))⟩, (XT.i0_ne_t (by decide +kernel))⟩, (XT.ii_ne_t (by decide +kernel))⟩, (XT.ii_ne_t (by decide +kernel))⟩, (XT.ii_ne_f (by decide +kernel))⟩ ?_
      refine W6.callS hx hEL (hw _ (mI 9 rfl)) (hw _ (mI 10 rfl)) (hw _ (mI 11 rfl)) (hw _ (mI 12 rfl)) (by decide +kernel) (argsL := [(.long i4)]) (rest := []) (rm634 B i4 h6 W6.old ) all0 (by decide +kernel) (Wd := 0) (by decide +kernel) (by decide +kernel) (by decide +kernel) all0 rfl (by rw [hml]; rfl) (lenOf pd15 rfl) rfl (by show 2 * 0 + _ ≤ _; exact Nat.le_of_eq rfl) (D 119 rfl) (fun T11 h11 v11 P11 Ws11 K11 q11 => ?_)
      have W11 := Ws11 [] all0
      obtain ⟨r11, cs11, rfl, lr11, S11⟩ := q11
      have gr11 : n0 ≤ r11 ∧ s.heap.size ≤ r11 := ⟨Nat.le_trans W6.n0le lr11, Nat.le_trans W6.s0le lr11⟩
      have E11 := S11.exa
      refine W11.pv hx D 122 3 184 [_, _, _, _, _, _, _, _, _, _, _, _] [_] rfl ?_
      exact tl T11 h11 (0 : Int32) (3 : Int32) ch b6 r11 cs11 ((W11.more (by decide +kernel) (by decide +kernel)).sub all0) S11
    · rw [z7]
      refine W6.pv hx D 34 2 37 [_, _, _, _, _, _, _, _, vi 4, _, _, _] [_] rfl ?_
      refine W6.ldcI hx (hw _ (mI 8 rfl)) rfl (D 37 rfl) ?_
      refine W6.pv hx D 39 2 41 [_, _, _, _, _, _, _, _, _, _, _, _] [.int ((i3 &&& (65535 : Int32)).toUInt32.toUInt16.toUInt32.toInt32)] rfl ?_
      obtain ⟨ch, hch, cch⟩ := wide16 (i3 &&& (65535 : Int32))
      rw [hch]
      refine W6.pu hx D 41 [(3, true), (1, true), (2, true), (2, true), (2, true), (2, false)] 2 137 [_, _, _, _, _, _, _, _, _, _, _, _] [_, _] rfl ⟨⟨⟨⟨⟨⟨trivial, (XT.ii_ne_t (by decide +kernel))⟩, (XT.i0_ne_t (by decide +kernel))⟩, (XT.ii_ne_t (by decide +kernel))⟩, (XT.ii_ne_t (by decide +kernel))⟩, (XT.ii_ne_t (by decide +kernel))⟩, (XT.ii_ne_f (by decide +kernel))⟩ ?_
      refine W6.callS hx hEL (hw _ (mI 128 rfl)) (hw _ (mI 129 rfl)) (hw _ (mI 11 rfl)) (hw _ (mI 130 rfl)) (by decide +kernel) (argsL := [(.ref b6), (.int ch)]) (rest := []) (rm615 B b6 (97 : Int32) (108 : Int32) (108 : Int32) (111 : Int32) (119 : Int32) ch h6 W6.old SA1 SH0 SL8 S6 ⟨by decide, by decide⟩ ⟨by decide, by decide⟩ ⟨by decide, by decide⟩ ⟨by decide, by decide⟩ ⟨by decide, by decide⟩ cch) all0 (by decide +kernel) (Wd := 0) (by decide +kernel) (by decide +kernel) (by decide +kernel) all0 rfl (by rw [hml]; rfl) (lenOf pd16 rfl) rfl (by show 2 * 0 + _ ≤ _; exact Nat.le_of_eq rfl) (D 137 rfl) (fun T12 h12 v12 P12 Ws12 K12 q12 => ?_)
      have W12 := Ws12 [] all0
      obtain ⟨r12, cs12, rfl, lr12, S12⟩ := q12
      have gr12 : n0 ≤ r12 ∧ s.heap.size ≤ r12 := ⟨Nat.le_trans W6.n0le lr12, Nat.le_trans W6.s0le lr12⟩
      have E12 := S12.exa
      refine W12.pv hx D 140 3 184 [_, _, _, _, _, _, _, _, _, _, _, _] [_] rfl ?_
      exact tl T12 h12 (0 : Int32) (4 : Int32) ch b6 r12 cs12 ((W12.more (by decide +kernel) (by decide +kernel)).sub all0) S12
    · rw [z7]
      refine W6.pv hx D 34 2 37 [_, _, _, _, _, _, _, _, vi 5, _, _, _] [_] rfl ?_
      refine W6.ldcI hx (hw _ (mI 8 rfl)) rfl (D 37 rfl) ?_
      refine W6.pv hx D 39 2 41 [_, _, _, _, _, _, _, _, _, _, _, _] [.int ((i3 &&& (65535 : Int32)).toUInt32.toUInt16.toUInt32.toInt32)] rfl ?_
      obtain ⟨ch, hch, cch⟩ := wide16 (i3 &&& (65535 : Int32))
      rw [hch]
      refine W6.pu hx D 41 [(3, true), (1, true), (2, true), (2, true), (2, true), (2, true), (2, false)] 1 153 [_, _, _, _, _, _, _, _, _, _, _, _] [_] rfl ⟨⟨⟨⟨⟨⟨⟨trivial, (XT.ii_ne_t (by decide +kernel))⟩, (XT.i0_ne_t (by decide +kernel))⟩, (XT.ii_ne_t (by decide +kernel))⟩, (XT.ii_ne_t (by decide +kernel))⟩, (XT.ii_ne_t (by decide +kernel))⟩, (XT.ii_ne_t (by decide +kernel))⟩, (XT.ii_ne_f (by decide +kernel))⟩ ?_
      refine W6.callS hx hEL (hw _ (mI 124 rfl)) (hw _ (mI 125 rfl)) (hw _ (mI 11 rfl)) (hw _ (mI 126 rfl)) (by decide +kernel) (argsL := [(.ref b6)]) (rest := []) (rm625 B b6 (97 : Int32) (108 : Int32) (108 : Int32) (111 : Int32) (119 : Int32) h6 W6.old S6 ⟨by decide, by decide⟩ ⟨by decide, by decide⟩ ⟨by decide, by decide⟩ ⟨by decide, by decide⟩ ⟨by decide, by decide⟩) all0 (by decide +kernel) (Wd := 0) (by decide +kernel) (by decide +kernel) (by decide +kernel) all0 rfl (by rw [hml]; rfl) (lenOf pd17 rfl) rfl (by show 2 * 0 + _ ≤ _; exact Nat.le_of_eq rfl) (D 153 rfl) (fun T13 h13 v13 P13 Ws13 K13 q13 => ?_)
      have W13 := Ws13 [] all0
      obtain ⟨r13, cs13, rfl, lr13, S13⟩ := q13
      have gr13 : n0 ≤ r13 ∧ s.heap.size ≤ r13 := ⟨Nat.le_trans W6.n0le lr13, Nat.le_trans W6.s0le lr13⟩
      have E13 := S13.exa
      refine W13.pv hx D 156 3 184 [_, _, _, _, _, _, _, _, _, _, _, _] [_] rfl ?_
      exact tl T13 h13 (0 : Int32) (5 : Int32) ch b6 r13 cs13 ((W13.more (by decide +kernel) (by decide +kernel)).sub all0) S13
    · rw [z7]
      refine W6.pv hx D 34 2 37 [_, _, _, _, _, _, _, _, vi 6, _, _, _] [_] rfl ?_
      refine W6.ldcI hx (hw _ (mI 8 rfl)) rfl (D 37 rfl) ?_
      refine W6.pv hx D 39 2 41 [_, _, _, _, _, _, _, _, _, _, _, _] [.int ((i3 &&& (65535 : Int32)).toUInt32.toUInt16.toUInt32.toInt32)] rfl ?_
      obtain ⟨ch, hch, cch⟩ := wide16 (i3 &&& (65535 : Int32))
      rw [hch]
      refine W6.pu hx D 41 [(3, true), (1, true), (2, true), (2, true), (2, true), (2, true), (2, true), (2, false)] 0 168 [_, _, _, _, _, _, _, _, _, _, _, _] [] rfl ⟨⟨⟨⟨⟨⟨⟨⟨trivial, (XT.ii_ne_t (by decide +kernel))⟩, (XT.i0_ne_t (by decide +kernel))⟩, (XT.ii_ne_t (by decide +kernel))⟩, (XT.ii_ne_t (by decide +kernel))⟩, (XT.ii_ne_t (by decide +kernel))⟩, (XT.ii_ne_t (by decide +kernel))⟩, (XT.ii_ne_t (by decide +kernel))⟩, (XT.ii_ne_f (by decide +kernel))⟩ ?_
      refine W6.ldcC hx hEL (by decide +kernel) (hw _ (mI 123 rfl)) hSA [] (0 : Int32) (by decide +kernel) (by decide +kernel) (by decide +kernel) rfl (D 168 rfl) (n := 0) (by decide +kernel) (by decide +kernel) (by decide +kernel) (by decide +kernel) (fun T14 h14 b14 t14 kb14 W14 K14 E14 Fv14 Fc14 A14 N14 => ?_)
      have S14 : Str Z h14 b14 [] := ⟨t14, kb14, 0, (0 : Int32), _, E14, Fv14, Fc14, A14, Or.inl ⟨rfl, by decide +kernel, by decide +kernel, by decide +kernel⟩, by decide +kernel, by decide⟩
      refine W14.pv hx D 170 3 184 [_, _, _, _, _, _, _, _, _, _, _, _] [_] rfl ?_
      exact tl T14 h14 (0 : Int32) (6 : Int32) ch b6 b14 [] ((W14.more (by decide +kernel) (by decide +kernel)).sub all0) S14
    · rw [z7]
      refine W6.pv hx D 34 2 37 [_, _, _, _, _, _, _, _, vi 7, _, _, _] [_] rfl ?_
      refine W6.ldcI hx (hw _ (mI 8 rfl)) rfl (D 37 rfl) ?_
      refine W6.pv hx D 39 2 41 [_, _, _, _, _, _, _, _, _, _, _, _] [.int ((i3 &&& (65535 : Int32)).toUInt32.toUInt16.toUInt32.toInt32)] rfl ?_
      obtain ⟨ch, hch, cch⟩ := wide16 (i3 &&& (65535 : Int32))
      rw [hch]
      refine W6.pu hx D 41 [(3, true), (1, true), (2, true), (2, true), (2, true), (2, true), (2, true), (2, true)] 1 177 [_, _, _, _, _, _, _, _, _, _, _, _] [_] rfl ⟨⟨⟨⟨⟨⟨⟨⟨trivial, (XT.ii_ne_t (by decide +kernel))⟩, (XT.i0_ne_t (by decide +kernel))⟩, (XT.ii_ne_t (by decide +kernel))⟩, (XT.ii_ne_t (by decide +kernel))⟩, (XT.ii_ne_t (by decide +kernel))⟩, (XT.ii_ne_t (by decide +kernel))⟩, (XT.ii_ne_t (by decide +kernel))⟩, (XT.ii_ne_t (by decide +kernel))⟩ ?_
      by_cases hw15 : (255 : Int32) < ch
      · show Go p e below _ (T6.setTop (mkF m 177 #[vi i0, vi i1, vi i2, vi i3, .val (.long i4), S0, vi 0, vr b6, vi 7, vi ch, U0, U0] [(.int ch)]))
        refine W6.callS hx hEL (hw _ (mI 66 rfl)) (hw _ (mI 67 rfl)) (hw _ (mI 1 rfl)) (hw _ (mI 68 rfl)) (by decide +kernel) (argsL := [(.int ch)]) (rest := []) (rm22 B ch h6 W6.old SA1 SH0 SL8 cch hw15) all0 (by decide +kernel) (Wd := 0) (by decide +kernel) (by decide +kernel) (by decide +kernel) all0 rfl (by rw [hml]; rfl) (lenOf pd18 rfl) rfl (by show 2 * 0 + _ ≤ _; exact Nat.le_of_eq rfl) (D 177 rfl) (fun T16 h16 v16 P16 Ws16 K16 q16 => ?_)
        have W16 := Ws16 [] all0
        obtain ⟨r16, rfl, lr16, S16⟩ := q16
        have gr16 : n0 ≤ r16 ∧ s.heap.size ≤ r16 := ⟨Nat.le_trans W6.n0le lr16, Nat.le_trans W6.s0le lr16⟩
        have E16 := S16.exa
        refine W16.pv hx D 180 2 184 [_, _, _, _, _, _, _, _, _, _, _, _] [_] rfl ?_
        exact tl T16 h16 (0 : Int32) (7 : Int32) ch b6 r16 [ch] ((W16.more (by decide +kernel) (by decide +kernel)).sub all0) S16
      · show Go p e below _ (T6.setTop (mkF m 177 #[vi i0, vi i1, vi i2, vi i3, .val (.long i4), S0, vi 0, vr b6, vi 7, vi ch, U0, U0] [(.int ch)]))
        refine W6.callS hx hEL (hw _ (mI 66 rfl)) (hw _ (mI 67 rfl)) (hw _ (mI 1 rfl)) (hw _ (mI 68 rfl)) (by decide +kernel) (argsL := [(.int ch)]) (rest := []) (rm27 B ch h6 W6.old ⟨cch.1, hw15⟩) all0 (by decide +kernel) (Wd := 0) (by decide +kernel) (by decide +kernel) (by decide +kernel) all0 rfl (by rw [hml]; rfl) (lenOf pd18 rfl) rfl (by show 2 * 0 + _ ≤ _; exact Nat.le_of_eq rfl) (D 177 rfl) (fun T17 h17 v17 P17 Ws17 K17 q17 => ?_)
        have W17 := Ws17 [] all0
        obtain ⟨r17, rfl, lr17, S17⟩ := q17
        have gr17 : n0 ≤ r17 ∧ s.heap.size ≤ r17 := ⟨Nat.le_trans W6.n0le lr17, Nat.le_trans W6.s0le lr17⟩
        have E17 := S17.exa
        refine W17.pv hx D 180 2 184 [_, _, _, _, _, _, _, _, _, _, _, _] [_] rfl ?_
        exact tl T17 h17 (0 : Int32) (7 : Int32) ch b6 r17 [ch] ((W17.more (by decide +kernel) (by decide +kernel)).sub all0) S17
  · rw [z5]
    refine W0.pu hx D 3 [(2, true), (2, false)] 0 21 [_, _, _, _, _, _, vi 1, _, _, _, _, _] [] rfl ⟨⟨trivial, (XT.i0_ne_t (by decide +kernel))⟩, (XT.ii_ne_f (by decide +kernel))⟩ ?_
    refine W0.ldcC hx hEL (by decide +kernel) (hw _ (mI 64 rfl)) hSA [(.int 100), (.int 101), (.int 110), (.int 121)] (4 : Int32) (by decide +kernel) (by decide +kernel) (by decide +kernel) rfl (D 21 rfl) (n := 16) (by decide +kernel) (by decide +kernel) (by decide +kernel) (by decide +kernel) (fun T18 h18 b18 t18 kb18 W18 K18 E18 Fv18 Fc18 A18 N18 => ?_)
    have S18 : Str Z h18 b18 [(100 : Int32), (101 : Int32), (110 : Int32), (121 : Int32)] := ⟨t18, kb18, 0, (4 : Int32), _, E18, Fv18, Fc18, A18, Or.inl ⟨rfl, by decide +kernel, by decide +kernel, by decide +kernel⟩, by decide +kernel, by decide⟩
    refine W18.pv hx D 23 5 34 [_, _, _, _, _, _, _, _, _, _, _, _] [.int (i1 &&& (7 : Int32))] rfl ?_
    rcases and7 i1 with z19 | z19 | z19 | z19 | z19 | z19 | z19 | z19
    · rw [z19]
      refine W18.pv hx D 34 2 37 [_, _, _, _, _, _, _, _, vi 0, _, _, _] [_] rfl ?_
      refine W18.ldcI hx (hw _ (mI 8 rfl)) rfl (D 37 rfl) ?_
      refine W18.pv hx D 39 2 41 [_, _, _, _, _, _, _, _, _, _, _, _] [.int ((i3 &&& (65535 : Int32)).toUInt32.toUInt16.toUInt32.toInt32)] rfl ?_
      obtain ⟨ch, hch, cch⟩ := wide16 (i3 &&& (65535 : Int32))
      rw [hch]
      refine W18.pu hx D 41 [(3, true), (1, false)] 4 184 [_, _, _, _, _, _, _, _, _, _, _, _] [_] rfl ⟨⟨trivial, (XT.ii_ne_t (by decide +kernel))⟩, (XT.i0_ne_f (by decide +kernel))⟩ ?_
      exact tl T18 h18 (1 : Int32) (0 : Int32) ch b18 b18 [(100 : Int32), (101 : Int32), (110 : Int32), (121 : Int32)] ((W18.more (by decide +kernel) (by decide +kernel)).sub all0) S18
    · rw [z19]
      refine W18.pv hx D 34 2 37 [_, _, _, _, _, _, _, _, vi 1, _, _, _] [_] rfl ?_
      refine W18.ldcI hx (hw _ (mI 8 rfl)) rfl (D 37 rfl) ?_
      refine W18.pv hx D 39 2 41 [_, _, _, _, _, _, _, _, _, _, _, _] [.int ((i3 &&& (65535 : Int32)).toUInt32.toUInt16.toUInt32.toInt32)] rfl ?_
      obtain ⟨ch, hch, cch⟩ := wide16 (i3 &&& (65535 : Int32))
      rw [hch]
      refine W18.pu hx D 41 [(3, true), (1, true), (2, false)] 2 76 [_, _, _, _, _, _, _, _, _, _, _, _] [_, _] rfl ⟨⟨⟨trivial, (XT.ii_ne_t (by decide +kernel))⟩, (XT.i0_ne_t (by decide +kernel))⟩, (XT.ii_ne_f (by decide +kernel))⟩ ?_
      refine W18.ldcI hx (hw _ (mI 88 rfl)) rfl (D 76 rfl) ?_
      refine W18.pv hx D 78 2 81 [_, _, _, _, _, _, _, _, _, _, _, _] [_, .int (i2 &&& (2147483647 : Int32)), _] rfl ?_
      refine W18.strLen hx hln (hw _ (mI 2 rfl)) SC hzc S18 (hw _ (mI 89 rfl)) (hw _ (mI 90 rfl)) (hw _ (mI 92 rfl)) (hw _ (mI 91 rfl)) (by decide +kernel) (Wd := 2) (by decide +kernel) (by decide +kernel) (by decide +kernel) rfl (by rw [hml]; rfl) rfl (by show 2 * 0 + _ ≤ _; exact Nat.le_of_eq rfl) (D 81 rfl) (fun T20 W20 => ?_)
      show Go p e below _ (T20.setTop (mkF m 84 #[vi i0, vi i1, vi i2, vi i3, .val (.long i4), S0, vi 1, vr b18, vi 1, vi ch, U0, U0] [(.int 4), (.int (i2 &&& (2147483647 : Int32))), (.ref b18)]))
      refine gof T20 m 85 #[vi i0, vi i1, vi i2, vi i3, .val (.long i4), S0, vi 1, vr b18, vi 1, vi ch, U0, U0] [(.int ((i2 &&& (2147483647 : Int32)) % (4 : Int32))), (.ref b18)] (fun _ kk => XS.irem W20.here hx rfl (D 84 rfl) rfl (by decide +kernel) (by rw [irem_eq_mod]; exact kk)) ?_
      refine W20.pv hx D 85 1 87 [_, _, _, _, _, _, _, _, _, _, _, _] [_, _, _] rfl ?_
      refine W20.callS hx hEL (hw _ (mI 99 rfl)) (hw _ (mI 100 rfl)) (hw _ (mI 11 rfl)) (hw _ (mI 101 rfl)) (by decide +kernel) (argsL := [(.ref b18), (.int ((i2 &&& (2147483647 : Int32)) % (4 : Int32))), (.int ch)]) (rest := []) (rm604 B b18 (100 : Int32) (101 : Int32) (110 : Int32) (121 : Int32) ((i2 &&& (2147483647 : Int32)) % (4 : Int32)) ch h18 W20.old SA1 SH0 SL8 S18 ⟨by decide, by decide⟩ ⟨by decide, by decide⟩ ⟨by decide, by decide⟩ ⟨by decide, by decide⟩ (mod4p i2) cch) all0 (by decide +kernel) (Wd := 0) (by decide +kernel) (by decide +kernel) (by decide +kernel) all0 rfl (by rw [hml]; rfl) (lenOf pd14 rfl) rfl (by show 2 * 0 + _ ≤ _; exact Nat.le_of_eq rfl) (D 87 rfl) (fun T21 h21 v21 P21 Ws21 K21 q21 => ?_)
      have W21 := Ws21 [] all0
      obtain ⟨r21, cs21, rfl, lr21, S21⟩ := q21
      have gr21 : n0 ≤ r21 ∧ s.heap.size ≤ r21 := ⟨Nat.le_trans W20.n0le lr21, Nat.le_trans W20.s0le lr21⟩
      have E21 := S21.exa
      refine W21.pv hx D 90 3 184 [_, _, _, _, _, _, _, _, _, _, _, _] [_] rfl ?_
      exact tl T21 h21 (1 : Int32) (1 : Int32) ch b18 r21 cs21 ((W21.more (by decide +kernel) (by decide +kernel)).sub all0) S21
    · rw [z19]
      refine W18.pv hx D 34 2 37 [_, _, _, _, _, _, _, _, vi 2, _, _, _] [_] rfl ?_
      refine W18.ldcI hx (hw _ (mI 8 rfl)) rfl (D 37 rfl) ?_
      refine W18.pv hx D 39 2 41 [_, _, _, _, _, _, _, _, _, _, _, _] [.int ((i3 &&& (65535 : Int32)).toUInt32.toUInt16.toUInt32.toInt32)] rfl ?_
      obtain ⟨ch, hch, cch⟩ := wide16 (i3 &&& (65535 : Int32))
      rw [hch]
      refine W18.pu hx D 41 [(3, true), (1, true), (2, true), (2, false)] 1 103 [_, _, _, _, _, _, _, _, _, _, _, _] [_] rfl ⟨⟨⟨⟨trivial, (XT.ii_ne_t (by decide +kernel))⟩, (XT.i0_ne_t (by decide +kernel))⟩, (XT.ii_ne_t (by decide +kernel))⟩, (XT.ii_ne_f (by decide +kernel))⟩ ?_
      refine W18.callS hx hEL (hw _ (mI 145 rfl)) (hw _ (mI 146 rfl)) (hw _ (mI 11 rfl)) (hw _ (mI 147 rfl)) (by decide +kernel) (argsL := [(.long i4)]) (rest := []) (rm635 B i4 h18 W18.old ) all0 (by decide +kernel) (Wd := 0) (by decide +kernel) (by decide +kernel) (by decide +kernel) all0 rfl (by rw [hml]; rfl) (lenOf pd15 rfl) rfl (by show 2 * 0 + _ ≤ _; exact Nat.le_of_eq rfl) (D 103 rfl) (fun T22 h22 v22 P22 Ws22 K22 q22 => ?_)
      have W22 := Ws22 [] all0
      obtain ⟨r22, cs22, rfl, lr22, S22⟩ := q22
      have gr22 : n0 ≤ r22 ∧ s.heap.size ≤ r22 := ⟨Nat.le_trans W18.n0le lr22, Nat.le_trans W18.s0le lr22⟩
      have E22 := S22.exa
      refine W22.pv hx D 106 3 184 [_, _, _, _, _, _, _, _, _, _, _, _] [_] rfl ?_
      exact tl T22 h22 (1 : Int32) (2 : Int32) ch b18 r22 cs22 ((W22.more (by decide +kernel) (by decide +kernel)).sub all0) S22
    · rw [z19]
      refine W18.pv hx D 34 2 37 [_, _, _, _, _, _, _, _, vi 3, _, _, _] [_] rfl ?_
      refine W18.ldcI hx (hw _ (mI 8 rfl)) rfl (D 37 rfl) ?_
      refine W18.pv hx D 39 2 41 [_, _, _, _, _, _, _, _, _, _, _, _] [.int ((i3 &&& (65535 : Int32)).toUInt32.toUInt16.toUInt32.toInt32)] rfl ?_
      obtain ⟨ch, hch, cch⟩ := wide16 (i3 &&& (65535 : Int32))
      rw [hch]
      refine W18.pu hx D 41 [(3, true), (1, true), (2, true), (2, true), (2, false)] 1 119 [_, _, _, _, _, _, _, _, _, _, _, _] [_] rfl ⟨⟨⟨⟨⟨trivial, (XT.ii_ne_t (by decide +kernel))⟩, (XT.i0_ne_t (by decide +kernel))⟩, (XT.ii_ne_t (by decide +kernel))⟩, (XT.ii_ne_t (by decide +kernel))⟩, (XT.ii_ne_f (by decide +kernel))⟩ ?_
      refine W18.callS hx hEL (hw _ (mI 9 rfl)) (hw _ (mI 10 rfl)) (hw _ (mI 11 rfl)) (hw _ (mI 12 rfl)) (by decide +kernel) (argsL := [(.long i4)]) (rest := []) (rm634 B i4 h18 W18.old ) all0 (by decide +kernel) (Wd := 0) (by decide +kernel) (by decide +kernel) (by decide +kernel) all0 rfl (by rw [hml]; rfl) (lenOf pd15 rfl) rfl (by show 2 * 0 + _ ≤ _; exact Nat.le_of_eq rfl) (D 119 rfl) (fun T23 h23 v23 P23 Ws23 K23 q23 => ?_)
      have W23 := Ws23 [] all0
      obtain ⟨r23, cs23, rfl, lr23, S23⟩ := q23
      have gr23 : n0 ≤ r23 ∧ s.heap.size ≤ r23 := ⟨Nat.le_trans W18.n0le lr23, Nat.le_trans W18.s0le lr23⟩
      have E23 := S23.exa
      refine W23.pv hx D 122 3 184 [_, _, _, _, _, _, _, _, _, _, _, _] [_] rfl ?_
      exact tl T23 h23 (1 : Int32) (3 : Int32) ch b18 r23 cs23 ((W23.more (by decide +kernel) (by decide +kernel)).sub all0) S23
    · rw [z19]
      refine W18.pv hx D 34 2 37 [_, _, _, _, _, _, _, _, vi 4, _, _, _] [_] rfl ?_
      refine W18.ldcI hx (hw _ (mI 8 rfl)) rfl (D 37 rfl) ?_
      refine W18.pv hx D 39 2 41 [_, _, _, _, _, _, _, _, _, _, _, _] [.int ((i3 &&& (65535 : Int32)).toUInt32.toUInt16.toUInt32.toInt32)] rfl ?_
      obtain ⟨ch, hch, cch⟩ := wide16 (i3 &&& (65535 : Int32))
      rw [hch]
      refine W18.pu hx D 41 [(3, true), (1, true), (2, true), (2, true), (2, true), (2, false)] 2 137 [_, _, _, _, _, _, _, _, _, _, _, _] [_, _] rfl ⟨⟨⟨⟨⟨⟨trivial, (XT.ii_ne_t (by decide +kernel))⟩, (XT.i0_ne_t (by decide +kernel))⟩, (XT.ii_ne_t (by decide +kernel))⟩, (XT.ii_ne_t (by decide +kernel))⟩, (XT.ii_ne_t (by decide +kernel))⟩, (XT.ii_ne_f (by decide +kernel))⟩ ?_
      refine W18.callS hx hEL (hw _ (mI 128 rfl)) (hw _ (mI 129 rfl)) (hw _ (mI 11 rfl)) (hw _ (mI 130 rfl)) (by decide +kernel) (argsL := [(.ref b18), (.int ch)]) (rest := []) (rm614 B b18 (100 : Int32) (101 : Int32) (110 : Int32) (121 : Int32) ch h18 W18.old SA1 SH0 SL8 S18 ⟨by decide, by decide⟩ ⟨by decide, by decide⟩ ⟨by decide, by decide⟩ ⟨by decide, by decide⟩ cch) all0 (by decide +kernel) (Wd := 0) (by decide +kernel) (by decide +kernel) (by decide +kernel) all0 rfl (by rw [hml]; rfl) (lenOf pd16 rfl) rfl (by show 2 * 0 + _ ≤ _; exact Nat.le_of_eq rfl) (D 137 rfl) (fun T24 h24 v24 P24 Ws24 K24 q24 => ?_)
      have W24 := Ws24 [] all0
      obtain ⟨r24, cs24, rfl, lr24, S24⟩ := q24
      have gr24 : n0 ≤ r24 ∧ s.heap.size ≤ r24 := ⟨Nat.le_trans W18.n0le lr24, Nat.le_trans W18.s0le lr24⟩
      have E24 := S24.exa
      refine W24.pv hx D 140 3 184 [_, _, _, _, _, _, _, _, _, _, _, _] [_] rfl ?_
      exact tl T24 h24 (1 : Int32) (4 : Int32) ch b18 r24 cs24 ((W24.more (by decide +kernel) (by decide +kernel)).sub all0) S24
    · rw [z19]
      refine W18.pv hx D 34 2 37 [_, _, _, _, _, _, _, _, vi 5, _, _, _] [_] rfl ?_
      refine W18.ldcI hx (hw _ (mI 8 rfl)) rfl (D 37 rfl) ?_
      refine W18.pv hx D 39 2 41 [_, _, _, _, _, _, _, _, _, _, _, _] [.int ((i3 &&& (65535 : Int32)).toUInt32.toUInt16.toUInt32.toInt32)] rfl ?_
      obtain ⟨ch, hch, cch⟩ := wide16 (i3 &&& (65535 : Int32))
      rw [hch]
      refine W18.pu hx D 41 [(3, true), (1, true), (2, true), (2, true), (2, true), (2, true), (2, false)] 1 153 [_, _, _, _, _, _, _, _, _, _, _, _] [_] rfl ⟨⟨⟨⟨⟨⟨⟨trivial, (XT.ii_ne_t (by decide +kernel))⟩, (XT.i0_ne_t (by decide +kernel))⟩, (XT.ii_ne_t (by decide +kernel))⟩, (XT.ii_ne_t (by decide +kernel))⟩, (XT.ii_ne_t (by decide +kernel))⟩, (XT.ii_ne_t (by decide +kernel))⟩, (XT.ii_ne_f (by decide +kernel))⟩ ?_
      refine W18.callS hx hEL (hw _ (mI 124 rfl)) (hw _ (mI 125 rfl)) (hw _ (mI 11 rfl)) (hw _ (mI 126 rfl)) (by decide +kernel) (argsL := [(.ref b18)]) (rest := []) (rm624 B b18 (100 : Int32) (101 : Int32) (110 : Int32) (121 : Int32) h18 W18.old S18 ⟨by decide, by decide⟩ ⟨by decide, by decide⟩ ⟨by decide, by decide⟩ ⟨by decide, by decide⟩) all0 (by decide +kernel) (Wd := 0) (by decide +kernel) (by decide +kernel) (by decide +kernel) all0 rfl (by rw [hml]; rfl) (lenOf pd17 rfl) rfl (by show 2 * 0 + _ ≤ _; exact Nat.le_of_eq rfl) (D 153 rfl) (fun T25 h25 v25 P25 Ws25 K25 q25 => ?_)
      have W25 := Ws25 [] all0
      obtain ⟨r25, cs25, rfl, lr25, S25⟩ := q25
      have gr25 : n0 ≤ r25 ∧ s.heap.size ≤ r25 := ⟨Nat.le_trans W18.n0le lr25, Nat.le_trans W18.s0le lr25⟩
      have E25 := S25.exa
      refine W25.pv hx D 156 3 184 [_, _, _, _, _, _, _, _, _, _, _, _] [_] rfl ?_
      exact tl T25 h25 (1 : Int32) (5 : Int32) ch b18 r25 cs25 ((W25.more (by decide +kernel) (by decide +kernel)).sub all0) S25
    · rw [z19]
      refine W18.pv hx D 34 2 37 [_, _, _, _, _, _, _, _, vi 6, _, _, _] [_] rfl ?_
      refine W18.ldcI hx (hw _ (mI 8 rfl)) rfl (D 37 rfl) ?_
      refine W18.pv hx D 39 2 41 [_, _, _, _, _, _, _, _, _, _, _, _] [.int ((i3 &&& (65535 : Int32)).toUInt32.toUInt16.toUInt32.toInt32)] rfl ?_
      obtain ⟨ch, hch, cch⟩ := wide16 (i3 &&& (65535 : Int32))
      rw [hch]
      refine W18.pu hx D 41 [(3, true), (1, true), (2, true), (2, true), (2, true), (2, true), (2, true), (2, false)] 0 168 [_, _, _, _, _, _, _, _, _, _, _, _] [] rfl ⟨⟨⟨⟨⟨⟨⟨⟨trivial, (XT.ii_ne_t (by decide +kernel))⟩, (XT.i0_ne_t (by decide +kernel))⟩, (XT.ii_ne_t (by decide +kernel))⟩, (XT.ii_ne_t (by decide +kernel))⟩, (XT.ii_ne_t (by decide +kernel))⟩, (XT.ii_ne_t (by decide +kernel))⟩, (XT.ii_ne_t (by decide +kernel))⟩, (XT.ii_ne_f (by decide +kernel))⟩ ?_
      refine W18.ldcC hx hEL (by decide +kernel) (hw _ (mI 123 rfl)) hSA [] (0 : Int32) (by decide +kernel) (by decide +kernel) (by decide +kernel) rfl (D 168 rfl) (n := 0) (by decide +kernel) (by decide +kernel) (by decide +kernel) (by decide +kernel) (fun T26 h26 b26 t26 kb26 W26 K26 E26 Fv26 Fc26 A26 N26 => ?_)
      have S26 : Str Z h26 b26 [] := ⟨t26, kb26, 0, (0 : Int32), _, E26, Fv26, Fc26, A26, Or.inl ⟨rfl, by decide +kernel, by decide +kernel, by decide +kernel⟩, by decide +kernel, by decide⟩
      refine W26.pv hx D 170 3 184 [_, _, _, _, _, _, _, _, _, _, _, _] [_] rfl ?_
      exact tl T26 h26 (1 : Int32) (6 : Int32) ch b18 b26 [] ((W26.more (by decide +kernel) (by decide +kernel)).sub all0) S26
    · rw [z19]
      refine W18.pv hx D 34 2 37 [_, _, _, _, _, _, _, _, vi 7, _, _, _] [_] rfl ?_
      refine W18.ldcI hx (hw _ (mI 8 rfl)) rfl (D 37 rfl) ?_
      refine W18.pv hx D 39 2 41 [_, _, _, _, _, _, _, _, _, _, _, _] [.int ((i3 &&& (65535 : Int32)).toUInt32.toUInt16.toUInt32.toInt32)] rfl ?_
      obtain ⟨ch, hch, cch⟩ := wide16 (i3 &&& (65535 : Int32))
      rw [hch]
      refine W18.pu hx D 41 [(3, true), (1, true), (2, true), (2, true), (2, true), (2, true), (2, true), (2, true)] 1 177 [_, _, _, _, _, _, _, _, _, _, _, _] [_] rfl ⟨⟨⟨⟨⟨⟨⟨⟨trivial, (XT.ii_ne_t (by decide +kernel))⟩, (XT.i0_ne_t (by decide +kernel))⟩, (XT.ii_ne_t (by decide +kernel))⟩, (XT.ii_ne_t (by decide +kernel))⟩, (XT.ii_ne_t (by decide +kernel))⟩, (XT.ii_ne_t (by decide +kernel))⟩, (XT.ii_ne_t (by decide +kernel))⟩, (XT.ii_ne_t (by decide +kernel))⟩ ?_
      by_cases hw27 : (255 : Int32) < ch
      · show Go p e below _ (T18.setTop (mkF m 177 #[vi i0, vi i1, vi i2, vi i3, .val (.long i4), S0, vi 1, vr b18, vi 7, vi ch, U0, U0] [(.int ch)]))
        refine W18.callS hx hEL (hw _ (mI 66 rfl)) (hw _ (mI 67 rfl)) (hw _ (mI 1 rfl)) (hw _ (mI 68 rfl)) (by decide +kernel) (argsL := [(.int ch)]) (rest := []) (rm22 B ch h18 W18.old SA1 SH0 SL8 cch hw27) all0 (by decide +kernel) (Wd := 0) (by decide +kernel) (by decide +kernel) (by decide +kernel) all0 rfl (by rw [hml]; rfl) (lenOf pd18 rfl) rfl (by show 2 * 0 + _ ≤ _; exact Nat.le_of_eq rfl) (D 177 rfl) (fun T28 h28 v28 P28 Ws28 K28 q28 => ?_)
        have W28 := Ws28 [] all0
        obtain ⟨r28, rfl, lr28, S28⟩ := q28
        have gr28 : n0 ≤ r28 ∧ s.heap.size ≤ r28 := ⟨Nat.le_trans W18.n0le lr28, Nat.le_trans W18.s0le lr28⟩
        have E28 := S28.exa
        refine W28.pv hx D 180 2 184 [_, _, _, _, _, _, _, _, _, _, _, _] [_] rfl ?_
        exact tl T28 h28 (1 : Int32) (7 : Int32) ch b18 r28 [ch] ((W28.more (by decide +kernel) (by decide +kernel)).sub all0) S28
      · show Go p e below _ (T18.setTop (mkF m 177 #[vi i0, vi i1, vi i2, vi i3, .val (.long i4), S0, vi 1, vr b18, vi 7, vi ch, U0, U0] [(.int ch)]))
        refine W18.callS hx hEL (hw _ (mI 66 rfl)) (hw _ (mI 67 rfl)) (hw _ (mI 1 rfl)) (hw _ (mI 68 rfl)) (by decide +kernel) (argsL := [(.int ch)]) (rest := []) (rm27 B ch h18 W18.old ⟨cch.1, hw27⟩) all0 (by decide +kernel) (Wd := 0) (by decide +kernel) (by decide +kernel) (by decide +kernel) all0 rfl (by rw [hml]; rfl) (lenOf pd18 rfl) rfl (by show 2 * 0 + _ ≤ _; exact Nat.le_of_eq rfl) (D 177 rfl) (fun T29 h29 v29 P29 Ws29 K29 q29 => ?_)
        have W29 := Ws29 [] all0
        obtain ⟨r29, rfl, lr29, S29⟩ := q29
        have gr29 : n0 ≤ r29 ∧ s.heap.size ≤ r29 := ⟨Nat.le_trans W18.n0le lr29, Nat.le_trans W18.s0le lr29⟩
        have E29 := S29.exa
        refine W29.pv hx D 180 2 184 [_, _, _, _, _, _, _, _, _, _, _, _] [_] rfl ?_
        exact tl T29 h29 (1 : Int32) (7 : Int32) ch b18 r29 [ch] ((W29.more (by decide +kernel) (by decide +kernel)).sub all0) S29
  · rw [z5]
    refine W0.pu hx D 3 [(2, true), (2, true)] 0 26 [_, _, _, _, _, _, vi 2, _, _, _, _, _] [] rfl ⟨⟨trivial, (XT.i0_ne_t (by decide +kernel))⟩, (XT.ii_ne_t (by decide +kernel))⟩ ?_
    refine W0.ldcC hx hEL (by decide +kernel) (hw _ (mI 65 rfl)) hSA [(.int 108), (.int 105), (.int 109), (.int 105), (.int 116)] (5 : Int32) (by decide +kernel) (by decide +kernel) (by decide +kernel) rfl (D 26 rfl) (n := 20) (by decide +kernel) (by decide +kernel) (by decide +kernel) (by decide +kernel) (fun T30 h30 b30 t30 kb30 W30 K30 E30 Fv30 Fc30 A30 N30 => ?_)
    have S30 : Str Z h30 b30 [(108 : Int32), (105 : Int32), (109 : Int32), (105 : Int32), (116 : Int32)] := ⟨t30, kb30, 0, (5 : Int32), _, E30, Fv30, Fc30, A30, Or.inl ⟨rfl, by decide +kernel, by decide +kernel, by decide +kernel⟩, by decide +kernel, by decide⟩
    refine W30.pv hx D 28 4 34 [_, _, _, _, _, _, _, _, _, _, _, _] [.int (i1 &&& (7 : Int32))] rfl ?_
    rcases and7 i1 with z31 | z31 | z31 | z31 | z31 | z31 | z31 | z31
    · rw [z31]
      refine W30.pv hx D 34 2 37 [_, _, _, _, _, _, _, _, vi 0, _, _, _] [_] rfl ?_
      refine W30.ldcI hx (hw _ (mI 8 rfl)) rfl (D 37 rfl) ?_
      refine W30.pv hx D 39 2 41 [_, _, _, _, _, _, _, _, _, _, _, _] [.int ((i3 &&& (65535 : Int32)).toUInt32.toUInt16.toUInt32.toInt32)] rfl ?_
      obtain ⟨ch, hch, cch⟩ := wide16 (i3 &&& (65535 : Int32))
      rw [hch]
      refine W30.pu hx D 41 [(3, true), (1, false)] 4 184 [_, _, _, _, _, _, _, _, _, _, _, _] [_] rfl ⟨⟨trivial, (XT.ii_ne_t (by decide +kernel))⟩, (XT.i0_ne_f (by decide +kernel))⟩ ?_
      exact tl T30 h30 (2 : Int32) (0 : Int32) ch b30 b30 [(108 : Int32), (105 : Int32), (109 : Int32), (105 : Int32), (116 : Int32)] ((W30.more (by decide +kernel) (by decide +kernel)).sub all0) S30
    · rw [z31]
      refine W30.pv hx D 34 2 37 [_, _, _, _, _, _, _, _, vi 1, _, _, _] [_] rfl ?_
      refine W30.ldcI hx (hw _ (mI 8 rfl)) rfl (D 37 rfl) ?_
      refine W30.pv hx D 39 2 41 [_, _, _, _, _, _, _, _, _, _, _, _] [.int ((i3 &&& (65535 : Int32)).toUInt32.toUInt16.toUInt32.toInt32)] rfl ?_
      obtain ⟨ch, hch, cch⟩ := wide16 (i3 &&& (65535 : Int32))
      rw [hch]
      refine W30.pu hx D 41 [(3, true), (1, true), (2, false)] 2 76 [_, _, _, _, _, _, _, _, _, _, _, _] [_, _] rfl ⟨⟨⟨trivial, (XT.ii_ne_t (by decide +kernel))⟩, (XT.i0_ne_t (by decide +kernel))⟩, (XT.ii_ne_f (by decide +kernel))⟩ ?_
      refine W30.ldcI hx (hw _ (mI 88 rfl)) rfl (D 76 rfl) ?_
      refine W30.pv hx D 78 2 81 [_, _, _, _, _, _, _, _, _, _, _, _] [_, .int (i2 &&& (2147483647 : Int32)), _] rfl ?_
      refine W30.strLen hx hln (hw _ (mI 2 rfl)) SC hzc S30 (hw _ (mI 89 rfl)) (hw _ (mI 90 rfl)) (hw _ (mI 92 rfl)) (hw _ (mI 91 rfl)) (by decide +kernel) (Wd := 2) (by decide +kernel) (by decide +kernel) (by decide +kernel) rfl (by rw [hml]; rfl) rfl (by show 2 * 0 + _ ≤ _; exact Nat.le_of_eq rfl) (D 81 rfl) (fun T32 W32 => ?_)
      show Go p e below _ (T32.setTop (mkF m 84 #[vi i0, vi i1, vi i2, vi i3, .val (.long i4), S0, vi 2, vr b30, vi 1, vi ch, U0, U0] [(.int 5), (.int (i2 &&& (2147483647 : Int32))), (.ref b30)]))
      refine gof T32 m 85 #[vi i0, vi i1, vi i2, vi i3, .val (.long i4), S0, vi 2, vr b30, vi 1, vi ch, U0, U0] [(.int ((i2 &&& (2147483647 : Int32)) % (5 : Int32))), (.ref b30)] (fun _ kk => XS.irem W32.here hx rfl (D 84 rfl) rfl (by decide +kernel) (by rw [irem_eq_mod]; exact kk)) ?_
      refine W32.pv hx D 85 1 87 [_, _, _, _, _, _, _, _, _, _, _, _] [_, _, _] rfl ?_
      refine W32.callS hx hEL (hw _ (mI 99 rfl)) (hw _ (mI 100 rfl)) (hw _ (mI 11 rfl)) (hw _ (mI 101 rfl)) (by decide +kernel) (argsL := [(.ref b30), (.int ((i2 &&& (2147483647 : Int32)) % (5 : Int32))), (.int ch)]) (rest := []) (rm605 B b30 (108 : Int32) (105 : Int32) (109 : Int32) (105 : Int32) (116 : Int32) ((i2 &&& (2147483647 : Int32)) % (5 : Int32)) ch h30 W32.old SA1 SH0 SL8 S30 ⟨by decide, by decide⟩ ⟨by decide, by decide⟩ ⟨by decide, by decide⟩ ⟨by decide, by decide⟩ ⟨by decide, by decide⟩ (mod5p i2) cch) all0 (by decide +kernel) (Wd := 0) (by decide +kernel) (by decide +kernel) (by decide +kernel) all0 rfl (by rw [hml]; rfl) (lenOf pd14 rfl) rfl (by show 2 * 0 + _ ≤ _; exact Nat.le_of_eq rfl) (D 87 rfl) (fun T33 h33 v33 P33 Ws33 K33 q33 => ?_)
      have W33 := Ws33 [] all0
      obtain ⟨r33, cs33, rfl, lr33, S33⟩ := q33
      have gr33 : n0 ≤ r33 ∧ s.heap.size ≤ r33 := ⟨Nat.le_trans W32.n0le lr33, Nat.le_trans W32.s0le lr33⟩
      have E33 := S33.exa
      refine W33.pv hx D 90 3 184 [_, _, _, _, _, _, _, _, _, _, _, _] [_] rfl ?_
      exact tl T33 h33 (2 : Int32) (1 : Int32) ch b30 r33 cs33 ((W33.more (by decide +kernel) (by decide +kernel)).sub all0) S33
    · rw [z31]
      refine W30.pv hx D 34 2 37 [_, _, _, _, _, _, _, _, vi 2, _, _, _] [_] rfl ?_
      refine W30.ldcI hx (hw _ (mI 8 rfl)) rfl (D 37 rfl) ?_
      refine W30.pv hx D 39 2 41 [_, _, _, _, _, _, _, _, _, _, _, _] [.int ((i3 &&& (65535 : Int32)).toUInt32.toUInt16.toUInt32.toInt32)] rfl ?_
      obtain ⟨ch, hch, cch⟩ := wide16 (i3 &&& (65535 : Int32))
      rw [hch]
      refine W30.pu hx D 41 [(3, true), (1, true), (2, true), (2, false)] 1 103 [_, _, _, _, _, _, _, _, _, _, _, _] [_] rfl ⟨⟨⟨⟨trivial, (XT.ii_ne_t (by decide +kernel))⟩, (XT.i0_ne_t (by decide +kernel))⟩, (XT.ii_ne_t (by decide +kernel))⟩, (XT.ii_ne_f (by decide +kernel))⟩ ?_
      refine W30.callS hx hEL (hw _ (mI 145 rfl)) (hw _ (mI 146 rfl)) (hw _ (mI 11 rfl)) (hw _ (mI 147 rfl)) (by decide +kernel) (argsL := [(.long i4)]) (rest := []) (rm635 B i4 h30 W30.old ) all0 (by decide +kernel) (Wd := 0) (by decide +kernel) (by decide +kernel) (by decide +kernel) all0 rfl (by rw [hml]; rfl) (lenOf pd15 rfl) rfl (by show 2 * 0 + _ ≤ _; exact Nat.le_of_eq rfl) (D 103 rfl) (fun T34 h34 v34 P34 Ws34 K34 q34 => ?_)
      have W34 := Ws34 [] all0
      obtain ⟨r34, cs34, rfl, lr34, S34⟩ := q34
      have gr34 : n0 ≤ r34 ∧ s.heap.size ≤ r34 := ⟨Nat.le_trans W30.n0le lr34, Nat.le_trans W30.s0le lr34⟩
      have E34 := S34.exa
      refine W34.pv hx D 106 3 184 [_, _, _, _, _, _, _, _, _, _, _, _] [_] rfl ?_
      exact tl T34 h34 (2 : Int32) (2 : Int32) ch b30 r34 cs34 ((W34.more (by decide +kernel) (by decide +kernel)).sub all0) S34
    · rw [z31]
      refine W30.pv hx D 34 2 37 [_, _, _, _, _, _, _, _, vi 3, _, _, _] [_] rfl ?_
      refine W30.ldcI hx (hw _ (mI 8 rfl)) rfl (D 37 rfl) ?_
      refine W30.pv hx D 39 2 41 [_, _, _, _, _, _, _, _, _, _, _, _] [.int ((i3 &&& (65535 : Int32)).toUInt32.toUInt16.toUInt32.toInt32)] rfl ?_
      obtain ⟨ch, hch, cch⟩ := wide16 (i3 &&& (65535 : Int32))
      rw [hch]
      refine W30.pu hx D 41 [(3, true), (1, true), (2, true), (2, true), (2, false)] 1 119 [_, _, _, _, _, _, _, _, _, _, _, _] [_] rfl ⟨⟨⟨⟨⟨trivial, (XT.ii_ne_t (by decide +kernel))⟩, (XT.i0_ne_t (by decide +kernel))⟩, (XT.ii_ne_t (by decide +kernel))⟩, (XT.ii_ne_t (by decide +kernel))⟩, (XT.ii_ne_f (by decide +kernel))⟩ ?_
      refine W30.callS hx hEL (hw _ (mI 9 rfl)) (hw _ (mI 10 rfl)) (hw _ (mI 11 rfl)) (hw _ (mI 12 rfl)) (by decide +kernel) (argsL := [(.long i4)]) (rest := []) (rm634 B i4 h30 W30.old ) all0 (by decide +kernel) (Wd := 0) (by decide +kernel) (by decide +kernel) (by decide +kernel) all0 rfl (by rw [hml]; rfl) (lenOf pd15 rfl) rfl (by show 2 * 0 + _ ≤ _; exact Nat.le_of_eq rfl) (D 119 rfl) (fun T35 h35 v35 P35 Ws35 K35 q35 => ?_)
      have W35 := Ws35 [] all0
      obtain ⟨r35, cs35, rfl, lr35, S35⟩ := q35
      have gr35 : n0 ≤ r35 ∧ s.heap.size ≤ r35 := ⟨Nat.le_trans W30.n0le lr35, Nat.le_trans W30.s0le lr35⟩
      have E35 := S35.exa
      refine W35.pv hx D 122 3 184 [_, _, _, _, _, _, _, _, _, _, _, _] [_] rfl ?_
      exact tl T35 h35 (2 : Int32) (3 : Int32) ch b30 r35 cs35 ((W35.more (by decide +kernel) (by decide +kernel)).sub all0) S35
    · rw [z31]
      refine W30.pv hx D 34 2 37 [_, _, _, _, _, _, _, _, vi 4, _, _, _] [_] rfl ?_
      refine W30.ldcI hx (hw _ (mI 8 rfl)) rfl (D 37 rfl) ?_
      refine W30.pv hx D 39 2 41 [_, _, _, _, _, _, _, _, _, _, _, _] [.int ((i3 &&& (65535 : Int32)).toUInt32.toUInt16.toUInt32.toInt32)] rfl ?_
      obtain ⟨ch, hch, cch⟩ := wide16 (i3 &&& (65535 : Int32))
      rw [hch]
      refine W30.pu hx D 41 [(3, true), (1, true), (2, true), (2, true), (2, true), (2, false)] 2 137 [_, _, _, _, _, _, _, _, _, _, _, _] [_, _] rfl ⟨⟨⟨⟨⟨⟨trivial, (XT.ii_ne_t (by decide +kernel))⟩, (XT.i0_ne_t (by decide +kernel))⟩, (XT.ii_ne_t (by decide +kernel))⟩, (XT.ii_ne_t (by decide +kernel))⟩, (XT.ii_ne_t (by decide +kernel))⟩, (XT.ii_ne_f (by decide +kernel))⟩ ?_
      refine W30.callS hx hEL (hw _ (mI 128 rfl)) (hw _ (mI 129 rfl)) (hw _ (mI 11 rfl)) (hw _ (mI 130 rfl)) (by decide +kernel) (argsL := [(.ref b30), (.int ch)]) (rest := []) (rm615 B b30 (108 : Int32) (105 : Int32) (109 : Int32) (105 : Int32) (116 : Int32) ch h30 W30.old SA1 SH0 SL8 S30 ⟨by decide, by decide⟩ ⟨by decide, by decide⟩ ⟨by decide, by decide⟩ ⟨by decide, by decide⟩ ⟨by decide, by decide⟩ cch) all0 (by decide +kernel) (Wd := 0) (by decide +kernel) (by decide +kernel) (by decide +kernel) all0 rfl (by rw [hml]; rfl) (lenOf pd16 rfl) rfl (by show 2 * 0 + _ ≤ _; exact Nat.le_of_eq rfl) (D 137 rfl) (fun T36 h36 v36 P36 Ws36 K36 q36 => ?_)
      have W36 := Ws36 [] all0
      obtain ⟨r36, cs36, rfl, lr36, S36⟩ := q36
      have gr36 : n0 ≤ r36 ∧ s.heap.size ≤ r36 := ⟨Nat.le_trans W30.n0le lr36, Nat.le_trans W30.s0le lr36⟩
      have E36 := S36.exa
      refine W36.pv hx D 140 3 184 [_, _, _, _, _, _, _, _, _, _, _, _] [_] rfl ?_
      exact tl T36 h36 (2 : Int32) (4 : Int32) ch b30 r36 cs36 ((W36.more (by decide +kernel) (by decide +kernel)).sub all0) S36
    · rw [z31]
      refine W30.pv hx D 34 2 37 [_, _, _, _, _, _, _, _, vi 5, _, _, _] [_] rfl ?_
      refine W30.ldcI hx (hw _ (mI 8 rfl)) rfl (D 37 rfl) ?_
      refine W30.pv hx D 39 2 41 [_, _, _, _, _, _, _, _, _, _, _, _] [.int ((i3 &&& (65535 : Int32)).toUInt32.toUInt16.toUInt32.toInt32)] rfl ?_
      obtain ⟨ch, hch, cch⟩ := wide16 (i3 &&& (65535 : Int32))
      rw [hch]
      refine W30.pu hx D 41 [(3, true), (1, true), (2, true), (2, true), (2, true), (2, true), (2, false)] 1 153 [_, _, _, _, _, _, _, _, _, _, _, _] [_] rfl ⟨⟨⟨⟨⟨⟨⟨trivial, (XT.ii_ne_t (by decide +kernel))⟩, (XT.i0_ne_t (by decide +kernel))⟩, (XT.ii_ne_t (by decide +kernel))⟩, (XT.ii_ne_t (by decide +kernel))⟩, (XT.ii_ne_t (by decide +kernel))⟩, (XT.ii_ne_t (by decide +kernel))⟩, (XT.ii_ne_f (by decide +kernel))⟩ ?_
      refine W30.callS hx hEL (hw _ (mI 124 rfl)) (hw _ (mI 125 rfl)) (hw _ (mI 11 rfl)) (hw _ (mI 126 rfl)) (by decide +kernel) (argsL := [(.ref b30)]) (rest := []) (rm625 B b30 (108 : Int32) (105 : Int32) (109 : Int32) (105 : Int32) (116 : Int32) h30 W30.old S30 ⟨by decide, by decide⟩ ⟨by decide, by decide⟩ ⟨by decide, by decide⟩ ⟨by decide, by decide⟩ ⟨by decide, by decide⟩) all0 (by decide +kernel) (Wd := 0) (by decide +kernel) (by decide +kernel) (by decide +kernel) all0 rfl (by rw [hml]; rfl) (lenOf pd17 rfl) rfl (by show 2 * 0 + _ ≤ _; exact Nat.le_of_eq rfl) (D 153 rfl) (fun T37 h37 v37 P37 Ws37 K37 q37 => ?_)
      have W37 := Ws37 [] all0
      obtain ⟨r37, cs37, rfl, lr37, S37⟩ := q37
      have gr37 : n0 ≤ r37 ∧ s.heap.size ≤ r37 := ⟨Nat.le_trans W30.n0le lr37, Nat.le_trans W30.s0le lr37⟩
      have E37 := S37.exa
      refine W37.pv hx D 156 3 184 [_, _, _, _, _, _, _, _, _, _, _, _] [_] rfl ?_
      exact tl T37 h37 (2 : Int32) (5 : Int32) ch b30 r37 cs37 ((W37.more (by decide +kernel) (by decide +kernel)).sub all0) S37
    · rw [z31]
      refine W30.pv hx D 34 2 37 [_, _, _, _, _, _, _, _, vi 6, _, _, _] [_] rfl ?_
      refine W30.ldcI hx (hw _ (mI 8 rfl)) rfl (D 37 rfl) ?_
      refine W30.pv hx D 39 2 41 [_, _, _, _, _, _, _, _, _, _, _, _] [.int ((i3 &&& (65535 : Int32)).toUInt32.toUInt16.toUInt32.toInt32)] rfl ?_
      obtain ⟨ch, hch, cch⟩ := wide16 (i3 &&& (65535 : Int32))
      rw [hch]
      refine W30.pu hx D 41 [(3, true), (1, true), (2, true), (2, true), (2, true), (2, true), (2, true), (2, false)] 0 168 [_, _, _, _, _, _, _, _, _, _, _, _] [] rfl ⟨⟨⟨⟨⟨⟨⟨⟨trivial, (XT.ii_ne_t (by decide +kernel))⟩, (XT.i0_ne_t (by decide +kernel))⟩, (XT.ii_ne_t (by decide +kernel))⟩, (XT.ii_ne_t (by decide +kernel))⟩, (XT.ii_ne_t (by decide +kernel))⟩, (XT.ii_ne_t (by decide +kernel))⟩, (XT.ii_ne_t (by decide +kernel))⟩, (XT.ii_ne_f (by decide +kernel))⟩ ?_
      refine W30.ldcC hx hEL (by decide +kernel) (hw _ (mI 123 rfl)) hSA [] (0 : Int32) (by decide +kernel) (by decide +kernel) (by decide +kernel) rfl (D 168 rfl) (n := 0) (by decide +kernel) (by decide +kernel) (by decide +kernel) (by decide +kernel) (fun T38 h38 b38 t38 kb38 W38 K38 E38 Fv38 Fc38 A38 N38 => ?_)
      have S38 : Str Z h38 b38 [] := ⟨t38, kb38, 0, (0 : Int32), _, E38, Fv38, Fc38, A38, Or.inl ⟨rfl, by decide +kernel, by decide +kernel, by decide +kernel⟩, by decide +kernel, by decide⟩
      refine W38.pv hx D 170 3 184 [_, _, _, _, _, _, _, _, _, _, _, _] [_] rfl ?_
      exact tl T38 h38 (2 : Int32) (6 : Int32) ch b30 b38 [] ((W38.more (by decide +kernel) (by decide +kernel)).sub all0) S38
    · rw [z31]
      refine W30.pv hx D 34 2 37 [_, _, _, _, _, _, _, _, vi 7, _, _, _] [_] rfl ?_
      refine W30.ldcI hx (hw _ (mI 8 rfl)) rfl (D 37 rfl) ?_
      refine W30.pv hx D 39 2 41 [_, _, _, _, _, _, _, _, _, _, _, _] [.int ((i3 &&& (65535 : Int32)).toUInt32.toUInt16.toUInt32.toInt32)] rfl ?_
      obtain ⟨ch, hch, cch⟩ := wide16 (i3 &&& (65535 : Int32))
      rw [hch]
      refine W30.pu hx D 41 [(3, true), (1, true), (2, true), (2, true), (2, true), (2, true), (2, true), (2, true)] 1 177 [_, _, _, _, _, _, _, _, _, _, _, _] [_] rfl ⟨⟨⟨⟨⟨⟨⟨⟨trivial, (XT.ii_ne_t (by decide +kernel))⟩, (XT.i0_ne_t (by decide +kernel))⟩, (XT.ii_ne_t (by decide +kernel))⟩, (XT.ii_ne_t (by decide +kernel))⟩, (XT.ii_ne_t (by decide +kernel))⟩, (XT.ii_ne_t (by decide +kernel))⟩, (XT.ii_ne_t (by decide +kernel))⟩, (XT.ii_ne_t (by decide +kernel))⟩ ?_
      by_cases hw39 : (255 : Int32) < ch
      · show Go p e below _ (T30.setTop (mkF m 177 #[vi i0, vi i1, vi i2, vi i3, .val (.long i4), S0, vi 2, vr b30, vi 7, vi ch, U0, U0] [(.int ch)]))
        refine W30.callS hx hEL (hw _ (mI 66 rfl)) (hw _ (mI 67 rfl)) (hw _ (mI 1 rfl)) (hw _ (mI 68 rfl)) (by decide +kernel) (argsL := [(.int ch)]) (rest := []) (rm22 B ch h30 W30.old SA1 SH0 SL8 cch hw39) all0 (by decide +kernel) (Wd := 0) (by decide +kernel) (by decide +kernel) (by decide +kernel) all0 rfl (by rw [hml]; rfl) (lenOf pd18 rfl) rfl (by show 2 * 0 + _ ≤ _; exact Nat.le_of_eq rfl) (D 177 rfl) (fun T40 h40 v40 P40 Ws40 K40 q40 => ?_)
        have W40 := Ws40 [] all0
        obtain ⟨r40, rfl, lr40, S40⟩ := q40
        have gr40 : n0 ≤ r40 ∧ s.heap.size ≤ r40 := ⟨Nat.le_trans W30.n0le lr40, Nat.le_trans W30.s0le lr40⟩
        have E40 := S40.exa
        refine W40.pv hx D 180 2 184 [_, _, _, _, _, _, _, _, _, _, _, _] [_] rfl ?_
        exact tl T40 h40 (2 : Int32) (7 : Int32) ch b30 r40 [ch] ((W40.more (by decide +kernel) (by decide +kernel)).sub all0) S40
      · show Go p e below _ (T30.setTop (mkF m 177 #[vi i0, vi i1, vi i2, vi i3, .val (.long i4), S0, vi 2, vr b30, vi 7, vi ch, U0, U0] [(.int ch)]))
        refine W30.callS hx hEL (hw _ (mI 66 rfl)) (hw _ (mI 67 rfl)) (hw _ (mI 1 rfl)) (hw _ (mI 68 rfl)) (by decide +kernel) (argsL := [(.int ch)]) (rest := []) (rm27 B ch h30 W30.old ⟨cch.1, hw39⟩) all0 (by decide +kernel) (Wd := 0) (by decide +kernel) (by decide +kernel) (by decide +kernel) all0 rfl (by rw [hml]; rfl) (lenOf pd18 rfl) rfl (by show 2 * 0 + _ ≤ _; exact Nat.le_of_eq rfl) (D 177 rfl) (fun T41 h41 v41 P41 Ws41 K41 q41 => ?_)
        have W41 := Ws41 [] all0
        obtain ⟨r41, rfl, lr41, S41⟩ := q41
        have gr41 : n0 ≤ r41 ∧ s.heap.size ≤ r41 := ⟨Nat.le_trans W30.n0le lr41, Nat.le_trans W30.s0le lr41⟩
        have E41 := S41.exa
        refine W41.pv hx D 180 2 184 [_, _, _, _, _, _, _, _, _, _, _, _] [_] rfl ?_
        exact tl T41 h41 (2 : Int32) (7 : Int32) ch b30 r41 [ch] ((W41.more (by decide +kernel) (by decide +kernel)).sub all0) S41
  · rw [z5]
    refine W0.pu hx D 3 [(2, true), (2, true)] 0 26 [_, _, _, _, _, _, vi 3, _, _, _, _, _] [] rfl ⟨⟨trivial, (XT.i0_ne_t (by decide +kernel))⟩, (XT.ii_ne_t (by decide +kernel))⟩ ?_
    refine W0.ldcC hx hEL (by decide +kernel) (hw _ (mI 65 rfl)) hSA [(.int 108), (.int 105), (.int 109), (.int 105), (.int 116)] (5 : Int32) (by decide +kernel) (by decide +kernel) (by decide +kernel) rfl (D 26 rfl) (n := 20) (by decide +kernel) (by decide +kernel) (by decide +kernel) (by decide +kernel) (fun T42 h42 b42 t42 kb42 W42 K42 E42 Fv42 Fc42 A42 N42 => ?_)
    have S42 : Str Z h42 b42 [(108 : Int32), (105 : Int32), (109 : Int32), (105 : Int32), (116 : Int32)] := ⟨t42, kb42, 0, (5 : Int32), _, E42, Fv42, Fc42, A42, Or.inl ⟨rfl, by decide +kernel, by decide +kernel, by decide +kernel⟩, by decide +kernel, by decide⟩
    refine W42.pv hx D 28 6 37 [_, _, _, _, _, _, _, _, vi (i1 &&& (7 : Int32)), _, _, _] [_] rfl ?_
    refine W42.ldcI hx (hw _ (mI 8 rfl)) rfl (D 37 rfl) ?_
    refine W42.pv hx D 39 2 41 [_, _, _, _, _, _, _, _, _, _, _, _] [.int ((i3 &&& (65535 : Int32)).toUInt32.toUInt16.toUInt32.toInt32)] rfl ?_
    obtain ⟨ch, hch, cch⟩ := wide16 (i3 &&& (65535 : Int32))
    rw [hch]
    refine W42.pu hx D 41 [(3, false)] 4 184 [_, _, _, _, _, _, _, _, _, _, vN, _] [.null] rfl ⟨trivial, (XT.ii_ne_f (by decide +kernel))⟩ ?_
    refine W42.callS hx hEL (hw _ (mI 39 rfl)) (hw _ (mI 40 rfl)) (hw _ (mI 41 rfl)) (hw _ (mI 42 rfl)) (by decide +kernel) (argsL := [.null]) (rest := []) (rm5 B e0 e1 e2 s0 s1 s2 av kv h42 W42.old OE0 OE1 OE2 OF0 OF1 OF2 OS0 OS1 OS2 OA OT OC0 OC1 OC2) all0 (by decide +kernel) (Wd := 0) (by decide +kernel) (by decide +kernel) (by decide +kernel) all0 rfl (by rw [hml]; rfl) (lenOf pd13 rfl) rfl (by show 2 * 0 + _ ≤ _; exact Nat.le_of_eq rfl) (D 184 rfl) (fun T43 h43 v43 P43 Ws43 K43 q43 => ?_)
    have W43 := Ws43 [] all0
    obtain rfl := q43
    refine W43.pv hx D 187 3 193 [_, _, _, _, _, _, _, _, _, _, _, _] [.null, .null] rfl ?_
    refine W43.callS hx hEL (hw _ (mI 60 rfl)) (hw _ (mI 61 rfl)) (hw _ (mI 11 rfl)) (hw _ (mI 62 rfl)) (by decide +kernel) (argsL := [.null]) (rest := [.null]) (rm7 B e0 e1 e2 s0 s1 s2 av kv h43 W43.old OE0 OE1 OE2 OF0 OF1 OF2 OS0 OS1 OS2 OA OT OC0 OC1 OC2) all0 (by decide +kernel) (Wd := 1) (by decide +kernel) (by decide +kernel) (by decide +kernel) all0 rfl (by rw [hml]; rfl) (lenOf pd13 rfl) rfl (by show 2 * 0 + _ ≤ _; exact Nat.le_of_eq rfl) (D 193 rfl) (fun T44 h44 v44 P44 Ws44 K44 q44 => ?_)
    have W44 := Ws44 [] all0
    obtain rfl := q44
    refine gof T44 m 199 #[vi i0, vi i1, vi i2, vi i3, .val (.long i4), S0, vi 3, vr b42, vi (i1 &&& (7 : Int32)), vi ch, vN, vN] [] (fun _ kk => XT.acmpNo (g := (mkF m 196 #[vi i0, vi i1, vi i2, vi i3, .val (.long i4), S0, vi 3, vr b42, vi (i1 &&& (7 : Int32)), vi ch, vN, vN] [.null, .null])) W44.here hx rfl (D 196 rfl) (x := .null) (y := .null) (rest := []) rfl rfl rfl (XT.aa_ne_f (x := .null) (y := .null) rfl) kk) ?_
    refine W44.pv hx D 199 2 204 [_, _, _, _, _, _, _, _, _, _, _, _] [.int 1] rfl ?_
    exact W44.retI hx hEL hs hlk (by decide +kernel) (by decide +kernel) hret (by simp) rfl (D 204 rfl) (fun S hS => rfl)
set_option maxRecDepth 65536 in
set_option maxHeartbeats 40000000 in
theorem comes_1 {Post : Tables → Env → Array Value → State → Outcome → State → Prop} (hpost : ∀ tb e args s v u, (limb_1_1.after args s (.returned v) u = true ∧ limb_1_2.after args s (.returned v) u = true ∧ True) → FramedW s (.returned v) u (Jvm.fieldLocs frame_1_writes args s ++ Jvm.arrayLocs frame_1_arrays args s ++ Jvm.staticLocs frame_1_statics s) 24 4288 → Post tb e args s (.returned v) u) :
    ArmFor flags0 classFile x code maxLocals ret World_1 tables_1 room_1 Calls_1 rest_1 Pre_1 Post := by
  intro l hfl _ _ p e ha hc hk s m args below hf hA hF happ hP
  obtain ⟨hcalls, hrest, hpre⟩ := hP
  obtain ⟨-, -, -, hnamed, -, -, -, hat⟩ := (Spec.applies_iff hf).mp happ
  obtain ⟨hg, hn⟩ := and_e (Cond.before_iff.mp (show (Jvm.Cond.and given_1 narrow_1).before args s = true from hpre))
  obtain ⟨hy0, hz0⟩ := and_e hg
  obtain ⟨hy1, hz1⟩ := and_e hz0
  obtain ⟨hy2, hz2⟩ := and_e hz1
  obtain ⟨hy3, hz3⟩ := and_e hz2
  obtain ⟨hy4, hz4⟩ := and_e hz3
  obtain ⟨w0, w1, w2, w3, w4, rfl⟩ : ∃ w0 w1 w2 w3 w4 : Value, args = #[w0, w1, w2, w3, w4] := by
    have hs : args.size = 5 := by simpa [Cond.value, given_1] using hy0
    obtain ⟨L⟩ := args
    match L, hs with
    | [w0, w1, w2, w3, w4], _ => exact ⟨w0, w1, w2, w3, w4, rfl⟩
  have hw := fun d (hd : d ∈ tables_1) => atoms_spec (ws := Jvm.Cond.code x code maxLocals ret :: tables_1) hat d (List.mem_cons_of_mem _ hd)
  obtain ⟨hsets, hown0⟩ := atoms_of _ (rest_1_c_eq ▸ (show rest_1_c.before _ s = true from hrest))
  have hfit : Fit s := fun {y c} hc i hi => by
    obtain ⟨ha, rfl⟩ := Array.getElem?_eq_some_iff.mp hc
    have q := List.all_eq_true.mp ((Array.all_eq_true_iff_forall_mem.mp hF) _ (Array.getElem_mem ha)) i (List.mem_range.mpr hi)
    simpa [Array.getElem?_eq_getElem hi] using q
  have nzc := not_v (Cond.before_iff.mp (hsets _ (mI 2 rfl)))
  obtain ⟨i0, ei0⟩ := is_v hy1
  obtain rfl : w0 = (.int i0) := Option.some.inj ei0
  obtain ⟨i1, ei1⟩ := is_v hy2
  obtain rfl : w1 = (.int i1) := Option.some.inj ei1
  obtain ⟨i2, ei2⟩ := is_v hy3
  obtain rfl : w2 = (.int i2) := Option.some.inj ei2
  obtain ⟨i3, ei3⟩ := is_v hy4
  obtain rfl : w3 = (.int i3) := Option.some.inj ei3
  obtain ⟨i4, ei4⟩ := isL_v hz4
  obtain rfl : w4 = (.long i4) := Option.some.inj ei4
  obtain ⟨zc, ezc⟩ := is_v (Cond.before_iff.mp (hsets _ (mI 1 rfl)))
  have SC : Sta s s.heap "java/lang/String" "COMPACT_STRINGS" "Z" (.int zc) := Sta.start ezc (Or.inl (hsets _ (mI 0 rfl)))
  obtain ⟨fm, efm, rfm⟩ := isR_v (Cond.before_iff.mp (hsets _ (mI 8 rfl)))
  have SF : Sta s s.heap "jdk/internal/util/Preconditions" "SIOOBE_FORMATTER" "Ljava/util/function/BiFunction;" fm := Sta.start efm (Or.inl (hsets _ (mI 7 rfl)))
  have hzc : ¬ (zc = (0 : Int32)) := gotF (Cond.eq_ints ezc (Term.int_eval (0))) nzc
  have hEL : EW s #[(.int i0), (.int i1), (.int i2), (.int i3), (.long i4)] EL0 := (EW.cons (hw _ (mI 0 rfl)) (by decide +kernel) (EW.cons (hw _ (mI 64 rfl)) (by decide +kernel) (EW.cons (hw _ (mI 65 rfl)) (by decide +kernel) (EW.cons (hw _ (mI 123 rfl)) (by decide +kernel) EW.nil))))
  obtain ⟨nw0, hn⟩ := and_e hn
  obtain ⟨nw1, hn⟩ := and_e hn
  obtain ⟨nw2, hn⟩ := and_e hn
  obtain ⟨nw3, hn⟩ := and_e hn
  obtain ⟨nw4, hn⟩ := and_e hn
  obtain ⟨nw5, hn⟩ := and_e hn
  obtain ⟨nw6, hn⟩ := and_e hn
  obtain ⟨nw7, hn⟩ := and_e hn
  obtain ⟨nw8, hn⟩ := and_e hn
  obtain ⟨nw9, hn⟩ := and_e hn
  obtain ⟨nw10, hn⟩ := and_e hn
  obtain ⟨nw11, hn⟩ := and_e hn
  obtain ⟨nw12, hn⟩ := and_e hn
  obtain ⟨nw13, hn⟩ := and_e hn
  obtain ⟨nw14, hn⟩ := and_e hn
  obtain ⟨nw15, hn⟩ := and_e hn
  obtain ⟨nw16, hn⟩ := and_e hn
  obtain ⟨nw17, hn⟩ := and_e hn
  obtain ⟨nw18, hn⟩ := and_e hn
  obtain ⟨nw19, hn⟩ := and_e hn
  obtain ⟨nw20, hn⟩ := and_e hn
  obtain ⟨nw21, hn⟩ := and_e hn
  obtain ⟨nw22, hn⟩ := and_e hn
  obtain ⟨nw23, hn⟩ := and_e hn
  obtain ⟨nw24, hn⟩ := and_e hn
  obtain ⟨nw25, hn⟩ := and_e hn
  obtain ⟨nw26, hn⟩ := and_e hn
  obtain ⟨nw27, hn⟩ := and_e hn
  obtain ⟨nw28, hn⟩ := and_e hn
  obtain ⟨nw29, hn⟩ := and_e hn
  obtain ⟨nw30, hn⟩ := and_e hn
  obtain ⟨nw31, hn⟩ := and_e hn
  obtain ⟨nw32, hn⟩ := and_e hn
  have nw33 := hn
  obtain ⟨e0, ev0⟩ := exa_v nw2
  have OE0 := Exa.start ev0 nw2
  have OC0 : Sta s s.heap "com/example/grantwork/grantwork/store/Effect" "ALLOW" "Lcom/example/grantwork/grantwork/store/Effect;" (.ref e0) := Sta.start ev0 (Or.inr ⟨(hw _ (mI 41 rfl)), (hw _ (mI 45 rfl))⟩)
  obtain ⟨s0, evy0⟩ := exa_v nw4
  have Ey0 := Exa.start evy0 nw4
  have Fy0 : Fld s s.heap e0 "com/example/grantwork/grantwork/store/Effect" "mWord" "Ljava/lang/String;" (.ref s0) := Fld.start ((fld_at ev0).symm.trans evy0)
  have Fcy0 := Fld.start ((fld_at evy0).symm.trans (eq_eval nw5 (Term.int_eval 0)))
  obtain ⟨ty0, ety0⟩ := arr_v nw6
  have Fvy0 := Fld.start ((fld_at evy0).symm.trans ety0)
  obtain ⟨ky0, Ay0, -⟩ := arvStart (vs := [(.int 97), (.int 108), (.int 108), (.int 111), (.int 119)]) (dv := .int 0) hfit ety0 nw6 nw7 (by decide) (by decide) (fun c hA => ⟨(elem_f ety0 (Term.int_eval 0) hA (by decide)).symm.trans (eq_eval nw24 (Term.int_eval 97)), (elem_f ety0 (Term.int_eval 1) hA (by decide)).symm.trans (eq_eval nw25 (Term.int_eval 108)), (elem_f ety0 (Term.int_eval 2) hA (by decide)).symm.trans (eq_eval nw26 (Term.int_eval 108)), (elem_f ety0 (Term.int_eval 3) hA (by decide)).symm.trans (eq_eval nw27 (Term.int_eval 111)), (elem_f ety0 (Term.int_eval 4) hA (by decide)).symm.trans (eq_eval nw28 (Term.int_eval 119)), trivial⟩)
  have Sy0 : Str s s.heap s0 [(97 : Int32), (108 : Int32), (108 : Int32), (111 : Int32), (119 : Int32)] := ⟨ty0, ky0, 0, _, _, Ey0, Fvy0, Fcy0, Ay0, Or.inl ⟨rfl, by decide +kernel, by decide +kernel, by decide +kernel⟩, by decide +kernel, by decide⟩
  obtain ⟨e1, ev1⟩ := exa_v nw8
  have OE1 := Exa.start ev1 nw8
  have OC1 : Sta s s.heap "com/example/grantwork/grantwork/store/Effect" "DENY" "Lcom/example/grantwork/grantwork/store/Effect;" (.ref e1) := Sta.start ev1 (Or.inr ⟨(hw _ (mI 41 rfl)), (hw _ (mI 58 rfl))⟩)
  obtain ⟨s1, evy1⟩ := exa_v nw10
  have Ey1 := Exa.start evy1 nw10
  have Fy1 : Fld s s.heap e1 "com/example/grantwork/grantwork/store/Effect" "mWord" "Ljava/lang/String;" (.ref s1) := Fld.start ((fld_at ev1).symm.trans evy1)
  have Fcy1 := Fld.start ((fld_at evy1).symm.trans (eq_eval nw11 (Term.int_eval 0)))
  obtain ⟨ty1, ety1⟩ := arr_v nw12
  have Fvy1 := Fld.start ((fld_at evy1).symm.trans ety1)
  obtain ⟨ky1, Ay1, -⟩ := arvStart (vs := [(.int 100), (.int 101), (.int 110), (.int 121)]) (dv := .int 0) hfit ety1 nw12 nw13 (by decide) (by decide) (fun c hA => ⟨(elem_f ety1 (Term.int_eval 0) hA (by decide)).symm.trans (eq_eval nw14 (Term.int_eval 100)), (elem_f ety1 (Term.int_eval 1) hA (by decide)).symm.trans (eq_eval nw21 (Term.int_eval 101)), (elem_f ety1 (Term.int_eval 2) hA (by decide)).symm.trans (eq_eval nw22 (Term.int_eval 110)), (elem_f ety1 (Term.int_eval 3) hA (by decide)).symm.trans (eq_eval nw23 (Term.int_eval 121)), trivial⟩)
  have Sy1 : Str s s.heap s1 [(100 : Int32), (101 : Int32), (110 : Int32), (121 : Int32)] := ⟨ty1, ky1, 0, _, _, Ey1, Fvy1, Fcy1, Ay1, Or.inl ⟨rfl, by decide +kernel, by decide +kernel, by decide +kernel⟩, by decide +kernel, by decide⟩
  obtain ⟨e2, ev2⟩ := exa_v nw15
  have OE2 := Exa.start ev2 nw15
  have OC2 : Sta s s.heap "com/example/grantwork/grantwork/store/Effect" "LIMIT" "Lcom/example/grantwork/grantwork/store/Effect;" (.ref e2) := Sta.start ev2 (Or.inr ⟨(hw _ (mI 41 rfl)), (hw _ (mI 59 rfl))⟩)
  obtain ⟨s2, evy2⟩ := exa_v nw17
  have Ey2 := Exa.start evy2 nw17
  have Fy2 : Fld s s.heap e2 "com/example/grantwork/grantwork/store/Effect" "mWord" "Ljava/lang/String;" (.ref s2) := Fld.start ((fld_at ev2).symm.trans evy2)
  have Fcy2 := Fld.start ((fld_at evy2).symm.trans (eq_eval nw18 (Term.int_eval 0)))
  obtain ⟨ty2, ety2⟩ := arr_v nw19
  have Fvy2 := Fld.start ((fld_at evy2).symm.trans ety2)
  obtain ⟨ky2, Ay2, -⟩ := arvStart (vs := [(.int 108), (.int 105), (.int 109), (.int 105), (.int 116)]) (dv := .int 0) hfit ety2 nw19 nw20 (by decide) (by decide) (fun c hA => ⟨(elem_f ety2 (Term.int_eval 0) hA (by decide)).symm.trans (eq_eval nw29 (Term.int_eval 108)), (elem_f ety2 (Term.int_eval 1) hA (by decide)).symm.trans (eq_eval nw30 (Term.int_eval 105)), (elem_f ety2 (Term.int_eval 2) hA (by decide)).symm.trans (eq_eval nw31 (Term.int_eval 109)), (elem_f ety2 (Term.int_eval 3) hA (by decide)).symm.trans (eq_eval nw32 (Term.int_eval 105)), (elem_f ety2 (Term.int_eval 4) hA (by decide)).symm.trans (eq_eval nw33 (Term.int_eval 116)), trivial⟩)
  have Sy2 : Str s s.heap s2 [(108 : Int32), (105 : Int32), (109 : Int32), (105 : Int32), (116 : Int32)] := ⟨ty2, ky2, 0, _, _, Ey2, Fvy2, Fcy2, Ay2, Or.inl ⟨rfl, by decide +kernel, by decide +kernel, by decide +kernel⟩, by decide +kernel, by decide⟩
  obtain ⟨av, evV⟩ := arr_v nw0
  have OT : Sta s s.heap "com/example/grantwork/grantwork/store/Effect" "EFFECTS" "[Lcom/example/grantwork/grantwork/store/Effect;" (.ref av) := Sta.start evV (Or.inr ⟨(hw _ (mI 41 rfl)), (hw _ (mI 44 rfl))⟩)
  obtain ⟨kv, OA, OX⟩ := arvStart (vs := [(.ref e0), (.ref e1), (.ref e2)]) (dv := .null) hfit evV nw0 nw1 (by decide) (by rfl) (fun c hA => ⟨(elem_f evV (Term.int_eval 0) hA (by decide)).symm.trans (eq_eval nw3 ev0), (elem_f evV (Term.int_eval 1) hA (by decide)).symm.trans (eq_eval nw9 ev1), (elem_f evV (Term.int_eval 2) hA (by decide)).symm.trans (eq_eval nw16 ev2), trivial⟩)
  have SA1 : Sta s s.heap "java/lang/StringUTF16" "$assertionsDisabled" "Z" (.int 1) := Sta.start (eq_eval (Cond.before_iff.mp (hsets _ (mI 12 rfl))) (Term.int_eval 1)) (Or.inl (hsets _ (mI 11 rfl)))
  have SH0 : Sta s s.heap "java/lang/StringUTF16" "HI_BYTE_SHIFT" "I" (.int 0) := Sta.start (eq_eval (Cond.before_iff.mp (hsets _ (mI 15 rfl))) (Term.int_eval 0)) (Or.inl (hsets _ (mI 14 rfl)))
  have SL8 : Sta s s.heap "java/lang/StringUTF16" "LO_BYTE_SHIFT" "I" (.int 8) := Sta.start (eq_eval (Cond.before_iff.mp (hsets _ (mI 18 rfl))) (Term.int_eval 8)) (Or.inl (hsets _ (mI 17 rfl)))
  have hCH : CHv s EL0 s.vm s.heap := CHv.start hEL (fun q hq => hcalls.1 q hq) (hsets _ (mI 2 rfl)) (hw _ (mI 3 rfl)) (hw _ (mI 2 rfl))
  obtain ⟨n, o, h1, h2, h3, _, L, rfl, ⟨q1, N, K⟩, -, hq1, hq2, hq3, hq4⟩ := rm0 (⟨hw, hEL, SC, hzc, SF, rfm⟩ : EV l s _ zc fm) i0 i1 i2 i3 i4 e0 e1 e2 s0 s1 s2 av kv s.heap (Old.start s) OE0 OE1 OE2 Fy0 Fy1 Fy2 Sy0 Sy1 Sy2 OA OT OC0 OC1 OC2 SA1 SH0 SL8 p e ha hc hk s m _ below hf ((Spec.applies_iff_loose hf).mp happ).1 ⟨rfl, State.Warmed39.refl s, rfl, hCH, all0⟩ trivial
  cases q1
  refine ⟨n, _, h1, h2, h3, hpost _ _ _ _ _ _ ⟨Cond.after_iff.mpr rfl, Cond.after_iff.mpr (eq_i res_at (Term.int_eval (1)) rfl), trivial⟩ ⟨hq1, hq2, hq3, (hq4.sift fun y hy => Or.inr (N y hy)).mono (by decide +kernel) (by decide +kernel)⟩⟩
theorem main_1_1 : Claimed_1_1 := comes_1 fun _ _ _ _ _ _ h hF => ⟨h.1, hF⟩
theorem main_1_2 : Claimed_1_2 := comes_1 fun _ _ _ _ _ _ h hF => ⟨h.2.1, hF⟩
end Jvm.Pilot.@@N@@
namespace Jvm.Pilot.@@N@@
open Jvm Jvm.ClassFile Sem Op Lib Jvm.Free Jvm.Stand Jvm.Pilot.@@N@@.Jvm.D
/-! MADE BY PROGRAM (witnessworld.py) out of the Statement's table words and the real class files: 22 classes; the members and pool entries that the words name. The judged class is class 1, her method 1. -/
namespace start1
open Jvm.ClassFile
def u (s : String) : CpInfo := .utf8 (stringToUtf16 s)
/-- a pool by its gaps: so many unusable entries, then the entry; so many at the end -/
def gap : Nat → List CpInfo → List CpInfo
  | 0, r => r
  | n + 1, r => .unusable :: gap n r
def poolList (es : List (Nat × CpInfo)) (last : Nat) : List CpInfo := es.foldr (fun e r => gap e.1 (e.2 :: r)) (gap last [])
def pool (es : List (Nat × CpInfo)) (last : Nat) : Array CpInfo := ⟨poolList es last⟩
def fileOf (pool : Array CpInfo) (this : Nat) (attrs : Array Attribute := #[]) (ms : Array MethodInfo := #[]) (fl : Nat := 33) (sup : Nat := 0) (ifs : Array Nat := #[]) (fds : Array FieldInfo := #[]) : ClassFile where
  minorVersion := 0
  majorVersion := 65
  constantPool := pool
  accessFlags := fl
  thisClass := this
  superClass := sup
  interfaces := ifs
  fields := fds
  methods := ms
  attributes := attrs
def plain (name : String) (sup : Option ClassId) : Class where
  name := name
  kind := .ordinary
  loader := none
  accessFlags := 33
  super := sup
  interfaces := #[]
  cf := none
  fields := #[]
  methods := #[]
  instanceTypes := #[]
  staticTypes := #[]
  resolved := #[]
  callSites := []
  init := .initialized
  statics := none
  mirror := none

def pool0 : Array CpInfo := pool [(5, u "<init>"), (0, u "()V"), (1, .class_ 10), (1, u "java/lang/Object")] 113

def k0c0 : Code := { maxStack := 0, maxLocals := 1, code := object_method_1_code, exceptionTable := #[], attributes := #[] }
def k0m0 : Method := { name := "<init>", desc := "()V", sig := { parameters := [], returnType := none }, accessFlags := 1, code := some k0c0 }
/-- java/lang/Object -/
def k0 : Class := { plain "java/lang/Object" none with
  accessFlags := 33
  interfaces := #[]
  cf := some (fileOf pool0 8 #[] #[{ accessFlags := 1, nameIndex := 5, descriptorIndex := 6, attributes := #[] }] 33 0 #[] #[])
  fields := #[]
  methods := #[k0m0]
  instanceTypes := #[]
  staticTypes := #[]
  resolved := Array.replicate 124 none
  statics := none }

def pool1 : Array CpInfo := pool [(2, .class_ 4), (1, u "java/lang/Object"), (0, u "<init>"), (0, u "()V"), (0, .string 8), (0, u "allow"), (0, .string 10), (0, u "deny"), (0, .string 12), (0, u "limit"), (0, .integer 65535), (0, .integer 2147483647), (0, .methodref 16 17), (0, .class_ 18), (0, .nameAndType 19 20), (0, u "java/lang/String"), (0, u "length"), (0, u "()I"), (0, .methodref 22 23), (0, .class_ 24), (0, .nameAndType 25 26), (0, u "com/example/grantwork/grantwork/store/EffectOfPinLaw"), (0, u "replaced"), (0, u "(Ljava/lang/String;IC)Ljava/lang/String;"), (0, .methodref 22 28), (0, .nameAndType 29 30), (0, u "drawn5"), (0, u "(J)Ljava/lang/String;"), (0, .methodref 22 32), (0, .nameAndType 33 30), (0, u "drawn4"), (0, .methodref 22 35), (0, .nameAndType 36 37), (0, u "appended"), (0, u "(Ljava/lang/String;C)Ljava/lang/String;"), (0, .methodref 22 39), (0, .nameAndType 40 41), (0, u "dropLast"), (0, u "(Ljava/lang/String;)Ljava/lang/String;"), (0, .string 43), (0, u ""), (0, .methodref 16 45), (0, .nameAndType 46 47), (0, u "valueOf"), (0, u "(C)Ljava/lang/String;"), (0, .methodref 49 50), (0, .class_ 51), (0, .nameAndType 52 53), (0, u "com/example/grantwork/grantwork/store/Effect"), (0, u "of"), (0, u "(Ljava/lang/String;)Lcom/example/grantwork/grantwork/store/Effect;"), (0, .methodref 22 55), (0, .nameAndType 56 53), (0, u "expected"), (0, .methodref 16 58), (0, .nameAndType 59 60), (0, u "equals"), (0, u "(Ljava/lang/Object;)Z"), (0, .fieldref 49 62), (0, .nameAndType 63 64), (0, u "ALLOW"), (0, u "Lcom/example/grantwork/grantwork/store/Effect;"), (0, .fieldref 49 66), (0, .nameAndType 67 64), (0, u "DENY"), (0, .fieldref 49 69), (0, .nameAndType 70 64), (0, u "LIMIT"), (0, .methodref 16 72), (0, .nameAndType 73 74), (0, u "charAt"), (0, u "(I)C"), (0, .methodref 16 76), (0, .nameAndType 5 77), (0, u "([C)V"), (0, .long 255), (3, u "law"), (0, u "(IIIIJ)Z")] 3

def k1m0 : Method := { name := "<init>", desc := "()V", sig := { parameters := [], returnType := none }, accessFlags := 1, code := none }
def k1c1 : Code := { maxStack := 3, maxLocals := 12, code := code, exceptionTable := #[], attributes := #[] }
def k1m1 : Method := { name := "law", desc := "(IIIIJ)Z", sig := { parameters := [.int, .int, .int, .int, .long], returnType := some .boolean }, accessFlags := 9, code := some k1c1 }
def k1c2 : Code := { maxStack := 2, maxLocals := 1, code := method_3_code, exceptionTable := #[], attributes := #[] }
def k1m2 : Method := { name := "expected", desc := "(Ljava/lang/String;)Lcom/example/grantwork/grantwork/store/Effect;", sig := { parameters := [(.object "java/lang/String")], returnType := some (.object "com/example/grantwork/grantwork/store/Effect") }, accessFlags := 10, code := some k1c2 }
def k1c3 : Code := { maxStack := 4, maxLocals := 4, code := method_4_code, exceptionTable := #[], attributes := #[] }
def k1m3 : Method := { name := "replaced", desc := "(Ljava/lang/String;IC)Ljava/lang/String;", sig := { parameters := [(.object "java/lang/String"), .int, .char], returnType := some (.object "java/lang/String") }, accessFlags := 10, code := some k1c3 }
def k1c4 : Code := { maxStack := 4, maxLocals := 3, code := method_5_code, exceptionTable := #[], attributes := #[] }
def k1m4 : Method := { name := "appended", desc := "(Ljava/lang/String;C)Ljava/lang/String;", sig := { parameters := [(.object "java/lang/String"), .char], returnType := some (.object "java/lang/String") }, accessFlags := 10, code := some k1c4 }
def k1c5 : Code := { maxStack := 4, maxLocals := 2, code := method_6_code, exceptionTable := #[], attributes := #[] }
def k1m5 : Method := { name := "dropLast", desc := "(Ljava/lang/String;)Ljava/lang/String;", sig := { parameters := [(.object "java/lang/String")], returnType := some (.object "java/lang/String") }, accessFlags := 10, code := some k1c5 }
def k1c6 : Code := { maxStack := 6, maxLocals := 3, code := method_7_code, exceptionTable := #[], attributes := #[] }
def k1m6 : Method := { name := "drawn5", desc := "(J)Ljava/lang/String;", sig := { parameters := [.long], returnType := some (.object "java/lang/String") }, accessFlags := 10, code := some k1c6 }
def k1c7 : Code := { maxStack := 6, maxLocals := 3, code := method_8_code, exceptionTable := #[], attributes := #[] }
def k1m7 : Method := { name := "drawn4", desc := "(J)Ljava/lang/String;", sig := { parameters := [.long], returnType := some (.object "java/lang/String") }, accessFlags := 10, code := some k1c7 }
/-- com/example/grantwork/grantwork/store/EffectOfPinLaw -/
def k1 : Class := { plain "com/example/grantwork/grantwork/store/EffectOfPinLaw" (some 0) with
  accessFlags := 49
  interfaces := #[]
  cf := some (fileOf pool1 22 #[] #[{ accessFlags := 1, nameIndex := 5, descriptorIndex := 6, attributes := #[] }, { accessFlags := 9, nameIndex := 82, descriptorIndex := 83, attributes := #[] }, { accessFlags := 10, nameIndex := 56, descriptorIndex := 53, attributes := #[] }, { accessFlags := 10, nameIndex := 25, descriptorIndex := 26, attributes := #[] }, { accessFlags := 10, nameIndex := 36, descriptorIndex := 37, attributes := #[] }, { accessFlags := 10, nameIndex := 40, descriptorIndex := 41, attributes := #[] }, { accessFlags := 10, nameIndex := 29, descriptorIndex := 30, attributes := #[] }, { accessFlags := 10, nameIndex := 33, descriptorIndex := 30, attributes := #[] }] 49 2 #[] #[])
  fields := #[]
  methods := #[k1m0, k1m1, k1m2, k1m3, k1m4, k1m5, k1m6, k1m7]
  instanceTypes := #[]
  staticTypes := #[]
  resolved := Array.replicate 87 none
  statics := none }

def pool2 : Array CpInfo := pool [(1, .class_ 2), (0, u "java/io/Serializable"), (0, .class_ 4), (0, u "java/lang/Object")] 2

/-- java/io/Serializable -/
def k2 : Class := { plain "java/io/Serializable" (some 0) with
  accessFlags := 1537
  interfaces := #[]
  cf := some (fileOf pool2 1 #[] #[] 1537 3 #[] #[])
  fields := #[]
  methods := #[]
  instanceTypes := #[]
  staticTypes := #[]
  resolved := Array.replicate 7 none
  statics := none }

def pool3 : Array CpInfo := pool [(1, .class_ 2), (0, u "java/lang/Comparable"), (0, .class_ 4), (0, u "java/lang/Object")] 7

/-- java/lang/Comparable -/
def k3 : Class := { plain "java/lang/Comparable" (some 0) with
  accessFlags := 1537
  interfaces := #[]
  cf := some (fileOf pool3 1 #[] #[] 1537 3 #[] #[])
  fields := #[]
  methods := #[]
  instanceTypes := #[]
  staticTypes := #[]
  resolved := Array.replicate 12 none
  statics := none }

def pool4 : Array CpInfo := pool [(2, .class_ 4), (1, u "java/lang/CharSequence"), (42, .class_ 48), (0, u "java/lang/CharSequence$1CodePointIterator"), (10, .class_ 60), (0, u "java/lang/CharSequence$1CharIterator"), (5, .class_ 67), (0, u "java/lang/Object")] 63

/-- java/lang/CharSequence -/
def k4 : Class := { plain "java/lang/CharSequence" (some 0) with
  accessFlags := 1537
  interfaces := #[]
  cf := some (fileOf pool4 2 #[.nestMembers #[47, 59]] #[] 1537 66 #[] #[])
  fields := #[]
  methods := #[]
  instanceTypes := #[]
  staticTypes := #[]
  resolved := Array.replicate 131 none
  statics := none }

def pool5 : Array CpInfo := pool [(1, .class_ 2), (0, u "java/lang/constant/Constable"), (0, .class_ 4), (0, u "java/lang/Object")] 6

/-- java/lang/constant/Constable -/
def k5 : Class := { plain "java/lang/constant/Constable" (some 0) with
  accessFlags := 1537
  interfaces := #[]
  cf := some (fileOf pool5 1 #[] #[] 1537 3 #[] #[])
  fields := #[]
  methods := #[]
  instanceTypes := #[]
  staticTypes := #[]
  resolved := Array.replicate 11 none
  statics := none }

def pool6 : Array CpInfo := pool [(1, .class_ 2), (0, u "java/lang/constant/ConstantDesc"), (0, .class_ 4), (0, u "java/lang/Object")] 32

/-- java/lang/constant/ConstantDesc -/
def k6 : Class := { plain "java/lang/constant/ConstantDesc" (some 0) with
  accessFlags := 1537
  interfaces := #[]
  cf := some (fileOf pool6 1 #[] #[] 1537 3 #[] #[])
  fields := #[]
  methods := #[]
  instanceTypes := #[]
  staticTypes := #[]
  resolved := Array.replicate 37 none
  statics := none }

def pool7 : Array CpInfo := pool [(1, .methodref 2 3), (0, .class_ 4), (0, .nameAndType 5 6), (0, u "java/lang/Object"), (0, u "<init>"), (0, u "()V"), (2, .fieldref 10 11), (0, .class_ 12), (0, .nameAndType 13 14), (0, u "java/lang/String"), (0, u "value"), (0, u "[B"), (0, .fieldref 10 16), (0, .nameAndType 17 18), (0, u "coder"), (0, u "B"), (2, u "hash"), (0, u "I"), (2, u "hashIsZero"), (0, u "Z"), (0, .methodref 10 28), (0, .nameAndType 5 29), (0, u "([CIILjava/lang/Void;)V"), (8, .fieldref 10 39), (0, .nameAndType 40 26), (0, u "COMPACT_STRINGS"), (1, .class_ 44), (1, u "java/lang/StringUTF16"), (0, u "compress"), (1, .methodref 42 48), (0, .nameAndType 49 50), (0, u "coderFromArrayLen"), (0, u "([BI)B"), (2, u "toBytes"), (53, .class_ 109), (1, u "java/lang/StringLatin1"), (32, u "()Z"), (34, .methodref 42 178), (0, .nameAndType 45 179), (0, u "([CII)[B"), (29, .methodref 10 210), (0, .nameAndType 5 211), (0, u "([BB)V"), (122, u "()I"), (0, .methodref 10 336), (0, .nameAndType 17 337), (0, u "()B"), (25, u "([BI)C"), (5, u "(C)Z"), (21, u "(II)V"), (35, u "(I)C"), (64, .methodref 10 493), (0, .nameAndType 494 142), (0, u "isLatin1"), (0, .methodref 107 496), (0, .nameAndType 497 363), (0, u "charAt"), (3, u "checkIndex"), (5, u "length"), (33, .methodref 107 542), (0, .nameAndType 543 544), (0, u "equals"), (0, u "([B[B)Z"), (28, u "(Ljava/lang/Object;)Z"), (1, .class_ 576), (0, u "java/lang/CharSequence"), (22, u "CASE_INSENSITIVE_ORDER"), (0, u "Ljava/util/Comparator;"), (181, u "valueOf"), (0, u "(C)Ljava/lang/String;"), (226, u "([C)V"), (4, .methodref 107 1016), (0, .nameAndType 1017 369), (0, u "canEncode"), (0, .methodref 107 1019), (0, .nameAndType 53 1020), (0, u "(C)[B"), (0, .methodref 42 1019), (31, .fieldref 1054 1055), (0, .class_ 1056), (0, .nameAndType 1057 1058), (0, u "jdk/internal/util/Preconditions"), (0, u "SIOOBE_FORMATTER"), (0, u "Ljava/util/function/BiFunction;"), (0, .methodref 1054 1060), (0, .nameAndType 501 1061), (0, u "(IILjava/util/function/BiFunction;)I"), (39, u "serialPersistentFields"), (0, u "[Ljava/io/ObjectStreamField;"), (0, .class_ 1104), (0, u "java/lang/String$CaseInsensitiveComparator"), (1, .class_ 1107), (0, u "java/io/Serializable"), (0, .class_ 1109), (0, u "java/lang/Comparable"), (0, .class_ 1111), (0, u "java/lang/constant/Constable"), (0, .class_ 1113), (0, u "java/lang/constant/ConstantDesc"), (2, u "serialVersionUID"), (0, u "J"), (3, u "REPL"), (0, u "C"), (2, u "LATIN1"), (1, u "UTF16")] 323

def k7m0 : Method := { name := "<init>", desc := "()V", sig := { parameters := [], returnType := none }, accessFlags := 1, code := none }
def k7c1 : Code := { maxStack := 5, maxLocals := 2, code := jdk_42_method_3_code, exceptionTable := #[], attributes := #[] }
def k7m1 : Method := { name := "<init>", desc := "([C)V", sig := { parameters := [(.array .char)], returnType := none }, accessFlags := 1, code := some k7c1 }
def k7c2 : Code := { maxStack := 2, maxLocals := 1, code := jdk_42_method_54_code, exceptionTable := #[], attributes := #[] }
def k7m2 : Method := { name := "length", desc := "()I", sig := { parameters := [], returnType := some .int }, accessFlags := 1, code := some k7c2 }
def k7c3 : Code := { maxStack := 2, maxLocals := 2, code := jdk_42_method_56_code, exceptionTable := #[], attributes := #[] }
def k7m3 : Method := { name := "charAt", desc := "(I)C", sig := { parameters := [.int], returnType := some .char }, accessFlags := 1, code := some k7c3 }
def k7c4 : Code := { maxStack := 2, maxLocals := 3, code := jdk_42_method_66_code, exceptionTable := #[], attributes := #[] }
def k7m4 : Method := { name := "equals", desc := "(Ljava/lang/Object;)Z", sig := { parameters := [(.object "java/lang/Object")], returnType := some .boolean }, accessFlags := 1, code := some k7c4 }
def k7c5 : Code := { maxStack := 4, maxLocals := 1, code := jdk_42_method_139_code, exceptionTable := #[], attributes := #[] }
def k7m5 : Method := { name := "valueOf", desc := "(C)Ljava/lang/String;", sig := { parameters := [.char], returnType := some (.object "java/lang/String") }, accessFlags := 9, code := some k7c5 }
def k7c6 : Code := { maxStack := 4, maxLocals := 6, code := jdk_42_method_149_code, exceptionTable := #[], attributes := #[] }
def k7m6 : Method := { name := "<init>", desc := "([CIILjava/lang/Void;)V", sig := { parameters := [(.array .char), .int, .int, (.object "java/lang/Void")], returnType := none }, accessFlags := 2, code := some k7c6 }
def k7c7 : Code := { maxStack := 2, maxLocals := 3, code := jdk_42_method_151_code, exceptionTable := #[], attributes := #[] }
def k7m7 : Method := { name := "<init>", desc := "([BB)V", sig := { parameters := [(.array .byte), .byte], returnType := none }, accessFlags := 0, code := some k7c7 }
def k7c8 : Code := { maxStack := 1, maxLocals := 1, code := jdk_42_method_152_code, exceptionTable := #[], attributes := #[] }
def k7m8 : Method := { name := "coder", desc := "()B", sig := { parameters := [], returnType := some .byte }, accessFlags := 0, code := some k7c8 }
def k7c9 : Code := { maxStack := 1, maxLocals := 1, code := jdk_42_method_154_code, exceptionTable := #[], attributes := #[] }
def k7m9 : Method := { name := "isLatin1", desc := "()Z", sig := { parameters := [], returnType := some .boolean }, accessFlags := 0, code := some k7c9 }
def k7c10 : Code := { maxStack := 3, maxLocals := 2, code := jdk_42_method_155_code, exceptionTable := #[], attributes := #[] }
def k7m10 : Method := { name := "checkIndex", desc := "(II)V", sig := { parameters := [.int, .int], returnType := none }, accessFlags := 8, code := some k7c10 }
/-- java/lang/String -/
def k7 : Class := { plain "java/lang/String" (some 0) with
  accessFlags := 49
  interfaces := #[2, 3, 4, 5, 6]
  cf := some (fileOf pool7 10 #[.nestMembers #[1103]] #[{ accessFlags := 1, nameIndex := 5, descriptorIndex := 6, attributes := #[] }, { accessFlags := 1, nameIndex := 5, descriptorIndex := 1010, attributes := #[] }, { accessFlags := 1, nameIndex := 507, descriptorIndex := 334, attributes := #[] }, { accessFlags := 1, nameIndex := 497, descriptorIndex := 427, attributes := #[] }, { accessFlags := 1, nameIndex := 543, descriptorIndex := 573, attributes := #[] }, { accessFlags := 9, nameIndex := 782, descriptorIndex := 783, attributes := #[] }, { accessFlags := 2, nameIndex := 5, descriptorIndex := 29, attributes := #[] }, { accessFlags := 0, nameIndex := 5, descriptorIndex := 211, attributes := #[] }, { accessFlags := 0, nameIndex := 17, descriptorIndex := 337, attributes := #[] }, { accessFlags := 0, nameIndex := 494, descriptorIndex := 142, attributes := #[] }, { accessFlags := 8, nameIndex := 501, descriptorIndex := 391, attributes := #[] }] 49 2 #[1106, 1108, 575, 1110, 1112] #[{ accessFlags := 18, nameIndex := 13, descriptorIndex := 14, attributes := #[] }, { accessFlags := 18, nameIndex := 17, descriptorIndex := 18, attributes := #[] }, { accessFlags := 2, nameIndex := 21, descriptorIndex := 22, attributes := #[] }, { accessFlags := 2, nameIndex := 25, descriptorIndex := 26, attributes := #[] }, { accessFlags := 26, nameIndex := 1116, descriptorIndex := 1117, attributes := #[] }, { accessFlags := 24, nameIndex := 40, descriptorIndex := 26, attributes := #[] }, { accessFlags := 26, nameIndex := 1101, descriptorIndex := 1102, attributes := #[] }, { accessFlags := 26, nameIndex := 1121, descriptorIndex := 1122, attributes := #[] }, { accessFlags := 25, nameIndex := 599, descriptorIndex := 600, attributes := #[] }, { accessFlags := 24, nameIndex := 1125, descriptorIndex := 18, attributes := #[] }, { accessFlags := 24, nameIndex := 1127, descriptorIndex := 18, attributes := #[] }])
  fields := #[{ name := "value", type := (.array .byte), accessFlags := 18, slot := 0, constantValue := 0 }, { name := "coder", type := .byte, accessFlags := 18, slot := 1, constantValue := 0 }, { name := "hash", type := .int, accessFlags := 2, slot := 2, constantValue := 0 }, { name := "hashIsZero", type := .boolean, accessFlags := 2, slot := 3, constantValue := 0 }, { name := "serialVersionUID", type := .long, accessFlags := 26, slot := 0, constantValue := 0 }, { name := "COMPACT_STRINGS", type := .boolean, accessFlags := 24, slot := 1, constantValue := 0 }, { name := "serialPersistentFields", type := (.array (.object "java/io/ObjectStreamField")), accessFlags := 26, slot := 2, constantValue := 0 }, { name := "REPL", type := .char, accessFlags := 26, slot := 3, constantValue := 0 }, { name := "CASE_INSENSITIVE_ORDER", type := (.object "java/util/Comparator"), accessFlags := 25, slot := 4, constantValue := 0 }, { name := "LATIN1", type := .byte, accessFlags := 24, slot := 5, constantValue := 0 }, { name := "UTF16", type := .byte, accessFlags := 24, slot := 6, constantValue := 0 }]
  methods := #[k7m0, k7m1, k7m2, k7m3, k7m4, k7m5, k7m6, k7m7, k7m8, k7m9, k7m10]
  instanceTypes := #[(.array .byte), .byte, .int, .boolean]
  staticTypes := #[.long, .boolean, (.array (.object "java/io/ObjectStreamField")), .char, (.object "java/util/Comparator"), .byte, .byte]
  resolved := Array.replicate 1451 none
  statics := some 0 }

def pool8 : Array CpInfo := pool [(6, .class_ 8), (1, u "java/lang/Object"), (0, u "<init>"), (0, u "()V"), (0, .methodref 12 13), (0, .class_ 14), (0, .nameAndType 15 16), (0, u "java/lang/StringUTF16"), (0, u "newBytesLength"), (0, u "(I)I"), (3, .integer 1073741823), (23, .fieldref 12 45), (0, .nameAndType 46 47), (0, u "$assertionsDisabled"), (0, u "Z"), (11, .fieldref 12 60), (0, .nameAndType 61 62), (0, u "HI_BYTE_SHIFT"), (0, u "I"), (0, .fieldref 12 64), (0, .nameAndType 65 62), (0, u "LO_BYTE_SHIFT"), (5, .methodref 12 72), (0, .nameAndType 73 74), (0, u "getChar"), (0, u "([BI)C"), (32, .methodref 12 108), (0, .nameAndType 109 110), (0, u "newBytesFor"), (0, u "(I)[B"), (0, .methodref 12 112), (0, .nameAndType 113 114), (0, u "putChar"), (0, u "([BII)V"), (0, .methodref 12 116), (0, .nameAndType 117 118), (0, u "compress"), (0, u "([CI[BII)I"), (0, .methodref 12 120), (0, .nameAndType 121 122), (0, u "toBytes"), (0, u "([CII)[B"), (138, u "coderFromArrayLen"), (0, u "([BI)B"), (106, .class_ 371), (1, u "java/lang/StringUTF16$LinesSpliterator"), (58, u "MAX_LENGTH"), (44, u "(C)[B"), (151, .class_ 628), (0, u "java/lang/StringUTF16$CodePointsSpliterator"), (0, .class_ 630), (0, u "java/lang/StringUTF16$CharsSpliterator")] 4

def k8m0 : Method := { name := "<init>", desc := "()V", sig := { parameters := [], returnType := none }, accessFlags := 0, code := none }
def k8c1 : Code := { maxStack := 1, maxLocals := 1, code := jdk_52_method_2_code, exceptionTable := #[], attributes := #[] }
def k8m1 : Method := { name := "newBytesFor", desc := "(I)[B", sig := { parameters := [.int], returnType := some (.array .byte) }, accessFlags := 9, code := some k8c1 }
def k8c2 : Code := { maxStack := 4, maxLocals := 1, code := jdk_52_method_3_code, exceptionTable := #[], attributes := #[] }
def k8m2 : Method := { name := "newBytesLength", desc := "(I)I", sig := { parameters := [.int], returnType := some .int }, accessFlags := 9, code := some k8c2 }
def k8c3 : Code := { maxStack := 4, maxLocals := 3, code := jdk_52_method_4_code, exceptionTable := #[], attributes := #[] }
def k8m3 : Method := { name := "putChar", desc := "([BII)V", sig := { parameters := [(.array .byte), .int, .int], returnType := none }, accessFlags := 8, code := some k8c3 }
def k8c4 : Code := { maxStack := 3, maxLocals := 2, code := jdk_52_method_5_code, exceptionTable := #[], attributes := #[] }
def k8m4 : Method := { name := "getChar", desc := "([BI)C", sig := { parameters := [(.array .byte), .int], returnType := some .char }, accessFlags := 8, code := some k8c4 }
def k8c5 : Code := { maxStack := 4, maxLocals := 5, code := jdk_52_method_14_code, exceptionTable := #[], attributes := #[] }
def k8m5 : Method := { name := "toBytes", desc := "([CII)[B", sig := { parameters := [(.array .char), .int, .int], returnType := some (.array .byte) }, accessFlags := 9, code := some k8c5 }
def k8c6 : Code := { maxStack := 2, maxLocals := 2, code := jdk_52_method_15_code, exceptionTable := #[], attributes := #[] }
def k8m6 : Method := { name := "coderFromArrayLen", desc := "([BI)B", sig := { parameters := [(.array .byte), .int], returnType := some .byte }, accessFlags := 8, code := some k8c6 }
def k8c7 : Code := { maxStack := 5, maxLocals := 6, code := jdk_52_method_16_code, exceptionTable := #[], attributes := #[] }
def k8m7 : Method := { name := "compress", desc := "([CII)[B", sig := { parameters := [(.array .char), .int, .int], returnType := some (.array .byte) }, accessFlags := 9, code := some k8c7 }
def k8c8 : Code := { maxStack := 3, maxLocals := 7, code := jdk_52_method_21_code, exceptionTable := #[], attributes := #[] }
def k8m8 : Method := { name := "compress", desc := "([CI[BII)I", sig := { parameters := [(.array .char), .int, (.array .byte), .int, .int], returnType := some .int }, accessFlags := 9, code := some k8c8 }
def k8c9 : Code := { maxStack := 3, maxLocals := 2, code := jdk_52_method_24_code, exceptionTable := #[], attributes := #[] }
def k8m9 : Method := { name := "toBytes", desc := "(C)[B", sig := { parameters := [.char], returnType := some (.array .byte) }, accessFlags := 9, code := some k8c9 }
/-- java/lang/StringUTF16 -/
def k8 : Class := { plain "java/lang/StringUTF16" (some 0) with
  accessFlags := 48
  interfaces := #[]
  cf := some (fileOf pool8 12 #[.nestMembers #[627, 629, 369]] #[{ accessFlags := 0, nameIndex := 9, descriptorIndex := 10, attributes := #[] }, { accessFlags := 9, nameIndex := 109, descriptorIndex := 110, attributes := #[] }, { accessFlags := 9, nameIndex := 15, descriptorIndex := 16, attributes := #[] }, { accessFlags := 8, nameIndex := 113, descriptorIndex := 114, attributes := #[] }, { accessFlags := 8, nameIndex := 73, descriptorIndex := 74, attributes := #[] }, { accessFlags := 9, nameIndex := 121, descriptorIndex := 122, attributes := #[] }, { accessFlags := 8, nameIndex := 261, descriptorIndex := 262, attributes := #[] }, { accessFlags := 9, nameIndex := 117, descriptorIndex := 122, attributes := #[] }, { accessFlags := 9, nameIndex := 117, descriptorIndex := 118, attributes := #[] }, { accessFlags := 9, nameIndex := 121, descriptorIndex := 475, attributes := #[] }] 48 6 #[] #[{ accessFlags := 26, nameIndex := 61, descriptorIndex := 62, attributes := #[] }, { accessFlags := 26, nameIndex := 65, descriptorIndex := 62, attributes := #[] }, { accessFlags := 24, nameIndex := 430, descriptorIndex := 62, attributes := #[] }, { accessFlags := 4120, nameIndex := 46, descriptorIndex := 47, attributes := #[] }])
  fields := #[{ name := "HI_BYTE_SHIFT", type := .int, accessFlags := 26, slot := 0, constantValue := 0 }, { name := "LO_BYTE_SHIFT", type := .int, accessFlags := 26, slot := 1, constantValue := 0 }, { name := "MAX_LENGTH", type := .int, accessFlags := 24, slot := 2, constantValue := 0 }, { name := "$assertionsDisabled", type := .boolean, accessFlags := 4120, slot := 3, constantValue := 0 }]
  methods := #[k8m0, k8m1, k8m2, k8m3, k8m4, k8m5, k8m6, k8m7, k8m8, k8m9]
  instanceTypes := #[]
  staticTypes := #[.int, .int, .int, .boolean]
  resolved := Array.replicate 635 none
  statics := some 1 }

def pool9 : Array CpInfo := pool [(2, .class_ 4), (1, u "java/lang/Enum"), (0, u "name"), (0, u "Ljava/lang/String;"), (2, u "ordinal"), (0, u "I"), (1, .class_ 14), (1, u "java/lang/Object"), (4, u "hash"), (86, .class_ 108), (1, u "java/lang/Enum$EnumDesc"), (2, .class_ 112), (0, u "java/lang/constant/Constable"), (0, .class_ 114), (0, u "java/lang/Comparable"), (0, .class_ 116), (0, u "java/io/Serializable")] 87

/-- java/lang/Enum -/
def k9 : Class := { plain "java/lang/Enum" (some 0) with
  accessFlags := 1057
  interfaces := #[5, 3, 2]
  cf := some (fileOf pool9 2 #[.nestMembers #[106]] #[] 1057 12 #[111, 113, 115] #[{ accessFlags := 18, nameIndex := 5, descriptorIndex := 6, attributes := #[] }, { accessFlags := 18, nameIndex := 9, descriptorIndex := 10, attributes := #[] }, { accessFlags := 2, nameIndex := 19, descriptorIndex := 10, attributes := #[] }])
  fields := #[{ name := "name", type := (.object "java/lang/String"), accessFlags := 18, slot := 0, constantValue := 0 }, { name := "ordinal", type := .int, accessFlags := 18, slot := 1, constantValue := 0 }, { name := "hash", type := .int, accessFlags := 2, slot := 2, constantValue := 0 }]
  methods := #[]
  instanceTypes := #[(.object "java/lang/String"), .int, .int]
  staticTypes := #[]
  resolved := Array.replicate 204 none
  statics := none }

def pool10 : Array CpInfo := pool [(1, .class_ 2), (0, u "com/example/grantwork/grantwork/store/Effect"), (2, u "ALLOW"), (0, u "Lcom/example/grantwork/grantwork/store/Effect;"), (2, u "DENY"), (2, u "LIMIT"), (2, u "$VALUES"), (0, u "[Lcom/example/grantwork/grantwork/store/Effect;"), (6, .class_ 25), (1, u "java/lang/Enum"), (6, .fieldref 1 33), (0, .nameAndType 34 35), (0, u "mWord"), (0, u "Ljava/lang/String;"), (2, u "mGiven"), (0, .fieldref 1 40), (0, .nameAndType 41 16), (0, u "EFFECTS"), (0, .methodref 43 44), (0, .class_ 45), (0, .nameAndType 46 47), (0, u "java/lang/String"), (0, u "equals"), (0, u "(Ljava/lang/Object;)Z"), (27, u "(Ljava/lang/String;)Lcom/example/grantwork/grantwork/store/Effect;"), (3, u "of")] 9

def k10c0 : Code := { maxStack := 2, maxLocals := 5, code := prog_23_method_4_code, exceptionTable := #[], attributes := #[] }
def k10m0 : Method := { name := "of", desc := "(Ljava/lang/String;)Lcom/example/grantwork/grantwork/store/Effect;", sig := { parameters := [(.object "java/lang/String")], returnType := some (.object "com/example/grantwork/grantwork/store/Effect") }, accessFlags := 9, code := some k10c0 }
/-- com/example/grantwork/grantwork/store/Effect -/
def k10 : Class := { plain "com/example/grantwork/grantwork/store/Effect" (some 9) with
  accessFlags := 16433
  interfaces := #[]
  cf := some (fileOf pool10 1 #[] #[{ accessFlags := 9, nameIndex := 79, descriptorIndex := 75, attributes := #[] }] 16433 23 #[] #[{ accessFlags := 16409, nameIndex := 5, descriptorIndex := 6, attributes := #[] }, { accessFlags := 16409, nameIndex := 9, descriptorIndex := 6, attributes := #[] }, { accessFlags := 16409, nameIndex := 12, descriptorIndex := 6, attributes := #[] }, { accessFlags := 26, nameIndex := 41, descriptorIndex := 16, attributes := #[] }, { accessFlags := 18, nameIndex := 34, descriptorIndex := 35, attributes := #[] }, { accessFlags := 18, nameIndex := 38, descriptorIndex := 35, attributes := #[] }, { accessFlags := 4122, nameIndex := 15, descriptorIndex := 16, attributes := #[] }])
  fields := #[{ name := "ALLOW", type := (.object "com/example/grantwork/grantwork/store/Effect"), accessFlags := 16409, slot := 0, constantValue := 0 }, { name := "DENY", type := (.object "com/example/grantwork/grantwork/store/Effect"), accessFlags := 16409, slot := 1, constantValue := 0 }, { name := "LIMIT", type := (.object "com/example/grantwork/grantwork/store/Effect"), accessFlags := 16409, slot := 2, constantValue := 0 }, { name := "EFFECTS", type := (.array (.object "com/example/grantwork/grantwork/store/Effect")), accessFlags := 26, slot := 3, constantValue := 0 }, { name := "mWord", type := (.object "java/lang/String"), accessFlags := 18, slot := 3, constantValue := 0 }, { name := "mGiven", type := (.object "java/lang/String"), accessFlags := 18, slot := 4, constantValue := 0 }, { name := "$VALUES", type := (.array (.object "com/example/grantwork/grantwork/store/Effect")), accessFlags := 4122, slot := 4, constantValue := 0 }]
  methods := #[k10m0]
  instanceTypes := #[(.object "java/lang/String"), .int, .int, (.object "java/lang/String"), (.object "java/lang/String")]
  staticTypes := #[(.object "com/example/grantwork/grantwork/store/Effect"), (.object "com/example/grantwork/grantwork/store/Effect"), (.object "com/example/grantwork/grantwork/store/Effect"), (.array (.object "com/example/grantwork/grantwork/store/Effect")), (.array (.object "com/example/grantwork/grantwork/store/Effect"))]
  resolved := Array.replicate 89 none
  statics := some 2 }

def pool11 : Array CpInfo := pool [(1, .class_ 2), (0, u "java/lang/String"), (1, .class_ 6), (1, u "java/lang/Object"), (0, u "<init>"), (0, u "()V"), (0, .methodref 1 10), (0, .nameAndType 11 12), (0, u "checkIndex"), (0, u "(II)V"), (1, .class_ 16), (1, u "java/lang/StringLatin1"), (36, u "([BI)C"), (36, u "canEncode"), (14, u "(C)Z"), (15, u "$assertionsDisabled"), (0, u "Z"), (98, .class_ 223), (1, u "java/lang/StringLatin1$LinesSpliterator"), (28, u "charAt"), (28, u "equals"), (0, u "([B[B)Z"), (97, u "toBytes"), (1, u "(C)[B"), (7, .class_ 391), (0, u "java/lang/StringLatin1$CharsSpliterator")] 3

def k11m0 : Method := { name := "<init>", desc := "()V", sig := { parameters := [], returnType := none }, accessFlags := 0, code := none }
def k11c1 : Code := { maxStack := 2, maxLocals := 2, code := jdk_43_method_2_code, exceptionTable := #[], attributes := #[] }
def k11m1 : Method := { name := "charAt", desc := "([BI)C", sig := { parameters := [(.array .byte), .int], returnType := some .char }, accessFlags := 9, code := some k11c1 }
def k11c2 : Code := { maxStack := 2, maxLocals := 1, code := jdk_43_method_3_code, exceptionTable := #[], attributes := #[] }
def k11m2 : Method := { name := "canEncode", desc := "(C)Z", sig := { parameters := [.char], returnType := some .boolean }, accessFlags := 9, code := some k11c2 }
def k11c3 : Code := { maxStack := 3, maxLocals := 3, code := jdk_43_method_13_code, exceptionTable := #[], attributes := #[] }
def k11m3 : Method := { name := "equals", desc := "([B[B)Z", sig := { parameters := [(.array .byte), (.array .byte)], returnType := some .boolean }, accessFlags := 9, code := some k11c3 }
def k11c4 : Code := { maxStack := 4, maxLocals := 1, code := jdk_43_method_46_code, exceptionTable := #[], attributes := #[] }
def k11m4 : Method := { name := "toBytes", desc := "(C)[B", sig := { parameters := [.char], returnType := some (.array .byte) }, accessFlags := 9, code := some k11c4 }
/-- java/lang/StringLatin1 -/
def k11 : Class := { plain "java/lang/StringLatin1" (some 0) with
  accessFlags := 48
  interfaces := #[]
  cf := some (fileOf pool11 14 #[.nestMembers #[390, 221]] #[{ accessFlags := 0, nameIndex := 7, descriptorIndex := 8, attributes := #[] }, { accessFlags := 9, nameIndex := 252, descriptorIndex := 53, attributes := #[] }, { accessFlags := 9, nameIndex := 90, descriptorIndex := 105, attributes := #[] }, { accessFlags := 9, nameIndex := 281, descriptorIndex := 282, attributes := #[] }, { accessFlags := 9, nameIndex := 380, descriptorIndex := 382, attributes := #[] }] 48 4 #[] #[{ accessFlags := 4120, nameIndex := 121, descriptorIndex := 122, attributes := #[] }])
  fields := #[{ name := "$assertionsDisabled", type := .boolean, accessFlags := 4120, slot := 0, constantValue := 0 }]
  methods := #[k11m0, k11m1, k11m2, k11m3, k11m4]
  instanceTypes := #[]
  staticTypes := #[.boolean]
  resolved := Array.replicate 395 none
  statics := none }

def pool12 : Array CpInfo := pool [(2, .class_ 4), (1, u "java/lang/Object"), (0, u "<init>"), (0, u "()V"), (17, .class_ 26), (1, u "jdk/internal/util/Preconditions"), (6, u "checkIndex"), (21, .class_ 56), (0, u "jdk/internal/util/Preconditions$4"), (57, .class_ 115), (0, u "jdk/internal/util/Preconditions$1"), (7, u "SIOOBE_FORMATTER"), (0, u "Ljava/util/function/BiFunction;"), (0, .class_ 126), (0, u "jdk/internal/util/Preconditions$2"), (3, u "AIOOBE_FORMATTER"), (0, .class_ 132), (0, u "jdk/internal/util/Preconditions$3"), (3, u "IOOBE_FORMATTER"), (41, u "(IILjava/util/function/BiFunction;)I")] 15

def k12m0 : Method := { name := "<init>", desc := "()V", sig := { parameters := [], returnType := none }, accessFlags := 1, code := none }
def k12c1 : Code := { maxStack := 3, maxLocals := 3, code := jdk_41_method_11_code, exceptionTable := #[], attributes := #[] }
def k12m1 : Method := { name := "checkIndex", desc := "(IILjava/util/function/BiFunction;)I", sig := { parameters := [.int, .int, (.object "java/util/function/BiFunction")], returnType := some .int }, accessFlags := 9, code := some k12c1 }
/-- jdk/internal/util/Preconditions -/
def k12 : Class := { plain "jdk/internal/util/Preconditions" (some 0) with
  accessFlags := 33
  interfaces := #[]
  cf := some (fileOf pool12 24 #[.nestMembers #[55, 131, 125, 114]] #[{ accessFlags := 1, nameIndex := 5, descriptorIndex := 6, attributes := #[] }, { accessFlags := 9, nameIndex := 33, descriptorIndex := 178, attributes := #[] }] 33 2 #[] #[{ accessFlags := 25, nameIndex := 123, descriptorIndex := 124, attributes := #[] }, { accessFlags := 25, nameIndex := 130, descriptorIndex := 124, attributes := #[] }, { accessFlags := 25, nameIndex := 136, descriptorIndex := 124, attributes := #[] }])
  fields := #[{ name := "SIOOBE_FORMATTER", type := (.object "java/util/function/BiFunction"), accessFlags := 25, slot := 0, constantValue := 0 }, { name := "AIOOBE_FORMATTER", type := (.object "java/util/function/BiFunction"), accessFlags := 25, slot := 1, constantValue := 0 }, { name := "IOOBE_FORMATTER", type := (.object "java/util/function/BiFunction"), accessFlags := 25, slot := 2, constantValue := 0 }]
  methods := #[k12m0, k12m1]
  instanceTypes := #[]
  staticTypes := #[(.object "java/util/function/BiFunction"), (.object "java/util/function/BiFunction"), (.object "java/util/function/BiFunction")]
  resolved := Array.replicate 194 none
  statics := some 3 }

def pool13 : Array CpInfo := pool [(9, u "<init>"), (6, .class_ 18), (1, u "java/lang/Object"), (0, u "()V"), (1, .class_ 23), (1, u "jdk/internal/util/ArraysSupport"), (0, u "LOG2_ARRAY_LONG_INDEX_SCALE"), (0, u "I"), (2, u "U"), (0, u "Ljdk/internal/misc/Unsafe;"), (8, u "BIG_ENDIAN"), (0, u "Z"), (8, u "LOG2_BYTE_BIT_SIZE"), (4, u "LOG2_ARRAY_INT_INDEX_SCALE"), (54, u "JLA"), (0, u "Ljdk/internal/access/JavaLangAccess;"), (11, u "LOG2_ARRAY_BOOLEAN_INDEX_SCALE"), (9, u "LOG2_ARRAY_BYTE_INDEX_SCALE"), (5, u "LOG2_ARRAY_CHAR_INDEX_SCALE"), (5, u "LOG2_ARRAY_SHORT_INDEX_SCALE"), (18, u "LOG2_ARRAY_FLOAT_INDEX_SCALE"), (24, u "LOG2_ARRAY_DOUBLE_INDEX_SCALE"), (89, u "T_BOOLEAN"), (2, u "T_CHAR"), (1, u "T_FLOAT"), (1, u "T_DOUBLE"), (1, u "T_BYTE"), (1, u "T_SHORT"), (1, u "T_INT"), (1, u "T_LONG"), (1, u "SOFT_MAX_ARRAY_LENGTH")] 83

def k13m0 : Method := { name := "<init>", desc := "()V", sig := { parameters := [], returnType := none }, accessFlags := 2, code := none }
/-- jdk/internal/util/ArraysSupport -/
def k13 : Class := { plain "jdk/internal/util/ArraysSupport" (some 0) with
  accessFlags := 33
  interfaces := #[]
  cf := some (fileOf pool13 21 #[] #[{ accessFlags := 2, nameIndex := 9, descriptorIndex := 19, attributes := #[] }] 33 16 #[] #[{ accessFlags := 24, nameIndex := 28, descriptorIndex := 29, attributes := #[] }, { accessFlags := 26, nameIndex := 38, descriptorIndex := 39, attributes := #[] }, { accessFlags := 25, nameIndex := 121, descriptorIndex := 25, attributes := #[] }, { accessFlags := 25, nameIndex := 131, descriptorIndex := 25, attributes := #[] }, { accessFlags := 25, nameIndex := 137, descriptorIndex := 25, attributes := #[] }, { accessFlags := 25, nameIndex := 143, descriptorIndex := 25, attributes := #[] }, { accessFlags := 25, nameIndex := 53, descriptorIndex := 25, attributes := #[] }, { accessFlags := 25, nameIndex := 24, descriptorIndex := 25, attributes := #[] }, { accessFlags := 25, nameIndex := 162, descriptorIndex := 25, attributes := #[] }, { accessFlags := 25, nameIndex := 187, descriptorIndex := 25, attributes := #[] }, { accessFlags := 26, nameIndex := 48, descriptorIndex := 25, attributes := #[] }, { accessFlags := 25, nameIndex := 277, descriptorIndex := 25, attributes := #[] }, { accessFlags := 25, nameIndex := 280, descriptorIndex := 25, attributes := #[] }, { accessFlags := 25, nameIndex := 282, descriptorIndex := 25, attributes := #[] }, { accessFlags := 25, nameIndex := 284, descriptorIndex := 25, attributes := #[] }, { accessFlags := 25, nameIndex := 286, descriptorIndex := 25, attributes := #[] }, { accessFlags := 25, nameIndex := 288, descriptorIndex := 25, attributes := #[] }, { accessFlags := 25, nameIndex := 290, descriptorIndex := 25, attributes := #[] }, { accessFlags := 25, nameIndex := 292, descriptorIndex := 25, attributes := #[] }, { accessFlags := 26, nameIndex := 108, descriptorIndex := 109, attributes := #[] }, { accessFlags := 25, nameIndex := 294, descriptorIndex := 25, attributes := #[] }])
  fields := #[{ name := "U", type := (.object "jdk/internal/misc/Unsafe"), accessFlags := 24, slot := 0, constantValue := 0 }, { name := "BIG_ENDIAN", type := .boolean, accessFlags := 26, slot := 1, constantValue := 0 }, { name := "LOG2_ARRAY_BOOLEAN_INDEX_SCALE", type := .int, accessFlags := 25, slot := 2, constantValue := 0 }, { name := "LOG2_ARRAY_BYTE_INDEX_SCALE", type := .int, accessFlags := 25, slot := 3, constantValue := 0 }, { name := "LOG2_ARRAY_CHAR_INDEX_SCALE", type := .int, accessFlags := 25, slot := 4, constantValue := 0 }, { name := "LOG2_ARRAY_SHORT_INDEX_SCALE", type := .int, accessFlags := 25, slot := 5, constantValue := 0 }, { name := "LOG2_ARRAY_INT_INDEX_SCALE", type := .int, accessFlags := 25, slot := 6, constantValue := 0 }, { name := "LOG2_ARRAY_LONG_INDEX_SCALE", type := .int, accessFlags := 25, slot := 7, constantValue := 0 }, { name := "LOG2_ARRAY_FLOAT_INDEX_SCALE", type := .int, accessFlags := 25, slot := 8, constantValue := 0 }, { name := "LOG2_ARRAY_DOUBLE_INDEX_SCALE", type := .int, accessFlags := 25, slot := 9, constantValue := 0 }, { name := "LOG2_BYTE_BIT_SIZE", type := .int, accessFlags := 26, slot := 10, constantValue := 0 }, { name := "T_BOOLEAN", type := .int, accessFlags := 25, slot := 11, constantValue := 0 }, { name := "T_CHAR", type := .int, accessFlags := 25, slot := 12, constantValue := 0 }, { name := "T_FLOAT", type := .int, accessFlags := 25, slot := 13, constantValue := 0 }, { name := "T_DOUBLE", type := .int, accessFlags := 25, slot := 14, constantValue := 0 }, { name := "T_BYTE", type := .int, accessFlags := 25, slot := 15, constantValue := 0 }, { name := "T_SHORT", type := .int, accessFlags := 25, slot := 16, constantValue := 0 }, { name := "T_INT", type := .int, accessFlags := 25, slot := 17, constantValue := 0 }, { name := "T_LONG", type := .int, accessFlags := 25, slot := 18, constantValue := 0 }, { name := "JLA", type := (.object "jdk/internal/access/JavaLangAccess"), accessFlags := 26, slot := 19, constantValue := 0 }, { name := "SOFT_MAX_ARRAY_LENGTH", type := .int, accessFlags := 25, slot := 20, constantValue := 0 }]
  methods := #[k13m0]
  instanceTypes := #[]
  staticTypes := #[(.object "jdk/internal/misc/Unsafe"), .boolean, .int, .int, .int, .int, .int, .int, .int, .int, .int, .int, .int, .int, .int, .int, .int, .int, .int, (.object "jdk/internal/access/JavaLangAccess"), .int]
  resolved := Array.replicate 378 none
  statics := none }

def pool14 : Array CpInfo := pool [(1, u "java/lang/Cloneable"), (0, .class_ 1), (0, u "java/lang/Object"), (0, .class_ 3)] 3

/-- java/lang/Cloneable -/
def k14 : Class := { plain "java/lang/Cloneable" (some 0) with
  accessFlags := 1537
  interfaces := #[]
  cf := some (fileOf pool14 2 #[] #[] 1537 4 #[] #[])
  fields := #[]
  methods := #[]
  instanceTypes := #[]
  staticTypes := #[]
  resolved := Array.replicate 8 none
  statics := none }

/-- the primitive byte -/
def k15 : Class := { plain "byte" none with kind := .primitive 'B', accessFlags := 0x411 }
/-- [B -/
def k16 : Class := { plain "[B" (some 0) with kind := .array 15 .byte, interfaces := #[14, 2], accessFlags := 1041 }

/-- the primitive char -/
def k17 : Class := { plain "char" none with kind := .primitive 'C', accessFlags := 0x411 }
/-- [C -/
def k18 : Class := { plain "[C" (some 0) with kind := .array 17 .char, interfaces := #[14, 2], accessFlags := 1041 }

/-- the primitive int -/
def k19 : Class := { plain "int" none with kind := .primitive 'I', accessFlags := 0x411 }
/-- [I -/
def k20 : Class := { plain "[I" (some 0) with kind := .array 19 .int, interfaces := #[14, 2], accessFlags := 1041 }

/-- [Lcom/example/grantwork/grantwork/store/Effect; -/
def k21 : Class := { plain "[Lcom/example/grantwork/grantwork/store/Effect;" (some 0) with kind := .array 10 (.object "com/example/grantwork/grantwork/store/Effect"), interfaces := #[14, 2], accessFlags := 1041 }

def heap : Heap := #[{ cls := 7, slots := #[.long 0, .int 1, .null, .int 0, .null, .int 0, .int 0], vm := .statics 7 },
  { cls := 8, slots := #[.int 0, .int 8, .int 0, .int 1], vm := .statics 8 },
  { cls := 10, slots := #[.ref 5, .ref 6, .ref 7, .ref 4, .null], vm := .statics 10 },
  { cls := 12, slots := #[.null, .null, .null], vm := .statics 12 },
  { cls := 21, slots := #[.ref 5, .ref 6, .ref 7], vm := .none },
  { cls := 10, slots := #[.null, .int 0, .int 0, .ref 8, .ref 8], vm := .none },
  { cls := 10, slots := #[.null, .int 1, .int 0, .ref 9, .ref 9], vm := .none },
  { cls := 10, slots := #[.null, .int 2, .int 0, .ref 10, .ref 10], vm := .none },
  { cls := 7, slots := #[.ref 11, .int 0, .int 0, .int 0], vm := .none },
  { cls := 7, slots := #[.ref 12, .int 0, .int 0, .int 0], vm := .none },
  { cls := 7, slots := #[.ref 13, .int 0, .int 0, .int 0], vm := .none },
  { cls := 16, slots := #[.int 97, .int 108, .int 108, .int 111, .int 119], vm := .none },
  { cls := 16, slots := #[.int 100, .int 101, .int 110, .int 121], vm := .none },
  { cls := 16, slots := #[.int 108, .int 105, .int 109, .int 105, .int 116], vm := .none }]
def classes : Array Class := #[k0, k1, k2, k3, k4, k5, k6, k7, k8, k9, k10, k11, k12, k13, k14, k15, k16, k17, k18, k19, k20, k21]
def interned : List (Array UInt16 × Addr) := []
def slotsUsed : Nat := 63
def theMethod : MethodId := ⟨1, 1⟩
def args0 : Array Value := #[.int 5, .int 6, .int 7, .int 8, .long 9]
def aboutOver (below : List Frame) : State where
  vm := { classes := classes, interned := interned.toArray }
  heap := heap
  slotsUsed := slotsUsed
  threads := #[{ frames := .invoking theMethod args0 :: below }]
def below0 : List Frame := [.native { method := ⟨0, 0⟩, args := #[] }]
def about1 : State := aboutOver below0
def p0 : Program := .bare "" "" ""
def e0 : Env := launch0.env 0 0 0
theorem w_frames : about1.frames = Frame.invoking theMethod args0 :: below0 := rfl
set_option maxRecDepth 65536 in
theorem w_args : argsFit about1.vm theMethod args0 = true := by decide +kernel
set_option maxRecDepth 65536 in
theorem w_heap : heapFits about1 = true := by decide +kernel
set_option maxRecDepth 65536 in
theorem w_runnable : about1.curStatus? = some .runnable := by decide +kernel
set_option maxRecDepth 65536 in
theorem w_alone : about1.alone = true := by decide +kernel
set_option maxRecDepth 65536 in
theorem w_named : about1.methodNamed? x = some theMethod := by decide +kernel
set_option maxRecDepth 65536 in
theorem w_hears : about1.hears theMethod below0 = true := by decide +kernel
set_option maxRecDepth 65536 in
theorem w_ripe : about1.ripe theMethod args0 below0 = true := by decide +kernel
theorem w_running : about1.status = .running := rfl
set_option maxRecDepth 65536 in
theorem w_room : about1.hasRoom e0.platform room_1 = true :=
  launch0.hasRoom_least _ room_1 (by decide +kernel) (by decide +kernel) (by decide +kernel) (by decide +kernel) (by decide +kernel) (by decide +kernel)
theorem allAtoms_all (ts : List Jvm.Cond) (a : Array Jvm.Value) (st : Jvm.State) : (allAtoms ts).before a st = ts.all (fun c => c.before a st) := by
  induction ts with
  | nil => rfl
  | cons c t ih =>
    show (Jvm.Cond.and c (allAtoms t)).before a st = _
    rw [Jvm.Cond.before_and, ih, List.all_cons]
def words1 : List Jvm.Cond := Jvm.Cond.code x code maxLocals ret :: tables_1
/-- a 'code' word, met by the world's own term for the bytes: nothing is compared byte by byte -/
theorem code_word {y : MethodName} {bytes : ByteArray} {mx : Nat} {rt : Option FieldType} {a : Array Value} {s : State} {m : MethodId} {meth : Method} {c : Code} (h1 : s.methodNamed? y = some m) (h2 : s.vm.method? m = some meth) (h3 : meth.code = some c) (h4 : c.code = bytes)
    (h5 : (c.maxLocals == mx && c.exceptionTable.isEmpty && decide (c.maxStack ≤ mostOperands) && decide (meth.sig.returnType = rt) && !meth.locks && decide (parseMethodDescriptor y.desc = some meth.sig)) = true) : (Jvm.Cond.code y bytes mx rt).before a s = true := by
  simp only [Bool.and_eq_true, beq_iff_eq, Bool.not_eq_true', decide_eq_true_eq] at h5
  obtain ⟨⟨⟨⟨⟨g1, g2⟩, g3⟩, g4⟩, g5⟩, g6⟩ := h5
  simp [Cond.before, Cond.holds, Cond.value, h1, h2, h3, h4, g1, g2, g3, g4, g5, g6]
def isCode : Jvm.Cond → Bool
  | .code _ _ _ _ => true
  | _ => false
theorem all_split {L : List Jvm.Cond} {P : Jvm.Cond → Bool} (h1 : L.all (fun c => isCode c || P c) = true) (h2 : ∀ c ∈ L.filter isCode, P c = true) : L.all P = true := by
  refine List.all_eq_true.mpr fun c hc => ?_
  have h := List.all_eq_true.mp h1 c hc
  rcases Bool.eq_false_or_eq_true (isCode c) with hi | hi
  · exact h2 c (List.mem_filter.mpr ⟨hc, hi⟩)
  · simpa [hi] using h
set_option maxRecDepth 65536 in
theorem w_c0 : (Jvm.Cond.code x code maxLocals ret).before args0 about1 = true := code_word (m := ⟨1, 1⟩) (meth := k1m1) (c := k1c1) (by decide +kernel) rfl rfl rfl (by decide +kernel)
set_option maxRecDepth 65536 in
theorem w_c1 : (Jvm.Cond.code ({ cls := "com/example/grantwork/grantwork/store/EffectOfPinLaw", name := "drawn4", desc := "(J)Ljava/lang/String;" } : Jvm.MethodName) method_8_code (3 : Nat) (Option.some (Jvm.ClassFile.FieldType.object "java/lang/String"))).before args0 about1 = true := code_word (m := ⟨1, 7⟩) (meth := k1m7) (c := k1c7) (by decide +kernel) rfl rfl rfl (by decide +kernel)
set_option maxRecDepth 65536 in
theorem w_c2 : (Jvm.Cond.code ({ cls := "java/lang/String", name := "<init>", desc := "([C)V" } : Jvm.MethodName) jdk_42_method_3_code (2 : Nat) (Option.none : Option Jvm.ClassFile.FieldType)).before args0 about1 = true := code_word (m := ⟨7, 1⟩) (meth := k7m1) (c := k7c1) (by decide +kernel) rfl rfl rfl (by decide +kernel)
set_option maxRecDepth 65536 in
theorem w_c3 : (Jvm.Cond.code ({ cls := "java/lang/String", name := "<init>", desc := "([CIILjava/lang/Void;)V" } : Jvm.MethodName) jdk_42_method_149_code (6 : Nat) (Option.none : Option Jvm.ClassFile.FieldType)).before args0 about1 = true := code_word (m := ⟨7, 6⟩) (meth := k7m6) (c := k7c6) (by decide +kernel) rfl rfl rfl (by decide +kernel)
set_option maxRecDepth 65536 in
theorem w_c4 : (Jvm.Cond.code ({ cls := "java/lang/Object", name := "<init>", desc := "()V" } : Jvm.MethodName) object_method_1_code (1 : Nat) (Option.none : Option Jvm.ClassFile.FieldType)).before args0 about1 = true := code_word (m := ⟨0, 0⟩) (meth := k0m0) (c := k0c0) (by decide +kernel) rfl rfl rfl (by decide +kernel)
set_option maxRecDepth 65536 in
theorem w_c5 : (Jvm.Cond.code ({ cls := "java/lang/StringUTF16", name := "compress", desc := "([CII)[B" } : Jvm.MethodName) jdk_52_method_16_code (6 : Nat) (Option.some (Jvm.ClassFile.FieldType.array Jvm.ClassFile.FieldType.byte))).before args0 about1 = true := code_word (m := ⟨8, 7⟩) (meth := k8m7) (c := k8c7) (by decide +kernel) rfl rfl rfl (by decide +kernel)
set_option maxRecDepth 65536 in
theorem w_c6 : (Jvm.Cond.code ({ cls := "java/lang/StringUTF16", name := "compress", desc := "([CI[BII)I" } : Jvm.MethodName) jdk_52_method_21_code (7 : Nat) (Option.some Jvm.ClassFile.FieldType.int)).before args0 about1 = true := code_word (m := ⟨8, 8⟩) (meth := k8m8) (c := k8c8) (by decide +kernel) rfl rfl rfl (by decide +kernel)
set_option maxRecDepth 65536 in
theorem w_c7 : (Jvm.Cond.code ({ cls := "java/lang/StringUTF16", name := "coderFromArrayLen", desc := "([BI)B" } : Jvm.MethodName) jdk_52_method_15_code (2 : Nat) (Option.some Jvm.ClassFile.FieldType.byte)).before args0 about1 = true := code_word (m := ⟨8, 6⟩) (meth := k8m6) (c := k8c6) (by decide +kernel) rfl rfl rfl (by decide +kernel)
set_option maxRecDepth 65536 in
theorem w_c8 : (Jvm.Cond.code ({ cls := "com/example/grantwork/grantwork/store/Effect", name := "of", desc := "(Ljava/lang/String;)Lcom/example/grantwork/grantwork/store/Effect;" } : Jvm.MethodName) prog_23_method_4_code (5 : Nat) (Option.some (Jvm.ClassFile.FieldType.object "com/example/grantwork/grantwork/store/Effect"))).before args0 about1 = true := code_word (m := ⟨10, 0⟩) (meth := k10m0) (c := k10c0) (by decide +kernel) rfl rfl rfl (by decide +kernel)
set_option maxRecDepth 65536 in
theorem w_c9 : (Jvm.Cond.code ({ cls := "java/lang/String", name := "equals", desc := "(Ljava/lang/Object;)Z" } : Jvm.MethodName) jdk_42_method_66_code (3 : Nat) (Option.some Jvm.ClassFile.FieldType.boolean)).before args0 about1 = true := code_word (m := ⟨7, 4⟩) (meth := k7m4) (c := k7c4) (by decide +kernel) rfl rfl rfl (by decide +kernel)
set_option maxRecDepth 65536 in
theorem w_c10 : (Jvm.Cond.code ({ cls := "java/lang/StringLatin1", name := "equals", desc := "([B[B)Z" } : Jvm.MethodName) jdk_43_method_13_code (3 : Nat) (Option.some Jvm.ClassFile.FieldType.boolean)).before args0 about1 = true := code_word (m := ⟨11, 3⟩) (meth := k11m3) (c := k11c3) (by decide +kernel) rfl rfl rfl (by decide +kernel)
set_option maxRecDepth 65536 in
theorem w_c11 : (Jvm.Cond.code ({ cls := "com/example/grantwork/grantwork/store/EffectOfPinLaw", name := "expected", desc := "(Ljava/lang/String;)Lcom/example/grantwork/grantwork/store/Effect;" } : Jvm.MethodName) method_3_code (1 : Nat) (Option.some (Jvm.ClassFile.FieldType.object "com/example/grantwork/grantwork/store/Effect"))).before args0 about1 = true := code_word (m := ⟨1, 2⟩) (meth := k1m2) (c := k1c2) (by decide +kernel) rfl rfl rfl (by decide +kernel)
set_option maxRecDepth 65536 in
theorem w_c12 : (Jvm.Cond.code ({ cls := "java/lang/String", name := "valueOf", desc := "(C)Ljava/lang/String;" } : Jvm.MethodName) jdk_42_method_139_code (1 : Nat) (Option.some (Jvm.ClassFile.FieldType.object "java/lang/String"))).before args0 about1 = true := code_word (m := ⟨7, 5⟩) (meth := k7m5) (c := k7c5) (by decide +kernel) rfl rfl rfl (by decide +kernel)
set_option maxRecDepth 65536 in
theorem w_c13 : (Jvm.Cond.code ({ cls := "java/lang/StringLatin1", name := "canEncode", desc := "(C)Z" } : Jvm.MethodName) jdk_43_method_3_code (1 : Nat) (Option.some Jvm.ClassFile.FieldType.boolean)).before args0 about1 = true := code_word (m := ⟨11, 2⟩) (meth := k11m2) (c := k11c2) (by decide +kernel) rfl rfl rfl (by decide +kernel)
set_option maxRecDepth 65536 in
theorem w_c14 : (Jvm.Cond.code ({ cls := "java/lang/StringLatin1", name := "toBytes", desc := "(C)[B" } : Jvm.MethodName) jdk_43_method_46_code (1 : Nat) (Option.some (Jvm.ClassFile.FieldType.array Jvm.ClassFile.FieldType.byte))).before args0 about1 = true := code_word (m := ⟨11, 4⟩) (meth := k11m4) (c := k11c4) (by decide +kernel) rfl rfl rfl (by decide +kernel)
set_option maxRecDepth 65536 in
theorem w_c15 : (Jvm.Cond.code ({ cls := "java/lang/String", name := "<init>", desc := "([BB)V" } : Jvm.MethodName) jdk_42_method_151_code (3 : Nat) (Option.none : Option Jvm.ClassFile.FieldType)).before args0 about1 = true := code_word (m := ⟨7, 7⟩) (meth := k7m7) (c := k7c7) (by decide +kernel) rfl rfl rfl (by decide +kernel)
set_option maxRecDepth 65536 in
theorem w_c16 : (Jvm.Cond.code ({ cls := "java/lang/StringUTF16", name := "toBytes", desc := "(C)[B" } : Jvm.MethodName) jdk_52_method_24_code (2 : Nat) (Option.some (Jvm.ClassFile.FieldType.array Jvm.ClassFile.FieldType.byte))).before args0 about1 = true := code_word (m := ⟨8, 9⟩) (meth := k8m9) (c := k8c9) (by decide +kernel) rfl rfl rfl (by decide +kernel)
set_option maxRecDepth 65536 in
theorem w_c17 : (Jvm.Cond.code ({ cls := "java/lang/StringUTF16", name := "putChar", desc := "([BII)V" } : Jvm.MethodName) jdk_52_method_4_code (3 : Nat) (Option.none : Option Jvm.ClassFile.FieldType)).before args0 about1 = true := code_word (m := ⟨8, 3⟩) (meth := k8m3) (c := k8c3) (by decide +kernel) rfl rfl rfl (by decide +kernel)
set_option maxRecDepth 65536 in
theorem w_c18 : (Jvm.Cond.code ({ cls := "java/lang/String", name := "length", desc := "()I" } : Jvm.MethodName) jdk_42_method_54_code (1 : Nat) (Option.some Jvm.ClassFile.FieldType.int)).before args0 about1 = true := code_word (m := ⟨7, 2⟩) (meth := k7m2) (c := k7c2) (by decide +kernel) rfl rfl rfl (by decide +kernel)
set_option maxRecDepth 65536 in
theorem w_c19 : (Jvm.Cond.code ({ cls := "java/lang/String", name := "coder", desc := "()B" } : Jvm.MethodName) jdk_42_method_152_code (1 : Nat) (Option.some Jvm.ClassFile.FieldType.byte)).before args0 about1 = true := code_word (m := ⟨7, 8⟩) (meth := k7m8) (c := k7c8) (by decide +kernel) rfl rfl rfl (by decide +kernel)
set_option maxRecDepth 65536 in
theorem w_c20 : (Jvm.Cond.code ({ cls := "com/example/grantwork/grantwork/store/EffectOfPinLaw", name := "replaced", desc := "(Ljava/lang/String;IC)Ljava/lang/String;" } : Jvm.MethodName) method_4_code (4 : Nat) (Option.some (Jvm.ClassFile.FieldType.object "java/lang/String"))).before args0 about1 = true := code_word (m := ⟨1, 3⟩) (meth := k1m3) (c := k1c3) (by decide +kernel) rfl rfl rfl (by decide +kernel)
set_option maxRecDepth 65536 in
theorem w_c21 : (Jvm.Cond.code ({ cls := "java/lang/String", name := "charAt", desc := "(I)C" } : Jvm.MethodName) jdk_42_method_56_code (2 : Nat) (Option.some Jvm.ClassFile.FieldType.char)).before args0 about1 = true := code_word (m := ⟨7, 3⟩) (meth := k7m3) (c := k7c3) (by decide +kernel) rfl rfl rfl (by decide +kernel)
set_option maxRecDepth 65536 in
theorem w_c22 : (Jvm.Cond.code ({ cls := "java/lang/String", name := "isLatin1", desc := "()Z" } : Jvm.MethodName) jdk_42_method_154_code (1 : Nat) (Option.some Jvm.ClassFile.FieldType.boolean)).before args0 about1 = true := code_word (m := ⟨7, 9⟩) (meth := k7m9) (c := k7c9) (by decide +kernel) rfl rfl rfl (by decide +kernel)
set_option maxRecDepth 65536 in
theorem w_c23 : (Jvm.Cond.code ({ cls := "java/lang/StringLatin1", name := "charAt", desc := "([BI)C" } : Jvm.MethodName) jdk_43_method_2_code (2 : Nat) (Option.some Jvm.ClassFile.FieldType.char)).before args0 about1 = true := code_word (m := ⟨11, 1⟩) (meth := k11m1) (c := k11c1) (by decide +kernel) rfl rfl rfl (by decide +kernel)
set_option maxRecDepth 65536 in
theorem w_c24 : (Jvm.Cond.code ({ cls := "java/lang/String", name := "checkIndex", desc := "(II)V" } : Jvm.MethodName) jdk_42_method_155_code (2 : Nat) (Option.none : Option Jvm.ClassFile.FieldType)).before args0 about1 = true := code_word (m := ⟨7, 10⟩) (meth := k7m10) (c := k7c10) (by decide +kernel) rfl rfl rfl (by decide +kernel)
set_option maxRecDepth 65536 in
theorem w_c25 : (Jvm.Cond.code ({ cls := "jdk/internal/util/Preconditions", name := "checkIndex", desc := "(IILjava/util/function/BiFunction;)I" } : Jvm.MethodName) jdk_41_method_11_code (3 : Nat) (Option.some Jvm.ClassFile.FieldType.int)).before args0 about1 = true := code_word (m := ⟨12, 1⟩) (meth := k12m1) (c := k12c1) (by decide +kernel) rfl rfl rfl (by decide +kernel)
set_option maxRecDepth 65536 in
theorem w_c26 : (Jvm.Cond.code ({ cls := "com/example/grantwork/grantwork/store/EffectOfPinLaw", name := "dropLast", desc := "(Ljava/lang/String;)Ljava/lang/String;" } : Jvm.MethodName) method_6_code (2 : Nat) (Option.some (Jvm.ClassFile.FieldType.object "java/lang/String"))).before args0 about1 = true := code_word (m := ⟨1, 5⟩) (meth := k1m5) (c := k1c5) (by decide +kernel) rfl rfl rfl (by decide +kernel)
set_option maxRecDepth 65536 in
theorem w_c27 : (Jvm.Cond.code ({ cls := "com/example/grantwork/grantwork/store/EffectOfPinLaw", name := "appended", desc := "(Ljava/lang/String;C)Ljava/lang/String;" } : Jvm.MethodName) method_5_code (3 : Nat) (Option.some (Jvm.ClassFile.FieldType.object "java/lang/String"))).before args0 about1 = true := code_word (m := ⟨1, 4⟩) (meth := k1m4) (c := k1c4) (by decide +kernel) rfl rfl rfl (by decide +kernel)
set_option maxRecDepth 65536 in
theorem w_c28 : (Jvm.Cond.code ({ cls := "java/lang/StringUTF16", name := "toBytes", desc := "([CII)[B" } : Jvm.MethodName) jdk_52_method_14_code (5 : Nat) (Option.some (Jvm.ClassFile.FieldType.array Jvm.ClassFile.FieldType.byte))).before args0 about1 = true := code_word (m := ⟨8, 5⟩) (meth := k8m5) (c := k8c5) (by decide +kernel) rfl rfl rfl (by decide +kernel)
set_option maxRecDepth 65536 in
theorem w_c29 : (Jvm.Cond.code ({ cls := "java/lang/StringUTF16", name := "newBytesFor", desc := "(I)[B" } : Jvm.MethodName) jdk_52_method_2_code (1 : Nat) (Option.some (Jvm.ClassFile.FieldType.array Jvm.ClassFile.FieldType.byte))).before args0 about1 = true := code_word (m := ⟨8, 1⟩) (meth := k8m1) (c := k8c1) (by decide +kernel) rfl rfl rfl (by decide +kernel)
set_option maxRecDepth 65536 in
theorem w_c30 : (Jvm.Cond.code ({ cls := "java/lang/StringUTF16", name := "newBytesLength", desc := "(I)I" } : Jvm.MethodName) jdk_52_method_3_code (1 : Nat) (Option.some Jvm.ClassFile.FieldType.int)).before args0 about1 = true := code_word (m := ⟨8, 2⟩) (meth := k8m2) (c := k8c2) (by decide +kernel) rfl rfl rfl (by decide +kernel)
set_option maxRecDepth 65536 in
theorem w_c31 : (Jvm.Cond.code ({ cls := "java/lang/StringUTF16", name := "getChar", desc := "([BI)C" } : Jvm.MethodName) jdk_52_method_5_code (2 : Nat) (Option.some Jvm.ClassFile.FieldType.char)).before args0 about1 = true := code_word (m := ⟨8, 4⟩) (meth := k8m4) (c := k8c4) (by decide +kernel) rfl rfl rfl (by decide +kernel)
set_option maxRecDepth 65536 in
theorem w_c32 : (Jvm.Cond.code ({ cls := "com/example/grantwork/grantwork/store/EffectOfPinLaw", name := "drawn5", desc := "(J)Ljava/lang/String;" } : Jvm.MethodName) method_7_code (3 : Nat) (Option.some (Jvm.ClassFile.FieldType.object "java/lang/String"))).before args0 about1 = true := code_word (m := ⟨1, 6⟩) (meth := k1m6) (c := k1c6) (by decide +kernel) rfl rfl rfl (by decide +kernel)
def codes1 : List Jvm.Cond := [Jvm.Cond.code x code maxLocals ret, Jvm.Cond.code ({ cls := "com/example/grantwork/grantwork/store/EffectOfPinLaw", name := "drawn4", desc := "(J)Ljava/lang/String;" } : Jvm.MethodName) method_8_code (3 : Nat) (Option.some (Jvm.ClassFile.FieldType.object "java/lang/String")), Jvm.Cond.code ({ cls := "java/lang/String", name := "<init>", desc := "([C)V" } : Jvm.MethodName) jdk_42_method_3_code (2 : Nat) (Option.none : Option Jvm.ClassFile.FieldType), Jvm.Cond.code ({ cls := "java/lang/String", name := "<init>", desc := "([CIILjava/lang/Void;)V" } : Jvm.MethodName) jdk_42_method_149_code (6 : Nat) (Option.none : Option Jvm.ClassFile.FieldType), Jvm.Cond.code ({ cls := "java/lang/Object", name := "<init>", desc := "()V" } : Jvm.MethodName) object_method_1_code (1 : Nat) (Option.none : Option Jvm.ClassFile.FieldType), Jvm.Cond.code ({ cls := "java/lang/StringUTF16", name := "compress", desc := "([CII)[B" } : Jvm.MethodName) jdk_52_method_16_code (6 : Nat) (Option.some (Jvm.ClassFile.FieldType.array Jvm.ClassFile.FieldType.byte)), Jvm.Cond.code ({ cls := "java/lang/StringUTF16", name := "compress", desc := "([CI[BII)I" } : Jvm.MethodName) jdk_52_method_21_code (7 : Nat) (Option.some Jvm.ClassFile.FieldType.int), Jvm.Cond.code ({ cls := "java/lang/StringUTF16", name := "coderFromArrayLen", desc := "([BI)B" } : Jvm.MethodName) jdk_52_method_15_code (2 : Nat) (Option.some Jvm.ClassFile.FieldType.byte), Jvm.Cond.code ({ cls := "com/example/grantwork/grantwork/store/Effect", name := "of", desc := "(Ljava/lang/String;)Lcom/example/grantwork/grantwork/store/Effect;" } : Jvm.MethodName) prog_23_method_4_code (5 : Nat) (Option.some (Jvm.ClassFile.FieldType.object "com/example/grantwork/grantwork/store/Effect")), Jvm.Cond.code ({ cls := "java/lang/String", name := "equals", desc := "(Ljava/lang/Object;)Z" } : Jvm.MethodName) jdk_42_method_66_code (3 : Nat) (Option.some Jvm.ClassFile.FieldType.boolean), Jvm.Cond.code ({ cls := "java/lang/StringLatin1", name := "equals", desc := "([B[B)Z" } : Jvm.MethodName) jdk_43_method_13_code (3 : Nat) (Option.some Jvm.ClassFile.FieldType.boolean), Jvm.Cond.code ({ cls := "com/example/grantwork/grantwork/store/EffectOfPinLaw", name := "expected", desc := "(Ljava/lang/String;)Lcom/example/grantwork/grantwork/store/Effect;" } : Jvm.MethodName) method_3_code (1 : Nat) (Option.some (Jvm.ClassFile.FieldType.object "com/example/grantwork/grantwork/store/Effect")), Jvm.Cond.code ({ cls := "java/lang/String", name := "valueOf", desc := "(C)Ljava/lang/String;" } : Jvm.MethodName) jdk_42_method_139_code (1 : Nat) (Option.some (Jvm.ClassFile.FieldType.object "java/lang/String")), Jvm.Cond.code ({ cls := "java/lang/StringLatin1", name := "canEncode", desc := "(C)Z" } : Jvm.MethodName) jdk_43_method_3_code (1 : Nat) (Option.some Jvm.ClassFile.FieldType.boolean), Jvm.Cond.code ({ cls := "java/lang/StringLatin1", name := "toBytes", desc := "(C)[B" } : Jvm.MethodName) jdk_43_method_46_code (1 : Nat) (Option.some (Jvm.ClassFile.FieldType.array Jvm.ClassFile.FieldType.byte)), Jvm.Cond.code ({ cls := "java/lang/String", name := "<init>", desc := "([BB)V" } : Jvm.MethodName) jdk_42_method_151_code (3 : Nat) (Option.none : Option Jvm.ClassFile.FieldType), Jvm.Cond.code ({ cls := "java/lang/StringUTF16", name := "toBytes", desc := "(C)[B" } : Jvm.MethodName) jdk_52_method_24_code (2 : Nat) (Option.some (Jvm.ClassFile.FieldType.array Jvm.ClassFile.FieldType.byte)), Jvm.Cond.code ({ cls := "java/lang/StringUTF16", name := "putChar", desc := "([BII)V" } : Jvm.MethodName) jdk_52_method_4_code (3 : Nat) (Option.none : Option Jvm.ClassFile.FieldType), Jvm.Cond.code ({ cls := "java/lang/String", name := "length", desc := "()I" } : Jvm.MethodName) jdk_42_method_54_code (1 : Nat) (Option.some Jvm.ClassFile.FieldType.int), Jvm.Cond.code ({ cls := "java/lang/String", name := "coder", desc := "()B" } : Jvm.MethodName) jdk_42_method_152_code (1 : Nat) (Option.some Jvm.ClassFile.FieldType.byte), Jvm.Cond.code ({ cls := "com/example/grantwork/grantwork/store/EffectOfPinLaw", name := "replaced", desc := "(Ljava/lang/String;IC)Ljava/lang/String;" } : Jvm.MethodName) method_4_code (4 : Nat) (Option.some (Jvm.ClassFile.FieldType.object "java/lang/String")), Jvm.Cond.code ({ cls := "java/lang/String", name := "charAt", desc := "(I)C" } : Jvm.MethodName) jdk_42_method_56_code (2 : Nat) (Option.some Jvm.ClassFile.FieldType.char), Jvm.Cond.code ({ cls := "java/lang/String", name := "isLatin1", desc := "()Z" } : Jvm.MethodName) jdk_42_method_154_code (1 : Nat) (Option.some Jvm.ClassFile.FieldType.boolean), Jvm.Cond.code ({ cls := "java/lang/StringLatin1", name := "charAt", desc := "([BI)C" } : Jvm.MethodName) jdk_43_method_2_code (2 : Nat) (Option.some Jvm.ClassFile.FieldType.char), Jvm.Cond.code ({ cls := "java/lang/String", name := "checkIndex", desc := "(II)V" } : Jvm.MethodName) jdk_42_method_155_code (2 : Nat) (Option.none : Option Jvm.ClassFile.FieldType), Jvm.Cond.code ({ cls := "jdk/internal/util/Preconditions", name := "checkIndex", desc := "(IILjava/util/function/BiFunction;)I" } : Jvm.MethodName) jdk_41_method_11_code (3 : Nat) (Option.some Jvm.ClassFile.FieldType.int), Jvm.Cond.code ({ cls := "com/example/grantwork/grantwork/store/EffectOfPinLaw", name := "dropLast", desc := "(Ljava/lang/String;)Ljava/lang/String;" } : Jvm.MethodName) method_6_code (2 : Nat) (Option.some (Jvm.ClassFile.FieldType.object "java/lang/String")), Jvm.Cond.code ({ cls := "com/example/grantwork/grantwork/store/EffectOfPinLaw", name := "appended", desc := "(Ljava/lang/String;C)Ljava/lang/String;" } : Jvm.MethodName) method_5_code (3 : Nat) (Option.some (Jvm.ClassFile.FieldType.object "java/lang/String")), Jvm.Cond.code ({ cls := "java/lang/StringUTF16", name := "toBytes", desc := "([CII)[B" } : Jvm.MethodName) jdk_52_method_14_code (5 : Nat) (Option.some (Jvm.ClassFile.FieldType.array Jvm.ClassFile.FieldType.byte)), Jvm.Cond.code ({ cls := "java/lang/StringUTF16", name := "newBytesFor", desc := "(I)[B" } : Jvm.MethodName) jdk_52_method_2_code (1 : Nat) (Option.some (Jvm.ClassFile.FieldType.array Jvm.ClassFile.FieldType.byte)), Jvm.Cond.code ({ cls := "java/lang/StringUTF16", name := "newBytesLength", desc := "(I)I" } : Jvm.MethodName) jdk_52_method_3_code (1 : Nat) (Option.some Jvm.ClassFile.FieldType.int), Jvm.Cond.code ({ cls := "java/lang/StringUTF16", name := "getChar", desc := "([BI)C" } : Jvm.MethodName) jdk_52_method_5_code (2 : Nat) (Option.some Jvm.ClassFile.FieldType.char), Jvm.Cond.code ({ cls := "com/example/grantwork/grantwork/store/EffectOfPinLaw", name := "drawn5", desc := "(J)Ljava/lang/String;" } : Jvm.MethodName) method_7_code (3 : Nat) (Option.some (Jvm.ClassFile.FieldType.object "java/lang/String"))]
set_option maxRecDepth 65536 in
theorem codes_eq : words1.filter isCode = codes1 := rfl
theorem w_codes : ∀ c ∈ words1.filter isCode, c.before args0 about1 = true := by
  rw [codes_eq]
  intro c hc
  simp only [codes1, List.mem_cons, List.not_mem_nil, or_false] at hc
  rcases hc with rfl | rfl | rfl | rfl | rfl | rfl | rfl | rfl | rfl | rfl | rfl | rfl | rfl | rfl | rfl | rfl | rfl | rfl | rfl | rfl | rfl | rfl | rfl | rfl | rfl | rfl | rfl | rfl | rfl | rfl | rfl | rfl | rfl
  · exact w_c0
  · exact w_c1
  · exact w_c2
  · exact w_c3
  · exact w_c4
  · exact w_c5
  · exact w_c6
  · exact w_c7
  · exact w_c8
  · exact w_c9
  · exact w_c10
  · exact w_c11
  · exact w_c12
  · exact w_c13
  · exact w_c14
  · exact w_c15
  · exact w_c16
  · exact w_c17
  · exact w_c18
  · exact w_c19
  · exact w_c20
  · exact w_c21
  · exact w_c22
  · exact w_c23
  · exact w_c24
  · exact w_c25
  · exact w_c26
  · exact w_c27
  · exact w_c28
  · exact w_c29
  · exact w_c30
  · exact w_c31
  · exact w_c32
set_option maxRecDepth 65536 in
theorem w_t1 : (words1.take 24).all (fun c => isCode c || c.before args0 about1) = true := by decide +kernel
set_option maxRecDepth 65536 in
theorem w_t2 : ((words1.drop 24).take 24).all (fun c => isCode c || c.before args0 about1) = true := by decide +kernel
set_option maxRecDepth 65536 in
theorem w_t3 : (((words1.drop 24).drop 24).take 24).all (fun c => isCode c || c.before args0 about1) = true := by decide +kernel
set_option maxRecDepth 65536 in
theorem w_t4 : ((((words1.drop 24).drop 24).drop 24).take 24).all (fun c => isCode c || c.before args0 about1) = true := by decide +kernel
set_option maxRecDepth 65536 in
theorem w_t5 : (((((words1.drop 24).drop 24).drop 24).drop 24).take 24).all (fun c => isCode c || c.before args0 about1) = true := by decide +kernel
set_option maxRecDepth 65536 in
theorem w_t6 : ((((((words1.drop 24).drop 24).drop 24).drop 24).drop 24).take 24).all (fun c => isCode c || c.before args0 about1) = true := by decide +kernel
set_option maxRecDepth 65536 in
theorem w_t7 : ((((((words1.drop 24).drop 24).drop 24).drop 24).drop 24).drop 24).all (fun c => isCode c || c.before args0 about1) = true := by decide +kernel
theorem w_tables : (allAtoms (Jvm.Cond.code x code maxLocals ret :: tables_1)).before args0 about1 = true := by
  rw [allAtoms_all]
  show words1.all (fun c => c.before args0 about1) = true
  refine all_split ?_ w_codes
  rw [← List.take_append_drop 24 words1, List.all_append, w_t1, ← List.take_append_drop 24 (words1.drop 24), List.all_append, w_t2, ← List.take_append_drop 24 ((words1.drop 24).drop 24), List.all_append, w_t3, ← List.take_append_drop 24 (((words1.drop 24).drop 24).drop 24), List.all_append, w_t4, ← List.take_append_drop 24 ((((words1.drop 24).drop 24).drop 24).drop 24), List.all_append, w_t5, ← List.take_append_drop 24 (((((words1.drop 24).drop 24).drop 24).drop 24).drop 24), List.all_append, w_t6, w_t7]
  rfl
set_option maxRecDepth 65536 in
theorem w_rest : rest_1_c.before args0 about1 = true := by decide +kernel
set_option maxRecDepth 65536 in
theorem w_case : (Jvm.Cond.and given_1 narrow_1).before args0 about1 = true := by decide +kernel
set_option maxRecDepth 65536 in
theorem w_consts : constsHeld consts_1 about1 := Jvm.Lit.constsHeldB_iff.mp (by decide +kernel)
theorem w_applies : (headSpec (Jvm.Cond.code x code maxLocals ret :: tables_1) room_1).applies x e0.platform about1 = true :=
  (Spec.applies_iff w_frames).mpr ⟨w_running, w_runnable, w_alone, w_named, w_hears, w_ripe, w_room, w_tables⟩
theorem atStart : AtStart classFile x code maxLocals ret World_1 tables_1 room_1 Calls_1 rest_1 Pre_1 launch0 p0 e0 about1 theMethod args0 below0 :=
  ⟨lists_1, trivial, launch0.admits_env _ _ _, launch0.least_env, fairChoices_fair.cas, fairChoices_fair.clock, w_frames, w_args, w_heap, w_applies, ⟨w_consts, trivial⟩, w_rest, w_case⟩
end start1
theorem witness_1 : WitnessClaimed_1 := ⟨start1.p0, start1.e0, start1.about1, start1.theMethod, start1.args0, start1.below0, start1.atStart⟩
end Jvm.Pilot.@@N@@
