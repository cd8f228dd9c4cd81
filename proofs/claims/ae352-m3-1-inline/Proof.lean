import JvmDerived
import JvmDerived.Pilot.@@N@@Statement
import JvmDerived.Pilot.@@N@@Code
set_option linter.unusedVariables false
set_option linter.unusedSimpArgs false
/- laws to paste: Road.backV, Road.lenW, Road.eqW, Road.codOf (cut by pick.py; bodies as the Statement names them) -/
namespace Jvm.Pilot.@@N@@
namespace StrChars
open Jvm Sem ClassFile Op Lib Jvm.Stand Jvm.Free.XT Jvm.Free.ALB Jvm.Free.JM Jvm.Free
open Jvm.Lib.Cold (StaticIs)
/-- a char array whose places are chars -/
def Ch (a : Addr) (A : Cell) (U : State) : Prop := Arr .char a A U ∧ Typed .char A
theorem Ch.mv {a : Addr} {A : Cell} {U U' : State} (h : Ch a A U) (hal : U.vm.Alike U'.vm) (hh : U'.heap = U.heap) : Ch a A U' := ⟨h.1.mv hal hh, h.2⟩
theorem Ch.keep {a : Addr} {A : Cell} {U U' : State} (h : Ch a A U) (hal : U.vm.Alike U'.vm) (hk : U'.heap[a]? = some A) : Ch a A U' := ⟨h.1.keep hal hk, h.2⟩
/-- what place i of a char[]'s cell holds -/
def cv (A : Cell) (i : Nat) : Int32 := match A.slots[i]? with | some (.int x) => x | _ => 0
theorem Ch.get {a : Addr} {A : Cell} {U : State} (h : Ch a A U) {i : Nat} (hi : i < A.slots.size) : A.slots[i]? = some (.int (cv A i)) := by
  have e := Array.getElem?_eq_getElem hi
  have f := h.2 i _ e
  unfold cv; rw [e]
  generalize A.slots[i] = v at f
  cases v <;> simp [fits] at f ⊢
/-- the byte that i2b leaves of a char -/
def lo8 (x : Int32) : Int32 := x.toInt8.toInt32
theorem fits_lo8 (y : Int32) : fits .byte (.int (lo8 y)) = true := by
  have h1 := y.toInt8.le_toInt
  have h2 := y.toInt8.toInt_lt
  simp only [lo8, fits, Bool.and_eq_true, decide_eq_true_eq, Int32.le_iff_toInt_le, Int8.toInt_toInt32, show (-128 : Int32).toInt = -128 from by decide, show (127 : Int32).toInt = 127 from by decide]
  omega
/-- A' is A but that each place j of lo .. hi - 1 holds f j -/
def Laid (A A' : Cell) (lo hi : Nat) (f : Nat → Value) : Prop := A'.cls = A.cls ∧ A'.vm = A.vm ∧ A'.slots.size = A.slots.size ∧ ∀ i, A'.slots[i]? = if lo ≤ i ∧ i < hi then some (f i) else A.slots[i]?
theorem Laid.zero (A : Cell) (lo : Nat) (f : Nat → Value) : Laid A A lo (lo + 0) f := ⟨rfl, rfl, rfl, fun i => by rw [if_neg (by omega)]⟩
theorem Laid.step {A Ak : Cell} {lo k : Nat} {f : Nat → Value} {v : Value} (h : Laid A Ak lo k f) (hlo : lo ≤ k) (hk : k < Ak.slots.size) (hv : v = f k) : Laid A (Ak.setSlot k v) lo (k + 1) f := by
  refine ⟨h.1, h.2.1, by simpa [Cell.setSlot] using h.2.2.1, fun i => ?_⟩
  by_cases e : k = i
  · subst e; rw [Cell.slots_setSlot_self v hk, if_pos (by omega), hv]
  · rw [Cell.slots_setSlot_ne v e, h.2.2.2 i]
    by_cases q : lo ≤ i ∧ i < k
    · rw [if_pos q, if_pos (by omega)]
    · rw [if_neg q, if_neg (by omega)]
def U16 : String := "java/lang/StringUTF16"
namespace Cmp5
def yN : MethodName := ⟨"java/lang/StringUTF16", "compress", "([CI[BII)I"⟩
abbrev yB : ByteArray := jdk_52_method_21_code
theorem d0 : decode yB 0 = .ok (.iconst 0, 1) := by decide +kernel
theorem d1 : decode yB 1 = .ok (.istore 5, 2) := by decide +kernel
theorem d3 : decode yB 3 = .ok (.iload 5, 2) := by decide +kernel
theorem d5 : decode yB 5 = .ok (.iload 4, 2) := by decide +kernel
theorem d7 : decode yB 7 = .ok (.if_icmp (.ge) 37, 3) := by decide +kernel
theorem d10 : decode yB 10 = .ok (.aload_n 0, 1) := by decide +kernel
theorem d11 : decode yB 11 = .ok (.iload_n 1, 1) := by decide +kernel
theorem d12 : decode yB 12 = .ok (.caload, 1) := by decide +kernel
theorem d13 : decode yB 13 = .ok (.istore 6, 2) := by decide +kernel
theorem d15 : decode yB 15 = .ok (.iload 6, 2) := by decide +kernel
theorem d17 : decode yB 17 = .ok (.sipush 255, 3) := by decide +kernel
theorem d20 : decode yB 20 = .ok (.if_icmp (.le) 6, 3) := by decide +kernel
theorem d26 : decode yB 26 = .ok (.aload_n 2, 1) := by decide +kernel
theorem d27 : decode yB 27 = .ok (.iload_n 3, 1) := by decide +kernel
theorem d28 : decode yB 28 = .ok (.iload 6, 2) := by decide +kernel
theorem d30 : decode yB 30 = .ok (.i2b, 1) := by decide +kernel
theorem d31 : decode yB 31 = .ok (.bastore, 1) := by decide +kernel
theorem d32 : decode yB 32 = .ok (.iinc 1 1, 3) := by decide +kernel
theorem d35 : decode yB 35 = .ok (.iinc 3 1, 3) := by decide +kernel
theorem d38 : decode yB 38 = .ok (.iinc 5 1, 3) := by decide +kernel
theorem d41 : decode yB 41 = .ok (.goto (-38), 3) := by decide +kernel
theorem d44 : decode yB 44 = .ok (.iload 4, 2) := by decide +kernel
theorem d46 : decode yB 46 = .ok (.ireturn, 1) := by decide +kernel
def site : List Cond := []
def tab : Cond := tabOf yN yB 7 (some .int) site
def P (b : Addr) (A : Cell) (d : Addr) (B : Cell) (o q len : Nat) (args : Array Value) (s : State) : Prop := args = #[.ref b, .int (Int32.ofNat o), .ref d, .int (Int32.ofNat q), .int (Int32.ofNat len)] ∧ Ch b A s ∧ Arr .byte d B s ∧ b ≠ d ∧ o + len ≤ A.slots.size ∧ q + len ≤ B.slots.size ∧ ∀ i, i < len → ¬ 255 < cv A (o + i)
def E (b : Addr) (A : Cell) (d : Addr) (B : Cell) (o q len : Nat) (r : Option Value) (s u : State) : Prop := r = some (.int (Int32.ofNat len)) ∧ ∃ B', Put d B' s u ∧ Laid B B' q (q + len) (fun j => Value.int (lo8 (cv A (o + (j - q)))))
/-- no char of the range above 255: len; the places written hold each char's low byte -/
theorem law (l : Launch) (b : Addr) (A : Cell) (d : Addr) (B : Cell) (o q len : Nat) : Law l yN 5 5 0 0 yB 7 (some .int) site (P b A d B o q len) (E b A d B o q len) (copyLocs d q len) 0 0 := by
  refine Law.of_walk (plainFor_of_name (by decide +kernel)) (by decide +kernel) (by decide +kernel) (by decide) (fun _ _ h => by rw [h.1]; rfl) (fun _ U U' hal hh h => ⟨h.1, h.2.1.mv hal hh, h.2.2.1.mv hal hh, h.2.2.2⟩) (fun r U U' V V' h1 hal h2 h => ⟨h.1, h.2.elim fun B' q => ⟨B', q.1.mv h1 h2, q.2⟩⟩) ?_
  intro p e s m args below meth c s₁ X0 hexec hbytes hml hret hlk hnm hown hh0 W hP
  obtain ⟨rfl, hA, hB, hne, l1, l2, hp⟩ := hP
  have c1 : Steps p.tables e below (s₁.setTop (entryFrame m #[.ref b, .int (Int32.ofNat o), .ref d, .int (Int32.ofNat q), .int (Int32.ofNat len)] 7)) (s₁.setTop (mkF m 0 #[.val (.ref b), .val (.int (Int32.ofNat o)), .val (.ref d), .val (.int (Int32.ofNat q)), .val (.int (Int32.ofNat len)), .unset, .unset] [])) := entry rfl
  have hA0 := hA.1.mv X0.warmed.alike hh0
  have hB0 := hB.mv X0.warmed.alike hh0
  have a31 := hA.1.2.2.2
  have c2 : Steps p.tables e below (s₁.setTop (entryFrame m #[.ref b, .int (Int32.ofNat o), .ref d, .int (Int32.ofNat q), .int (Int32.ofNat len)] 7)) (s₁.setTop (mkF m 3 #[.val (.ref b), .val (.int (Int32.ofNat o)), .val (.ref d), .val (.int (Int32.ofNat q)), .val (.int (Int32.ofNat len)), .val (.int 0), .unset] [])) := c1.trans (by
    refine iconstV X0.here hexec rfl 0 (hb hbytes d0) (by decide) ?_
    refine XS.istore X0.here hexec rfl (hb hbytes d1) rfl rfl ?_
    exact Steps.refl _)
  have loop : ∀ (r i : Nat), i + r = len → ∀ (z : Slot), (z = .unset ∨ ∃ w, z = .val w ∧ w.category = 1) → ∀ (Tl : State) (Bk : Cell), Stand p l e { frames := 0, locals := 0, cells := 0, slots := 0 } s m #[.ref b, .int (Int32.ofNat o), .ref d, .int (Int32.ofNat q), .int (Int32.ofNat len)] below meth c Tl ([] ++ copyLocs d q i) 0 0 → Put d Bk s₁ Tl → Laid B Bk q (q + i) (fun j => Value.int (lo8 (cv A (o + (j - q))))) →
      Steps p.tables e below (s₁.setTop (entryFrame m #[.ref b, .int (Int32.ofNat o), .ref d, .int (Int32.ofNat q), .int (Int32.ofNat len)] 7)) (Tl.setTop (mkF m 3 #[.val (.ref b), .val (.int (Int32.ofNat (o + i))), .val (.ref d), .val (.int (Int32.ofNat (q + i))), .val (.int (Int32.ofNat len)), .val (.int (Int32.ofNat i)), z] [])) → ∃ (T' : State) (B' : Cell) (z' : Slot), Stand p l e { frames := 0, locals := 0, cells := 0, slots := 0 } s m #[.ref b, .int (Int32.ofNat o), .ref d, .int (Int32.ofNat q), .int (Int32.ofNat len)] below meth c T' ([] ++ copyLocs d q len) 0 0 ∧ Put d B' s₁ T' ∧ Laid B B' q (q + len) (fun j => Value.int (lo8 (cv A (o + (j - q))))) ∧
      Steps p.tables e below (s₁.setTop (entryFrame m #[.ref b, .int (Int32.ofNat o), .ref d, .int (Int32.ofNat q), .int (Int32.ofNat len)] 7)) (T'.setTop (mkF m 3 #[.val (.ref b), .val (.int (Int32.ofNat (o + len))), .val (.ref d), .val (.int (Int32.ofNat (q + len))), .val (.int (Int32.ofNat len)), .val (.int (Int32.ofNat len)), z'] [])) := by
    intro r
    induction r with
    | zero =>
      intro i hi z hz Tl Bk Xl pl fl cl
      have hil : i = len := by omega
      rw [hil] at Xl fl cl
      exact ⟨Tl, Bk, z, Xl, pl, fl, cl⟩
    | succ r ih =>
      intro i hi z hz Tl Bk Xl pl fl cl
      have all := X0.warmed.alike.symm.trans Xl.warmed.alike
      have hAl := hA0.keep all (pl.other hne hA0.1)
      have hBk := hB0.like all pl.1 fl.1 fl.2.1 fl.2.2.1
      have hlt : q + i < Bk.slots.size := by rw [fl.2.2.1]; omega
      have c3 : Steps p.tables e below (s₁.setTop (entryFrame m #[.ref b, .int (Int32.ofNat o), .ref d, .int (Int32.ofNat q), .int (Int32.ofNat len)] 7)) (Tl.setTop (mkF m 12 #[.val (.ref b), .val (.int (Int32.ofNat (o + i))), .val (.ref d), .val (.int (Int32.ofNat (q + i))), .val (.int (Int32.ofNat len)), .val (.int (Int32.ofNat i)), z] [.int (Int32.ofNat (o + i)), .ref b])) := cl.trans (by
        refine XS.iload Xl.here hexec rfl (hb hbytes d3) rfl ?_
        refine XS.iload Xl.here hexec rfl (hb hbytes d5) rfl ?_
        refine XS.icmpNo Xl.here hexec rfl (hb hbytes d7) rfl (ii_ge_f (lt32 (by omega) (by omega))) ?_
        refine XS.aloadN Xl.here hexec rfl (hb hbytes d10) rfl rfl ?_
        refine XS.iloadN Xl.here hexec rfl (hb hbytes d11) rfl ?_
        exact Steps.refl _)
      have c4 : Steps p.tables e below (s₁.setTop (entryFrame m #[.ref b, .int (Int32.ofNat o), .ref d, .int (Int32.ofNat q), .int (Int32.ofNat len)] 7)) (Tl.setTop (mkF m 13 #[.val (.ref b), .val (.int (Int32.ofNat (o + i))), .val (.ref d), .val (.int (Int32.ofNat (q + i))), .val (.int (Int32.ofNat len)), .val (.int (Int32.ofNat i)), z] [.int (cv A (o + i))])) := c3.trans (by
        refine Xl.aget hexec hAl rfl (hA.get (i := o + i) (by omega)) rfl rfl (hb hbytes d12) ?_
        exact Steps.refl _)
      have c5 : Steps p.tables e below (s₁.setTop (entryFrame m #[.ref b, .int (Int32.ofNat o), .ref d, .int (Int32.ofNat q), .int (Int32.ofNat len)] 7)) (Tl.setTop (mkF m 15 #[.val (.ref b), .val (.int (Int32.ofNat (o + i))), .val (.ref d), .val (.int (Int32.ofNat (q + i))), .val (.int (Int32.ofNat len)), .val (.int (Int32.ofNat i)), .val (.int (cv A (o + i)))] [])) := c4.trans (by
        refine XS.istoreS Xl.here hexec rfl (hb hbytes d13) rfl rfl hz ?_
        exact Steps.refl _)
      have c6 : Steps p.tables e below (s₁.setTop (entryFrame m #[.ref b, .int (Int32.ofNat o), .ref d, .int (Int32.ofNat q), .int (Int32.ofNat len)] 7)) (Tl.setTop (mkF m 31 #[.val (.ref b), .val (.int (Int32.ofNat (o + i))), .val (.ref d), .val (.int (Int32.ofNat (q + i))), .val (.int (Int32.ofNat len)), .val (.int (Int32.ofNat i)), .val (.int (cv A (o + i)))] [.int (lo8 (cv A (o + i))), .int (Int32.ofNat (q + i)), .ref d])) := c5.trans (by
        refine XS.iload Xl.here hexec rfl (hb hbytes d15) rfl ?_
        refine sipushV Xl.here hexec rfl 255 (hb hbytes d17) (by decide) ?_
        refine XS.icmpYes Xl.here hexec rfl (pc0 := 20) rfl (hb hbytes d20) rfl (ii_le_t (hp i (by omega))) (by decide) rfl ?_
        refine XS.aloadN Xl.here hexec rfl (hb hbytes d26) rfl rfl ?_
        refine XS.iloadN Xl.here hexec rfl (hb hbytes d27) rfl ?_
        refine XS.iload Xl.here hexec rfl (hb hbytes d28) rfl ?_
        refine i2b Xl.here hexec rfl (hb hbytes d30) rfl ?_
        exact Steps.refl _)
      obtain ⟨T7, X7, p7, st7⟩ := Xl.aput hexec hBk rfl hlt rfl (fits_lo8 (cv A (o + i))) (g := (mkF m 31 #[.val (.ref b), .val (.int (Int32.ofNat (o + i))), .val (.ref d), .val (.int (Int32.ofNat (q + i))), .val (.int (Int32.ofNat len)), .val (.int (Int32.ofNat i)), .val (.int (cv A (o + i)))] [.int (lo8 (cv A (o + i))), .int (Int32.ofNat (q + i)), .ref d])) rfl (rest := []) rfl (hb hbytes d31)
      have c8 : Steps p.tables e below (s₁.setTop (entryFrame m #[.ref b, .int (Int32.ofNat o), .ref d, .int (Int32.ofNat q), .int (Int32.ofNat len)] 7)) (T7.setTop (mkF m 32 #[.val (.ref b), .val (.int (Int32.ofNat (o + i))), .val (.ref d), .val (.int (Int32.ofNat (q + i))), .val (.int (Int32.ofNat len)), .val (.int (Int32.ofNat i)), .val (.int (cv A (o + i)))] [])) := c6.trans (st7 _ (Steps.refl _))
      have c9 : Steps p.tables e below (s₁.setTop (entryFrame m #[.ref b, .int (Int32.ofNat o), .ref d, .int (Int32.ofNat q), .int (Int32.ofNat len)] 7)) (T7.setTop (mkF m 3 #[.val (.ref b), .val (.int (Int32.ofNat (o + i) + 1)), .val (.ref d), .val (.int (Int32.ofNat (q + i) + 1)), .val (.int (Int32.ofNat len)), .val (.int (Int32.ofNat i + 1)), .val (.int (cv A (o + i)))] [])) := c8.trans (by
        refine iincV X7.here hexec rfl 1 (hb hbytes d32) (by decide) rfl rfl ?_
        refine iincV X7.here hexec rfl 1 (hb hbytes d35) (by decide) rfl rfl ?_
        refine iincV X7.here hexec rfl 1 (hb hbytes d38) (by decide) rfl rfl ?_
        refine XS.goto X7.here hexec rfl (pc0 := 41) rfl (hb hbytes d41) (by decide) rfl ?_
        exact Steps.refl _)
      have c10 : Steps p.tables e below (s₁.setTop (entryFrame m #[.ref b, .int (Int32.ofNat o), .ref d, .int (Int32.ofNat q), .int (Int32.ofNat len)] 7)) (T7.setTop (mkF m 3 #[.val (.ref b), .val (.int (Int32.ofNat (o + (i + 1)))), .val (.ref d), .val (.int (Int32.ofNat (q + (i + 1)))), .val (.int (Int32.ofNat len)), .val (.int (Int32.ofNat (i + 1))), .val (.int (cv A (o + i)))] [])) := by
        have := c9
        rw [succ32, succ32, succ32] at this
        exact this
      exact ih (i + 1) (by omega) _ (Or.inr ⟨_, rfl, rfl⟩) T7 _ (by rw [copyLocs_step, ← List.append_assoc]; exact X7) (pl.trans p7) (fl.step (by omega) hlt (by simp)) c10
  obtain ⟨T9, B9, z9, X9, p9, f9, g9⟩ := loop len 0 (by omega) .unset (Or.inl rfl) s₁ B (by simpa [copyLocs] using X0) ⟨hB0.1, fun _ _ => rfl, rfl⟩ (Laid.zero _ _ _) c2
  have c11 : Steps p.tables e below (s₁.setTop (entryFrame m #[.ref b, .int (Int32.ofNat o), .ref d, .int (Int32.ofNat q), .int (Int32.ofNat len)] 7)) (T9.setTop (mkF m 46 #[.val (.ref b), .val (.int (Int32.ofNat (o + len))), .val (.ref d), .val (.int (Int32.ofNat (q + len))), .val (.int (Int32.ofNat len)), .val (.int (Int32.ofNat len)), z9] [.int (Int32.ofNat len)])) := g9.trans (by
    refine XS.iload X9.here hexec rfl (hb hbytes d3) rfl ?_
    refine XS.iload X9.here hexec rfl (hb hbytes d5) rfl ?_
    refine XS.icmpYes X9.here hexec rfl (pc0 := 7) rfl (hb hbytes d7) rfl (ii_ge_t (nlt32 (by omega) (Nat.le_refl _))) (by decide) rfl ?_
    refine XS.iload X9.here hexec rfl (hb hbytes d44) rfl ?_
    exact Steps.refl _)
  exact ⟨T9, some (.int (Int32.ofNat len)), _, _, _, X9, by simp, rfl, rfl, (fun h => by cases h), ⟨rfl, B9, p9.from hh0, f9⟩, fun fs hl => c11.trans (X9.ireturnOut hexec hret rfl (Or.inl rfl) (hb hbytes d46) hl)⟩
end Cmp5
namespace Cmp3
def yN : MethodName := ⟨"java/lang/StringUTF16", "compress", "([CII)[B"⟩
abbrev yB : ByteArray := jdk_52_method_16_code
theorem d0 : decode yB 0 = .ok (.iload_n 2, 1) := by decide +kernel
theorem d1 : decode yB 1 = .ok (.newarray .byte, 2) := by decide +kernel
theorem d3 : decode yB 3 = .ok (.astore_n 3, 1) := by decide +kernel
theorem d4 : decode yB 4 = .ok (.aload_n 0, 1) := by decide +kernel
theorem d5 : decode yB 5 = .ok (.iload_n 1, 1) := by decide +kernel
theorem d6 : decode yB 6 = .ok (.aload_n 3, 1) := by decide +kernel
theorem d7 : decode yB 7 = .ok (.iconst 0, 1) := by decide +kernel
theorem d8 : decode yB 8 = .ok (.iload_n 2, 1) := by decide +kernel
theorem d9 : decode yB 9 = .ok (.invokestatic 115, 3) := by decide +kernel
theorem d12 : decode yB 12 = .ok (.istore 4, 2) := by decide +kernel
theorem d14 : decode yB 14 = .ok (.iload 4, 2) := by decide +kernel
theorem d16 : decode yB 16 = .ok (.iload_n 2, 1) := by decide +kernel
theorem d17 : decode yB 17 = .ok (.if_icmp (.eq) 40, 3) := by decide +kernel
theorem d57 : decode yB 57 = .ok (.aload_n 3, 1) := by decide +kernel
theorem d58 : decode yB 58 = .ok (.areturn, 1) := by decide +kernel
def site : List Cond := [.arrayClass .byte, Cmp5.tab] ++ staticW U16 115 Cmp5.yN
def tab : Cond := tabOf yN yB 6 (some (.array .byte)) site
def P (b : Addr) (A : Cell) (o len : Nat) (args : Array Value) (s : State) : Prop := args = #[.ref b, .int (Int32.ofNat o), .int (Int32.ofNat len)] ∧ Ch b A s ∧ o + len ≤ A.slots.size ∧ len ≤ 536870912 ∧ ∀ i, i < len → ¬ 255 < cv A (o + i)
def E (b : Addr) (A : Cell) (o len : Nat) (r : Option Value) (s u : State) : Prop := NewArr .byte "[B" len (fun j => .int (lo8 (cv A (o + j)))) r s u ∧ u.heap.size = s.heap.size + 1
/-- no char of the range above 255: a new byte[] of their low bytes -/
theorem law (l : Launch) (b : Addr) (A : Cell) (o len : Nat) : Law l yN 3 3 1 18 yB 6 (some (.array .byte)) site (P b A o len) (E b A o len) [] 1 len := by
  refine Law.of_walk (plainFor_of_name (by decide +kernel)) (by decide +kernel) (by decide +kernel) (by decide) (fun _ _ h => by rw [h.1]; rfl) (fun _ U U' hal hh h => ⟨h.1, h.2.1.mv hal hh, h.2.2⟩) (fun r U U' V V' h1 hal h2 h => ⟨NewArr.mv r U U' V V' h1 hal h2 h.1, by rw [h1, h2]; exact h.2⟩) ?_
  intro p e s m args below meth c s₁ X0 hexec hbytes hml hret hlk hnm hown hh0 W hP
  obtain ⟨rfl, hA, l1, l2, hp⟩ := hP
  have a31 := hA.1.2.2.2
  have c1 : Steps p.tables e below (s₁.setTop (entryFrame m #[.ref b, .int (Int32.ofNat o), .int (Int32.ofNat len)] 6)) (s₁.setTop (mkF m 0 #[.val (.ref b), .val (.int (Int32.ofNat o)), .val (.int (Int32.ofNat len)), .unset, .unset, .unset] [])) := entry rfl
  have c2 : Steps p.tables e below (s₁.setTop (entryFrame m #[.ref b, .int (Int32.ofNat o), .int (Int32.ofNat len)] 6)) (s₁.setTop (mkF m 1 #[.val (.ref b), .val (.int (Int32.ofNat o)), .val (.int (Int32.ofNat len)), .unset, .unset, .unset] [.int (Int32.ofNat len)])) := c1.trans (by
    refine XS.iloadN X0.here hexec rfl (hb hbytes d0) rfl ?_
    exact Steps.refl _)
  obtain ⟨T3, B3, X3, ba3, bs3, bv3, bh3, bf3, st3⟩ := X0.anew hexec (atype := .byte) (wk W (.arrayClass .byte)) rfl (by show len * 1 ≤ _; omega) (by omega) (g := (mkF m 1 #[.val (.ref b), .val (.int (Int32.ofNat o)), .val (.int (Int32.ofNat len)), .unset, .unset, .unset] [.int (Int32.ofNat len)])) rfl (hb hbytes d1) (rest := []) rfl (Nat.le_refl _) (by show 0 + len ≤ len; omega)
  rw [hh0] at ba3 st3
  have kp3 : XT.Kept s T3 := (XT.Kept.of_eq hh0).push bh3
  have hA3 := hA.keep X3.warmed.alike (kp3 _ _ hA.1.1)
  have hne : b ≠ s.heap.size := hA.1.ne
  have c4 : Steps p.tables e below (s₁.setTop (entryFrame m #[.ref b, .int (Int32.ofNat o), .int (Int32.ofNat len)] 6)) (T3.setTop (mkF m 3 #[.val (.ref b), .val (.int (Int32.ofNat o)), .val (.int (Int32.ofNat len)), .unset, .unset, .unset] [.ref s.heap.size])) := c2.trans (st3 _ (Steps.refl _))
  have c5 : Steps p.tables e below (s₁.setTop (entryFrame m #[.ref b, .int (Int32.ofNat o), .int (Int32.ofNat len)] 6)) (T3.setTop (mkF m 9 #[.val (.ref b), .val (.int (Int32.ofNat o)), .val (.int (Int32.ofNat len)), .val (.ref s.heap.size), .unset, .unset] [.int (Int32.ofNat len), .int 0, .ref s.heap.size, .int (Int32.ofNat o), .ref b])) := c4.trans (by
    refine XS.astoreN X3.here hexec rfl (hb hbytes d3) rfl rfl rfl ?_
    refine XS.aloadN X3.here hexec rfl (hb hbytes d4) rfl rfl ?_
    refine XS.iloadN X3.here hexec rfl (hb hbytes d5) rfl ?_
    refine XS.aloadN X3.here hexec rfl (hb hbytes d6) rfl rfl ?_
    refine iconstV X3.here hexec rfl 0 (hb hbytes d7) (by decide) ?_
    refine XS.iloadN X3.here hexec rfl (hb hbytes d8) rfl ?_
    exact Steps.refl _)
  obtain ⟨v6, T6, X6, E6, g6⟩ := X3.callS hexec (Cmp5.law l b A s.heap.size B3 o 0 len) hown (wks W (staticW U16 115 Cmp5.yN)) (wk W Cmp5.tab) (W := 0) (Nat.le_of_ble_eq_true rfl) (Nat.le_of_ble_eq_true rfl) (Nat.le_refl _) (by show 0 + len + 0 ≤ len; omega) (g := (mkF m 9 #[.val (.ref b), .val (.int (Int32.ofNat o)), .val (.int (Int32.ofNat len)), .val (.ref s.heap.size), .unset, .unset] [.int (Int32.ofNat len), .int (Int32.ofNat 0), .ref s.heap.size, .int (Int32.ofNat o), .ref b])) rfl (by rw [hml]; rfl) c5 (argsL := [.ref b, .int (Int32.ofNat o), .ref s.heap.size, .int (Int32.ofNat 0), .int (Int32.ofNat len)]) (rest := []) rfl rfl (by show 2 * 0 + 0 ≤ _; decide) (hb hbytes d9) (⟨rfl, hA3, ba3, hne, l1, by rw [bs3]; simp, hp⟩)
  obtain ⟨rfl, B6, p6, f6⟩ := E6
  have c7 : Steps p.tables e below (s₁.setTop (entryFrame m #[.ref b, .int (Int32.ofNat o), .int (Int32.ofNat len)] 6)) (T6.setTop (mkF m 12 #[.val (.ref b), .val (.int (Int32.ofNat o)), .val (.int (Int32.ofNat len)), .val (.ref s.heap.size), .unset, .unset] [.int (Int32.ofNat len)])) := g6
  have c8 : Steps p.tables e below (s₁.setTop (entryFrame m #[.ref b, .int (Int32.ofNat o), .int (Int32.ofNat len)] 6)) (T6.setTop (mkF m 58 #[.val (.ref b), .val (.int (Int32.ofNat o)), .val (.int (Int32.ofNat len)), .val (.ref s.heap.size), .val (.int (Int32.ofNat len)), .unset] [.ref s.heap.size])) := c7.trans (by
    refine XS.istore X6.here hexec rfl (hb hbytes d12) rfl rfl ?_
    refine XS.iload X6.here hexec rfl (hb hbytes d14) rfl ?_
    refine XS.iloadN X6.here hexec rfl (hb hbytes d16) rfl ?_
    refine XS.icmpYes X6.here hexec rfl (pc0 := 17) rfl (hb hbytes d17) rfl (ii_eq_t rfl) (by decide) rfl ?_
    refine XS.aloadN X6.here hexec rfl (hb hbytes d57) rfl rfl ?_
    exact Steps.refl _)
  have X8 := X6.wide (L' := []) (cells' := 1) (slots' := len) (fun x hx hlt => by
    simp only [List.nil_append, copyLocs, List.mem_map, List.mem_range] at hx
    obtain ⟨i, -, rfl⟩ := hx
    exact absurd hlt (Nat.lt_irrefl _)) (Nat.le_refl _) (by omega)
  exact ⟨T6, some (.ref s.heap.size), _, _, _, X8, rfl, rfl, rfl, (fun h => by cases h), ⟨⟨rfl, B6, ba3.like (X3.warmed.alike.symm.trans X6.warmed.alike) p6.1 f6.1 f6.2.1 f6.2.2.1, f6.2.1.trans bv3, by rw [X6.warmed.alike.findClass, f6.1]; exact bf3, by rw [f6.2.2.1, bs3]; simp, fun j hj => by rw [f6.2.2.2 j, if_pos (by omega)]; rfl, kp3.put p6 (Nat.le_refl _)⟩, by rw [p6.2.2, bh3, hh0]; simp⟩, fun fs hl => c8.trans (X8.areturnOut hexec rfl hret rfl (hb hbytes d58) hl)⟩
end Cmp3
namespace CodL
def yN : MethodName := ⟨"java/lang/StringUTF16", "coderFromArrayLen", "([BI)B"⟩
abbrev yB : ByteArray := jdk_52_method_15_code
theorem d0 : decode yB 0 = .ok (.iload_n 1, 1) := by decide +kernel
theorem d1 : decode yB 1 = .ok (.aload_n 0, 1) := by decide +kernel
theorem d2 : decode yB 2 = .ok (.arraylength, 1) := by decide +kernel
theorem d3 : decode yB 3 = .ok (.isub, 1) := by decide +kernel
theorem d4 : decode yB 4 = .ok (.bipush 31, 2) := by decide +kernel
theorem d6 : decode yB 6 = .ok (.iushr, 1) := by decide +kernel
theorem d7 : decode yB 7 = .ok (.i2b, 1) := by decide +kernel
theorem d8 : decode yB 8 = .ok (.ireturn, 1) := by decide +kernel
def site : List Cond := []
def tab : Cond := tabOf yN yB 2 (some .byte) site
def P (d : Addr) (B : Cell) (args : Array Value) (s : State) : Prop := args = #[.ref d, .int (Int32.ofNat B.slots.size)] ∧ Arr .byte d B s
def E (r : Option Value) (s u : State) : Prop := XT.PureE (some (.int 0)) r s u
/-- an array as long as the number of chars: LATIN1 -/
theorem law (l : Launch) (d : Addr) (B : Cell) : Law l yN 2 2 0 0 yB 2 (some .byte) site (P d B) E [] 0 0 := by
  refine Law.of_walk (plainFor_of_name (by decide +kernel)) (by decide +kernel) (by decide +kernel) (by decide) (fun _ _ h => by rw [h.1]; rfl) (fun _ U U' hal hh h => ⟨h.1, h.2.mv hal hh⟩) (fun r U U' V V' h1 hal h2 h => XT.PureE.mv r U U' V V' h1 hal h2 h) ?_
  intro p e s m args below meth c s₁ X0 hexec hbytes hml hret hlk hnm hown hh0 W hP
  obtain ⟨rfl, hB⟩ := hP
  have hB0 := hB.mv X0.warmed.alike hh0
  have c1 : Steps p.tables e below (s₁.setTop (entryFrame m #[.ref d, .int (Int32.ofNat B.slots.size)] 2)) (s₁.setTop (mkF m 0 #[.val (.ref d), .val (.int (Int32.ofNat B.slots.size))] [])) := entry rfl
  have c2 : Steps p.tables e below (s₁.setTop (entryFrame m #[.ref d, .int (Int32.ofNat B.slots.size)] 2)) (s₁.setTop (mkF m 2 #[.val (.ref d), .val (.int (Int32.ofNat B.slots.size))] [.ref d, .int (Int32.ofNat B.slots.size)])) := c1.trans (by
    refine XS.iloadN X0.here hexec rfl (hb hbytes d0) rfl ?_
    refine XS.aloadN X0.here hexec rfl (hb hbytes d1) rfl rfl ?_
    exact Steps.refl _)
  have c3 : Steps p.tables e below (s₁.setTop (entryFrame m #[.ref d, .int (Int32.ofNat B.slots.size)] 2)) (s₁.setTop (mkF m 8 #[.val (.ref d), .val (.int (Int32.ofNat B.slots.size))] [.int (lo8 (ushr (Int32.ofNat B.slots.size - Int32.ofNat B.slots.size) 31))])) := c2.trans (by
    refine X0.alen hexec hB0 rfl rfl (hb hbytes d2) ?_
    refine XS.isub X0.here hexec rfl (hb hbytes d3) rfl ?_
    refine bipushV X0.here hexec rfl 31 (hb hbytes d4) (by decide) ?_
    refine iushr X0.here hexec rfl (hb hbytes d6) rfl ?_
    refine i2b X0.here hexec rfl (hb hbytes d7) rfl ?_
    exact Steps.refl _)
  have e0 : lo8 (ushr (Int32.ofNat B.slots.size - Int32.ofNat B.slots.size) 31) = 0 := by rw [Int32.sub_self]; decide
  rw [e0] at c3
  exact ⟨s₁, some (.int 0), _, _, _, X0, rfl, rfl, rfl, (fun h => by cases h), ⟨rfl, hh0⟩, fun fs hl => c3.trans (X0.ireturnOut hexec hret rfl (Or.inr (Or.inr (Or.inl rfl))) (hb hbytes d8) hl)⟩
end CodL
/-- the String at a is Latin-1 over a new byte[] (the heap's one new cell): the low bytes of the len chars of A from o on; every cell but a is kept -/
def Got (a : Addr) (D : Cell) (fV fC : Field) (A : Cell) (o len : Nat) (r : Option Value) (s u : State) : Prop := r = none ∧ ∃ D' V : Cell, Blank "java/lang/String" a D' u ∧ Same D D' [fV.slot, fC.slot] ∧ D'.slots[fV.slot]? = some (.ref s.heap.size) ∧ D'.slots[fC.slot]? = some (.int 0) ∧ Arr .byte s.heap.size V u ∧ V.vm = .none ∧ u.vm.findClass "[B" = some V.cls ∧ V.slots.size = len ∧ (∀ j, j < len → V.slots[j]? = some (.int (lo8 (cv A (o + j))))) ∧ (∀ (y : Addr) (c : Cell), y ≠ a → s.heap[y]? = some c → u.heap[y]? = some c) ∧ u.heap.size = s.heap.size + 1
theorem Got.mv {a : Addr} {D A : Cell} {fV fC : Field} {o len : Nat} : ∀ r (U U' V V' : State), U'.heap = U.heap → V.vm.Alike V'.vm → V'.heap = V.heap → Got a D fV fC A o len r U V → Got a D fV fC A o len r U' V' :=
  fun r U U' V V' h1 hal h2 ⟨e0, D', X, a1, a2, a3, a4, a5, a6, a7, a8, a9, a10, a11⟩ => ⟨e0, D', X, a1.mv hal h2, a2, by rw [h1]; exact a3, a4, by rw [h1]; exact a5.mv hal h2, a6, by rw [hal.findClass]; exact a7, a8, a9, by rw [h1, h2]; exact a10, by rw [h1, h2]; exact a11⟩
namespace New4
def yN : MethodName := ⟨"java/lang/String", "<init>", "([CIILjava/lang/Void;)V"⟩
abbrev yB : ByteArray := jdk_42_method_149_code
theorem d0 : decode yB 0 = .ok (.aload_n 0, 1) := by decide +kernel
theorem d1 : decode yB 1 = .ok (.invokespecial 1, 3) := by decide +kernel
theorem d4 : decode yB 4 = .ok (.iload_n 3, 1) := by decide +kernel
theorem d5 : decode yB 5 = .ok (.ifCond (.ne) 22, 3) := by decide +kernel
theorem d27 : decode yB 27 = .ok (.getstatic 38, 3) := by decide +kernel
theorem d30 : decode yB 30 = .ok (.ifCond (.eq) 28, 3) := by decide +kernel
theorem d33 : decode yB 33 = .ok (.aload_n 1, 1) := by decide +kernel
theorem d34 : decode yB 34 = .ok (.iload_n 2, 1) := by decide +kernel
theorem d35 : decode yB 35 = .ok (.iload_n 3, 1) := by decide +kernel
theorem d36 : decode yB 36 = .ok (.invokestatic 177, 3) := by decide +kernel
theorem d39 : decode yB 39 = .ok (.astore 5, 2) := by decide +kernel
theorem d41 : decode yB 41 = .ok (.aload_n 0, 1) := by decide +kernel
theorem d42 : decode yB 42 = .ok (.aload 5, 2) := by decide +kernel
theorem d44 : decode yB 44 = .ok (.iload_n 3, 1) := by decide +kernel
theorem d45 : decode yB 45 = .ok (.invokestatic 47, 3) := by decide +kernel
theorem d48 : decode yB 48 = .ok (.putfield 15, 3) := by decide +kernel
theorem d51 : decode yB 51 = .ok (.aload_n 0, 1) := by decide +kernel
theorem d52 : decode yB 52 = .ok (.aload 5, 2) := by decide +kernel
theorem d54 : decode yB 54 = .ok (.putfield 9, 3) := by decide +kernel
theorem d57 : decode yB 57 = .ok (.return_, 1) := by decide +kernel
def site : List Cond := [.fieldLink "java/lang/String" 38 "java/lang/String" "COMPACT_STRINGS" "Z", Cmp3.tab, CodL.tab, .laysFinal "java/lang/String" "java/lang/String" "value" "[B", .fieldLink "java/lang/String" 9 "java/lang/String" "value" "[B", .laysFinal "java/lang/String" "java/lang/String" "coder" "B", .fieldLink "java/lang/String" 15 "java/lang/String" "coder" "B"] ++ objW "java/lang/String" 1 ++ staticW "java/lang/String" 177 Cmp3.yN ++ staticW "java/lang/String" 47 CodL.yN
def tab : Cond := tabOf yN yB 6 none site
def P (a : Addr) (D : Cell) (fV fC : Field) (b : Addr) (A : Cell) (z : Int32) (o len : Nat) (args : Array Value) (s : State) : Prop := args = #[.ref a, .ref b, .int (Int32.ofNat o), .int (Int32.ofNat len), .null] ∧ Blank "java/lang/String" a D s ∧ Found "java/lang/String" "value" "[B" fV s ∧ Found "java/lang/String" "coder" "B" fC s ∧ Ch b A s ∧ StaticIs s "java/lang/String" "COMPACT_STRINGS" "Z" (.int z) ∧ ¬ z = 0 ∧ 0 < len ∧ o + len ≤ A.slots.size ∧ len ≤ 536870912 ∧ ∀ i, i < len → ¬ 255 < cv A (o + i)
def E (a : Addr) (D : Cell) (fV fC : Field) (A : Cell) (o len : Nat) (r : Option Value) (s u : State) : Prop := Got a D fV fC A o len r s u
/-- len > 0, no char of the range above 255: a Latin-1 String of their low bytes -/
theorem law (l : Launch) (a : Addr) (D : Cell) (fV fC : Field) (b : Addr) (A : Cell) (z : Int32) (o len : Nat) : Law l yN 5 4 2 35 yB 6 none site (P a D fV fC b A z o len) (E a D fV fC A o len) [⟨a, fC.slot⟩, ⟨a, fV.slot⟩] 1 len := by
  refine Law.of_walk (plainFor_of_name (by decide +kernel)) (by decide +kernel) (by decide +kernel) (by decide) (fun _ _ h => by rw [h.1]; rfl) (fun _ U U' hal hh h => ⟨h.1, h.2.1.mv hal hh, h.2.2.1.al hal, h.2.2.2.1.al hal, h.2.2.2.2.1.mv hal hh, h.2.2.2.2.2.1.there hal hh, h.2.2.2.2.2.2⟩) (fun r U U' V V' h1 hal h2 h => Got.mv r U U' V V' h1 hal h2 h) ?_
  intro p e s m args below meth c s₁ X0 hexec hbytes hml hret hlk hnm hown hh0 W hP
  obtain ⟨rfl, hB, f1, f2, hA, s1, hz, l0, l1, l2, hp⟩ := hP
  have a31 := hA.1.2.2.2
  have c1 : Steps p.tables e below (s₁.setTop (entryFrame m #[.ref a, .ref b, .int (Int32.ofNat o), .int (Int32.ofNat len), .null] 6)) (s₁.setTop (mkF m 0 #[.val (.ref a), .val (.ref b), .val (.int (Int32.ofNat o)), .val (.int (Int32.ofNat len)), .val .null, .unset] [])) := entry rfl
  have c2 : Steps p.tables e below (s₁.setTop (entryFrame m #[.ref a, .ref b, .int (Int32.ofNat o), .int (Int32.ofNat len), .null] 6)) (s₁.setTop (mkF m 1 #[.val (.ref a), .val (.ref b), .val (.int (Int32.ofNat o)), .val (.int (Int32.ofNat len)), .val .null, .unset] [.ref a])) := c1.trans (by
    refine XS.aloadN X0.here hexec rfl (hb hbytes d0) rfl rfl ?_
    exact Steps.refl _)
  obtain ⟨T3, X3, q3, st3⟩ := X0.oinit hexec hown (wks W (objW "java/lang/String" 1)) (g := (mkF m 1 #[.val (.ref a), .val (.ref b), .val (.int (Int32.ofNat o)), .val (.int (Int32.ofNat len)), .val .null, .unset] [.ref a])) rfl (by rw [hml]; rfl) (rest := []) rfl (hb hbytes d1) (W := 0) (by show 2 * 0 + 0 ≤ _; decide) (Nat.le_of_ble_eq_true rfl) (Nat.le_of_ble_eq_true rfl)
  have hh3 := q3.trans hh0
  have c4 : Steps p.tables e below (s₁.setTop (entryFrame m #[.ref a, .ref b, .int (Int32.ofNat o), .int (Int32.ofNat len), .null] 6)) (T3.setTop (mkF m 27 #[.val (.ref a), .val (.ref b), .val (.int (Int32.ofNat o)), .val (.int (Int32.ofNat len)), .val .null, .unset] [])) := (c2.trans (st3 _ (Steps.refl _))).trans (by
    refine XS.iloadN X3.here hexec rfl (hb hbytes d4) rfl ?_
    refine XS.ifYes X3.here hexec rfl (pc0 := 5) rfl (hb hbytes d5) rfl (i0_ne_t (nz32 (by omega) l0)) (by decide) rfl ?_
    exact Steps.refl _)
  obtain ⟨T5, X5, q5, st5⟩ := X3.sget hexec hown (wk W (.fieldLink "java/lang/String" 38 "java/lang/String" "COMPACT_STRINGS" "Z")) s1 (fun _ _ h => by rw [hh3]; exact h) (g := (mkF m 27 #[.val (.ref a), .val (.ref b), .val (.int (Int32.ofNat o)), .val (.int (Int32.ofNat len)), .val .null, .unset] [])) rfl (hb hbytes d27)
  have hh5 := q5.trans hh3
  have c6 : Steps p.tables e below (s₁.setTop (entryFrame m #[.ref a, .ref b, .int (Int32.ofNat o), .int (Int32.ofNat len), .null] 6)) (T5.setTop (mkF m 30 #[.val (.ref a), .val (.ref b), .val (.int (Int32.ofNat o)), .val (.int (Int32.ofNat len)), .val .null, .unset] [.int z])) := c4.trans (st5 _ (Steps.refl _))
  have c7 : Steps p.tables e below (s₁.setTop (entryFrame m #[.ref a, .ref b, .int (Int32.ofNat o), .int (Int32.ofNat len), .null] 6)) (T5.setTop (mkF m 36 #[.val (.ref a), .val (.ref b), .val (.int (Int32.ofNat o)), .val (.int (Int32.ofNat len)), .val .null, .unset] [.int (Int32.ofNat len), .int (Int32.ofNat o), .ref b])) := c6.trans (by
    refine XS.ifNo X5.here hexec rfl (hb hbytes d30) rfl (i0_eq_f hz) ?_
    refine XS.aloadN X5.here hexec rfl (hb hbytes d33) rfl rfl ?_
    refine XS.iloadN X5.here hexec rfl (hb hbytes d34) rfl ?_
    refine XS.iloadN X5.here hexec rfl (hb hbytes d35) rfl ?_
    exact Steps.refl _)
  obtain ⟨v8, T8, X8, E8, g8⟩ := X5.callS hexec (Cmp3.law l b A o len) hown (wks W (staticW "java/lang/String" 177 Cmp3.yN)) (wk W Cmp3.tab) (W := 0) (Nat.le_of_ble_eq_true rfl) (Nat.le_of_ble_eq_true rfl) (Nat.le_refl _) (by show 0 + len ≤ len; omega) (g := (mkF m 36 #[.val (.ref a), .val (.ref b), .val (.int (Int32.ofNat o)), .val (.int (Int32.ofNat len)), .val .null, .unset] [.int (Int32.ofNat len), .int (Int32.ofNat o), .ref b])) rfl (by rw [hml]; rfl) c7 (argsL := [.ref b, .int (Int32.ofNat o), .int (Int32.ofNat len)]) (rest := []) rfl rfl (by show 2 * 0 + 0 ≤ _; decide) (hb hbytes d36) (⟨rfl, hA.mv X5.warmed.alike hh5, l1, l2, hp⟩)
  obtain ⟨e8, z8⟩ := E8
  obtain ⟨rfl, N, n1, n2, n3, n4, n5, n6⟩ := NewArr.mv _ T5 s _ _ hh5.symm (Vm.Alike.refl _) rfl e8
  rw [hh5] at z8
  have hB1 := hB.keep X8.warmed.alike (n6 _ _ hB.1)
  have hne : s.heap.size ≠ a := (Nat.ne_of_lt (Array.getElem?_eq_some_iff.mp hB.1).1).symm
  have c9 : Steps p.tables e below (s₁.setTop (entryFrame m #[.ref a, .ref b, .int (Int32.ofNat o), .int (Int32.ofNat len), .null] 6)) (T8.setTop (mkF m 39 #[.val (.ref a), .val (.ref b), .val (.int (Int32.ofNat o)), .val (.int (Int32.ofNat len)), .val .null, .unset] [.ref s.heap.size])) := g8
  have c10 : Steps p.tables e below (s₁.setTop (entryFrame m #[.ref a, .ref b, .int (Int32.ofNat o), .int (Int32.ofNat len), .null] 6)) (T8.setTop (mkF m 45 #[.val (.ref a), .val (.ref b), .val (.int (Int32.ofNat o)), .val (.int (Int32.ofNat len)), .val .null, .val (.ref s.heap.size)] [.int (Int32.ofNat N.slots.size), .ref s.heap.size, .ref a])) := by
    have hc : Steps p.tables e below (s₁.setTop (entryFrame m #[.ref a, .ref b, .int (Int32.ofNat o), .int (Int32.ofNat len), .null] 6)) (T8.setTop (mkF m 45 #[.val (.ref a), .val (.ref b), .val (.int (Int32.ofNat o)), .val (.int (Int32.ofNat len)), .val .null, .val (.ref s.heap.size)] [.int (Int32.ofNat len), .ref s.heap.size, .ref a])) := c9.trans (by
      refine XS.astore X8.here hexec rfl (hb hbytes d39) rfl rfl rfl ?_
      refine XS.aloadN X8.here hexec rfl (hb hbytes d41) rfl rfl ?_
      refine XS.aload X8.here hexec rfl (hb hbytes d42) rfl rfl ?_
      refine XS.iloadN X8.here hexec rfl (hb hbytes d44) rfl ?_
      exact Steps.refl _)
    rw [n4]; exact hc
  obtain ⟨v11, T11, X11, E11, g11⟩ := X8.callS hexec (CodL.law l s.heap.size N) hown (wks W (staticW "java/lang/String" 47 CodL.yN)) (wk W CodL.tab) (W := 1) (Nat.le_of_ble_eq_true rfl) (Nat.le_of_ble_eq_true rfl) (Nat.le_refl _) (by show 0 + len + 0 ≤ len; omega) (g := (mkF m 45 #[.val (.ref a), .val (.ref b), .val (.int (Int32.ofNat o)), .val (.int (Int32.ofNat len)), .val .null, .val (.ref s.heap.size)] [.int (Int32.ofNat N.slots.size), .ref s.heap.size, .ref a])) rfl (by rw [hml]; rfl) c10 (argsL := [.ref s.heap.size, .int (Int32.ofNat N.slots.size)]) (rest := [.ref a]) rfl rfl (by show 2 * 0 + (1 + 0) ≤ _; decide) (hb hbytes d45) (⟨rfl, n1⟩)
  obtain ⟨rfl, q11⟩ := E11
  have hB11 := hB1.mv (X8.warmed.alike.symm.trans X11.warmed.alike) q11
  have c12 : Steps p.tables e below (s₁.setTop (entryFrame m #[.ref a, .ref b, .int (Int32.ofNat o), .int (Int32.ofNat len), .null] 6)) (T11.setTop (mkF m 48 #[.val (.ref a), .val (.ref b), .val (.int (Int32.ofNat o)), .val (.int (Int32.ofNat len)), .val .null, .val (.ref s.heap.size)] [.int 0, .ref a])) := g11
  obtain ⟨T13, X13, p13, bl13, sl13, st13⟩ := X11.finit hexec hown (wk W (.fieldLink "java/lang/String" 15 "java/lang/String" "coder" "B")) (Or.inr ⟨_, (wk W (.laysFinal "java/lang/String" "java/lang/String" "coder" "B"))⟩) (Or.inl ⟨rfl, hnm⟩) f2 (Or.inl rfl) hB11 (t := .byte) (by decide +kernel) rfl (g := (mkF m 48 #[.val (.ref a), .val (.ref b), .val (.int (Int32.ofNat o)), .val (.int (Int32.ofNat len)), .val .null, .val (.ref s.heap.size)] [.int 0, .ref a])) rfl (rest := []) rfl (hb hbytes d48)
  have c14 : Steps p.tables e below (s₁.setTop (entryFrame m #[.ref a, .ref b, .int (Int32.ofNat o), .int (Int32.ofNat len), .null] 6)) (T13.setTop (mkF m 54 #[.val (.ref a), .val (.ref b), .val (.int (Int32.ofNat o)), .val (.int (Int32.ofNat len)), .val .null, .val (.ref s.heap.size)] [.ref s.heap.size, .ref a])) := (c12.trans (st13 _ (Steps.refl _))).trans (by
    refine XS.aloadN X13.here hexec rfl (hb hbytes d51) rfl rfl ?_
    refine XS.aload X13.here hexec rfl (hb hbytes d52) rfl rfl ?_
    exact Steps.refl _)
  obtain ⟨T15, X15, p15, bl15, sl15, st15⟩ := X13.finit hexec hown (wk W (.fieldLink "java/lang/String" 9 "java/lang/String" "value" "[B")) (Or.inr ⟨_, (wk W (.laysFinal "java/lang/String" "java/lang/String" "value" "[B"))⟩) (Or.inl ⟨rfl, hnm⟩) f1 (Or.inl rfl) bl13 (t := (.array .byte)) (by decide +kernel) rfl (g := (mkF m 54 #[.val (.ref a), .val (.ref b), .val (.int (Int32.ofNat o)), .val (.int (Int32.ofNat len)), .val .null, .val (.ref s.heap.size)] [.ref s.heap.size, .ref a])) rfl (rest := []) rfl (hb hbytes d54)
  have c16 : Steps p.tables e below (s₁.setTop (entryFrame m #[.ref a, .ref b, .int (Int32.ofNat o), .int (Int32.ofNat len), .null] 6)) (T15.setTop (mkF m 57 #[.val (.ref a), .val (.ref b), .val (.int (Int32.ofNat o)), .val (.int (Int32.ofNat len)), .val .null, .val (.ref s.heap.size)] [])) := c14.trans (st15 _ (Steps.refl _))
  have ap := apart (Or.inr ⟨_, (wk W (.laysFinal "java/lang/String" "java/lang/String" "value" "[B"))⟩) (Or.inr ⟨_, (wk W (.laysFinal "java/lang/String" "java/lang/String" "coder" "B"))⟩) f1 f2 (t₁ := .array .byte) (t₂ := .byte) (by decide +kernel) (by decide +kernel) (by decide)
  have al := X8.warmed.alike.symm.trans X15.warmed.alike
  have n7 : T11.heap[s.heap.size]? = some N := by rw [q11]; exact n1.1
  exact ⟨T15, none, _, _, _, X15, by simp, rfl, by omega, (fun _ => rfl), ⟨rfl, _, N, bl15, ((Same.refl D _).set _ (by simp)).set _ (by simp), sl15, (Cell.slots_setSlot_ne _ ap).trans sl13, n1.keep al (p15.other hne (p13.other hne n7)), n2, by rw [al.findClass]; exact n3, n4, n5, fun y c h1 h2 => p15.other h1 (p13.other h1 (by rw [q11]; exact n6 y c h2)), by rw [p15.2.2, p13.2.2, q11]; exact z8⟩, fun fs hl => c16.trans (X15.returnOut hexec hret (hb hbytes d57) hl)⟩
end New4
namespace New1
def yN : MethodName := ⟨"java/lang/String", "<init>", "([C)V"⟩
abbrev yB : ByteArray := jdk_42_method_3_code
theorem d0 : decode yB 0 = .ok (.aload_n 0, 1) := by decide +kernel
theorem d1 : decode yB 1 = .ok (.aload_n 1, 1) := by decide +kernel
theorem d2 : decode yB 2 = .ok (.iconst 0, 1) := by decide +kernel
theorem d3 : decode yB 3 = .ok (.aload_n 1, 1) := by decide +kernel
theorem d4 : decode yB 4 = .ok (.arraylength, 1) := by decide +kernel
theorem d5 : decode yB 5 = .ok (.aconst_null, 1) := by decide +kernel
theorem d6 : decode yB 6 = .ok (.invokespecial 27, 3) := by decide +kernel
theorem d9 : decode yB 9 = .ok (.return_, 1) := by decide +kernel
def site : List Cond := [New4.tab] ++ initW "java/lang/String" 27 New4.yN
def tab : Cond := tabOf yN yB 2 none site
def P (a : Addr) (D : Cell) (fV fC : Field) (b : Addr) (A : Cell) (z : Int32) (args : Array Value) (s : State) : Prop := args = #[.ref a, .ref b] ∧ Blank "java/lang/String" a D s ∧ Found "java/lang/String" "value" "[B" fV s ∧ Found "java/lang/String" "coder" "B" fC s ∧ Ch b A s ∧ StaticIs s "java/lang/String" "COMPACT_STRINGS" "Z" (.int z) ∧ ¬ z = 0 ∧ 0 < A.slots.size ∧ A.slots.size ≤ 536870912 ∧ ∀ i, i < A.slots.size → ¬ 255 < cv A i
def E (a : Addr) (D : Cell) (fV fC : Field) (A : Cell) (r : Option Value) (s u : State) : Prop := Got a D fV fC A 0 A.slots.size r s u
/-- new String(chars), not empty, no char above 255: a Latin-1 String of their low bytes -/
theorem law (l : Launch) (a : Addr) (D : Cell) (fV fC : Field) (b : Addr) (A : Cell) (z : Int32) : Law l yN 2 1 3 52 yB 2 none site (P a D fV fC b A z) (E a D fV fC A) [⟨a, fC.slot⟩, ⟨a, fV.slot⟩] 1 A.slots.size := by
  refine Law.of_walk (plainFor_of_name (by decide +kernel)) (by decide +kernel) (by decide +kernel) (by decide) (fun _ _ h => by rw [h.1]; rfl) (fun _ U U' hal hh h => ⟨h.1, h.2.1.mv hal hh, h.2.2.1.al hal, h.2.2.2.1.al hal, h.2.2.2.2.1.mv hal hh, h.2.2.2.2.2.1.there hal hh, h.2.2.2.2.2.2⟩) (fun r U U' V V' h1 hal h2 h => Got.mv r U U' V V' h1 hal h2 h) ?_
  intro p e s m args below meth c s₁ X0 hexec hbytes hml hret hlk hnm hown hh0 W hP
  obtain ⟨rfl, hB, f1, f2, hA, s1, hz, l0, l2, hp⟩ := hP
  have c1 : Steps p.tables e below (s₁.setTop (entryFrame m #[.ref a, .ref b] 2)) (s₁.setTop (mkF m 0 #[.val (.ref a), .val (.ref b)] [])) := entry rfl
  have c2 : Steps p.tables e below (s₁.setTop (entryFrame m #[.ref a, .ref b] 2)) (s₁.setTop (mkF m 6 #[.val (.ref a), .val (.ref b)] [.null, .int (Int32.ofNat A.slots.size), .int 0, .ref b, .ref a])) := c1.trans (by
    refine XS.aloadN X0.here hexec rfl (hb hbytes d0) rfl rfl ?_
    refine XS.aloadN X0.here hexec rfl (hb hbytes d1) rfl rfl ?_
    refine iconstV X0.here hexec rfl 0 (hb hbytes d2) (by decide) ?_
    refine XS.aloadN X0.here hexec rfl (hb hbytes d3) rfl rfl ?_
    refine X0.alen hexec (hA.1.mv X0.warmed.alike hh0) rfl rfl (hb hbytes d4) ?_
    refine XS.aconstNull X0.here hexec rfl (hb hbytes d5) ?_
    exact Steps.refl _)
  obtain ⟨v3, T3, X3, E3, g3⟩ := X0.callN hexec (New4.law l a D fV fC b A z 0 A.slots.size) rfl hown (wks W (initW "java/lang/String" 27 New4.yN)) (W New4.tab (by simp only [site, List.mem_cons, List.mem_append, true_or, or_true])) (W := 0) (Nat.le_of_ble_eq_true rfl) (Nat.le_of_ble_eq_true rfl) (Nat.le_refl _) (by show 0 + A.slots.size ≤ A.slots.size; omega) (g := (mkF m 6 #[.val (.ref a), .val (.ref b)] [.null, .int (Int32.ofNat A.slots.size), .int (Int32.ofNat 0), .ref b, .ref a])) rfl (by rw [hml]; rfl) c2 (argsL := [.ref b, .int (Int32.ofNat 0), .int (Int32.ofNat A.slots.size), .null]) (rest := []) rfl rfl (by show 2 * 0 + 0 ≤ _; decide) (hb hbytes d6) (⟨rfl, hB.mv X0.warmed.alike hh0, f1.al X0.warmed.alike, f2.al X0.warmed.alike, hA.mv X0.warmed.alike hh0, s1.there X0.warmed.alike hh0, hz, l0, by omega, l2, fun i hi => by rw [Nat.zero_add]; exact hp i hi⟩)
  have e0 := Got.mv _ s₁ s _ _ hh0.symm (Vm.Alike.refl _) rfl E3
  obtain rfl := e0.1
  have c4 : Steps p.tables e below (s₁.setTop (entryFrame m #[.ref a, .ref b] 2)) (T3.setTop (mkF m 9 #[.val (.ref a), .val (.ref b)] [])) := g3
  exact ⟨T3, none, _, _, _, X3, by simp, rfl, by omega, (fun _ => rfl), e0, fun fs hl => c4.trans (X3.returnOut hexec hret (hb hbytes d9) hl)⟩
theorem pays {l : Launch} {R : Room} {p : Program} {e : Env} {below : List Frame} {s : State} {sargs : Array Value} {len W : Nat} (a : Addr) (D : Cell) (fV fC : Field) (b : Addr) (A : Cell) (z : Int32) (htab : tab.before sargs s = true) (hfr : 4 ≤ R.frames) (hlo : W + 65 ≤ R.locals) :
    Back l R p e below s sargs yN len W (fun A₁ a₁ => A₁.cells + 1 ≤ R.cells ∧ A₁.slots + A.slots.size ≤ R.slots ∧ P a D fV fC b A z a₁ A₁.U) (fun A₁ _ v₁ B₁ => E a D fV fC A v₁ A₁.U B₁.U ∧ B₁.locs = A₁.locs ++ [⟨a, fC.slot⟩, ⟨a, fV.slot⟩] ∧ B₁.cells = A₁.cells + 1 ∧ B₁.slots = A₁.slots + A.slots.size) :=
  (law l a D fV fC b A z).pays htab hfr (by omega)
end New1
/-- the byte, read back as charAt reads it, is the char -/
theorem lo8_mask {x : Int32} (h0 : ¬ x < 0) (h1 : ¬ 255 < x) : lo8 x &&& 255 = x := by
  have t : ∀ k : Fin 256, lo8 (Int32.ofNat k.val) &&& 255 = Int32.ofNat k.val := by decide +kernel
  rw [Int32.lt_iff_toInt_lt] at h0 h1
  have e0 : (0 : Int32).toInt = 0 := rfl
  have e1 : (255 : Int32).toInt = 255 := rfl
  obtain ⟨k, hk⟩ : ∃ k : Nat, x.toInt = k := ⟨x.toInt.toNat, by omega⟩
  have hx : x = Int32.ofNat k := Int32.toInt_inj.mp (by rw [hk, Int32.toInt_ofNat_small (by omega)])
  rw [hx]
  exact t ⟨k, by omega⟩
end StrChars
namespace StrChars.Road
open Jvm Sem ClassFile Op Lib Jvm.Stand Jvm.Free Jvm.Free.XT
open Jvm.Lib.Cold (StaticIs)
abbrev ST : String := "java/lang/String"
/-- every table word that New1's law asks, flat -/
abbrev words : List Jvm.Cond := [.code New1.yN New1.yB 2 none, .initialized ST, .methodLink ST 27 New4.yN, .instanceMethod New4.yN,
  .code New4.yN New4.yB 6 none, .fieldLink ST 38 ST "COMPACT_STRINGS" "Z", .laysFinal ST ST "value" "[B", .fieldLink ST 9 ST "value" "[B", .laysFinal ST ST "coder" "B", .fieldLink ST 15 ST "coder" "B",
  .methodLink ST 1 Lib.objectInit, .instanceMethod Lib.objectInit, .code Lib.objectInit ⟨#[0xb1]⟩ 1 none, .methodLink ST 177 Cmp3.yN, .static Cmp3.yN, .methodLink ST 47 CodL.yN, .static CodL.yN,
  .code Cmp3.yN Cmp3.yB 6 (some (.array .byte)), .initialized U16, .arrayClass .byte, .methodLink U16 115 Cmp5.yN, .static Cmp5.yN, .code Cmp5.yN Cmp5.yB 7 (some .int), .code CodL.yN CodL.yB 2 (some .byte)]
theorem tab_of {a : Array Value} {s : State} (h : ∀ w ∈ words, w.before a s = true) : New1.tab.before a s = true := by
  have h5 : Cmp5.tab.before a s = true := unparts (wk h (.code Cmp5.yN Cmp5.yB 7 (some .int))) (wks h (.initialized Cmp5.yN.cls :: Cmp5.site))
  have hc : CodL.tab.before a s = true := unparts (wk h (.code CodL.yN CodL.yB 2 (some .byte))) (wks h (.initialized CodL.yN.cls :: CodL.site))
  have q5 : ∀ w ∈ Cmp5.tab :: words, w.before a s = true := fun w hw => (List.mem_cons.mp hw).elim (fun e => e ▸ h5) (h w)
  have h3 : Cmp3.tab.before a s = true := unparts (wk q5 (.code Cmp3.yN Cmp3.yB 6 (some (.array .byte)))) (wks q5 (.initialized Cmp3.yN.cls :: Cmp3.site))
  have q3 : ∀ w ∈ Cmp3.tab :: CodL.tab :: words, w.before a s = true := fun w hw => (List.mem_cons.mp hw).elim (fun e => e ▸ h3) fun hw => (List.mem_cons.mp hw).elim (fun e => e ▸ hc) (h w)
  have h4 : New4.tab.before a s = true := unparts (wk q3 (.code New4.yN New4.yB 6 none)) (wks q3 (.initialized New4.yN.cls :: New4.site))
  have q4 : ∀ w ∈ New4.tab :: words, w.before a s = true := fun w hw => (List.mem_cons.mp hw).elim (fun e => e ▸ h4) (h w)
  exact unparts (wk q4 (.code New1.yN New1.yB 2 none)) (wks q4 (.initialized New1.yN.cls :: New1.site))
/-- the words ride from the start Z to the walk's own state -/
theorem moved {Z s : State} {a0 args : Array Value} (hZ : Z.Warmed39 s.vm) (hw : ∀ d ∈ words, d.before a0 Z = true) : ∀ d ∈ words, d.before args s = true := fun d hd => by
  have q := hw d hd
  have t : ∀ d ∈ words, d = .arrayClass .byte ∨ (d.onTables && d.keepsFace) = true := by decide +kernel
  rcases t d hd with rfl | t
  · exact RoadKit.mvA hZ q
  · exact RoadKit.mv hZ q t
/-- WHAT COMES BACK, over the tables of the start Z: h the heap at the call, h' behind it -/
def Q (Z : State) (x : Addr) (A : Cell) (h : Heap) (v : Option Value) (h' : Heap) (L : List Loc) : Prop := v = none ∧ (∀ y ∈ L, y.base = x) ∧ RoadKit.Keep h h' [x] ∧ h'.size = h.size + 1 ∧ RoadKit.Exa Z h' x ST ∧ RoadKit.Fld Z h' x ST "value" "[B" (.ref h.size) ∧ RoadKit.Fld Z h' x ST "coder" "B" (.int 0) ∧
  (∃ V : Cell, RoadKit.Arr Z h' h.size V .byte ∧ V.vm = .none ∧ Z.vm.findClass "[B" = some V.cls ∧ V.slots.size = A.slots.size ∧ ∀ j, j < A.slots.size → V.slots[j]? = some (.int (lo8 (cv A j)))) ∧
  ∀ (O n d : String) (w : Value), RoadKit.Fld Z h x O n d w → RoadKit.slotOf Z O n d ≠ RoadKit.slotOf Z ST "value" "[B" → RoadKit.slotOf Z O n d ≠ RoadKit.slotOf Z ST "coder" "B" → RoadKit.Fld Z h' x O n d w
/-- **new String(chars) AT A CALL, IN THE ROAD'S FORM**: for specialBack behind newO: x the fresh String, b the char[] with the cell A -/
theorem back {p : Program} {l : Launch} {e : Env} {R : Room} {s : State} {args : Array Value} {below : List Frame} {len W : Nat} {Z : State} {a0 : Array Value} {h : Heap} (hZ : Z.Warmed39 s.vm) (hw : ∀ d ∈ words, d.before a0 Z = true) {kI : Nat} (wi : (Jvm.Cond.instantiable ST kI).before a0 Z = true)
    {x b : Addr} {A : Cell} {z : Int32} {v0 c0 : Value} (E : RoadKit.Exa Z h x ST) (V : RoadKit.Fld Z h x ST "value" "[B" v0) (C : RoadKit.Fld Z h x ST "coder" "B" c0) (K : RoadKit.Arr Z h b A .char) (hty : Typed .char A) (S : RoadKit.Sta Z h ST "COMPACT_STRINGS" "Z" (.int z)) (hz : ¬ z = 0)
    (l0 : 0 < A.slots.size) (l2 : A.slots.size ≤ 536870912) (hp : ∀ i, i < A.slots.size → ¬ 255 < cv A i) (hfr : 4 ≤ R.frames) (hlo : W + 65 ≤ R.locals) :
    Back l R p e below s args New1.yN len W (fun P a => a = #[.ref x, .ref b] ∧ P.U.heap = h ∧ P.cells + 1 ≤ R.cells ∧ P.slots + A.slots.size ≤ R.slots)
      (fun P _ v B => ∃ L, Q Z x A h v B.U.heap L ∧ B.locs = P.locs ++ L ∧ B.cells = P.cells + 1 ∧ B.slots = P.slots + A.slots.size) := by
  intro m meth c P g ig mk a X hg hsize hdg hW hn hp'
  obtain ⟨rfl, rfl, r1, r2⟩ := hp'
  have al : Z.vm.Alike P.U.vm := hZ.alike.trans X.warmed.alike
  obtain ⟨D, cfV, kV, iV, fV, hD, gV, stV, knV, obV, asV, slV⟩ := id V
  obtain ⟨D', cfC, kC, iC, fC, hD', gC, stC, -, -, asC, slC⟩ := id C
  cases hD.symm.trans hD'
  obtain ⟨D2, kD, e1, e2, e3, e4, e5⟩ := id E
  cases hD.symm.trans e1
  obtain ⟨c2, k2, i1, i2, i3, -⟩ := Cond.instantiable_spec wi
  cases e2.symm.trans i1
  cases e3.symm.trans i2
  obtain ⟨kU, u1, u2⟩ := al.2.2 _ _ e3
  have hB : Blank ST x D P.U := ⟨hD, ⟨knV, fun q hq => by rw [hq] at obV; cases obV⟩, by rw [al.findClass]; exact e2, kU, u1, by rw [u2]; exact i3, by rw [u2]; exact e5 i3⟩
  have F1 : Found ST "value" "[B" fV P.U := ⟨SBG.found_only al ⟨cfV, kV, iV, gV⟩, stV⟩
  have F2 : Found ST "coder" "B" fC P.U := ⟨SBG.found_only al ⟨cfC, kC, iC, gC⟩, stC⟩
  have hA : Ch b A P.U := ⟨⟨K.1, State.isArrayOf_alike al K.2.1, K.2.2, by omega⟩, hty⟩
  have hS : StaticIs P.U ST "COMPACT_STRINGS" "Z" (.int z) := by
    obtain ⟨cfS, iS, kS, fS, st, cS, t1, t2, t3, t4, t5, t6, t7⟩ := S
    exact StaticIs.there (s := { Z with heap := P.U.heap }) ⟨cfS, iS, kS, fS, st, cS, t1, t2, t3, t4, t5, (fun q => by rw [q] at t6; cases t6), t7⟩ al rfl
  obtain ⟨v, B, X', ⟨⟨hv, E', V', q1, q2, q3, q4, q5, q6, q7, q8, q9, q10, q11⟩, hl, hc, hs⟩, st⟩ := New1.pays x D fV fC b A z (tab_of (moved hZ hw)) hfr hlo m meth c P g ig mk _ X hg hsize hdg hW hn ⟨r1, r2, rfl, hB, F1, F2, hA, hS, hz, l0, l2, hp⟩
  have al' : Z.vm.Alike B.U.vm := hZ.alike.trans X'.warmed.alike
  have hsz : E'.slots.size = D.slots.size := by
    obtain ⟨-, -, -, kB, w1, w2, w3⟩ := q1
    obtain ⟨kB', y1, y2⟩ := al'.2.2 _ _ e3
    rw [q2.2.1] at w1
    cases w1.symm.trans y1
    rw [w3, e5 i3, y2]
  refine ⟨v, B, X', ⟨_, ⟨hv, ?_, ⟨by omega, fun y cy hy hn' => q10 y cy (by simpa using hn') hy, fun y cy hy => ?_⟩, q11, ⟨E', _, q1.1, by rw [q2.2.1]; exact e2, by rw [q2.2.1]; exact e3, by rw [q2.1]; exact obV, fun _ => by rw [hsz]; exact e5 i3⟩,
    ⟨E', cfV, kV, iV, fV, q1.1, gV, stV, by rw [q2.1]; exact knV, by rw [q2.1]; exact obV, by rw [q2.2.1]; exact asV, q3⟩, ⟨E', cfC, kC, iC, fC, q1.1, gC, stC, by rw [q2.1]; exact knV, by rw [q2.1]; exact obV, by rw [q2.2.1]; exact asC, q4⟩,
    ⟨V', ⟨q5.1, State.isArrayOf_alike al'.symm q5.2.1, q5.2.2.1⟩, q6, by rw [← al'.findClass]; exact q7, q8, fun j hj => by have := q9 j hj; rwa [Nat.zero_add] at this⟩, fun O n d w F n1 n2 => ?_⟩, hl, hc, hs⟩, st⟩
  · intro y hy
    simp only [List.mem_cons, List.not_mem_nil, or_false] at hy
    rcases hy with rfl | rfl <;> rfl
  · by_cases q : y = x
    · subst q
      cases hD.symm.trans hy
      exact ⟨E', q1.1, q2.2.1, q2.1, hsz⟩
    · exact ⟨cy, q10 y cy q hy, rfl, rfl, rfl⟩
  · obtain ⟨D3, cf, k, i, f, g1, g2, g3, g4, g5, g6, g7⟩ := F
    cases hD.symm.trans g1
    simp only [RoadKit.slotOf, g2, gV, gC, Option.map_some, Option.getD_some] at n1 n2
    exact ⟨E', cf, k, i, f, q1.1, g2, g3, by rw [q2.1]; exact g4, by rw [q2.1]; exact g5, by rw [q2.2.1]; exact g6, by rw [q2.2.2 f.slot (by simp [n1, n2])]; exact g7⟩
end StrChars.Road
namespace StrChars.Road
open Jvm Sem ClassFile Op Lib Jvm.Stand Jvm.Free Jvm.Free.XT
/-- WHAT COMES BACK, the byte[] as a list of values -/
def QA (Z : State) (x : Addr) (zn : Int32) (cs : List Int32) (h : Heap) (v : Option Value) (h' : Heap) (L : List Loc) : Prop := v = none ∧ (∀ y ∈ L, y.base = x) ∧ RoadKit.Keep h h' [x] ∧ h'.size = h.size + 1 ∧ RoadKit.Exa Z h' x ST ∧ RoadKit.Fld Z h' x ST "value" "[B" (.ref h.size) ∧ RoadKit.Fld Z h' x ST "coder" "B" (.int 0) ∧
  (∃ kb, Z.vm.findClass "[B" = some kb ∧ RoadKit.Arv Z h' h.size kb .byte zn (cs.map fun c => .int (lo8 c)) (.int 0)) ∧
  ∀ (O n d : String) (w : Value), RoadKit.Fld Z h x O n d w → RoadKit.slotOf Z O n d ≠ RoadKit.slotOf Z ST "value" "[B" → RoadKit.slotOf Z O n d ≠ RoadKit.slotOf Z ST "coder" "B" → RoadKit.Fld Z h' x O n d w
/-- **new String(chars) AT A CALL, THE ARRAYS AS LISTS**: the char[] at b holds cs, not empty, no char above 255 -/
theorem backArv {p : Program} {l : Launch} {e : Env} {R : Room} {s : State} {args : Array Value} {below : List Frame} {len W : Nat} {Z : State} {a0 : Array Value} {h : Heap} (hZ : Z.Warmed39 s.vm) (hw : ∀ d ∈ words, d.before a0 Z = true) {kI : Nat} (wi : (Jvm.Cond.instantiable ST kI).before a0 Z = true)
    {x b : Addr} {k : ClassId} {zn z : Int32} {cs : List Int32} {dv v0 c0 : Value} (E : RoadKit.Exa Z h x ST) (V : RoadKit.Fld Z h x ST "value" "[B" v0) (C : RoadKit.Fld Z h x ST "coder" "B" c0) (K : RoadKit.Arv Z h b k .char zn (cs.map Value.int) dv) (S : RoadKit.Sta Z h ST "COMPACT_STRINGS" "Z" (.int z)) (hz : ¬ z = 0)
    (hlen : zn.toNatClampNeg = cs.length) (h0 : 0 < cs.length) (hbig : cs.length ≤ 536870912) (hall : ∀ c ∈ cs, ¬ 255 < c) (hfr : 4 ≤ R.frames) (hlo : W + 65 ≤ R.locals) :
    Back l R p e below s args New1.yN len W (fun P a => a = #[.ref x, .ref b] ∧ P.U.heap = h ∧ P.cells + 1 ≤ R.cells ∧ P.slots + cs.length ≤ R.slots)
      (fun P _ v B => ∃ L, QA Z x zn cs h v B.U.heap L ∧ B.locs = P.locs ++ L ∧ B.cells = P.cells + 1 ∧ B.slots = P.slots + cs.length) := by
  obtain ⟨A, K1, K2, K3, K4, K5, K6⟩ := K
  have e : A.slots.size = cs.length := K3.trans hlen
  have hat : ∀ (i : Nat) (hi : i < cs.length), A.slots[i]? = some (.int cs[i]) := fun i hi => by rw [K5 i (by omega)]; simp [List.getD_eq_getElem?_getD, hi]
  have hcv : ∀ (i : Nat) (hi : i < cs.length), cv A i = cs[i] := fun i hi => by unfold cv; rw [hat i hi]
  have hty : Typed .char A := fun i v hv => by
    have hi : i < A.slots.size := (Array.getElem?_eq_some_iff.mp hv).1
    have q := K5 i hi
    rw [hv] at q
    rw [Option.some.inj q]
    exact K6 i hi
  refine Back.mono (back hZ hw wi E V C K1 hty S hz (by omega) (by omega) (fun i hi => by rw [hcv i (by omega)]; exact hall _ (List.getElem_mem _)) hfr hlo) (fun P a hp => ⟨hp.1, hp.2.1, hp.2.2.1, by rw [e]; exact hp.2.2.2⟩) (fun P a v B hp hq => ?_)
  obtain ⟨L, ⟨q1, q2, q3, q4, q5, q6, q7, ⟨V', v1, v2, v3, v4, v5⟩, q9⟩, hl, hc, hs⟩ := hq
  refine ⟨L, ⟨q1, q2, q3, q4, q5, q6, q7, ⟨V'.cls, v3, V', v1, rfl, by rw [v4, e, hlen], K4, fun i hi => ?_, fun i hi => ?_⟩, q9⟩, hl, hc, by rw [hs, e]⟩
  · have hi' : i < cs.length := by omega
    rw [v5 i (by omega), hcv i hi']; simp [List.getD_eq_getElem?_getD, hi']
  · have hi' : i < cs.length := by omega
    simp only [List.getD_eq_getElem?_getD, List.getElem?_map, List.getElem?_eq_getElem hi', Option.map_some, Option.getD_some]
    exact fits_lo8 _
end StrChars.Road
namespace StrChars.Road
open Jvm Sem ClassFile Op Lib Jvm.Stand Jvm.Free Jvm.Free.XT
/-- WHAT COMES BACK, in the writer's own shape -/
def QV (Z : State) (x : Addr) (N : Int32) (bs : List Int32) (h : Heap) (n0 : Nat) (v : Option Value) (h' : Heap) (L : List Loc) : Prop := v = none ∧ RoadKit.Fr n0 L ∧ RoadKit.Keep h h' [x] ∧ RoadKit.Exa Z h' x ST ∧ RoadKit.Fld Z h' x ST "coder" "B" (.int 0) ∧
  ∃ (t : Addr) (kb : ClassId), n0 ≤ t ∧ h.size ≤ t ∧ ¬ t = x ∧ RoadKit.Fld Z h' x ST "value" "[B" (.ref t) ∧ RoadKit.Arv Z h' t kb .byte N (bs.map Value.int) (.int 0)
/-- **new String(chars) AT A CALL, FOR THE WRITER**: a char[] of n known ints, each 0 to 255 -/
theorem backV {p : Program} {l : Launch} {e : Env} {R : Room} {s : State} {args : Array Value} {below : List Frame} {len W : Nat} {Z : State} {a0 : Array Value} {h : Heap} (hZ : Z.Warmed39 s.vm) (hw : ∀ d ∈ words, d.before a0 Z = true) {kI : Nat} (wi : (Jvm.Cond.instantiable ST kI).before a0 Z = true)
    {x b : Addr} {kC : ClassId} {cs bs : List Int32} {d v0 c0 : Value} {z N : Int32} {n n0 : Nat} (hx0 : n0 ≤ x) (hh0 : n0 ≤ h.size) (E : RoadKit.Exa Z h x ST) (V : RoadKit.Fld Z h x ST "value" "[B" v0) (C : RoadKit.Fld Z h x ST "coder" "B" c0) (K : RoadKit.Arv Z h b kC .char N (cs.map Value.int) d) (S : RoadKit.Sta Z h ST "COMPACT_STRINGS" "Z" (.int z)) (hz : ¬ z = 0)
    (hn : cs.length = n) (hN : N = Int32.ofNat n) (l0 : 0 < n) (l2 : n ≤ 4000) (hp : ∀ c ∈ cs, ¬ c < 0 ∧ ¬ (255 : Int32) < c) (hb : bs = cs.map (fun c => c.toInt8.toInt32)) (hfr : 4 ≤ R.frames) (hlo : W + 65 ≤ R.locals) :
    Back l R p e below s args (⟨"java/lang/String", "<init>", "([C)V"⟩ : MethodName) len W (fun P a => a = #[.ref x, .ref b] ∧ P.U.heap = h ∧ P.cells + 1 ≤ R.cells ∧ P.slots + n ≤ R.slots)
      (fun P _ v B => ∃ L, QV Z x N bs h n0 v B.U.heap L ∧ B.locs = P.locs ++ L ∧ B.cells = P.cells + 1 ∧ B.slots = P.slots + n) := by
  subst hn hN hb
  refine Back.mono (backArv hZ hw wi E V C K S hz (n32 (by omega)) l0 (by omega) (fun c hc => (hp c hc).2) hfr hlo) (fun P a hp => hp) (fun P a v B hp hq => ?_)
  obtain ⟨L, ⟨q1, q2, q3, q4, q5, q6, q7, ⟨kb, v1, v2⟩, q9⟩, hl, hc, hs⟩ := hq
  exact ⟨L, ⟨q1, fun y hy => by rw [q2 y hy]; exact hx0, q3, q5, q7, h.size, kb, hh0, Nat.le_refl _, Nat.ne_of_gt E.lt, q6, by rw [List.map_map]; exact v2⟩, hl, hc, hs⟩
end StrChars.Road
namespace StrChars
open Jvm Sem ClassFile Op Lib Jvm.Stand Jvm.Free.XT Jvm.Free.ALB Jvm.Free.JM Jvm.Free
open Jvm.Lib.Cold (StaticIs)
def hi8 (x : Int32) : Int32 := lo8 (x >>> ((8 : Int32) &&& 31))
/-- what StringUTF16.getChar makes of two bytes -/
def pairCh (u v : Int32) : Int32 := (((u &&& 255) <<< ((0 : Int32) &&& 31)) ||| ((v &&& 255) <<< ((8 : Int32) &&& 31))).toUInt32.toUInt16.toUInt32.toInt32
theorem shr0 (c : Int32) : c >>> ((0 : Int32) &&& 31) = c := by
  have e : ((0 : Int32) &&& 31) = 0 := by decide
  rw [e]
  apply Int32.toBitVec_inj.mp
  rw [Int32.toBitVec_shiftRight]
  have e1 : ((0 : Int32).toBitVec.smod 32) = 0#32 := by decide
  rw [e1, BitVec.sshiftRight_eq']
  exact BitVec.sshiftRight_zero
theorem lo8_and (x : Int32) : (lo8 x &&& 255).toBitVec.toNat = x.toBitVec.toNat % 256 := by
  have h : (lo8 x).toBitVec = (x.toBitVec.signExtend 8).signExtend 32 := by rw [lo8, Int8.toBitVec_toInt32, Int32.toBitVec_toInt8]
  rw [Int32.toBitVec_and, BitVec.toNat_and, h]
  have e : ((x.toBitVec.signExtend 8).signExtend 32).toNat % 256 = x.toBitVec.toNat % 256 := by
    rw [BitVec.toNat_signExtend]
    have hlt := x.toBitVec.isLt
    simp only [BitVec.toNat_setWidth, BitVec.toNat_signExtend]
    split <;> split <;> omega
  rw [← e]
  exact Nat.and_two_pow_sub_one_eq_mod _ 8
theorem pair_says {c : Int32} (h0 : ¬ c < 0) (h1 : ¬ 65535 < c) : pairCh (lo8 c) (hi8 c) = c := by
  rw [Int32.lt_iff_toInt_lt] at h0 h1
  have e0 : (0 : Int32).toInt = 0 := rfl
  have e1 : (65535 : Int32).toInt = 65535 := rfl
  have hc : c.toInt = c.toBitVec.toNat := by
    have := c.toBitVec.isLt
    have e : c.toInt = c.toBitVec.toInt := rfl
    rw [e] at h0 h1
    rw [e]
    rw [BitVec.toInt_eq_toNat_cond] at h0 h1 ⊢
    split at h0 <;> split <;> omega
  have hn : c.toBitVec.toNat < 65536 := by omega
  have a1 := lo8_and c
  have a2 : (hi8 c &&& 255).toBitVec.toNat = c.toBitVec.toNat / 256 := by
    rw [hi8, lo8_and]
    have e : ((8 : Int32) &&& 31) = 8 := by decide
    rw [e, Int32.toBitVec_shiftRight]
    have e2 : ((8 : Int32).toBitVec.smod 32) = 8#32 := by decide
    rw [e2, BitVec.sshiftRight_eq', BitVec.toNat_sshiftRight_of_msb_false (by rw [BitVec.msb_eq_false_iff_two_mul_lt]; omega)]
    show c.toBitVec.toNat >>> 8 % 256 = _
    rw [Nat.shiftRight_eq_div_pow]
    omega
  unfold pairCh
  apply Int32.toBitVec_inj.mp
  apply BitVec.eq_of_toNat_eq
  have f0 : ((0 : Int32) &&& 31) = 0 := by decide
  have f8 : ((8 : Int32) &&& 31) = 8 := by decide
  rw [f0, f8]
  have g : (((lo8 c &&& 255) <<< (0 : Int32)) ||| ((hi8 c &&& 255) <<< (8 : Int32))).toBitVec.toNat = c.toBitVec.toNat := by
    rw [Int32.toBitVec_or, Int32.toBitVec_shiftLeft, Int32.toBitVec_shiftLeft]
    have s0 : ((0 : Int32).toBitVec.smod 32) = 0#32 := by decide
    have s8 : ((8 : Int32).toBitVec.smod 32) = 8#32 := by decide
    rw [s0, s8, BitVec.toNat_or]
    simp only [BitVec.shiftLeft_eq', BitVec.toNat_shiftLeft, a1, a2]
    show (c.toBitVec.toNat % 256) <<< 0 % 2 ^ 32 ||| (c.toBitVec.toNat / 256) <<< 8 % 2 ^ 32 = _
    rw [Nat.shiftLeft_zero, Nat.mod_eq_of_lt (show c.toBitVec.toNat % 256 < 2 ^ 32 by omega), Nat.mod_eq_of_lt (show (c.toBitVec.toNat / 256) <<< 8 < 2 ^ 32 by rw [Nat.shiftLeft_eq]; omega), Nat.or_comm, ← Nat.shiftLeft_add_eq_or_of_lt (by omega), Nat.shiftLeft_eq]
    omega
  show BitVec.toNat (((((lo8 c &&& 255) <<< (0 : Int32)) ||| ((hi8 c &&& 255) <<< (8 : Int32))).toBitVec.setWidth 16).setWidth 32) = _
  rw [BitVec.toNat_setWidth, BitVec.toNat_setWidth, g]
  omega
end StrChars
namespace StrChars
open Jvm Sem ClassFile Op Lib Jvm.Stand Jvm.Free.XT Jvm.Free.ALB Jvm.Free.JM Jvm.Free
open Jvm.Lib.Cold (StaticIs)
theorem shr1 {n : Nat} (h : 2 * n < 2 ^ 31) : Int32.ofNat (2 * n) >>> ((1 : Int32) &&& 31) = Int32.ofNat n := by
  have e : ((1 : Int32) &&& 31) = 1 := by decide
  rw [e]
  apply Int32.toBitVec_inj.mp
  rw [Int32.toBitVec_shiftRight]
  have e1 : ((1 : Int32).toBitVec.smod 32) = 1#32 := by decide
  have hm : (BitVec.ofNat 32 (2 * n)).toNat = 2 * n := by rw [BitVec.toNat_ofNat, Nat.mod_eq_of_lt (by omega)]
  rw [e1, BitVec.sshiftRight_eq']
  apply BitVec.eq_of_toNat_eq
  show ((BitVec.ofNat 32 (2 * n)).sshiftRight 1).toNat = (BitVec.ofNat 32 n).toNat
  rw [BitVec.toNat_sshiftRight_of_msb_false (by rw [BitVec.msb_eq_false_iff_two_mul_lt, hm]; omega), hm, BitVec.toNat_ofNat, Nat.shiftRight_eq_div_pow]
  omega
/-- the array's cell V codes the n chars f 0 .. f (n - 1) by the coder cd, as the JDK does: coder 1 just where some char is above 255 -/
def Cod (cd : Int32) (n : Nat) (f : Nat → Int32) (V : Cell) : Prop := (cd = 0 ∧ V.slots.size = n ∧ ∀ j, j < n → V.slots[j]? = some (.int (lo8 (f j))) ∧ ¬ 255 < f j) ∨ (cd = 1 ∧ V.slots.size = 2 * n ∧ (∀ j, j < n → V.slots[2 * j]? = some (.int (lo8 (f j))) ∧ V.slots[2 * j + 1]? = some (.int (hi8 (f j)))) ∧ ∃ j, j < n ∧ 255 < f j)
theorem Cod.cd {cd : Int32} {n : Nat} {f : Nat → Int32} {V : Cell} (h : Cod cd n f V) : cd = 0 ∨ cd = 1 := h.imp (fun q => q.1) fun q => q.1
theorem Cod.len {cd : Int32} {n : Nat} {f : Nat → Int32} {V : Cell} (h : Cod cd n f V) (hs : V.slots.size < 2 ^ 31) : Int32.ofNat V.slots.size >>> (cd &&& 31) = Int32.ofNat n := by
  rcases h with ⟨rfl, h, -⟩ | ⟨rfl, h, -⟩
  · rw [shr0, h]
  · rw [h, shr1 (by omega)]
/-- **x is a String of the n chars f 0 .. f (n - 1)**, Latin-1 or UTF-16; its array at t has the cell V -/
def Txt (x t : Addr) (V : Cell) (cd : Int32) (n : Nat) (f : Nat → Int32) (U : State) : Prop := Exact "java/lang/String" x U ∧ Has x "java/lang/String" "value" "[B" (.ref t) U ∧ Has x "java/lang/String" "coder" "B" (.int cd) U ∧ XT.Arr .byte t V U ∧ Cod cd n f V ∧ ∀ j, j < n → ¬ f j < 0 ∧ ¬ 65535 < f j
theorem Txt.mv {x t : Addr} {V : Cell} {cd : Int32} {n : Nat} {f : Nat → Int32} {U U' : State} (h : Txt x t V cd n f U) (hal : U.vm.Alike U'.vm) (hh : U'.heap = U.heap) : Txt x t V cd n f U' := ⟨h.1.mv hal hh, h.2.1.mv hal hh, h.2.2.1.mv hal hh, h.2.2.2.1.mv hal hh, h.2.2.2.2⟩
namespace Cdr
def yN : MethodName := ⟨"java/lang/String", "coder", "()B"⟩
abbrev yB : ByteArray := jdk_42_method_152_code
theorem d0 : decode yB 0 = .ok (.getstatic 38, 3) := by decide +kernel
theorem d3 : decode yB 3 = .ok (.ifCond (.eq) 10, 3) := by decide +kernel
theorem d6 : decode yB 6 = .ok (.aload_n 0, 1) := by decide +kernel
theorem d7 : decode yB 7 = .ok (.getfield 15, 3) := by decide +kernel
theorem d10 : decode yB 10 = .ok (.goto 4, 3) := by decide +kernel
theorem d14 : decode yB 14 = .ok (.ireturn, 1) := by decide +kernel
def site : List Cond := [.fieldLink "java/lang/String" 38 "java/lang/String" "COMPACT_STRINGS" "Z", .fieldLink "java/lang/String" 15 "java/lang/String" "coder" "B"]
def tab : Cond := tabOf yN yB 1 (some .byte) site
def P (x : Addr) (cd z : Int32) (args : Array Value) (s : State) : Prop := args = #[.ref x] ∧ Has x "java/lang/String" "coder" "B" (.int cd) s ∧ (cd = 0 ∨ cd = 1) ∧ StaticIs s "java/lang/String" "COMPACT_STRINGS" "Z" (.int z) ∧ ¬ z = 0
def E (cd : Int32) (r : Option Value) (s u : State) : Prop := XT.PureE (some (.int cd)) r s u
theorem law (l : Launch) (x : Addr) (cd z : Int32) : Law l yN 1 0 0 0 yB 1 (some .byte) site (P x cd z) (E cd) [] 0 0 := by
  refine Law.of_walk (plainFor_of_name (by decide +kernel)) (by decide +kernel) (by decide +kernel) (by decide) (fun _ _ h => by rw [h.1]; rfl) (fun _ U U' hal hh h => ⟨h.1, h.2.1.mv hal hh, h.2.2.1, h.2.2.2.1.there hal hh, h.2.2.2.2⟩) (fun r U U' V V' h1 hal h2 h => XT.PureE.mv r U U' V V' h1 hal h2 h) ?_
  intro p e s m args below meth c s₁ X0 hexec hbytes hml hret hlk hnm hown hh0 W hP
  obtain ⟨rfl, hx, hc, s1, hz⟩ := hP
  have c1 : Steps p.tables e below (s₁.setTop (entryFrame m #[.ref x] 1)) (s₁.setTop (mkF m 0 #[.val (.ref x)] [])) := entry rfl
  obtain ⟨T2, X2, q2, st2⟩ := X0.sget hexec hown (wk W (.fieldLink "java/lang/String" 38 "java/lang/String" "COMPACT_STRINGS" "Z")) s1 (fun _ _ h => by rw [hh0]; exact h) (g := (mkF m 0 #[.val (.ref x)] [])) rfl (hb hbytes d0)
  have hh2 := q2.trans hh0
  have c3 : Steps p.tables e below (s₁.setTop (entryFrame m #[.ref x] 1)) (T2.setTop (mkF m 7 #[.val (.ref x)] [.ref x])) := (c1.trans (st2 _ (Steps.refl _))).trans (by
    refine XS.ifNo X2.here hexec rfl (hb hbytes d3) rfl (i0_eq_f hz) ?_
    refine XS.aloadN X2.here hexec rfl (hb hbytes d6) rfl rfl ?_
    exact Steps.refl _)
  obtain ⟨T4, X4, q4, st4⟩ := X2.hget hexec hown (wk W (.fieldLink "java/lang/String" 15 "java/lang/String" "coder" "B")) (hx.mv X2.warmed.alike hh2) (g := (mkF m 7 #[.val (.ref x)] [.ref x])) rfl (rest := []) rfl (hb hbytes d7)
  have c5 : Steps p.tables e below (s₁.setTop (entryFrame m #[.ref x] 1)) (T4.setTop (mkF m 14 #[.val (.ref x)] [.int cd])) := (c3.trans (st4 _ (Steps.refl _))).trans (by
    refine XS.goto X4.here hexec rfl (pc0 := 10) rfl (hb hbytes d10) (by decide) rfl ?_
    exact Steps.refl _)
  exact ⟨T4, some (.int cd), _, _, _, X4, rfl, rfl, rfl, (fun h => by cases h), ⟨rfl, q4.trans hh2⟩, fun fs hl => c5.trans (X4.ireturnOut hexec hret (by rcases hc with rfl | rfl <;> rfl) (Or.inr (Or.inr (Or.inl rfl))) (hb hbytes d14) hl)⟩
end Cdr
namespace Len
def yN : MethodName := ⟨"java/lang/String", "length", "()I"⟩
abbrev yB : ByteArray := jdk_42_method_54_code
theorem d0 : decode yB 0 = .ok (.aload_n 0, 1) := by decide +kernel
theorem d1 : decode yB 1 = .ok (.getfield 9, 3) := by decide +kernel
theorem d4 : decode yB 4 = .ok (.arraylength, 1) := by decide +kernel
theorem d5 : decode yB 5 = .ok (.aload_n 0, 1) := by decide +kernel
theorem d6 : decode yB 6 = .ok (.invokevirtual 335, 3) := by decide +kernel
theorem d9 : decode yB 9 = .ok (.ishr, 1) := by decide +kernel
theorem d10 : decode yB 10 = .ok (.ireturn, 1) := by decide +kernel
def site : List Cond := [.fieldLink "java/lang/String" 9 "java/lang/String" "value" "[B", Cdr.tab] ++ virtW "java/lang/String" 335 "java/lang/String" Cdr.yN Cdr.yN
def tab : Cond := tabOf yN yB 1 (some .int) site
def P (x t : Addr) (V : Cell) (cd : Int32) (n : Nat) (f : Nat → Int32) (z : Int32) (args : Array Value) (s : State) : Prop := args = #[.ref x] ∧ Txt x t V cd n f s ∧ StaticIs s "java/lang/String" "COMPACT_STRINGS" "Z" (.int z) ∧ ¬ z = 0
def E (n : Nat) (r : Option Value) (s u : State) : Prop := XT.PureE (some (.int (Int32.ofNat n))) r s u
/-- length() of a String of n chars, in either coding -/
theorem law (l : Launch) (x t : Addr) (V : Cell) (cd : Int32) (n : Nat) (f : Nat → Int32) (z : Int32) : Law l yN 1 0 1 13 yB 1 (some .int) site (P x t V cd n f z) (E n) [] 0 0 := by
  refine Law.of_walk (plainFor_of_name (by decide +kernel)) (by decide +kernel) (by decide +kernel) (by decide) (fun _ _ h => by rw [h.1]; rfl) (fun _ U U' hal hh h => ⟨h.1, h.2.1.mv hal hh, h.2.2.1.there hal hh, h.2.2.2⟩) (fun r U U' V V' h1 hal h2 h => XT.PureE.mv r U U' V V' h1 hal h2 h) ?_
  intro p e s m args below meth c s₁ X0 hexec hbytes hml hret hlk hnm hown hh0 W hP
  obtain ⟨rfl, hx, s1, hz⟩ := hP
  have v31 := hx.2.2.2.1.2.2.2
  have c1 : Steps p.tables e below (s₁.setTop (entryFrame m #[.ref x] 1)) (s₁.setTop (mkF m 1 #[.val (.ref x)] [.ref x])) := Steps.trans (entry rfl) (by
    show Steps p.tables e below (s₁.setTop (mkF m 0 #[.val (.ref x)] [])) _
    refine XS.aloadN X0.here hexec rfl (hb hbytes d0) rfl rfl ?_
    exact Steps.refl _)
  obtain ⟨T2, X2, q2, st2⟩ := X0.hget hexec hown (wk W (.fieldLink "java/lang/String" 9 "java/lang/String" "value" "[B")) (hx.mv X0.warmed.alike hh0).2.1 (g := (mkF m 1 #[.val (.ref x)] [.ref x])) rfl (rest := []) rfl (hb hbytes d1)
  have hh2 := q2.trans hh0
  have hx2 := hx.mv X2.warmed.alike hh2
  have c3 : Steps p.tables e below (s₁.setTop (entryFrame m #[.ref x] 1)) (T2.setTop (mkF m 6 #[.val (.ref x)] [.ref x, .int (Int32.ofNat V.slots.size)])) := (c1.trans (st2 _ (Steps.refl _))).trans (by
    refine X2.alen hexec hx2.2.2.2.1 rfl rfl (hb hbytes d4) ?_
    refine XS.aloadN X2.here hexec rfl (hb hbytes d5) rfl rfl ?_
    exact Steps.refl _)
  obtain ⟨v4, T4, X4, E4, g4⟩ := X2.callV hexec (Cdr.law l x cd z) hown (wks W (virtW "java/lang/String" 335 "java/lang/String" Cdr.yN Cdr.yN)) rfl (by decide) (wk W Cdr.tab) (W := 1) (Nat.le_of_ble_eq_true rfl) (Nat.le_of_ble_eq_true rfl) (Nat.le_refl _) (Nat.le_refl _) (hx2.1.fc X2.warmed.alike) hx2.1.is (g := (mkF m 6 #[.val (.ref x)] [.ref x, .int (Int32.ofNat V.slots.size)])) rfl (by rw [hml]; rfl) c3 (argsL := []) (rest := [.int (Int32.ofNat V.slots.size)]) rfl rfl (by show 2 * 0 + (1 + 0) ≤ _; decide) (hb hbytes d6) (⟨rfl, hx2.2.2.1, hx.2.2.2.2.1.cd, s1.there X2.warmed.alike hh2, hz⟩)
  obtain ⟨rfl, q4⟩ := E4
  have c5 : Steps p.tables e below (s₁.setTop (entryFrame m #[.ref x] 1)) (T4.setTop (mkF m 10 #[.val (.ref x)] [.int (Int32.ofNat V.slots.size >>> (cd &&& 31))])) := Steps.trans g4 (by
    refine ishr X4.here hexec rfl (hb hbytes d9) rfl ?_
    exact Steps.refl _)
  rw [hx.2.2.2.2.1.len v31] at c5
  exact ⟨T4, some (.int (Int32.ofNat n)), _, _, _, X4, rfl, rfl, rfl, (fun h => by cases h), ⟨rfl, q4.trans hh2⟩, fun fs hl => c5.trans (X4.ireturnOut hexec hret rfl (Or.inl rfl) (hb hbytes d10) hl)⟩
theorem pays {l : Launch} {R : Room} {p : Program} {e : Env} {below : List Frame} {s : State} {sargs : Array Value} {len W : Nat} (x t : Addr) (V : Cell) (cd : Int32) (n : Nat) (f : Nat → Int32) (z : Int32) (htab : tab.before sargs s = true) (hfr : 2 ≤ R.frames) (hlo : W + 25 ≤ R.locals) :
    Back l R p e below s sargs yN len W (fun A₁ a₁ => A₁.cells + 0 ≤ R.cells ∧ A₁.slots + 0 ≤ R.slots ∧ P x t V cd n f z a₁ A₁.U) (fun A₁ _ v₁ B₁ => E n v₁ A₁.U B₁.U ∧ B₁.locs = A₁.locs ++ [] ∧ B₁.cells = A₁.cells + 0 ∧ B₁.slots = A₁.slots + 0) :=
  (law l x t V cd n f z).pays htab hfr (by omega)
end Len
end StrChars
namespace StrChars.Road
open Jvm Sem ClassFile Op Lib Jvm.Stand Jvm.Free Jvm.Free.XT
open Jvm.Lib.Cold (StaticIs)
theorem consq {a : Array Value} {s : State} {c : Jvm.Cond} {L : List Jvm.Cond} (h0 : c.before a s = true) (h : ∀ w ∈ L, w.before a s = true) : ∀ w ∈ c :: L, w.before a s = true := fun w hw => (List.mem_cons.mp hw).elim (fun e => e ▸ h0) (h w)
/-- the words of String.length(), either coding -/
abbrev wordsLen : List Jvm.Cond := [.code Len.yN Len.yB 1 (some .int), .initialized ST, .fieldLink ST 9 ST "value" "[B", .fieldLink ST 38 ST "COMPACT_STRINGS" "Z", .fieldLink ST 15 ST "coder" "B", .code Cdr.yN Cdr.yB 1 (some .byte), .methodLink ST 335 Cdr.yN, .declares Cdr.yN, .selects ST Cdr.yN Cdr.yN, .instanceMethod Cdr.yN]
theorem tabLen_of {a : Array Value} {s : State} (h : ∀ w ∈ wordsLen, w.before a s = true) : Len.tab.before a s = true := by
  have hc : Cdr.tab.before a s = true := unparts (wk h (.code Cdr.yN Cdr.yB 1 (some .byte))) (wks h (.initialized Cdr.yN.cls :: Cdr.site))
  have q := consq hc h
  exact unparts (wk q (.code Len.yN Len.yB 1 (some .int))) (wks q (.initialized Len.yN.cls :: Len.site))
theorem movedLen {Z s : State} {a0 args : Array Value} (hZ : Z.Warmed39 s.vm) (hw : ∀ d ∈ wordsLen, d.before a0 Z = true) : ∀ d ∈ wordsLen, d.before args s = true := fun d hd => by
  have q := hw d hd
  have t : ∀ d ∈ wordsLen, d = .arrayClass .byte ∨ (d.onTables && d.keepsFace) = true := by decide +kernel
  rcases t d hd with rfl | t
  · exact RoadKit.mvA hZ q
  · exact RoadKit.mv hZ q t
/-- the bytes of the chars cs, low before high -/
def wideBytes : List Int32 → List Value
  | [] => []
  | c :: cs => .int (lo8 c) :: .int (hi8 c) :: wideBytes cs
theorem wide_lo (d : Value) : ∀ (cs : List Int32) (j : Nat), j < cs.length → (wideBytes cs).getD (2 * j) d = .int (lo8 (cs.getD j 0))
  | [], j, h => absurd h (Nat.not_lt_zero j)
  | c :: cs, 0, _ => rfl
  | c :: cs, j + 1, h => by
    have q := wide_lo d cs j (by simpa using h)
    rw [show 2 * (j + 1) = 2 * j + 1 + 1 from by omega]
    simpa [wideBytes] using q
theorem wide_hi (d : Value) : ∀ (cs : List Int32) (j : Nat), j < cs.length → (wideBytes cs).getD (2 * j + 1) d = .int (hi8 (cs.getD j 0))
  | [], j, h => absurd h (Nat.not_lt_zero j)
  | c :: cs, 0, _ => rfl
  | c :: cs, j + 1, h => by
    have q := wide_hi d cs j (by simpa using h)
    rw [show 2 * (j + 1) + 1 = 2 * j + 1 + 1 + 1 from by omega]
    simpa [wideBytes] using q
theorem low_at (d : Value) (cs : List Int32) (j : Nat) (h : j < cs.length) : (cs.map fun c => Value.int (lo8 c)).getD j d = .int (lo8 (cs.getD j 0)) := by
  simp [List.getD_eq_getElem?_getD, h]
/-- an array of N2 bytes vs codes the chars cs by the coder cd -/
def CodA (cs : List Int32) (cd N2 : Int32) (vs : List Value) : Prop := (cd = 0 ∧ N2 = Int32.ofNat cs.length ∧ vs = (cs.map fun c => Value.int (lo8 c)) ∧ ∀ c ∈ cs, ¬ 255 < c) ∨ (cd = 1 ∧ N2 = Int32.ofNat (2 * cs.length) ∧ vs = wideBytes cs ∧ ∃ c ∈ cs, 255 < c)
theorem CodA.cod {cs : List Int32} {cd N2 : Int32} {vs : List Value} {V : Cell} (h : CodA cs cd N2 vs) (hn : 2 * cs.length < 2 ^ 31) (hs : V.slots.size = N2.toNatClampNeg) (hv : RoadKit.Has V vs (.int 0)) : Cod cd cs.length (fun j => cs.getD j 0) V := by
  rcases h with ⟨rfl, rfl, rfl, h⟩ | ⟨rfl, rfl, rfl, c, hc, hw⟩
  · rw [n32 (by omega)] at hs
    exact Or.inl ⟨rfl, hs, fun j hj => ⟨by rw [hv j (by omega), low_at _ _ _ hj], by
      have e : cs.getD j 0 = cs[j] := by simp [List.getD_eq_getElem?_getD, hj]
      show ¬ 255 < cs.getD j 0
      rw [e]; exact h _ (List.getElem_mem _)⟩⟩
  · rw [n32 (by omega)] at hs
    obtain ⟨j, hj, rfl⟩ := List.getElem_of_mem hc
    exact Or.inr ⟨rfl, hs, fun j hj => ⟨by rw [hv _ (by omega), wide_lo _ _ _ hj], by rw [hv _ (by omega), wide_hi _ _ _ hj]⟩, j, hj, by
      have e : cs.getD j 0 = cs[j] := by simp [List.getD_eq_getElem?_getD, hj]
      show 255 < cs.getD j 0
      rw [e]; exact hw⟩
/-- an object of exactly java/lang/String, its two fields found: as the laws ask it -/
theorem strObj {Z U : State} {a0 : Array Value} {kI : Nat} (wi : (Jvm.Cond.instantiable ST kI).before a0 Z = true) (al : Z.vm.Alike U.vm) {x : Addr} {v0 c0 : Value} (E : RoadKit.Exa Z U.heap x ST) (V : RoadKit.Fld Z U.heap x ST "value" "[B" v0) (C : RoadKit.Fld Z U.heap x ST "coder" "B" c0) :
    ∃ (D : Cell) (fV fC : Field), Blank ST x D U ∧ Found ST "value" "[B" fV U ∧ Found ST "coder" "B" fC U ∧ D.slots[fV.slot]? = some v0 ∧ D.slots[fC.slot]? = some c0 ∧ RoadKit.slotOf Z ST "value" "[B" = fV.slot ∧ RoadKit.slotOf Z ST "coder" "B" = fC.slot := by
  obtain ⟨D, cfV, kV, iV, fV, hD, gV, stV, knV, obV, asV, slV⟩ := V
  obtain ⟨D', cfC, kC, iC, fC, hD', gC, stC, -, -, asC, slC⟩ := C
  cases hD.symm.trans hD'
  obtain ⟨D2, kD, e1, e2, e3, e4, e5⟩ := E
  cases hD.symm.trans e1
  obtain ⟨c2, k2, i1, i2, i3, -⟩ := Cond.instantiable_spec wi
  cases e2.symm.trans i1
  cases e3.symm.trans i2
  obtain ⟨kU, u1, u2⟩ := al.2.2 _ _ e3
  exact ⟨D, fV, fC, ⟨hD, ⟨knV, fun q hq => by rw [hq] at obV; cases obV⟩, by rw [al.findClass]; exact e2, kU, u1, by rw [u2]; exact i3, by rw [u2]; exact e5 i3⟩, ⟨SBG.found_only al ⟨cfV, kV, iV, gV⟩, stV⟩, ⟨SBG.found_only al ⟨cfC, kC, iC, gC⟩, stC⟩, slV, slC, by simp [RoadKit.slotOf, gV], by simp [RoadKit.slotOf, gC]⟩
theorem sta_is {Z U : State} (al : Z.vm.Alike U.vm) {C n d : String} {v : Value} (S : RoadKit.Sta Z U.heap C n d v) : StaticIs U C n d v := by
  obtain ⟨cfS, iS, kS, fS, st, cS, t1, t2, t3, t4, t5, t6, t7⟩ := S
  exact StaticIs.there (s := { Z with heap := U.heap }) ⟨cfS, iS, kS, fS, st, cS, t1, t2, t3, t4, t5, (fun q => by rw [q] at t6; cases t6), t7⟩ al rfl
/-- **length() OF SUCH A STRING** -/
theorem lenW {p : Program} {l : Launch} {e : Env} {R : Room} {s : State} {args : Array Value} {below : List Frame} {len W : Nat} {Z : State} {a0 : Array Value} {h : Heap} (hZ : Z.Warmed39 s.vm) (hw : ∀ d ∈ wordsLen, d.before a0 Z = true) {kI : Nat} (wi : (Jvm.Cond.instantiable ST kI).before a0 Z = true)
    {x t : Addr} {kb : ClassId} {cs : List Int32} {cd N2 z : Int32} {vs : List Value} (E : RoadKit.Exa Z h x ST) (V : RoadKit.Fld Z h x ST "value" "[B" (.ref t)) (C : RoadKit.Fld Z h x ST "coder" "B" (.int cd)) (K : RoadKit.Arv Z h t kb .byte N2 vs (.int 0)) (hc : CodA cs cd N2 vs) (hb : ∀ c ∈ cs, ¬ c < 0 ∧ ¬ (65535 : Int32) < c)
    (S : RoadKit.Sta Z h ST "COMPACT_STRINGS" "Z" (.int z)) (hz : ¬ z = 0) (l2 : cs.length ≤ 4000) (hfr : 2 ≤ R.frames) (hlo : W + 25 ≤ R.locals) :
    Back l R p e below s args (⟨"java/lang/String", "length", "()I"⟩ : MethodName) len W (fun P a => a = #[.ref x] ∧ P.U.heap = h ∧ P.cells + 0 ≤ R.cells ∧ P.slots + 0 ≤ R.slots)
      (fun P _ v B => ∃ L, (v = some (.int (Int32.ofNat cs.length)) ∧ L = [] ∧ B.U.heap = h) ∧ B.locs = P.locs ++ L ∧ B.cells = P.cells + 0 ∧ B.slots = P.slots + 0) := by
  obtain ⟨A, K1, K2, K3, K4, K5, K6⟩ := K
  have hcod := hc.cod (by omega) K3 K5
  intro m meth c P g ig mk a X hg hsize hdg hW hn hp'
  obtain ⟨rfl, rfl, r1, r2⟩ := hp'
  have al : Z.vm.Alike P.U.vm := hZ.alike.trans X.warmed.alike
  obtain ⟨D, fV, fC, hB, F1, F2, g1, g2, -, -⟩ := strObj wi al E V C
  have hx : Txt x t A cd cs.length (fun j => cs.getD j 0) P.U := ⟨⟨_, hB.2.2.1, D, hB.1, rfl, by cases q : D.vm <;> first | rfl | exact absurd q (hB.2.1.2 _)⟩, Has.of hB F1 g1, Has.of hB F2 g2, ⟨K1.1, State.isArrayOf_alike al K1.2.1, K1.2.2, by rcases hcod with ⟨-, q, -⟩ | ⟨-, q, -⟩ <;> omega⟩, hcod, fun j hj => by
    have e : cs.getD j 0 = cs[j] := by simp [List.getD_eq_getElem?_getD, hj]
    show ¬ cs.getD j 0 < 0 ∧ ¬ 65535 < cs.getD j 0
    rw [e]; exact hb _ (List.getElem_mem _)⟩
  obtain ⟨v, B, X', ⟨⟨hv, hh⟩, hl, hk, hs⟩, st⟩ := Len.pays x t A cd cs.length (fun j => cs.getD j 0) z (tabLen_of (movedLen hZ hw)) hfr hlo m meth c P g ig mk _ X hg hsize hdg hW hn ⟨r1, r2, rfl, hx, sta_is al S, hz⟩
  exact ⟨v, B, X', ⟨[], ⟨hv, rfl, hh⟩, hl, hk, hs⟩, st⟩
end StrChars.Road
namespace StrChars
open Jvm Sem ClassFile Op Lib Jvm.Stand Jvm.Free.XT Jvm.Free.ALB Jvm.Free.JM Jvm.Free
open Jvm.Lib.Cold (StaticIs)
/-- what place i of a byte[]'s cell holds -/
def yv (A : Cell) (i : Nat) : Int32 := match A.slots[i]? with | some (.int x) => x | _ => 0
theorem yv_get {a : Addr} {A : Cell} {U : State} (h : XT.Arr .byte a A U) (ht : Typed .byte A) {i : Nat} (hi : i < A.slots.size) : A.slots[i]? = some (.int (yv A i)) := by
  have e := Array.getElem?_eq_getElem hi
  have f := ht i _ e
  unfold yv; rw [e]
  generalize A.slots[i] = v at f
  cases v <;> simp [fits] at f ⊢
/-- the two arrays are equal, place for place -/
def EqC (A B : Cell) : Prop := A.slots.size = B.slots.size ∧ ∀ i, i < A.slots.size → yv A i = yv B i
/-- a boolean that says whether p -/
def Says01 (q : Prop) (r : Option Value) (s u : State) : Prop := ∃ v : Int32, r = some (.int v) ∧ u.heap = s.heap ∧ ((v = 1 ∧ q) ∨ (v = 0 ∧ ¬ q))
theorem Says01.mv {q : Prop} : ∀ r (U U' V V' : State), U'.heap = U.heap → V.vm.Alike V'.vm → V'.heap = V.heap → Says01 q r U V → Says01 q r U' V' :=
  fun r U U' V V' h1 _ h2 ⟨v, a, b, c⟩ => ⟨v, a, by rw [h1, h2]; exact b, c⟩
namespace LEq
def yN : MethodName := ⟨"java/lang/StringLatin1", "equals", "([B[B)Z"⟩
abbrev yB : ByteArray := jdk_43_method_13_code
theorem d0 : decode yB 0 = .ok (.aload_n 0, 1) := by decide +kernel
theorem d1 : decode yB 1 = .ok (.arraylength, 1) := by decide +kernel
theorem d2 : decode yB 2 = .ok (.aload_n 1, 1) := by decide +kernel
theorem d3 : decode yB 3 = .ok (.arraylength, 1) := by decide +kernel
theorem d4 : decode yB 4 = .ok (.if_icmp (.ne) 30, 3) := by decide +kernel
theorem d7 : decode yB 7 = .ok (.iconst 0, 1) := by decide +kernel
theorem d8 : decode yB 8 = .ok (.istore_n 2, 1) := by decide +kernel
theorem d9 : decode yB 9 = .ok (.iload_n 2, 1) := by decide +kernel
theorem d10 : decode yB 10 = .ok (.aload_n 0, 1) := by decide +kernel
theorem d11 : decode yB 11 = .ok (.arraylength, 1) := by decide +kernel
theorem d12 : decode yB 12 = .ok (.if_icmp (.ge) 20, 3) := by decide +kernel
theorem d15 : decode yB 15 = .ok (.aload_n 0, 1) := by decide +kernel
theorem d16 : decode yB 16 = .ok (.iload_n 2, 1) := by decide +kernel
theorem d17 : decode yB 17 = .ok (.baload, 1) := by decide +kernel
theorem d18 : decode yB 18 = .ok (.aload_n 1, 1) := by decide +kernel
theorem d19 : decode yB 19 = .ok (.iload_n 2, 1) := by decide +kernel
theorem d20 : decode yB 20 = .ok (.baload, 1) := by decide +kernel
theorem d21 : decode yB 21 = .ok (.if_icmp (.eq) 5, 3) := by decide +kernel
theorem d24 : decode yB 24 = .ok (.iconst 0, 1) := by decide +kernel
theorem d25 : decode yB 25 = .ok (.ireturn, 1) := by decide +kernel
theorem d26 : decode yB 26 = .ok (.iinc 2 1, 3) := by decide +kernel
theorem d29 : decode yB 29 = .ok (.goto (-20), 3) := by decide +kernel
theorem d32 : decode yB 32 = .ok (.iconst 1, 1) := by decide +kernel
theorem d33 : decode yB 33 = .ok (.ireturn, 1) := by decide +kernel
theorem d34 : decode yB 34 = .ok (.iconst 0, 1) := by decide +kernel
theorem d35 : decode yB 35 = .ok (.ireturn, 1) := by decide +kernel
def site : List Cond := []
def tab : Cond := tabOf yN yB 3 (some .boolean) site
def P (a : Addr) (A : Cell) (b : Addr) (B : Cell) (args : Array Value) (s : State) : Prop := args = #[.ref a, .ref b] ∧ XT.Arr .byte a A s ∧ Typed .byte A ∧ XT.Arr .byte b B s ∧ Typed .byte B
/-- whether two byte[] are equal, place for place -/
theorem law (l : Launch) (a : Addr) (A : Cell) (b : Addr) (B : Cell) : Law l yN 2 2 0 0 yB 3 (some .boolean) site (P a A b B) (Says01 (EqC A B)) [] 0 0 := by
  refine Law.of_walk (plainFor_of_name (by decide +kernel)) (by decide +kernel) (by decide +kernel) (by decide) (fun _ _ h => by rw [h.1]; rfl) (fun _ U U' hal hh h => ⟨h.1, h.2.1.mv hal hh, h.2.2.1, h.2.2.2.1.mv hal hh, h.2.2.2.2⟩) (fun r U U' V V' h1 hal h2 h => Says01.mv r U U' V V' h1 hal h2 h) ?_
  intro p e s m args below meth c s₁ X0 hexec hbytes hml hret hlk hnm hown hh0 W hP
  obtain ⟨rfl, hA, tA, hB, tB⟩ := hP
  have a31 := hA.2.2.2
  have b31 := hB.2.2.2
  have hA0 := hA.mv X0.warmed.alike hh0
  have hB0 := hB.mv X0.warmed.alike hh0
  have c1 : Steps p.tables e below (s₁.setTop (entryFrame m #[.ref a, .ref b] 3)) (s₁.setTop (mkF m 0 #[.val (.ref a), .val (.ref b), .unset] [])) := entry rfl
  have c2 : Steps p.tables e below (s₁.setTop (entryFrame m #[.ref a, .ref b] 3)) (s₁.setTop (mkF m 4 #[.val (.ref a), .val (.ref b), .unset] [.int (Int32.ofNat B.slots.size), .int (Int32.ofNat A.slots.size)])) := c1.trans (by
    refine XS.aloadN X0.here hexec rfl (hb hbytes d0) rfl rfl ?_
    refine X0.alen hexec hA0 rfl rfl (hb hbytes d1) ?_
    refine XS.aloadN X0.here hexec rfl (hb hbytes d2) rfl rfl ?_
    refine X0.alen hexec hB0 rfl rfl (hb hbytes d3) ?_
    exact Steps.refl _)
  by_cases hs : A.slots.size = B.slots.size
  · have c3 : Steps p.tables e below (s₁.setTop (entryFrame m #[.ref a, .ref b] 3)) (s₁.setTop (mkF m 9 #[.val (.ref a), .val (.ref b), .val (.int 0)] [])) := c2.trans (by
      refine XS.icmpNo X0.here hexec rfl (hb hbytes d4) rfl (ii_ne_f (by rw [hs])) ?_
      refine iconstV X0.here hexec rfl 0 (hb hbytes d7) (by decide) ?_
      refine XS.istoreN X0.here hexec rfl (hb hbytes d8) rfl rfl ?_
      exact Steps.refl _)
    have loop : ∀ (r i : Nat), i + r = A.slots.size → (∀ j, j < i → yv A j = yv B j) → Steps p.tables e below (s₁.setTop (entryFrame m #[.ref a, .ref b] 3)) (s₁.setTop (mkF m 9 #[.val (.ref a), .val (.ref b), .val (.int (Int32.ofNat i))] [])) → ∃ (pc : Nat) (Ls : Array Slot) (v : Int32), (pc = 25 ∨ pc = 33) ∧ ((v = 1 ∧ EqC A B) ∨ (v = 0 ∧ ¬ EqC A B)) ∧ Steps p.tables e below (s₁.setTop (entryFrame m #[.ref a, .ref b] 3)) (s₁.setTop (mkF m pc Ls [.int v])) := by
      intro r
      induction r with
      | zero =>
        intro i hi he cl
        exact ⟨33, _, 1, Or.inr rfl, Or.inl ⟨rfl, hs, fun j hj => he j (by omega)⟩, cl.trans (by
          refine XS.iloadN X0.here hexec rfl (hb hbytes d9) rfl ?_
          refine XS.aloadN X0.here hexec rfl (hb hbytes d10) rfl rfl ?_
          refine X0.alen hexec hA0 rfl rfl (hb hbytes d11) ?_
          refine XS.icmpYes X0.here hexec rfl (pc0 := 12) rfl (hb hbytes d12) rfl (ii_ge_t (nlt32 (by omega) (by omega))) (by decide) rfl ?_
          refine iconstV X0.here hexec rfl 1 (hb hbytes d32) (by decide) ?_
          exact Steps.refl _)⟩
      | succ r ih =>
        intro i hi he cl
        have c4 : Steps p.tables e below (s₁.setTop (entryFrame m #[.ref a, .ref b] 3)) (s₁.setTop (mkF m 21 #[.val (.ref a), .val (.ref b), .val (.int (Int32.ofNat i))] [.int (yv B i), .int (yv A i)])) := cl.trans (by
          refine XS.iloadN X0.here hexec rfl (hb hbytes d9) rfl ?_
          refine XS.aloadN X0.here hexec rfl (hb hbytes d10) rfl rfl ?_
          refine X0.alen hexec hA0 rfl rfl (hb hbytes d11) ?_
          refine XS.icmpNo X0.here hexec rfl (hb hbytes d12) rfl (ii_ge_f (lt32 (by omega) (by omega))) ?_
          refine XS.aloadN X0.here hexec rfl (hb hbytes d15) rfl rfl ?_
          refine XS.iloadN X0.here hexec rfl (hb hbytes d16) rfl ?_
          refine X0.aget hexec hA0 rfl (yv_get hA tA (i := i) (by omega)) rfl rfl (hb hbytes d17) ?_
          refine XS.aloadN X0.here hexec rfl (hb hbytes d18) rfl rfl ?_
          refine XS.iloadN X0.here hexec rfl (hb hbytes d19) rfl ?_
          refine X0.aget hexec hB0 rfl (yv_get hB tB (i := i) (by omega)) rfl rfl (hb hbytes d20) ?_
          exact Steps.refl _)
        by_cases hv : yv A i = yv B i
        · have c5 : Steps p.tables e below (s₁.setTop (entryFrame m #[.ref a, .ref b] 3)) (s₁.setTop (mkF m 9 #[.val (.ref a), .val (.ref b), .val (.int (Int32.ofNat i + 1))] [])) := c4.trans (by
            refine XS.icmpYes X0.here hexec rfl (pc0 := 21) rfl (hb hbytes d21) rfl (ii_eq_t hv) (by decide) rfl ?_
            refine iincV X0.here hexec rfl 1 (hb hbytes d26) (by decide) rfl rfl ?_
            refine XS.goto X0.here hexec rfl (pc0 := 29) rfl (hb hbytes d29) (by decide) rfl ?_
            exact Steps.refl _)
          rw [succ32] at c5
          exact ih (i + 1) (by omega) (fun j hj => by
            by_cases e : j = i
            · rw [e]; exact hv
            · exact he j (by omega)) c5
        · exact ⟨25, _, 0, Or.inl rfl, Or.inr ⟨rfl, fun q => hv (q.2 i (by omega))⟩, c4.trans (by
            refine XS.icmpNo X0.here hexec rfl (hb hbytes d21) rfl (ii_eq_f hv) ?_
            refine iconstV X0.here hexec rfl 0 (hb hbytes d24) (by decide) ?_
            exact Steps.refl _)⟩
    obtain ⟨pc, Ls, v, hpc, hv, cz⟩ := loop A.slots.size 0 (by omega) (fun j hj => absurd hj (Nat.not_lt_zero j)) c3
    have nv : narrow .boolean (.int v) = .int v := by rcases hv with ⟨rfl, -⟩ | ⟨rfl, -⟩ <;> rfl
    rcases hpc with rfl | rfl
    · exact ⟨s₁, some (.int v), _, _, _, X0, rfl, rfl, rfl, (fun h => by cases h), ⟨v, rfl, hh0, hv⟩, fun fs hl => cz.trans (X0.ireturnOut hexec hret nv (Or.inr (Or.inl rfl)) (hb hbytes d25) hl)⟩
    · exact ⟨s₁, some (.int v), _, _, _, X0, rfl, rfl, rfl, (fun h => by cases h), ⟨v, rfl, hh0, hv⟩, fun fs hl => cz.trans (X0.ireturnOut hexec hret nv (Or.inr (Or.inl rfl)) (hb hbytes d33) hl)⟩
  · have c3 : Steps p.tables e below (s₁.setTop (entryFrame m #[.ref a, .ref b] 3)) (s₁.setTop (mkF m 35 #[.val (.ref a), .val (.ref b), .unset] [.int 0])) := c2.trans (by
      refine XS.icmpYes X0.here hexec rfl (pc0 := 4) rfl (hb hbytes d4) rfl (ii_ne_t (ne32 a31 b31 hs)) (by decide) rfl ?_
      refine iconstV X0.here hexec rfl 0 (hb hbytes d34) (by decide) ?_
      exact Steps.refl _)
    exact ⟨s₁, some (.int 0), _, _, _, X0, rfl, rfl, rfl, (fun h => by cases h), ⟨0, rfl, hh0, Or.inr ⟨rfl, fun q => hs q.1⟩⟩, fun fs hl => c3.trans (X0.ireturnOut hexec hret rfl (Or.inr (Or.inl rfl)) (hb hbytes d35) hl)⟩
end LEq
theorem Cod.ty {cd : Int32} {n : Nat} {f : Nat → Int32} {V : Cell} (h : Cod cd n f V) : Typed .byte V := fun i v hv => by
  have hi : i < V.slots.size := (Array.getElem?_eq_some_iff.mp hv).1
  rcases h with ⟨-, k1, k2⟩ | ⟨-, k1, k2, -⟩
  · rw [(k2 i (by omega)).1] at hv; cases hv; exact fits_lo8 _
  · rcases Nat.mod_two_eq_zero_or_one i with e | e
    · obtain ⟨j, rfl⟩ : ∃ j, i = 2 * j := ⟨i / 2, by omega⟩
      rw [(k2 j (by omega)).1] at hv; cases hv; exact fits_lo8 _
    · obtain ⟨j, rfl⟩ : ∃ j, i = 2 * j + 1 := ⟨i / 2, by omega⟩
      rw [(k2 j (by omega)).2] at hv; cases hv; exact fits_lo8 _
/-- the same text -/
def SameT (n : Nat) (f : Nat → Int32) (k : Nat) (g : Nat → Int32) : Prop := n = k ∧ ∀ j, j < n → f j = g j
theorem lo8_inj {x y : Int32} (h0 : ¬ x < 0) (h1 : ¬ 255 < x) (k0 : ¬ y < 0) (k1 : ¬ 255 < y) (h : lo8 x = lo8 y) : x = y := by
  rw [← lo8_mask h0 h1, ← lo8_mask k0 k1, h]
/-- arrays coded by one coder are equal just where the texts are -/
theorem Cod.eqv {cd : Int32} {n k : Nat} {f g : Nat → Int32} {V V' : Cell} (h : Cod cd n f V) (h' : Cod cd k g V') (hf : ∀ j, j < n → ¬ f j < 0 ∧ ¬ 65535 < f j) (hg : ∀ j, j < k → ¬ g j < 0 ∧ ¬ 65535 < g j) : EqC V V' ↔ SameT n f k g := by
  have yvv : ∀ {W : Cell} {i : Nat} {x : Int32}, W.slots[i]? = some (.int x) → yv W i = x := fun q => by unfold yv; rw [q]
  rcases h with ⟨rfl, k1, k2⟩ | ⟨rfl, k1, k2, -⟩
  · rcases h' with ⟨-, m1, m2⟩ | ⟨e, -⟩
    · constructor
      · rintro ⟨e1, e2⟩
        refine ⟨by omega, fun j hj => ?_⟩
        have q := e2 j (by omega)
        rw [yvv (k2 j hj).1, yvv (m2 j (by omega)).1] at q
        exact lo8_inj (hf j hj).1 (k2 j hj).2 (hg j (by omega)).1 (m2 j (by omega)).2 q
      · rintro ⟨rfl, e2⟩
        refine ⟨by omega, fun j hj => ?_⟩
        rw [yvv (k2 j (by omega)).1, yvv (m2 j (by omega)).1, e2 j (by omega)]
    · exact absurd e (by decide)
  · rcases h' with ⟨e, -⟩ | ⟨-, m1, m2, -⟩
    · exact absurd e (by decide)
    · constructor
      · rintro ⟨e1, e2⟩
        refine ⟨by omega, fun j hj => ?_⟩
        have q1 := e2 (2 * j) (by omega)
        have q2 := e2 (2 * j + 1) (by omega)
        rw [yvv (k2 j hj).1, yvv (m2 j (by omega)).1] at q1
        rw [yvv (k2 j hj).2, yvv (m2 j (by omega)).2] at q2
        rw [← pair_says (hf j hj).1 (hf j hj).2, ← pair_says (hg j (by omega)).1 (hg j (by omega)).2, q1, q2]
      · rintro ⟨rfl, e2⟩
        refine ⟨by omega, fun i hi => ?_⟩
        rcases Nat.mod_two_eq_zero_or_one i with e | e
        · obtain ⟨j, rfl⟩ : ∃ j, i = 2 * j := ⟨i / 2, by omega⟩
          rw [yvv (k2 j (by omega)).1, yvv (m2 j (by omega)).1, e2 j (by omega)]
        · obtain ⟨j, rfl⟩ : ∃ j, i = 2 * j + 1 := ⟨i / 2, by omega⟩
          rw [yvv (k2 j (by omega)).2, yvv (m2 j (by omega)).2, e2 j (by omega)]
/-- two codings differ: so do the texts -/
theorem Cod.dif {cd cd' : Int32} {n k : Nat} {f g : Nat → Int32} {V V' : Cell} (h : Cod cd n f V) (h' : Cod cd' k g V') (hne : ¬ cd = cd') : ¬ SameT n f k g := by
  rintro ⟨rfl, e⟩
  rcases h with ⟨rfl, -, k2⟩ | ⟨rfl, -, -, j, hj, hw⟩
  · rcases h' with ⟨rfl, -⟩ | ⟨-, -, -, j, hj, hw⟩
    · exact hne rfl
    · exact (k2 j hj).2 (by rw [e j hj]; exact hw)
  · rcases h' with ⟨-, -, m2⟩ | ⟨rfl, -⟩
    · exact (m2 j hj).2 (by rw [← e j hj]; exact hw)
    · exact hne rfl
/-- an object of exactly C is an instance of C -/
theorem cinst {p : Program} {l : Launch} {e : Env} {R : Room} {s : State} {m : MethodId} {args : Array Value} {below : List Frame} {meth : Method} {c : Code} {T : State} {locs : List Loc} {cells slots : Nat} (X : Stand p l e R s m args below meth c T locs cells slots) (hexec : p.tables.exec = Jvm.exec) {own C : String} {index : Nat} (hown : s.vm.findClass own = some m.cls) (hlink : (Cond.classLink own index C).before args s = true) {a : Addr} (hE : Exact C a T)
    {g : JFrame} (hg : g.method = m) {rest : List Value} (hstack : g.stack = .ref a :: rest) (hdg : decode c.code g.pc = .ok (.instanceof index, 3)) :
    ∃ T', Stand p l e R s m args below meth c T' locs cells slots ∧ T'.heap = T.heap ∧ ∀ target, Steps p.tables e below (T'.setTop { g with pc := g.pc + 3, stack := .int 1 :: rest }) target → Steps p.tables e below (T.setTop g) target := by
  obtain ⟨cB, h1, D, h2, h3, h4⟩ := hE
  have h1' : s.vm.findClass C = some cB := by rw [← X.warmed.alike.findClass]; exact h1
  obtain ⟨vm', X', st⟩ := X.instanceofYes hexec hown hlink h2 h4 h1' (by rw [h3]; exact Jvm.Free.SB.assignable_self _ _) hg hstack hdg
  exact ⟨_, X', rfl, st⟩
theorem cself {p : Program} {l : Launch} {e : Env} {R : Room} {s : State} {m : MethodId} {args : Array Value} {below : List Frame} {meth : Method} {c : Code} {T : State} {locs : List Loc} {cells slots : Nat} (X : Stand p l e R s m args below meth c T locs cells slots) (hexec : p.tables.exec = Jvm.exec) {own C : String} {index : Nat} (hown : s.vm.findClass own = some m.cls) (hlink : (Cond.classLink own index C).before args s = true) {a : Addr} (hE : Exact C a T)
    {g : JFrame} (hg : g.method = m) {rest : List Value} (hstack : g.stack = .ref a :: rest) (hdg : decode c.code g.pc = .ok (.checkcast index, 3)) :
    ∃ T', Stand p l e R s m args below meth c T' locs cells slots ∧ T'.heap = T.heap ∧ ∀ target, Steps p.tables e below (T'.setTop { g with pc := g.pc + 3, stack := .ref a :: rest }) target → Steps p.tables e below (T.setTop g) target := by
  obtain ⟨cB, h1, D, h2, h3, h4⟩ := hE
  have h1' : s.vm.findClass C = some cB := by rw [← X.warmed.alike.findClass]; exact h1
  obtain ⟨vm', X', st⟩ := X.checkcastYes hexec hown hlink h2 h4 h1' (by rw [h3]; exact Jvm.Free.SB.assignable_self _ _) hg hstack hdg
  exact ⟨_, X', rfl, fun t h => st t (by rw [← hstack] at h; exact h)⟩
namespace SEq
def yN : MethodName := ⟨"java/lang/String", "equals", "(Ljava/lang/Object;)Z"⟩
abbrev yB : ByteArray := jdk_42_method_66_code
theorem d0 : decode yB 0 = .ok (.aload_n 0, 1) := by decide +kernel
theorem d1 : decode yB 1 = .ok (.aload_n 1, 1) := by decide +kernel
theorem d2 : decode yB 2 = .ok (.if_acmp (.ne) 5, 3) := by decide +kernel
theorem d5 : decode yB 5 = .ok (.iconst 1, 1) := by decide +kernel
theorem d6 : decode yB 6 = .ok (.ireturn, 1) := by decide +kernel
theorem d7 : decode yB 7 = .ok (.aload_n 1, 1) := by decide +kernel
theorem d8 : decode yB 8 = .ok (.instanceof 10, 3) := by decide +kernel
theorem d11 : decode yB 11 = .ok (.ifCond (.eq) 43, 3) := by decide +kernel
theorem d14 : decode yB 14 = .ok (.aload_n 1, 1) := by decide +kernel
theorem d15 : decode yB 15 = .ok (.checkcast 10, 3) := by decide +kernel
theorem d18 : decode yB 18 = .ok (.astore_n 2, 1) := by decide +kernel
theorem d19 : decode yB 19 = .ok (.getstatic 38, 3) := by decide +kernel
theorem d22 : decode yB 22 = .ok (.ifCond (.eq) 14, 3) := by decide +kernel
theorem d25 : decode yB 25 = .ok (.aload_n 0, 1) := by decide +kernel
theorem d26 : decode yB 26 = .ok (.getfield 15, 3) := by decide +kernel
theorem d29 : decode yB 29 = .ok (.aload_n 2, 1) := by decide +kernel
theorem d30 : decode yB 30 = .ok (.getfield 15, 3) := by decide +kernel
theorem d33 : decode yB 33 = .ok (.if_icmp (.ne) 21, 3) := by decide +kernel
theorem d36 : decode yB 36 = .ok (.aload_n 0, 1) := by decide +kernel
theorem d37 : decode yB 37 = .ok (.getfield 9, 3) := by decide +kernel
theorem d40 : decode yB 40 = .ok (.aload_n 2, 1) := by decide +kernel
theorem d41 : decode yB 41 = .ok (.getfield 9, 3) := by decide +kernel
theorem d44 : decode yB 44 = .ok (.invokestatic 541, 3) := by decide +kernel
theorem d47 : decode yB 47 = .ok (.ifCond (.eq) 7, 3) := by decide +kernel
theorem d50 : decode yB 50 = .ok (.iconst 1, 1) := by decide +kernel
theorem d51 : decode yB 51 = .ok (.goto 4, 3) := by decide +kernel
theorem d54 : decode yB 54 = .ok (.iconst 0, 1) := by decide +kernel
theorem d55 : decode yB 55 = .ok (.ireturn, 1) := by decide +kernel
def site : List Cond := [.classLink "java/lang/String" 10 "java/lang/String", .fieldLink "java/lang/String" 38 "java/lang/String" "COMPACT_STRINGS" "Z", .fieldLink "java/lang/String" 15 "java/lang/String" "coder" "B", .fieldLink "java/lang/String" 9 "java/lang/String" "value" "[B", LEq.tab] ++ staticW "java/lang/String" 541 LEq.yN
def tab : Cond := tabOf yN yB 3 (some .boolean) site
def P (x t : Addr) (V : Cell) (cd : Int32) (n : Nat) (f : Nat → Int32) (y t' : Addr) (V' : Cell) (cd' : Int32) (k : Nat) (g : Nat → Int32) (z : Int32) (args : Array Value) (s : State) : Prop := args = #[.ref x, .ref y] ∧ Txt x t V cd n f s ∧ Txt y t' V' cd' k g s ∧ StaticIs s "java/lang/String" "COMPACT_STRINGS" "Z" (.int z) ∧ ¬ z = 0
/-- equals(Object) of two Strings: whether the texts are the same -/
theorem law (l : Launch) (x t : Addr) (V : Cell) (cd : Int32) (n : Nat) (f : Nat → Int32) (y t' : Addr) (V' : Cell) (cd' : Int32) (k : Nat) (g : Nat → Int32) (z : Int32) : Law l yN 2 1 1 14 yB 3 (some .boolean) site (P x t V cd n f y t' V' cd' k g z) (Says01 (SameT n f k g)) [] 0 0 := by
  refine Law.of_walk (plainFor_of_name (by decide +kernel)) (by decide +kernel) (by decide +kernel) (by decide) (fun _ _ h => by rw [h.1]; rfl) (fun _ U U' hal hh h => ⟨h.1, h.2.1.mv hal hh, h.2.2.1.mv hal hh, h.2.2.2.1.there hal hh, h.2.2.2.2⟩) (fun r U U' V V' h1 hal h2 h => Says01.mv r U U' V V' h1 hal h2 h) ?_
  intro p e s m args below meth c s₁ X0 hexec hbytes hml hret hlk hnm hown hh0 W hP
  obtain ⟨rfl, hx, hy, s1, hz⟩ := hP
  have c1 : Steps p.tables e below (s₁.setTop (entryFrame m #[.ref x, .ref y] 3)) (s₁.setTop (mkF m 2 #[.val (.ref x), .val (.ref y), .unset] [.ref y, .ref x])) := Steps.trans (entry rfl) (by
    show Steps p.tables e below (s₁.setTop (mkF m 0 #[.val (.ref x), .val (.ref y), .unset] [])) _
    refine XS.aloadN X0.here hexec rfl (hb hbytes d0) rfl rfl ?_
    refine XS.aloadN X0.here hexec rfl (hb hbytes d1) rfl rfl ?_
    exact Steps.refl _)
  by_cases hxy : x = y
  · have c2 : Steps p.tables e below (s₁.setTop (entryFrame m #[.ref x, .ref y] 3)) (s₁.setTop (mkF m 6 #[.val (.ref x), .val (.ref y), .unset] [.int 1])) := c1.trans (by
      refine acmpNo X0.here hexec rfl (hb hbytes d2) rfl rfl rfl (by simp [acmp, hxy]) ?_
      refine iconstV X0.here hexec rfl 1 (hb hbytes d5) (by decide) ?_
      exact Steps.refl _)
    subst hxy
    have ec : cd = cd' := by
      obtain ⟨D, fd, a1, a2, a3⟩ := hx.2.2.1
      obtain ⟨D', fd', b1, b2, b3⟩ := hy.2.2.1
      cases a1.symm.trans b1
      obtain ⟨q1, q2, q3, q4⟩ := a2.1
      obtain ⟨r1, r2, r3, r4⟩ := b2.1
      cases q4.symm.trans r4
      cases a3.symm.trans b3; rfl
    have et : t = t' := by
      obtain ⟨D, fd, a1, a2, a3⟩ := hx.2.1
      obtain ⟨D', fd', b1, b2, b3⟩ := hy.2.1
      cases a1.symm.trans b1
      obtain ⟨q1, q2, q3, q4⟩ := a2.1
      obtain ⟨r1, r2, r3, r4⟩ := b2.1
      cases q4.symm.trans r4
      cases a3.symm.trans b3; rfl
    subst ec et
    have ev : V = V' := by cases hx.2.2.2.1.1.symm.trans hy.2.2.2.1.1; rfl
    subst ev
    have hs : SameT n f k g := (Cod.eqv hx.2.2.2.2.1 hy.2.2.2.2.1 hx.2.2.2.2.2 hy.2.2.2.2.2).mp ⟨rfl, fun _ _ => rfl⟩
    exact ⟨s₁, some (.int 1), _, _, _, X0, rfl, rfl, rfl, (fun h => by cases h), ⟨1, rfl, hh0, Or.inl ⟨rfl, hs⟩⟩, fun fs hl => c2.trans (X0.ireturnOut hexec hret rfl (Or.inr (Or.inl rfl)) (hb hbytes d6) hl)⟩
  · have c2 : Steps p.tables e below (s₁.setTop (entryFrame m #[.ref x, .ref y] 3)) (s₁.setTop (mkF m 8 #[.val (.ref x), .val (.ref y), .unset] [.ref y])) := c1.trans (by
      refine acmpYes X0.here hexec rfl (pc0 := 2) rfl (hb hbytes d2) rfl rfl rfl (by simp [acmp, hxy]) (by decide) rfl ?_
      refine XS.aloadN X0.here hexec rfl (hb hbytes d7) rfl rfl ?_
      exact Steps.refl _)
    obtain ⟨T3, X3, q3, st3⟩ := cinst X0 hexec hown (wk W (.classLink "java/lang/String" 10 "java/lang/String")) (hy.mv X0.warmed.alike hh0).1 (g := (mkF m 8 #[.val (.ref x), .val (.ref y), .unset] [.ref y])) rfl (rest := []) rfl (hb hbytes d8)
    have hh3 := q3.trans hh0
    have c4 : Steps p.tables e below (s₁.setTop (entryFrame m #[.ref x, .ref y] 3)) (T3.setTop (mkF m 15 #[.val (.ref x), .val (.ref y), .unset] [.ref y])) := (c2.trans (st3 _ (Steps.refl _))).trans (by
      refine XS.ifNo X3.here hexec rfl (hb hbytes d11) rfl (i0_eq_f (by decide)) ?_
      refine XS.aloadN X3.here hexec rfl (hb hbytes d14) rfl rfl ?_
      exact Steps.refl _)
    obtain ⟨T5, X5, q5, st5⟩ := cself X3 hexec hown (wk W (.classLink "java/lang/String" 10 "java/lang/String")) (hy.mv X3.warmed.alike hh3).1 (g := (mkF m 15 #[.val (.ref x), .val (.ref y), .unset] [.ref y])) rfl (rest := []) rfl (hb hbytes d15)
    have hh5 := q5.trans hh3
    have c6 : Steps p.tables e below (s₁.setTop (entryFrame m #[.ref x, .ref y] 3)) (T5.setTop (mkF m 19 #[.val (.ref x), .val (.ref y), .val (.ref y)] [])) := (c4.trans (st5 _ (Steps.refl _))).trans (by
      refine XS.astoreN X5.here hexec rfl (hb hbytes d18) rfl rfl rfl ?_
      exact Steps.refl _)
    obtain ⟨T7, X7, q7, st7⟩ := X5.sget hexec hown (wk W (.fieldLink "java/lang/String" 38 "java/lang/String" "COMPACT_STRINGS" "Z")) s1 (fun _ _ h => by rw [hh5]; exact h) (g := (mkF m 19 #[.val (.ref x), .val (.ref y), .val (.ref y)] [])) rfl (hb hbytes d19)
    have hh7 := q7.trans hh5
    have c8 : Steps p.tables e below (s₁.setTop (entryFrame m #[.ref x, .ref y] 3)) (T7.setTop (mkF m 26 #[.val (.ref x), .val (.ref y), .val (.ref y)] [.ref x])) := (c6.trans (st7 _ (Steps.refl _))).trans (by
      refine XS.ifNo X7.here hexec rfl (hb hbytes d22) rfl (i0_eq_f hz) ?_
      refine XS.aloadN X7.here hexec rfl (hb hbytes d25) rfl rfl ?_
      exact Steps.refl _)
    obtain ⟨T9, X9, q9, st9⟩ := X7.hget hexec hown (wk W (.fieldLink "java/lang/String" 15 "java/lang/String" "coder" "B")) (hx.mv X7.warmed.alike hh7).2.2.1 (g := (mkF m 26 #[.val (.ref x), .val (.ref y), .val (.ref y)] [.ref x])) rfl (rest := []) rfl (hb hbytes d26)
    have hh9 := q9.trans hh7
    have c10 : Steps p.tables e below (s₁.setTop (entryFrame m #[.ref x, .ref y] 3)) (T9.setTop (mkF m 30 #[.val (.ref x), .val (.ref y), .val (.ref y)] [.ref y, .int cd])) := (c8.trans (st9 _ (Steps.refl _))).trans (by
      refine XS.aloadN X9.here hexec rfl (hb hbytes d29) rfl rfl ?_
      exact Steps.refl _)
    obtain ⟨T11, X11, q11, st11⟩ := X9.hget hexec hown (wk W (.fieldLink "java/lang/String" 15 "java/lang/String" "coder" "B")) (hy.mv X9.warmed.alike hh9).2.2.1 (g := (mkF m 30 #[.val (.ref x), .val (.ref y), .val (.ref y)] [.ref y, .int cd])) rfl (rest := [.int cd]) rfl (hb hbytes d30)
    have hh11 := q11.trans hh9
    have c12 : Steps p.tables e below (s₁.setTop (entryFrame m #[.ref x, .ref y] 3)) (T11.setTop (mkF m 33 #[.val (.ref x), .val (.ref y), .val (.ref y)] [.int cd', .int cd])) := c10.trans (st11 _ (Steps.refl _))
    by_cases hcd : cd = cd'
    · subst hcd
      have c13 : Steps p.tables e below (s₁.setTop (entryFrame m #[.ref x, .ref y] 3)) (T11.setTop (mkF m 37 #[.val (.ref x), .val (.ref y), .val (.ref y)] [.ref x])) := c12.trans (by
        refine XS.icmpNo X11.here hexec rfl (hb hbytes d33) rfl (ii_ne_f rfl) ?_
        refine XS.aloadN X11.here hexec rfl (hb hbytes d36) rfl rfl ?_
        exact Steps.refl _)
      obtain ⟨T14, X14, q14, st14⟩ := X11.hget hexec hown (wk W (.fieldLink "java/lang/String" 9 "java/lang/String" "value" "[B")) (hx.mv X11.warmed.alike hh11).2.1 (g := (mkF m 37 #[.val (.ref x), .val (.ref y), .val (.ref y)] [.ref x])) rfl (rest := []) rfl (hb hbytes d37)
      have hh14 := q14.trans hh11
      have c15 : Steps p.tables e below (s₁.setTop (entryFrame m #[.ref x, .ref y] 3)) (T14.setTop (mkF m 41 #[.val (.ref x), .val (.ref y), .val (.ref y)] [.ref y, .ref t])) := (c13.trans (st14 _ (Steps.refl _))).trans (by
        refine XS.aloadN X14.here hexec rfl (hb hbytes d40) rfl rfl ?_
        exact Steps.refl _)
      obtain ⟨T16, X16, q16, st16⟩ := X14.hget hexec hown (wk W (.fieldLink "java/lang/String" 9 "java/lang/String" "value" "[B")) (hy.mv X14.warmed.alike hh14).2.1 (g := (mkF m 41 #[.val (.ref x), .val (.ref y), .val (.ref y)] [.ref y, .ref t])) rfl (rest := [.ref t]) rfl (hb hbytes d41)
      have hh16 := q16.trans hh14
      have c17 : Steps p.tables e below (s₁.setTop (entryFrame m #[.ref x, .ref y] 3)) (T16.setTop (mkF m 44 #[.val (.ref x), .val (.ref y), .val (.ref y)] [.ref t', .ref t])) := c15.trans (st16 _ (Steps.refl _))
      obtain ⟨v18, T18, X18, E18, g18⟩ := X16.callS hexec (LEq.law l t V t' V') hown (wks W (staticW "java/lang/String" 541 LEq.yN)) (wk W LEq.tab) (W := 0) (Nat.le_of_ble_eq_true rfl) (Nat.le_of_ble_eq_true rfl) (Nat.le_refl _) (Nat.le_refl _) (g := (mkF m 44 #[.val (.ref x), .val (.ref y), .val (.ref y)] [.ref t', .ref t])) rfl (by rw [hml]; rfl) c17 (argsL := [.ref t, .ref t']) (rest := []) rfl rfl (by show 2 * 0 + 0 ≤ _; decide) (hb hbytes d44) (⟨rfl, hx.2.2.2.1.mv X16.warmed.alike hh16, hx.2.2.2.2.1.ty, hy.2.2.2.1.mv X16.warmed.alike hh16, hy.2.2.2.2.1.ty⟩)
      obtain ⟨v, rfl, q18, hv⟩ := E18
      have iff := Cod.eqv hx.2.2.2.2.1 hy.2.2.2.2.1 hx.2.2.2.2.2 hy.2.2.2.2.2
      rcases hv with ⟨rfl, he⟩ | ⟨rfl, he⟩
      · have c19 : Steps p.tables e below (s₁.setTop (entryFrame m #[.ref x, .ref y] 3)) (T18.setTop (mkF m 55 #[.val (.ref x), .val (.ref y), .val (.ref y)] [.int 1])) := Steps.trans g18 (by
          refine XS.ifNo X18.here hexec rfl (hb hbytes d47) rfl (i0_eq_f (by decide)) ?_
          refine iconstV X18.here hexec rfl 1 (hb hbytes d50) (by decide) ?_
          refine XS.goto X18.here hexec rfl (pc0 := 51) rfl (hb hbytes d51) (by decide) rfl ?_
          exact Steps.refl _)
        exact ⟨T18, some (.int 1), _, _, _, X18, rfl, rfl, rfl, (fun h => by cases h), ⟨1, rfl, q18.trans hh16, Or.inl ⟨rfl, iff.mp he⟩⟩, fun fs hl => c19.trans (X18.ireturnOut hexec hret rfl (Or.inr (Or.inl rfl)) (hb hbytes d55) hl)⟩
      · have c19 : Steps p.tables e below (s₁.setTop (entryFrame m #[.ref x, .ref y] 3)) (T18.setTop (mkF m 55 #[.val (.ref x), .val (.ref y), .val (.ref y)] [.int 0])) := Steps.trans g18 (by
          refine XS.ifYes X18.here hexec rfl (pc0 := 47) rfl (hb hbytes d47) rfl (i0_eq_t rfl) (by decide) rfl ?_
          refine iconstV X18.here hexec rfl 0 (hb hbytes d54) (by decide) ?_
          exact Steps.refl _)
        exact ⟨T18, some (.int 0), _, _, _, X18, rfl, rfl, rfl, (fun h => by cases h), ⟨0, rfl, q18.trans hh16, Or.inr ⟨rfl, fun q => he (iff.mpr q)⟩⟩, fun fs hl => c19.trans (X18.ireturnOut hexec hret rfl (Or.inr (Or.inl rfl)) (hb hbytes d55) hl)⟩
    · have c13 : Steps p.tables e below (s₁.setTop (entryFrame m #[.ref x, .ref y] 3)) (T11.setTop (mkF m 55 #[.val (.ref x), .val (.ref y), .val (.ref y)] [.int 0])) := c12.trans (by
        refine XS.icmpYes X11.here hexec rfl (pc0 := 33) rfl (hb hbytes d33) rfl (ii_ne_t hcd) (by decide) rfl ?_
        refine iconstV X11.here hexec rfl 0 (hb hbytes d54) (by decide) ?_
        exact Steps.refl _)
      exact ⟨T11, some (.int 0), _, _, _, X11, rfl, rfl, rfl, (fun h => by cases h), ⟨0, rfl, hh11, Or.inr ⟨rfl, Cod.dif hx.2.2.2.2.1 hy.2.2.2.2.1 hcd⟩⟩, fun fs hl => c13.trans (X11.ireturnOut hexec hret rfl (Or.inr (Or.inl rfl)) (hb hbytes d55) hl)⟩
theorem pays {l : Launch} {R : Room} {p : Program} {e : Env} {below : List Frame} {s : State} {sargs : Array Value} {len W : Nat} (x t : Addr) (V : Cell) (cd : Int32) (n : Nat) (f : Nat → Int32) (y t' : Addr) (V' : Cell) (cd' : Int32) (k : Nat) (g : Nat → Int32) (z : Int32) (htab : tab.before sargs s = true) (hfr : 2 ≤ R.frames) (hlo : W + 28 ≤ R.locals) :
    Back l R p e below s sargs yN len W (fun A₁ a₁ => A₁.cells + 0 ≤ R.cells ∧ A₁.slots + 0 ≤ R.slots ∧ P x t V cd n f y t' V' cd' k g z a₁ A₁.U) (fun A₁ _ v₁ B₁ => Says01 (SameT n f k g) v₁ A₁.U B₁.U ∧ B₁.locs = A₁.locs ++ [] ∧ B₁.cells = A₁.cells + 0 ∧ B₁.slots = A₁.slots + 0) :=
  (law l x t V cd n f y t' V' cd' k g z).pays htab hfr (by omega)
end SEq
end StrChars
namespace StrChars.Road
open Jvm Sem ClassFile Op Lib Jvm.Stand Jvm.Free Jvm.Free.XT
open Jvm.Lib.Cold (StaticIs)
/-- the words of String.equals(Object) -/
abbrev wordsEq : List Jvm.Cond := [.code SEq.yN SEq.yB 3 (some .boolean), .initialized ST, .classLink ST 10 ST, .fieldLink ST 38 ST "COMPACT_STRINGS" "Z", .fieldLink ST 15 ST "coder" "B", .fieldLink ST 9 ST "value" "[B", .methodLink ST 541 LEq.yN, .static LEq.yN, .code LEq.yN LEq.yB 3 (some .boolean), .initialized "java/lang/StringLatin1"]
theorem tabEq_of {a : Array Value} {s : State} (h : ∀ w ∈ wordsEq, w.before a s = true) : SEq.tab.before a s = true := by
  have hl : LEq.tab.before a s = true := unparts (wk h (.code LEq.yN LEq.yB 3 (some .boolean))) (wks h (.initialized LEq.yN.cls :: LEq.site))
  have q := consq hl h
  exact unparts (wk q (.code SEq.yN SEq.yB 3 (some .boolean))) (wks q (.initialized SEq.yN.cls :: SEq.site))
theorem movedEq {Z s : State} {a0 args : Array Value} (hZ : Z.Warmed39 s.vm) (hw : ∀ d ∈ wordsEq, d.before a0 Z = true) : ∀ d ∈ wordsEq, d.before args s = true := fun d hd => by
  have t : ∀ d ∈ wordsEq, (d.onTables && d.keepsFace) = true := by decide +kernel
  exact RoadKit.mv hZ (hw d hd) (t d hd)
/-- the road's facts of a String, as the laws ask it -/
theorem txt_of {Z U : State} {a0 : Array Value} {kI : Nat} (wi : (Jvm.Cond.instantiable ST kI).before a0 Z = true) (al : Z.vm.Alike U.vm) {x t : Addr} {kb : ClassId} {cs : List Int32} {cd N2 : Int32} {vs : List Value} (E : RoadKit.Exa Z U.heap x ST) (V : RoadKit.Fld Z U.heap x ST "value" "[B" (.ref t)) (C : RoadKit.Fld Z U.heap x ST "coder" "B" (.int cd)) (K : RoadKit.Arv Z U.heap t kb .byte N2 vs (.int 0)) (hc : CodA cs cd N2 vs) (hb : ∀ c ∈ cs, ¬ c < 0 ∧ ¬ (65535 : Int32) < c) (l2 : cs.length ≤ 4000) :
    ∃ A, Txt x t A cd cs.length (fun j => cs.getD j 0) U := by
  obtain ⟨A, K1, K2, K3, K4, K5, K6⟩ := K
  have hcod := hc.cod (by omega) K3 K5
  obtain ⟨D, fV, fC, hB, F1, F2, g1, g2, -, -⟩ := strObj wi al E V C
  exact ⟨A, ⟨_, hB.2.2.1, D, hB.1, rfl, by cases q : D.vm <;> first | rfl | exact absurd q (hB.2.1.2 _)⟩, Has.of hB F1 g1, Has.of hB F2 g2, ⟨K1.1, State.isArrayOf_alike al K1.2.1, K1.2.2, by rcases hcod with ⟨-, q, -⟩ | ⟨-, q, -⟩ <;> omega⟩, hcod, fun j hj => by
    have e : cs.getD j 0 = cs[j] := by simp [List.getD_eq_getElem?_getD, hj]
    show ¬ cs.getD j 0 < 0 ∧ ¬ 65535 < cs.getD j 0
    rw [e]; exact hb _ (List.getElem_mem _)⟩
theorem same_list (cs ds : List Int32) : SameT cs.length (fun j => cs.getD j 0) ds.length (fun j => ds.getD j 0) ↔ cs = ds := by
  constructor
  · rintro ⟨e, q⟩
    refine List.ext_getElem e fun j h1 h2 => ?_
    have := q j h1
    simpa [List.getD_eq_getElem?_getD, h1, h2] using this
  · rintro rfl
    exact ⟨rfl, fun _ _ => rfl⟩
/-- **equals(Object) OF TWO SUCH STRINGS**: 1 just where the chars are the same -/
theorem eqW {p : Program} {l : Launch} {e : Env} {R : Room} {s : State} {args : Array Value} {below : List Frame} {len W : Nat} {Z : State} {a0 : Array Value} {h : Heap} (hZ : Z.Warmed39 s.vm) (hw : ∀ d ∈ wordsEq, d.before a0 Z = true) {kI : Nat} (wi : (Jvm.Cond.instantiable ST kI).before a0 Z = true)
    {x t : Addr} {kb : ClassId} {cs : List Int32} {cd N2 : Int32} {vs : List Value} (E : RoadKit.Exa Z h x ST) (V : RoadKit.Fld Z h x ST "value" "[B" (.ref t)) (C : RoadKit.Fld Z h x ST "coder" "B" (.int cd)) (K : RoadKit.Arv Z h t kb .byte N2 vs (.int 0)) (hc : CodA cs cd N2 vs) (hb : ∀ c ∈ cs, ¬ c < 0 ∧ ¬ (65535 : Int32) < c) (l2 : cs.length ≤ 4000)
    {y t' : Addr} {kb' : ClassId} {ds : List Int32} {cd' N2' : Int32} {vs' : List Value} (E' : RoadKit.Exa Z h y ST) (V' : RoadKit.Fld Z h y ST "value" "[B" (.ref t')) (C' : RoadKit.Fld Z h y ST "coder" "B" (.int cd')) (K' : RoadKit.Arv Z h t' kb' .byte N2' vs' (.int 0)) (hc' : CodA ds cd' N2' vs') (hb' : ∀ c ∈ ds, ¬ c < 0 ∧ ¬ (65535 : Int32) < c) (l2' : ds.length ≤ 4000)
    {z : Int32} (S : RoadKit.Sta Z h ST "COMPACT_STRINGS" "Z" (.int z)) (hz : ¬ z = 0) (hfr : 2 ≤ R.frames) (hlo : W + 28 ≤ R.locals) :
    Back l R p e below s args (⟨"java/lang/String", "equals", "(Ljava/lang/Object;)Z"⟩ : MethodName) len W (fun P a => a = #[.ref x, .ref y] ∧ P.U.heap = h ∧ P.cells + 0 ≤ R.cells ∧ P.slots + 0 ≤ R.slots)
      (fun P _ v B => ∃ L, (((v = some (.int 1) ∧ cs = ds) ∨ (v = some (.int 0) ∧ ¬ cs = ds)) ∧ L = [] ∧ B.U.heap = h) ∧ B.locs = P.locs ++ L ∧ B.cells = P.cells + 0 ∧ B.slots = P.slots + 0) := by
  intro m meth c P g ig mk a X hg hsize hdg hW hn hp'
  obtain ⟨rfl, rfl, r1, r2⟩ := hp'
  have al : Z.vm.Alike P.U.vm := hZ.alike.trans X.warmed.alike
  obtain ⟨A, hx⟩ := txt_of wi al E V C K hc hb l2
  obtain ⟨A', hy⟩ := txt_of wi al E' V' C' K' hc' hb' l2'
  obtain ⟨v, B, X', ⟨⟨w, hv, hh, hq⟩, hl, hk, hs⟩, st⟩ := SEq.pays x t A cd cs.length (fun j => cs.getD j 0) y t' A' cd' ds.length (fun j => ds.getD j 0) z (tabEq_of (movedEq hZ hw)) hfr hlo m meth c P g ig mk _ X hg hsize hdg hW hn ⟨r1, r2, rfl, hx, hy, sta_is al S, hz⟩
  refine ⟨v, B, X', ⟨[], ⟨?_, rfl, hh⟩, hl, hk, hs⟩, st⟩
  rcases hq with ⟨rfl, q⟩ | ⟨rfl, q⟩
  · exact Or.inl ⟨hv, (same_list cs ds).mp q⟩
  · exact Or.inr ⟨hv, fun e => q ((same_list cs ds).mpr e)⟩
end StrChars.Road
namespace StrChars.Road
open Jvm Sem ClassFile Op Lib Jvm.Stand Jvm.Free Jvm.Free.XT
open Jvm.Lib.Cold (StaticIs)
/-- what backV says of its String, as the contracts of this text ask it: cs's low bytes, coder 0 -/
theorem codOf {cs : List Int32} {n : Nat} (hn : cs.length = n) (hb : ∀ c ∈ cs, ¬ 255 < c) : CodA cs 0 (Int32.ofNat n) ((cs.map lo8).map Value.int) := Or.inl ⟨rfl, by rw [hn], by simp [List.map_map, Function.comp_def], hb⟩
end StrChars.Road
end Jvm.Pilot.@@N@@
namespace Jvm.Pilot.@@N@@
open Jvm Jvm.ClassFile Sem Op Lib Jvm.Free Jvm.Stand Jvm.LawKit Jvm.RoadKit Bundle Jvm.Pilot.@@N@@.Jvm.D
section OwnKit
variable {p : Program} {l : Launch} {e : Env} {R : Room} {s : State} {m : MethodId} {args : Array Value} {below : List Frame} {meth : Method} {c : Code} {T T' : State} {locs : List Loc} {cells slots : Nat} {Z : State} {a0 : Array Value} {h h' : Heap} {EL : List (String × Nat)} {n0 k0 : Nat} {ws ws' sf : List Addr} {own : String} {vm0 vm1 : Vm} {Q : Outcome → State → Prop} {a b x : Addr} {v : Value} {sl : Nat}
/-- the run goes on from t to an end that Q takes -/
def Go (p : Program) (e : Env) (below : List Frame) (Q : Outcome → State → Prop) (t : State) : Prop := ∃ s₂ o, Steps p.tables e below t s₂ ∧ s₂.status = .running ∧ Ended s₂ below o ∧ Q o s₂
theorem Go.of {t t' : State} (k : ∀ z, Steps p.tables e below t' z → Steps p.tables e below t z) (g : Go p e below Q t') : Go p e below Q t := by
  obtain ⟨a, o, st, r⟩ := g
  exact ⟨a, o, k _ st, r⟩
theorem Go.on {t t' : State} (st : Steps p.tables e below t t') (g : Go p e below Q t') : Go p e below Q t := by
  obtain ⟨a, o, st', r⟩ := g
  exact ⟨a, o, st.trans st', r⟩
/-- where a walk stands: the tables at hand, the places written, all hidden -/
def Wk (p : Program) (l : Launch) (e : Env) (R : Room) (s : State) (m : MethodId) (args : Array Value) (below : List Frame) (meth : Method) (c : Code) (Z : State) (EL : List (String × Nat)) (n0 : Nat) (ws : List Addr) (own : String) (sf : List Addr) (T : State) (cells slots : Nat) (h : Heap) : Prop :=
  ∃ (vm0 : Vm) (locs : List Loc) (k0 : Nat), Stand p l e R (s.setVm vm0) m args below meth c T locs cells slots ∧ T.heap = h ∧ s.Since vm0 k0 ∧ k0 ≤ h.size ∧ Z.Warmed39 vm0 ∧ vm0.findClass own = some m.cls ∧ CHr Z EL s.vm s.heap vm0 h ∧ Fr n0 locs ∧ Keep s.heap h ws ∧ Old Z n0 h ∧ ∀ x ∈ sf, Safe Z EL vm0 h x ∧ x < h.size
abbrev Wkk (p : Program) (l : Launch) (e : Env) (R : Room) (s : State) (m : MethodId) (args : Array Value) (below : List Frame) (meth : Method) (c : Code) (Z : State) (EL : List (String × Nat)) (n0 : Nat) (ws : List Addr) (own : String) (sf : List Addr) (cells slots : Nat) (h : Heap) (T : State) : Prop := Wk p l e R s m args below meth c Z EL n0 ws own sf T cells slots h
theorem wk_wr (X : Stand p l e R (s.setVm vm0) m args below meth c T' (locs ++ [⟨a, sl⟩]) cells slots) (e' : T'.heap = h') (W : Wr h h' a sl v) (hS : s.Since vm0 k0) (hk : k0 ≤ h.size) (hZ : Z.Warmed39 vm0) (hown : vm0.findClass own = some m.cls) (hC : CHr Z EL s.vm s.heap vm0 h) (N : Fr n0 locs) (K : Keep s.heap h ws) (O : Old Z n0 h)
    (F : ∀ x ∈ sf, Safe Z EL vm0 h x ∧ x < h.size) (S : Safe Z EL vm0 h a) (ga : n0 ≤ a) (gw : a ∈ ws ∨ s.heap.size ≤ a) : Wk p l e R s m args below meth c Z EL n0 ws own sf T' cells slots h' :=
  ⟨vm0, _, k0, X, e', hS, by rw [Wr.size W]; exact hk, hZ, hown, hC.trans (CHr.wr W S hC.1), Fr.snoc X N ga, K.wr W gw, O.wr W ga, fun y hy => ⟨Safe.wr W S hC.1 (F y hy).1, by rw [Wr.size W]; exact (F y hy).2⟩⟩
theorem wk_ext (X : Stand p l e R (s.setVm vm0) m args below meth c T' locs cells slots) (e' : T'.heap = h') (E : Ext h h') (hS : s.Since vm0 k0) (hk : k0 ≤ h.size) (hZ : Z.Warmed39 vm0) (hown : vm0.findClass own = some m.cls) (hC : CHr Z EL s.vm s.heap vm0 h) (N : Fr n0 locs) (K : Keep s.heap h ws) (O : Old Z n0 h)
    (F : ∀ x ∈ sf, Safe Z EL vm0 h x ∧ x < h.size) : Wk p l e R s m args below meth c Z EL n0 ws own sf T' cells slots h' :=
  ⟨vm0, locs, k0, X, e', hS, Nat.le_trans hk E.1, hZ, hown, hC.trans (CHr.ext E hC.1), N, K.ext E, O.ext E, fun y hy => ⟨Safe.ext E hC.1 (F y hy).1, Nat.lt_of_lt_of_le (F y hy).2 E.1⟩⟩
theorem wk_new (X : Stand p l e R (s.setVm vm0) m args below meth c T' locs cells slots) (e' : T'.heap = h') (E : Ext h h') (hlt : h.size < h'.size) (hS : s.Since vm0 k0) (hk : k0 ≤ h.size) (hZ : Z.Warmed39 vm0) (hown : vm0.findClass own = some m.cls) (hC : CHr Z EL s.vm s.heap vm0 h) (N : Fr n0 locs) (K : Keep s.heap h ws) (O : Old Z n0 h)
    (F : ∀ x ∈ sf, Safe Z EL vm0 h x ∧ x < h.size) : Wk p l e R s m args below meth c Z EL n0 ws own (h.size :: sf) T' cells slots h' :=
  ⟨vm0, locs, k0, X, e', hS, Nat.le_trans hk E.1, hZ, hown, hC.trans (CHr.ext E hC.1), N, K.ext E, O.ext E, fun y hy => by
    rcases List.mem_cons.mp hy with rfl | hy
    · exact ⟨Safe.ext E hC.1 (Safe.new (Nat.le_refl _)), hlt⟩
    · exact ⟨Safe.ext E hC.1 (F y hy).1, Nat.lt_of_lt_of_le (F y hy).2 E.1⟩⟩
theorem Wk.here (W : Wk p l e R s m args below meth c Z EL n0 ws own sf T cells slots h) : At T m c below := by
  obtain ⟨_, _, _, X, _⟩ := W
  exact X.here
theorem Wk.n0le (W : Wk p l e R s m args below meth c Z EL n0 ws own sf T cells slots h) : n0 ≤ h.size := by
  obtain ⟨_, _, _, _, _, _, _, _, _, _, _, _, O, _⟩ := W
  exact O.1 ▸ O.2.1
theorem Wk.s0le (W : Wk p l e R s m args below meth c Z EL n0 ws own sf T cells slots h) : s.heap.size ≤ h.size := by
  obtain ⟨_, _, _, _, _, _, _, _, _, _, _, K, _, _⟩ := W
  exact K.1
theorem Wk.old (W : Wk p l e R s m args below meth c Z EL n0 ws own sf T cells slots h) : Old Z n0 h := by
  obtain ⟨_, _, _, _, _, _, _, _, _, _, _, _, O, _⟩ := W
  exact O
theorem Wk.more (W : Wk p l e R s m args below meth c Z EL n0 ws own sf T cells slots h) {cells' slots' : Nat} (hc : cells ≤ cells') (hs : slots ≤ slots') : Wk p l e R s m args below meth c Z EL n0 ws own sf T cells' slots' h := by
  obtain ⟨vm0, locs, k0, X, r⟩ := W
  exact ⟨vm0, locs, k0, X.more hc hs, r⟩
theorem Wk.sub {sf' : List Addr} (W : Wk p l e R s m args below meth c Z EL n0 ws own sf T cells slots h) (hs : ∀ x ∈ sf', x ∈ sf) : Wk p l e R s m args below meth c Z EL n0 ws own sf' T cells slots h := by
  obtain ⟨vm0, locs, k0, X, eT, hS, hk, hZ, hown, hC, N, K, O, F⟩ := W
  exact ⟨vm0, locs, k0, X, eT, hS, hk, hZ, hown, hC, N, K, O, fun y hy => F y (hs y hy)⟩
/-! single steps -/
theorem Wk.getF (W : Wk p l e R s m args below meth c Z EL n0 ws own sf T cells slots h) (hx : p.tables.exec = Jvm.exec) {R0 O n d host : String} {index : Nat} (w : (Cond.fieldLink own index R0 n d).before a0 Z = true ∨ (Cond.fieldLinkNest own index R0 n d host).before a0 Z = true) (via : Via Z R0 O n d)
    (F : Fld Z h a O n d v) {g : JFrame} (hg : g.method = m) {rest : List Value} (hs : g.stack = .ref a :: rest) (hd : decode c.code g.pc = .ok (.getfield index, 3))
    (k : ∀ T', Wk p l e R s m args below meth c Z EL n0 ws own sf T' cells slots h → Go p e below Q (T'.setTop { g with pc := g.pc + 3, stack := v :: rest })) : Go p e below Q (T.setTop g) := by
  obtain ⟨vm0, locs, k0, X, eT, hS, hk, hZ, hown, r⟩ := W
  obtain ⟨T', X', e', st⟩ := RoadKit.getF X hx hZ hown w via eT F hg hs hd
  exact Go.of st (k T' ⟨vm0, locs, k0, X', e', hS, hk, hZ, hown, r⟩)
theorem Wk.getS (W : Wk p l e R s m args below meth c Z EL n0 ws own sf T cells slots h) (hx : p.tables.exec = Jvm.exec) {R0 O n d host : String} {index : Nat} (w : (Cond.fieldLink own index R0 n d).before a0 Z = true ∨ (Cond.fieldLinkNest own index R0 n d host).before a0 Z = true) (via : Via Z R0 O n d)
    (F : Sta Z Z.heap O n d v) {g : JFrame} (hg : g.method = m) (hd : decode c.code g.pc = .ok (.getstatic index, 3))
    (k : ∀ T', Wk p l e R s m args below meth c Z EL n0 ws own sf T' cells slots h → Go p e below Q (T'.setTop { g with pc := g.pc + 3, stack := v :: g.stack })) : Go p e below Q (T.setTop g) := by
  have F' := F.ext W.old.2
  obtain ⟨vm0, locs, k0, X, eT, hS, hk, hZ, hown, r⟩ := W
  obtain ⟨T', X', e', st⟩ := RoadKit.getS2 X hx hZ hown w via eT F' hg hd
  exact Go.of st (k T' ⟨vm0, locs, k0, X', e', hS, hk, hZ, hown, r⟩)
theorem Wk.castY (W : Wk p l e R s m args below meth c Z EL n0 ws own sf T cells slots h) (hx : p.tables.exec = Jvm.exec) {K : String} {index : Nat} (w : (Cond.classLink own index K).before a0 Z = true) (F : Ins Z h a K true) {g : JFrame} (hg : g.method = m) {rest : List Value} (hs : g.stack = .ref a :: rest) (hd : decode c.code g.pc = .ok (.checkcast index, 3))
    (k : ∀ T', Wk p l e R s m args below meth c Z EL n0 ws own sf T' cells slots h → Go p e below Q (T'.setTop { g with pc := g.pc + 3 })) : Go p e below Q (T.setTop g) := by
  obtain ⟨vm0, locs, k0, X, eT, hS, hk, hZ, hown, r⟩ := W
  obtain ⟨T', X', e', st⟩ := RoadKit.castY X hx hZ hown w eT F hg hs hd
  exact Go.of st (k T' ⟨vm0, locs, k0, X', e', hS, hk, hZ, hown, r⟩)
theorem Wk.instY (W : Wk p l e R s m args below meth c Z EL n0 ws own sf T cells slots h) (hx : p.tables.exec = Jvm.exec) {K : String} {index : Nat} (w : (Cond.classLink own index K).before a0 Z = true) (F : Ins Z h a K true) {g : JFrame} (hg : g.method = m) {rest : List Value} (hs : g.stack = .ref a :: rest) (hd : decode c.code g.pc = .ok (.instanceof index, 3))
    (k : ∀ T', Wk p l e R s m args below meth c Z EL n0 ws own sf T' cells slots h → Go p e below Q (T'.setTop { g with pc := g.pc + 3, stack := .int 1 :: rest })) : Go p e below Q (T.setTop g) := by
  obtain ⟨vm0, locs, k0, X, eT, hS, hk, hZ, hown, r⟩ := W
  obtain ⟨T', X', e', st⟩ := RoadKit.instY X hx hZ hown w eT F hg hs hd
  exact Go.of st (k T' ⟨vm0, locs, k0, X', e', hS, hk, hZ, hown, r⟩)
theorem Wk.instNo (W : Wk p l e R s m args below meth c Z EL n0 ws own sf T cells slots h) (hx : p.tables.exec = Jvm.exec) {K C : String} {index : Nat} (w : (Cond.classLink own index K).before a0 Z = true) (E : Exa Z h a C) (F : ∃ c t, Z.vm.findClass C = some c ∧ Z.vm.findClass K = some t ∧ Z.vm.assignable c t = false) {g : JFrame} (hg : g.method = m) {rest : List Value} (hs : g.stack = .ref a :: rest) (hd : decode c.code g.pc = .ok (.instanceof index, 3))
    (k : ∀ T', Wk p l e R s m args below meth c Z EL n0 ws own sf T' cells slots h → Go p e below Q (T'.setTop { g with pc := g.pc + 3, stack := .int 0 :: rest })) : Go p e below Q (T.setTop g) := by
  obtain ⟨vm0, locs, k0, X, eT, hS, hk, hZ, hown, r⟩ := W
  obtain ⟨T', X', e', st⟩ := RoadKit.instNo X hx hZ hown w eT E F hg hs hd
  exact Go.of st (k T' ⟨vm0, locs, k0, X', e', hS, hk, hZ, hown, r⟩)
theorem Wk.instNull (W : Wk p l e R s m args below meth c Z EL n0 ws own sf T cells slots h) (hx : p.tables.exec = Jvm.exec) {index : Nat} {g : JFrame} (hg : g.method = m) {rest : List Value} (hs : g.stack = .null :: rest) (hd : decode c.code g.pc = .ok (.instanceof index, 3))
    (k : Go p e below Q (T.setTop { g with pc := g.pc + 3, stack := .int 0 :: rest })) : Go p e below Q (T.setTop g) := by
  obtain ⟨vm0, locs, k0, X, eT, hS, hk, hZ, hown, r⟩ := W
  exact Go.of (X.instanceofNull hx hg hs hd) k
theorem Wk.initO (W : Wk p l e R s m args below meth c Z EL n0 ws own sf T cells slots h) (hx : p.tables.exec = Jvm.exec) {idx : Nat} (w1 : (Cond.methodLink own idx Lib.objectInit).before a0 Z = true) (w2 : (Cond.instanceMethod Lib.objectInit).before a0 Z = true)
    (w3 : (Cond.code Lib.objectInit ⟨#[0xb1]⟩ 1 none).before a0 Z = true) {g : JFrame} (hg : g.method = m) (hsize : g.locals.size = c.maxLocals) {rest : List Value} (hs : g.stack = .ref a :: rest) (hd : decode c.code g.pc = .ok (.invokespecial idx, 3))
    (hf : 1 ≤ R.frames) {Wd : Nat} (hW : 2 * g.monitorRoom + (rest.map fun v => v.category).sum ≤ Wd) (hl : Wd + 12 ≤ R.locals)
    (k : ∀ T', Wk p l e R s m args below meth c Z EL n0 ws own sf T' cells slots h → Go p e below Q (T'.setTop { g with pc := g.pc + 3, stack := rest })) : Go p e below Q (T.setTop g) := by
  obtain ⟨vm0, locs, k0, X, eT, hS, hk, hZ, hown, r⟩ := W
  obtain ⟨T', X', e', st⟩ := RoadKit.initO X hx hZ hown w1 w2 w3 eT hg hsize hs hd hf hW hl
  exact Go.of st (k T' ⟨vm0, locs, k0, X', e', hS, hk, hZ, hown, r⟩)
theorem Wk.newO (W : Wk p l e R s m args below meth c Z EL n0 ws own sf T cells slots h) (hx : p.tables.exec = Jvm.exec) {C : String} {index n : Nat} (w : (Cond.classLink own index C).before a0 Z = true) (wi : (Cond.instantiable C n).before a0 Z = true) (wz : (Cond.initialized C).before a0 Z = true)
    {g : JFrame} (hg : g.method = m) (hd : decode c.code g.pc = .ok (.new index, 3)) (hc : cells + 1 ≤ R.cells) (hl : slots + n ≤ R.slots)
    (k : ∀ T' h' b, b = h.size → n0 ≤ b ∧ s.heap.size ≤ b → Wk p l e R s m args below meth c Z EL n0 ws own (b :: sf) T' (cells + 1) (slots + n) h' → Keep h h' [] → Exa Z h' b C → (∀ {O nm d : String} {ty : FieldType}, Laid Z a0 C O nm d → parseFieldDescriptor d = some ty → Fld Z h' b O nm d (defaultValue ty)) →
      Go p e below Q (T'.setTop { g with pc := g.pc + 3, stack := .ref b :: g.stack })) : Go p e below Q (T.setTop g) := by
  have hle := W.n0le
  have hle' := W.s0le
  obtain ⟨vm0, locs, k0, X, eT, hS, hk, hZ, hown, hC, N, K, O, F⟩ := W
  obtain ⟨T', h', X', e', E, A, D, -, st⟩ := RoadKit.newO X hx hZ hown w wi wz eT hg hd hc hl
  exact Go.of st (k T' h' h.size rfl ⟨hle, hle'⟩ (wk_new X' e' E A.lt hS hk hZ hown hC N K O F) ((Keep.refl h []).ext E) A D)
theorem Wk.newP (W : Wk p l e R s m args below meth c Z EL n0 ws own sf T cells slots h) (hx : p.tables.exec = Jvm.exec) {aty : ArrayType} (w : (Cond.arrayClass (newarray.typeOf aty)).before a0 Z = true)
    {g : JFrame} (hg : g.method = m) (hd : decode c.code g.pc = .ok (.newarray aty, 2)) {n : Int32} {rest : List Value} (hs : g.stack = .int n :: rest)
    (hn : ¬ n < 0) {cap : Nat} (hcap : n.toNatClampNeg ≤ cap) (hb : cap * 8 ≤ 536870912) (hc : cells + 1 ≤ R.cells) (hl : slots + cap ≤ R.slots)
    (k : ∀ T' h' b kc, b = h.size → n0 ≤ b ∧ s.heap.size ≤ b → Wk p l e R s m args below meth c Z EL n0 ws own (b :: sf) T' (cells + 1) (slots + cap) h' → Keep h h' [] → Arv Z h' b kc (newarray.typeOf aty) n (List.replicate cap (defaultValue (newarray.typeOf aty))) (defaultValue (newarray.typeOf aty)) →
      Go p e below Q (T'.setTop { g with pc := g.pc + 2, stack := .ref b :: rest })) : Go p e below Q (T.setTop g) := by
  have hle := W.n0le
  have hle' := W.s0le
  obtain ⟨vm0, locs, k0, X, eT, hS, hk, hZ, hown, hC, N, K, O, F⟩ := W
  obtain ⟨T', h', kc, X', e', E, A, st⟩ := RoadKit.newP X hx hZ w eT hg hd hs hn hcap hb hc hl
  exact Go.of st (k T' h' h.size kc rfl ⟨hle, hle'⟩ (wk_new X' e' E A.lt hS hk hZ hown hC N K O F) ((Keep.refl h []).ext E) ((Arv.new A hn).pad (pad_rep [] _ cap)))
theorem Wk.putF (W : Wk p l e R s m args below meth c Z EL n0 ws own sf T cells slots h) (hx : p.tables.exec = Jvm.exec) {R0 O n d host C : String} {index kk : Nat} {ty : FieldType} (w : (Cond.fieldLink own index R0 n d).before a0 Z = true ∨ (Cond.fieldLinkNest own index R0 n d host).before a0 Z = true) (via : Via Z R0 O n d)
    {old : Value} (F : Fld Z h a O n d old) (E : Exa Z h a C) (L : (Cond.lays C O n d).before a0 Z = true ∨ ((Cond.laysFinal C O n d).before a0 Z = true ∧ own = O ∧ meth.name = "<init>")) (wi : (Cond.instantiable C kk).before a0 Z = true)
    (hty : parseFieldDescriptor d = some ty) (hn : narrow ty v = v) (hf : fits ty v = true) (ga : n0 ≤ a) (gw : a ∈ ws ∨ s.heap.size ≤ a) (sa : a ∈ sf ∨ (C ≠ "java/lang/String" ∧ C ≠ "[B")) {g : JFrame} (hg : g.method = m) {rest : List Value} (hs : g.stack = v :: .ref a :: rest) (hd : decode c.code g.pc = .ok (.putfield index, 3))
    (k : ∀ T' h', Wk p l e R s m args below meth c Z EL n0 ws own sf T' cells slots h' → Wr h h' a (RoadKit.slotOf Z O n d) v → Go p e below Q (T'.setTop { g with pc := g.pc + 3, stack := rest })) : Go p e below Q (T.setTop g) := by
  obtain ⟨vm0, locs, k0, X, eT, hS, hk, hZ, hown, hC, N, K, Ol, Fs⟩ := W
  have S : Safe Z EL vm0 h a := by
    rcases sa with q | ⟨q1, q2⟩
    · exact (Fs a q).1
    · exact Safe.exa hZ.alike E q1 q2
  obtain ⟨T', h', X', e', W', st⟩ := RoadKit.putF X hx hZ hown w via eT F E L wi hty hn hf hg hs hd
  exact Go.of st (k T' h' (wk_wr X' e' W' hS hk hZ hown hC N K Ol Fs S ga gw) W')
theorem Wk.stC (W : Wk p l e R s m args below meth c Z EL n0 ws own sf T cells slots h) (hx : p.tables.exec = Jvm.exec) {kc : ClassId} {z j y : Int32} {vs : List Value} {dv : Value} (V : Arv Z h a kc .char z vs dv) (hj : ¬ j < 0 ∧ j < z) (i : Nat) (hji : j.toNatClampNeg = i) (hi : i < vs.length) (ga : n0 ≤ a) (gw : a ∈ ws ∨ s.heap.size ≤ a)
    {g : JFrame} (hg : g.method = m) {rest : List Value} (hs : g.stack = .int y :: .int j :: .ref a :: rest) (hd : decode c.code g.pc = .ok (.castore, 1))
    (k : ∀ T' h', Wk p l e R s m args below meth c Z EL n0 ws own sf T' cells slots h' → Keep h h' [a] → Arv Z h' a kc .char z (vs.set i (.int (nar .char y))) dv → Go p e below Q (T'.setTop { g with pc := g.pc + 1, stack := rest })) : Go p e below Q (T.setTop g) := by
  obtain ⟨vm0, locs, k0, X, eT, hS, hk, hZ, hown, hC, N, K, Ol, Fs⟩ := W
  obtain ⟨cl, A, q1, S1, q3, H, G⟩ := V
  obtain ⟨T', h', X', e', W', st⟩ := RoadKit.stC X hx hZ eT A (j := j) (inb_of S1 hj) hg hs hd
  exact Go.of st (k T' h' (wk_wr X' e' W' hS hk hZ hown hC N K Ol Fs (Safe.arr hZ.alike A (by decide)) ga gw) (Keep.of_wr W') (Arv.set A q1 S1 q3 H G (fits_nar_char _) W' i hji hi))
theorem Wk.stB (W : Wk p l e R s m args below meth c Z EL n0 ws own sf T cells slots h) (hx : p.tables.exec = Jvm.exec) {kc : ClassId} {z j y : Int32} {vs : List Value} {dv : Value} (V : Arv Z h a kc .byte z vs dv) (hj : ¬ j < 0 ∧ j < z) (i : Nat) (hji : j.toNatClampNeg = i) (hi : i < vs.length) (ga : n0 ≤ a) (gw : a ∈ ws ∨ s.heap.size ≤ a) (sa : a ∈ sf)
    {g : JFrame} (hg : g.method = m) {rest : List Value} (hs : g.stack = .int y :: .int j :: .ref a :: rest) (hd : decode c.code g.pc = .ok (.bastore, 1))
    (k : ∀ T' h', Wk p l e R s m args below meth c Z EL n0 ws own sf T' cells slots h' → Keep h h' [a] → Arv Z h' a kc .byte z (vs.set i (.int (nar .byte y))) dv → Go p e below Q (T'.setTop { g with pc := g.pc + 1, stack := rest })) : Go p e below Q (T.setTop g) := by
  obtain ⟨vm0, locs, k0, X, eT, hS, hk, hZ, hown, hC, N, K, Ol, Fs⟩ := W
  obtain ⟨cl, A, q1, S1, q3, H, G⟩ := V
  obtain ⟨T', h', X', e', W', st⟩ := RoadKit.stB X hx hZ eT A (j := j) (inb_of S1 hj) hg hs hd
  exact Go.of st (k T' h' (wk_wr X' e' W' hS hk hZ hown hC N K Ol Fs (Fs a sa).1 ga gw) (Keep.of_wr W') (Arv.set A q1 S1 q3 H G (fits_nar_byte _) W' i hji hi))
theorem Wk.caload (W : Wk p l e R s m args below meth c Z EL n0 ws own sf T cells slots h) (hx : p.tables.exec = Jvm.exec) {kc : ClassId} {z j : Int32} {vs : List Value} {dv : Value} (V : Arv Z h a kc .char z vs dv) (hj : ¬ j < 0 ∧ j < z) (hv : vs.getD j.toNatClampNeg dv = v)
    {g : JFrame} (hg : g.method = m) {rest : List Value} (hs : g.stack = .int j :: .ref a :: rest) (hd : decode c.code g.pc = .ok (.caload, 1)) (k : Go p e below Q (T.setTop { g with pc := g.pc + 1, stack := v :: rest })) : Go p e below Q (T.setTop g) := by
  obtain ⟨vm0, locs, k0, X, eT, hS, hk, hZ, hown, r⟩ := W
  obtain ⟨cl, A, q1, S1, q3, H, G⟩ := V
  exact Go.of (fun t q => X.caload hx (by rw [eT]; exact A.1) (State.isArrayOf_alike hZ.alike A.2.1) A.2.2 (inb_of S1 hj) (H.at (inb_of S1 hj) hv) hg hs hd t q) k
theorem Wk.baload (W : Wk p l e R s m args below meth c Z EL n0 ws own sf T cells slots h) (hx : p.tables.exec = Jvm.exec) {kc : ClassId} {z j : Int32} {vs : List Value} {dv : Value} (V : Arv Z h a kc .byte z vs dv) (hj : ¬ j < 0 ∧ j < z) (hv : vs.getD j.toNatClampNeg dv = v)
    {g : JFrame} (hg : g.method = m) {rest : List Value} (hs : g.stack = .int j :: .ref a :: rest) (hd : decode c.code g.pc = .ok (.baload, 1)) (k : Go p e below Q (T.setTop { g with pc := g.pc + 1, stack := v :: rest })) : Go p e below Q (T.setTop g) := by
  obtain ⟨vm0, locs, k0, X, eT, hS, hk, hZ, hown, r⟩ := W
  obtain ⟨cl, A, q1, S1, q3, H, G⟩ := V
  exact Go.of (fun t q => X.baloadBytes hx (by rw [eT]; exact A.1) (State.isArrayOf_alike hZ.alike A.2.1) A.2.2 (inb_of S1 hj) (H.at (inb_of S1 hj) hv) hg hs hd t q) k
theorem Wk.alen (W : Wk p l e R s m args below meth c Z EL n0 ws own sf T cells slots h) (hx : p.tables.exec = Jvm.exec) {kc : ClassId} {z : Int32} {ty : FieldType} {vs : List Value} {dv : Value} (V : Arv Z h a kc ty z vs dv)
    {g : JFrame} (hg : g.method = m) {rest : List Value} (hs : g.stack = .ref a :: rest) (hd : decode c.code g.pc = .ok (.arraylength, 1)) (k : Go p e below Q (T.setTop { g with pc := g.pc + 1, stack := .int z :: rest })) : Go p e below Q (T.setTop g) := by
  obtain ⟨vm0, locs, k0, X, eT, hS, hk, hZ, hown, r⟩ := W
  obtain ⟨cl, A, q1, S1, q3, H, G⟩ := V
  exact Go.of (fun t q => X.arraylength hx (by rw [eT]; exact A.1) (State.isArrayOf_alike hZ.alike A.2.1) hg hs hd t (by rw [len_of S1 q3]; exact q)) k
theorem Wk.ldcI (W : Wk p l e R s m args below meth c Z EL n0 ws own sf T cells slots h) (hx : p.tables.exec = Jvm.exec) {index : Nat} {z : Int32} (w : (Cond.constant own index z).before a0 Z = true)
    {g : JFrame} (hg : g.method = m) (hd : decode c.code g.pc = .ok (.ldc index, 2)) (k : Go p e below Q (T.setTop { g with pc := g.pc + 2, stack := .int z :: g.stack })) : Go p e below Q (T.setTop g) := by
  obtain ⟨vm0, locs, k0, X, eT, hS, hk, hZ, hown, r⟩ := W
  exact Go.of (fun t q => X.ldcInt hx hown (mvT (s := s.setVm vm0) hZ w) hg hd t q) k
theorem Wk.ldcJ (W : Wk p l e R s m args below meth c Z EL n0 ws own sf T cells slots h) (hx : p.tables.exec = Jvm.exec) {index : Nat} {z : Int64} (w : (Cond.constantLong own index z).before a0 Z = true)
    {g : JFrame} (hg : g.method = m) (hd : decode c.code g.pc = .ok (.ldc2_w index, 3)) (k : Go p e below Q (T.setTop { g with pc := g.pc + 3, stack := .long z :: g.stack })) : Go p e below Q (T.setTop g) := by
  obtain ⟨vm0, locs, k0, X, eT, hS, hk, hZ, hown, r⟩ := W
  exact Go.of (fun t q => X.ldc2Long hx hown (mvT (s := s.setVm vm0) hZ w) hg hd t q) k
/-! String constants -/
theorem wk_tab {k1 : Nat} (X : Stand p l e R (s.setVm vm1) m args below meth c T' locs cells slots) (e' : T'.heap = h') (E : Keep h h' ws') (gws : ∀ x ∈ ws', n0 ≤ x ∧ (x ∈ ws ∨ s.heap.size ≤ x)) (hS : s.Since vm1 k1) (hk : k1 ≤ h'.size) (hZ : Z.Warmed39 vm1) (hown : vm1.findClass own = some m.cls) (A : CHr Z EL vm0 h vm1 h') (hC : CHr Z EL s.vm s.heap vm0 h) (N : Fr n0 locs) (K : Keep s.heap h ws) (O : Old Z n0 h)
    (F : ∀ x ∈ sf, Safe Z EL vm0 h x ∧ x < h.size) : Wk p l e R s m args below meth c Z EL n0 ws own sf T' cells slots h' :=
  ⟨vm1, locs, k1, X, e', hS, hk, hZ, hown, hC.trans A, N, K.trans E fun y hy => (gws y hy).2, O.keep E fun y hy => (gws y hy).1, fun y hy => ⟨CHr.safe A (F y hy).2 (F y hy).1, Nat.lt_of_lt_of_le (F y hy).2 E.1⟩⟩
theorem Wk.ldcO (W : Wk p l e R s m args below meth c Z EL n0 ws own sf T cells slots h) (hx : p.tables.exec = Jvm.exec) (hEL : EW Z a0 EL) {text : String} {index : Nat} (w : (Cond.stringLink own index text).before a0 Z = true) (wS : ∀ a ∈ Bundle.stringAtoms, a.before a0 Z = true)
    {g : JFrame} (hg : g.method = m) (hd : decode c.code g.pc = .ok (.ldc index, 2)) {n : Nat} (hn : 4 * text.toList.length ≤ n) (hbig : n ≤ 536870912) (hc : cells + 2 ≤ R.cells) (hl : slots + (n + 4) ≤ R.slots)
    (k : ∀ T' h' b, Wk p l e R s m args below meth c Z EL n0 ws own sf T' (cells + 2) (slots + (n + 4)) h' → Keep h h' [] → Go p e below Q (T'.setTop { g with pc := g.pc + 2, stack := .ref b :: g.stack })) : Go p e below Q (T.setTop g) := by
  obtain ⟨vm0, locs, k0, X, eT, hS, hk, hZ, hown, hC, N, K, Ol, Fs⟩ := W
  obtain ⟨b, T', h', k1, X', e', E, hS', hk', hZ', hown', A, -, st⟩ := ldcOH X hx hZ hown w wS eT hS hk hEL hC.1 hg hd hn hbig hc hl
  have K1 : Keep h h' [] := (Keep.refl h []).ext E
  exact Go.of st (k T' h' b (wk_tab X' e' K1 all0 hS' hk' hZ' hown' A hC N K Ol Fs) K1)
theorem Wk.ldcC (W : Wk p l e R s m args below meth c Z EL n0 ws own sf T cells slots h) (hx : p.tables.exec = Jvm.exec) (hEL : EW Z a0 EL) {text : String} {index : Nat} (hmem : (own, index) ∈ EL) (w : (Cond.stringLink own index text).before a0 Z = true) (wS : ∀ a ∈ Bundle.stringAtoms, a.before a0 Z = true)
    (vs : List Value) (z : Int32) (ht : (∀ c ∈ text.toList, c.toNat < 256) ∧ text.toList.map (fun c => Value.int (Jvm.Lit.byteI c.toNat.toUInt16)) = vs) (hz : ¬ z < 0) (hl : z.toNatClampNeg = vs.length)
    {g : JFrame} (hg : g.method = m) (hd : decode c.code g.pc = .ok (.ldc index, 2)) {n : Nat} (hn : 4 * text.toList.length ≤ n) (hbig : n ≤ 536870912) (hc : cells + 2 ≤ R.cells) (hsl : slots + (n + 4) ≤ R.slots)
    (k : ∀ T' h' b t kb, Wk p l e R s m args below meth c Z EL n0 ws own sf T' (cells + 2) (slots + (n + 4)) h' → Keep h h' [] → Exa Z h' b "java/lang/String" → Fld Z h' b "java/lang/String" "value" "[B" (.ref t) → Fld Z h' b "java/lang/String" "coder" "B" (.int 0) → Arv Z h' t kb .byte z vs (.int 0) → (∀ x ∈ sf, x ≠ b ∧ x ≠ t) → Go p e below Q (T'.setTop { g with pc := g.pc + 2, stack := .ref b :: g.stack })) : Go p e below Q (T.setTop g) := by
  obtain ⟨vm0, locs, k0, X, eT, hS, hk, hZ, hown, hC, N, K, Ol, Fs⟩ := W
  obtain ⟨b, T', h', k1, t, kb, X', e', E, hS', hk', hZ', hown', E1, F1, F2, A1, -, -, A, -, hne, st⟩ := ldcCH X hx hZ hown w wS eT hS hk hEL hmem hC.1 ht hz hl hg hd hn hbig hc hsl
  have K1 : Keep h h' [] := (Keep.refl h []).ext E
  exact Go.of st (k T' h' b t kb (wk_tab X' e' K1 all0 hS' hk' hZ' hown' A hC N K Ol Fs) K1 E1 F2 F1 A1 (fun x hx => hne x (CHr.safe A (Fs x hx).2 (Fs x hx).1)))
/-! contracts -/
def Met (l : Launch) (Z : State) (EL : List (String × Nat)) (n0 : Nat) (y : MethodName) (bytes : ByteArray) (maxL : Nat) (ret : Option FieldType) (wl : List Cond) (rm : Room) (as' : Array Value) (h : Heap) (ws sf : List Addr) (Qv : Option Value → Heap → (Addr → Prop) → Prop) : Prop :=
  MetFree l y (head1 (Cond.code y bytes maxL ret :: wl) rm) (fun a U => a = as' ∧ Z.Warmed39 U.vm ∧ U.heap = h ∧ CHv Z EL U.vm h ∧ ∀ x ∈ sf, Safe Z EL U.vm h x ∧ x < h.size) (fun _ _ _ _ _ => True)
    (fun _ U o U' => ∃ v L, o = .returned v ∧ (Qv v U'.heap (fun x => Safe Z EL U'.vm U'.heap x ∧ x < U'.heap.size) ∧ Fr n0 L ∧ Keep h U'.heap ws) ∧ CHr Z EL U.vm U.heap U'.vm U'.heap ∧ ReturnedEndW U o U' L rm.cells rm.slots)
def Fend (Z : State) (EL : List (String × Nat)) (n0 : Nat) (s : State) (h : Heap) (ws : List Addr) (Qv : Option Value → Heap → (Addr → Prop) → Prop) (rm : Room) (o : Outcome) (t : State) : Prop :=
  ∃ v L, o = .returned v ∧ (Qv v t.heap (fun x => Safe Z EL t.vm t.heap x ∧ x < t.heap.size) ∧ Fr n0 L ∧ Keep h t.heap ws) ∧ CHr Z EL s.vm s.heap t.vm t.heap ∧ ReturnedEndW s o t L rm.cells rm.slots
variable {y : MethodName} {bytes : ByteArray} {maxL : Nat} {ret : Option FieldType} {wl : List Cond} {rm : Room} {as' : Array Value} {Qv : Option Value → Heap → (Addr → Prop) → Prop}
theorem Met.of (hy : plainFor y = true) (O : Old Z n0 h) (body : ∀ (p : Program) (e : Env) (s : State) (m : MethodId) (below : List Frame) (meth : Method) (c : Code) (T : State), p.tables.exec = Jvm.exec → c.code = bytes → c.maxLocals = maxL → meth.sig.returnType = ret → meth.locks = false → meth.name = y.name → s.heap = h →
      Wk p l e rm s m as' below meth c Z EL n0 ws y.cls sf T 0 0 h → Go p e below (Fend Z EL n0 s h ws Qv rm) (T.setTop (entryFrame m as' maxL))) : Met l Z EL n0 y bytes maxL ret wl rm as' h ws sf Qv := by
  refine MetFree.of_bodySF hy hisR ?_
  intro p e s m args below meth c s₁ Bd hml0 hP hK
  obtain ⟨rfl, hZ, hh, hC, hF⟩ := hP
  subst hh
  have e0 : s₁.heap = s.heap := by rw [Bd.state]; rfl
  have hown := findClass_of_methodNamed Bd.named
  have X0 : Stand p l e rm s m args below meth c s₁ [] 0 0 := Stand.of_body Bd
  obtain ⟨s₂, o, st, r1, r2, q⟩ := body p e s m below meth c s₁ Bd.exec Bd.bytes hml0 Bd.returns Bd.notSynchronized (name_of_methodNamed Bd.named Bd.method).1 rfl ⟨s.vm, [], 0, X0, e0, (State.WarmedH.refl s).since 0, Nat.zero_le _, hZ, hown, CHr.refl hC, Fr.nil n0, Keep.refl _ _, O, hF⟩
  exact ⟨s₂, o, st, r1, r2, q⟩
theorem Wk.fin {g : JFrame} (W : Wk p l e rm s m args below meth c Z EL n0 ws own sf T cells slots h') (hEL : EW Z a0 EL) (hs : s.heap = h) (hlk : meth.locks = false) (hc : cells ≤ rm.cells) (hl : slots ≤ rm.slots) {w : Option Value} (hv : meth.sig.returnType = none → w = none) (hq : ∀ S : Addr → Prop, (∀ x ∈ sf, S x) → Qv w h' S)
    (k : ∀ (vm0 : Vm) (locs : List Loc) (fs : List Frame), Stand p l e rm (s.setVm vm0) m args below meth c T locs cells slots → (∀ (f : JFrame) (acts : List Action), f.method = m → f.locked = none → f.entered = [] → (doReturn e (T.setTop f) acts w).1 = T.setFrames fs) → Steps p.tables e below (T.setTop g) (T.setFrames fs)) : Go p e below (Fend Z EL n0 s h ws Qv rm) (T.setTop g) := by
  obtain ⟨vm0, locs, k0, X, eT, hS, hk, hZ, hown, hC, N, K, Ol, Fs⟩ := W
  subst hs eT
  obtain ⟨fs, hr, hrun, hended, q1, q2, q3, q4⟩ := X.leaveW hS hk hv hlk
  refine ⟨T.setFrames fs, .returned w, k vm0 locs fs X hr, hrun, hended, w, locs, rfl, ⟨hq _ (fun x hx => (show Safe Z EL T.vm T.heap x ∧ x < T.heap.size from ⟨CHr.safe (CHv.at X hZ hEL hC.1) (Fs x hx).2 (Fs x hx).1, (Fs x hx).2⟩)), N, K⟩, (show CHr Z EL s.vm s.heap T.vm T.heap from hC.trans (CHv.at X hZ hEL hC.1)), q1, q2, q3, q4.mono hc hl⟩
theorem Wk.retG (W : Wk p l e rm s m args below meth c Z EL n0 ws own sf T cells slots h') (hx : p.tables.exec = Jvm.exec) (hEL : EW Z a0 EL) (hs : s.heap = h) (hlk : meth.locks = false) (hc : cells ≤ rm.cells) (hl : slots ≤ rm.slots) {pc : Nat} {Ls : Array Slot} {w : Value} {t : FieldType} {i : Instr} {rest : List Value} (hret : meth.sig.returnType = some t) (hn : narrow t w = w)
    (hi : (i = .ireturn ∧ (t = .int ∨ t = .boolean ∨ t = .byte ∨ t = .char ∨ t = .short) ∧ ∃ z, w = .int z) ∨ (i = .lreturn ∧ t = .long ∧ ∃ z, w = .long z) ∨ (i = .dreturn ∧ t = .double ∧ ∃ z, w = .double z) ∨ (i = .freturn ∧ t = .float ∧ ∃ z, w = .float z) ∨ (i = .areturn ∧ t.isReference = true ∧ w.isRef = true))
    (hd : decode c.code pc = .ok (i, 1)) (hq : ∀ S : Addr → Prop, (∀ x ∈ sf, S x) → Qv (some w) h' S) : Go p e below (Fend Z EL n0 s h ws Qv rm) (T.setTop (mkF m pc Ls (w :: rest))) :=
  W.fin hEL hs hlk hc hl (w := some w) (fun q => by rw [hret] at q; cases q) hq (fun vm0 locs fs X hr => RoadKit.retOut X hx hret hn hi hd hr)
theorem Wk.retI (W : Wk p l e rm s m args below meth c Z EL n0 ws own sf T cells slots h') (hx : p.tables.exec = Jvm.exec) (hEL : EW Z a0 EL) (hs : s.heap = h) (hlk : meth.locks = false) (hc : cells ≤ rm.cells) (hl : slots ≤ rm.slots) {pc : Nat} {Ls : Array Slot} {w : Int32} {t : FieldType} {rest : List Value} (hret : meth.sig.returnType = some t) (ht : t = .int ∨ t = .boolean ∨ t = .byte ∨ t = .char ∨ t = .short) (hn : narrow t (.int w) = .int w)
    (hd : decode c.code pc = .ok (.ireturn, 1)) (hq : ∀ S : Addr → Prop, (∀ x ∈ sf, S x) → Qv (some (.int w)) h' S) : Go p e below (Fend Z EL n0 s h ws Qv rm) (T.setTop (mkF m pc Ls (.int w :: rest))) :=
  W.retG hx hEL hs hlk hc hl hret hn (Or.inl ⟨rfl, ht, w, rfl⟩) hd hq
theorem Wk.retA (W : Wk p l e rm s m args below meth c Z EL n0 ws own sf T cells slots h') (hx : p.tables.exec = Jvm.exec) (hEL : EW Z a0 EL) (hs : s.heap = h) (hlk : meth.locks = false) (hc : cells ≤ rm.cells) (hl : slots ≤ rm.slots) {pc : Nat} {Ls : Array Slot} {w : Value} {t : FieldType} {rest : List Value} (hret : meth.sig.returnType = some t) (ht : t.isReference = true) (hw : w.isRef = true)
    (hd : decode c.code pc = .ok (.areturn, 1)) (hq : ∀ S : Addr → Prop, (∀ x ∈ sf, S x) → Qv (some w) h' S) : Go p e below (Fend Z EL n0 s h ws Qv rm) (T.setTop (mkF m pc Ls (w :: rest))) :=
  W.retG hx hEL hs hlk hc hl hret (by cases t <;> cases w <;> first | rfl | cases ht | cases hw) (Or.inr (Or.inr (Or.inr (Or.inr ⟨rfl, ht, hw⟩)))) hd hq
theorem Wk.retL (W : Wk p l e rm s m args below meth c Z EL n0 ws own sf T cells slots h') (hx : p.tables.exec = Jvm.exec) (hEL : EW Z a0 EL) (hs : s.heap = h) (hlk : meth.locks = false) (hc : cells ≤ rm.cells) (hl : slots ≤ rm.slots) {pc : Nat} {Ls : Array Slot} {w : Int64} {rest : List Value} (hret : meth.sig.returnType = some .long)
    (hd : decode c.code pc = .ok (.lreturn, 1)) (hq : ∀ S : Addr → Prop, (∀ x ∈ sf, S x) → Qv (some (.long w)) h' S) : Go p e below (Fend Z EL n0 s h ws Qv rm) (T.setTop (mkF m pc Ls (.long w :: rest))) :=
  W.retG hx hEL hs hlk hc hl hret rfl (Or.inr (Or.inl ⟨rfl, rfl, w, rfl⟩)) hd hq
theorem Wk.retV (W : Wk p l e rm s m args below meth c Z EL n0 ws own sf T cells slots h') (hx : p.tables.exec = Jvm.exec) (hEL : EW Z a0 EL) (hs : s.heap = h) (hlk : meth.locks = false) (hc : cells ≤ rm.cells) (hl : slots ≤ rm.slots) {pc : Nat} {Ls : Array Slot} (hret : meth.sig.returnType = none)
    (hd : decode c.code pc = .ok (.return_, 1)) (hq : ∀ S : Addr → Prop, (∀ x ∈ sf, S x) → Qv none h' S) : Go p e below (Fend Z EL n0 s h ws Qv rm) (T.setTop (mkF m pc Ls [])) :=
  W.fin hEL hs hlk hc hl (w := none) (fun _ => rfl) hq (fun vm0 locs fs X hr => X.returnOut hx hret hd hr)
/-! calls of what has a contract -/
/-- Wk with the tables named -/
def WkAt (p : Program) (l : Launch) (e : Env) (R : Room) (s : State) (m : MethodId) (args : Array Value) (below : List Frame) (meth : Method) (c : Code) (Z : State) (EL : List (String × Nat)) (n0 : Nat) (ws : List Addr) (own : String) (sf : List Addr) (T : State) (cells slots : Nat) (h : Heap) (vm0 : Vm) : Prop :=
  ∃ (locs : List Loc) (k0 : Nat), Stand p l e R (s.setVm vm0) m args below meth c T locs cells slots ∧ T.heap = h ∧ s.Since vm0 k0 ∧ k0 ≤ h.size ∧ Z.Warmed39 vm0 ∧ vm0.findClass own = some m.cls ∧ CHr Z EL s.vm s.heap vm0 h ∧ Fr n0 locs ∧ Keep s.heap h ws ∧ Old Z n0 h ∧ ∀ x ∈ sf, Safe Z EL vm0 h x ∧ x < h.size
theorem wk_tabAt {k1 : Nat} (X : Stand p l e R (s.setVm vm1) m args below meth c T' locs cells slots) (e' : T'.heap = h') (E : Keep h h' ws') (gws : ∀ x ∈ ws', n0 ≤ x ∧ (x ∈ ws ∨ s.heap.size ≤ x)) (hS : s.Since vm1 k1) (hk : k1 ≤ h'.size) (hZ : Z.Warmed39 vm1) (hown : vm1.findClass own = some m.cls) (A : CHr Z EL vm0 h vm1 h') (hC : CHr Z EL s.vm s.heap vm0 h) (N : Fr n0 locs) (K : Keep s.heap h ws) (O : Old Z n0 h)
    (F : ∀ x ∈ sf, Safe Z EL vm0 h x ∧ x < h.size) : WkAt p l e R s m args below meth c Z EL n0 ws own sf T' cells slots h' vm1 :=
  ⟨locs, k1, X, e', hS, hk, hZ, hown, hC.trans A, N, K.trans E fun y hy => (gws y hy).2, O.keep E fun y hy => (gws y hy).1, fun y hy => ⟨CHr.safe A (F y hy).2 (F y hy).1, Nat.lt_of_lt_of_le (F y hy).2 E.1⟩⟩
theorem wk_more {sfx : List Addr} (W : WkAt p l e R s m args below meth c Z EL n0 ws own sf T cells slots h vm0) (hx : ∀ x ∈ sfx, Safe Z EL vm0 h x ∧ x < h.size) : Wk p l e R s m args below meth c Z EL n0 ws own (sfx ++ sf) T cells slots h := by
  obtain ⟨locs, k0, X, eT, hS, hk, hZ, hown, hC, N, K, O, F⟩ := W
  exact ⟨vm0, locs, k0, X, eT, hS, hk, hZ, hown, hC, N, K, O, fun y hy => (List.mem_append.mp hy).elim (hx y) (F y)⟩
theorem wk_call {U : State} {L : List Loc} {rcells rslots : Nat} (X : Stand p l e R (s.setVm vm0) m args below meth c T locs cells slots) (X' : Stand p l e R ((s.setVm vm0).setVm U.vm) m args below meth c U (locs ++ L) (cells + rcells) (slots + rslots)) (hS' : (s.setVm vm0).Since U.vm U.heap.size) (hle : T.heap.size ≤ U.heap.size) (eT : T.heap = h) (N' : Fr n0 L) (K' : Keep h U.heap ws') (A : CHr Z EL vm0 h U.vm U.heap) (gws : ∀ x ∈ ws', n0 ≤ x ∧ (x ∈ ws ∨ s.heap.size ≤ x))
    (hS : s.Since vm0 k0) (hk : k0 ≤ h.size) (hZ : Z.Warmed39 vm0) (hown : vm0.findClass own = some m.cls) (hC : CHr Z EL s.vm s.heap vm0 h) (N : Fr n0 locs) (K : Keep s.heap h ws) (O : Old Z n0 h) (F : ∀ x ∈ sf, Safe Z EL vm0 h x ∧ x < h.size) : WkAt p l e R s m args below meth c Z EL n0 ws own sf U (cells + rcells) (slots + rslots) U.heap U.vm :=
  wk_tabAt (T' := U) (h' := U.heap) (vm1 := U.vm) (locs := locs ++ L) X' rfl K' gws (hS.trans hS' (Nat.le_trans hk (eT ▸ hle))) (Nat.le_refl _) (State.Warmed39.trans (t := s.setVm vm0) hZ hS'.1) ((hS'.1.alike.findClass _ _).trans hown) A hC (N.app N') K O F
theorem Met.pay {sf' : List Addr} {len Wd : Nat} (M : Met l Z EL n0 y bytes maxL ret [] rm as' h ws' sf' Qv) (hZ : Z.Warmed39 vm0) (wc : (Cond.code y bytes maxL ret).before a0 Z = true) (wz : (Cond.initialized y.cls).before a0 Z = true) (hf : rm.frames + 1 ≤ R.frames) (hl : Wd + (maxL + 11) + rm.locals ≤ R.locals) (hEL : EW Z a0 EL) (H : CHv Z EL vm0 h) (HS : ∀ x ∈ sf', Safe Z EL vm0 h x ∧ x < h.size) :
    BackS l R p e below (s.setVm vm0) args y len Wd (fun A a => a = as' ∧ A.U.heap = h ∧ A.cells + rm.cells ≤ R.cells ∧ A.slots + rm.slots ≤ R.slots)
      (fun A _ v B => ∃ L, (Qv v B.U.heap (fun x => Safe Z EL B.U.vm B.U.heap x ∧ x < B.U.heap.size) ∧ Fr n0 L ∧ Keep h B.U.heap ws') ∧ B.locs = A.locs ++ L ∧ B.cells = A.cells + rm.cells ∧ B.slots = A.slots + rm.slots ∧ CHr Z EL vm0 h B.U.vm B.U.heap) := by
  refine BackS.of_freeW (bytes := bytes) (maxL := maxL) (ret := ret) (E := fun _ first o t L k n => k = rm.cells ∧ n = rm.slots ∧ (∃ v, o = .returned v ∧ (Qv v t.heap (fun x => Safe Z EL t.vm t.heap x ∧ x < t.heap.size) ∧ Fr n0 L ∧ Keep h t.heap ws')) ∧ CHr Z EL first.vm first.heap t.vm t.heap) M hf hl ?_ ?_ (fun _ _ _ _ _ _ _ _ _ => trivial) ?_ ?_
  · intro m meth c A a Y hp
    have hU : Z.Warmed39 A.U.vm := wtrans (s := s.setVm vm0) hZ Y.warmed
    exact ⟨by show (Cond.and _ .tt).before a A.U = true; rw [Cond.before_and, mv hU wc]; rfl, mv hU wc, mv hU wz, hp.2.2.1, hp.2.2.2⟩
  · intro m meth c A a g mk Y hp
    have C0 := CHv.at Y hZ hEL H
    exact ⟨hp.1, wtrans (s := s.setVm vm0) hZ Y.warmed, hp.2.1, C0.1, fun x hx => ⟨C0.safe (HS x hx).2 (HS x hx).1, (HS x hx).2⟩⟩
  · rintro _ _ _ _ ⟨v, L, h1, h2, h3, h4⟩
    exact ⟨L, _, _, h4, rfl, rfl, ⟨v, h1, h2⟩, h3⟩
  · rintro m meth c A a g mk v t L k n Y hp _ _ ⟨e1, e2, ⟨v', e3, e4⟩, e5⟩
    cases e3; subst e1 e2
    refine ⟨L, e4, rfl, rfl, rfl, (CHv.at Y hZ hEL H).trans ?_⟩
    rw [← hp.2.1]; exact e5
theorem Wk.callS (W : Wk p l e R s m args below meth c Z EL n0 ws own sf T cells slots h) (hx : p.tables.exec = Jvm.exec) (hEL : EW Z a0 EL) {index : Nat} (w1 : (Cond.methodLink own index y).before a0 Z = true) (w2 : (Cond.static y).before a0 Z = true) (w3 : (Cond.initialized y.cls).before a0 Z = true) (w4 : (Cond.code y bytes maxL ret).before a0 Z = true)
    (hy : y.cls ≠ "java/lang/invoke/MethodHandle" ∧ y.cls ≠ "java/lang/invoke/VarHandle") {argsL rest : List Value} {sf' : List Addr} (M : Met l Z EL n0 y bytes maxL ret [] rm argsL.toArray h ws' sf' Qv) (hsf : ∀ x ∈ sf', x ∈ sf) (hf : rm.frames + 1 ≤ R.frames) {Wd : Nat} (hl : Wd + (maxL + 11) + rm.locals ≤ R.locals) (hc : cells + rm.cells ≤ R.cells) (hsl : slots + rm.slots ≤ R.slots)
    (gws : ∀ x ∈ ws', n0 ≤ x ∧ (x ∈ ws ∨ s.heap.size ≤ x)) {g : JFrame} (hg : g.method = m) (hsize : g.locals.size = c.maxLocals) (hlen : ∀ sig, parseMethodDescriptor y.desc = some sig → argsL.length = sig.parameters.length) (hstack : g.stack = argsL.reverse ++ rest) (hW : 2 * g.monitorRoom + (rest.map fun v => v.category).sum ≤ Wd)
    (hd : decode c.code g.pc = .ok (.invokestatic index, 3)) (k : ∀ T' h' v (S : Addr → Prop), (∀ sfx : List Addr, (∀ x ∈ sfx, S x) → Wk p l e R s m args below meth c Z EL n0 ws own (sfx ++ sf) T' (cells + rm.cells) (slots + rm.slots) h') → Keep h h' ws' → Qv v h' S → Go p e below Q (T'.setTop { g with pc := g.pc + 3, stack := v.toList ++ rest })) : Go p e below Q (T.setTop g) := by
  obtain ⟨vm0, locs, k0, X, eT, hS, hk, hZ, hown, hC, N, K, Ol, Fs⟩ := W
  obtain ⟨v, vm₁, ⟨U, Lb, kb, nb⟩, hw, X', hS', hle, ⟨L, ⟨q, N', K'⟩, e1, e2, e3, A⟩, st⟩ := callSS X hx hown (mvT (s := s.setVm vm0) hZ w1) (mvT (s := s.setVm vm0) hZ w2) (mvT (s := s.setVm vm0) hZ w3) (mvT (s := s.setVm vm0) hZ w4) hy (Met.pay (s := s) (Wd := Wd) M hZ w4 w3 hf hl hEL hC.1 (fun x hx => Fs x (hsf x hx))) hg hsize hlen hstack hW hd (fun _ _ => ⟨rfl, eT, hc, hsl⟩)
  dsimp only [Pt.U, Pt.locs, Pt.cells, Pt.slots] at X' hS' hle q K' e1 e2 e3 A st
  subst e1 e2 e3
  exact Go.on st (k U U.heap v _ (fun sfx hx => wk_more (wk_call X X' hS' hle eT N' K' A gws hS hk hZ hown hC N K Ol Fs) hx) K' q)
theorem Wk.callP (W : Wk p l e R s m args below meth c Z EL n0 ws own sf T cells slots h) (hx : p.tables.exec = Jvm.exec) (hEL : EW Z a0 EL) {index : Nat} (hy1 : y.name = "<init>") (w1 : (Cond.methodLink own index y).before a0 Z = true) (w2 : (Cond.instanceMethod y).before a0 Z = true) (w3 : (Cond.initialized y.cls).before a0 Z = true) (w4 : (Cond.code y bytes maxL none).before a0 Z = true)
    (hy : y.cls ≠ "java/lang/invoke/MethodHandle" ∧ y.cls ≠ "java/lang/invoke/VarHandle") {argsL rest : List Value} {sf' : List Addr} (M : Met l Z EL n0 y bytes maxL none [] rm (.ref a :: argsL).toArray h ws' sf' Qv) (hsf : ∀ x ∈ sf', x ∈ sf) (hf : rm.frames + 1 ≤ R.frames) {Wd : Nat} (hl : Wd + (maxL + 11) + rm.locals ≤ R.locals) (hc : cells + rm.cells ≤ R.cells) (hsl : slots + rm.slots ≤ R.slots)
    (gws : ∀ x ∈ ws', n0 ≤ x ∧ (x ∈ ws ∨ s.heap.size ≤ x)) {g : JFrame} (hg : g.method = m) (hsize : g.locals.size = c.maxLocals) (hlen : ∀ sig, parseMethodDescriptor y.desc = some sig → argsL.length = sig.parameters.length) (hstack : g.stack = argsL.reverse ++ .ref a :: rest) (hW : 2 * g.monitorRoom + (rest.map fun v => v.category).sum ≤ Wd)
    (hd : decode c.code g.pc = .ok (.invokespecial index, 3)) (k : ∀ T' h' v (S : Addr → Prop), (∀ sfx : List Addr, (∀ x ∈ sfx, S x) → Wk p l e R s m args below meth c Z EL n0 ws own (sfx ++ sf) T' (cells + rm.cells) (slots + rm.slots) h') → Keep h h' ws' → Qv v h' S → Go p e below Q (T'.setTop { g with pc := g.pc + 3, stack := v.toList ++ rest })) : Go p e below Q (T.setTop g) := by
  obtain ⟨vm0, locs, k0, X, eT, hS, hk, hZ, hown, hC, N, K, Ol, Fs⟩ := W
  obtain ⟨v, vm₁, ⟨U, Lb, kb, nb⟩, hw, X', hS', hle, ⟨L, ⟨q, N', K'⟩, e1, e2, e3, A⟩, st⟩ := X.specialBackS hx hy1 hown (mvT (s := s.setVm vm0) hZ w1) (mvT (s := s.setVm vm0) hZ w2) (mvT (s := s.setVm vm0) hZ w4) hy (Met.pay (s := s) (Wd := Wd) M hZ w4 w3 hf hl hEL hC.1 (fun x hx => Fs x (hsf x hx))) hg hsize (Steps.refl _) hlen hstack hW hd (fun _ _ => ⟨rfl, eT, hc, hsl⟩)
  dsimp only [Pt.U, Pt.locs, Pt.cells, Pt.slots] at X' hS' hle q K' e1 e2 e3 A st
  subst e1 e2 e3
  exact Go.on st (k U U.heap v _ (fun sfx hx => wk_more (wk_call X X' hS' hle eT N' K' A gws hS hk hZ hown hC N K Ol Fs) hx) K' q)
theorem Wk.callV (W : Wk p l e R s m args below meth c Z EL n0 ws own sf T cells slots h) (hx : p.tables.exec = Jvm.exec) (hEL : EW Z a0 EL) {index : Nat} {C : String} (w1 : (Cond.methodLink own index y).before a0 Z = true) (w2 : (Cond.declares y).before a0 Z = true) (w5 : (Cond.selects C y y).before a0 Z = true) (w6 : (Cond.instanceMethod y).before a0 Z = true) (w3 : (Cond.initialized y.cls).before a0 Z = true) (w4 : (Cond.code y bytes maxL ret).before a0 Z = true)
    (hy : y.cls ≠ "java/lang/invoke/MethodHandle" ∧ y.cls ≠ "java/lang/invoke/VarHandle") (Ea : Exa Z h a C) {argsL rest : List Value} {sf' : List Addr} (M : Met l Z EL n0 y bytes maxL ret [] rm (.ref a :: argsL).toArray h ws' sf' Qv) (hsf : ∀ x ∈ sf', x ∈ sf) (hf : rm.frames + 1 ≤ R.frames) {Wd : Nat} (hl : Wd + (maxL + 11) + rm.locals ≤ R.locals) (hc : cells + rm.cells ≤ R.cells) (hsl : slots + rm.slots ≤ R.slots)
    (gws : ∀ x ∈ ws', n0 ≤ x ∧ (x ∈ ws ∨ s.heap.size ≤ x)) {g : JFrame} (hg : g.method = m) (hsize : g.locals.size = c.maxLocals) (hlen : ∀ sig, parseMethodDescriptor y.desc = some sig → argsL.length = sig.parameters.length) (hstack : g.stack = argsL.reverse ++ .ref a :: rest) (hW : 2 * g.monitorRoom + (rest.map fun v => v.category).sum ≤ Wd)
    (hd : decode c.code g.pc = .ok (.invokevirtual index, 3)) (k : ∀ T' h' v (S : Addr → Prop), (∀ sfx : List Addr, (∀ x ∈ sfx, S x) → Wk p l e R s m args below meth c Z EL n0 ws own (sfx ++ sf) T' (cells + rm.cells) (slots + rm.slots) h') → Keep h h' ws' → Qv v h' S → Go p e below Q (T'.setTop { g with pc := g.pc + 3, stack := v.toList ++ rest })) : Go p e below Q (T.setTop g) := by
  obtain ⟨vm0, locs, k0, X, eT, hS, hk, hZ, hown, hC, N, K, Ol, Fs⟩ := W
  obtain ⟨cB, kB, qa, qb, qc⟩ := isOf (s := s.setVm vm0) hZ eT Ea
  obtain ⟨v, vm₁, ⟨U, Lb, kb, nb⟩, hw, X', hS', hle, ⟨L, ⟨q, N', K'⟩, e1, e2, e3, A⟩, st⟩ := X.virtualBackS hx (z := y) hown (mvT (s := s.setVm vm0) hZ w1) (mvT (s := s.setVm vm0) hZ w2) (notFace_of_selects (args := #[]) (mvT (s := s.setVm vm0) hZ w5)) (mvT (s := s.setVm vm0) hZ w5) (mvT (s := s.setVm vm0) hZ w6) hy (Met.pay (s := s) (Wd := Wd) M hZ w4 w3 hf hl hEL hC.1 (fun x hx => Fs x (hsf x hx))) qa qc hg hsize (Steps.refl _) hlen hstack hW hd (fun _ _ => ⟨rfl, eT, hc, hsl⟩)
  dsimp only [Pt.U, Pt.locs, Pt.cells, Pt.slots] at X' hS' hle q K' e1 e2 e3 A st
  subst e1 e2 e3
  exact Go.on st (k U U.heap v _ (fun sfx hx => wk_more (wk_call X X' hS' hle eT N' K' A gws hS hk hZ hown hC N K Ol Fs) hx) K' q)
/-! calls: a private method by invokevirtual; a method that lands elsewhere; super's -/
theorem privBackS (X : Stand p l e R s m args below meth c T locs cells slots) (hexec : p.tables.exec = Jvm.exec) {own C : String} {index : Nat} {y : MethodName}
    (hown : s.vm.findClass own = some m.cls) (hlink : (Cond.methodLink own index y).before args s = true) (hcode : (Cond.code y bytes maxL ret).before args s = true)
    (hsel : (Cond.selects C y y).before args s = true) (hinst : (Cond.instanceMethod y).before args s = true)
    (hy : y.cls ≠ "java/lang/invoke/MethodHandle" ∧ y.cls ≠ "java/lang/invoke/VarHandle")
    {W : Nat} {Pre : Pt → Array Value → Prop} {Post : Pt → Array Value → Option Value → Pt → Prop} (hK : BackS l R p e below s args y 3 W Pre Post)
    {b : Addr} {cB : ClassId} (hcB : s.vm.findClass C = some cB) (hrecv : IsOf cB T b)
    {g : JFrame} (hg : g.method = m) (hsize : g.locals.size = c.maxLocals) {s₀ : State} (hcome : Steps p.tables e below s₀ (T.setTop g)) {argsL rest : List Value}
    (hlen : ∀ sig, parseMethodDescriptor y.desc = some sig → argsL.length = sig.parameters.length) (hstack : g.stack = argsL.reverse ++ .ref b :: rest) (hW : 2 * g.monitorRoom + (rest.map fun v => v.category).sum ≤ W)
    (hdg : decode c.code g.pc = .ok (.invokevirtual index, 3)) (hpre : ∀ vm₁, s.WarmedH vm₁ → Pre ⟨T.setVm vm₁, locs, cells, slots⟩ (.ref b :: argsL).toArray) :
    ∃ (v : Option Value) (vm₁ : Vm) (B : Pt), s.WarmedH vm₁ ∧ Stand p l e R (s.setVm B.U.vm) m args below meth c B.U B.locs B.cells B.slots ∧ s.Since B.U.vm B.U.heap.size ∧ T.heap.size ≤ B.U.heap.size ∧ Post ⟨T.setVm vm₁, locs, cells, slots⟩ (.ref b :: argsL).toArray v B ∧
      Steps p.tables e below s₀ (B.U.setTop { g with pc := g.pc + 3, stack := v.toList ++ rest }) := by
  obtain ⟨cellB, hcellT, hclsB, hstatB⟩ := hrecv
  obtain ⟨mk, methM, hnamed, hmethM, hstM, habM⟩ := Cond.instanceMethod_spec hinst
  obtain ⟨methM', cM, hmethM', -, -, -, -, -, -, hsigM⟩ := Cond.code_spec hnamed hcode
  cases hmethM.symm.trans hmethM'
  obtain ⟨c2, r2, m2, q1, q2, q3, q4, kP, hkP, hkPi⟩ := Cond.selects_spec hsel
  cases hcB.symm.trans q1
  cases (State.methodFound?_of_named hnamed hy).symm.trans q2
  have hselP : selectMethod e.platform s.vm cellB.cls mk = .method mk := by
    have q5 := hnamed.symm.trans q3
    cases q5
    rw [Launch.admits_selectMethod X.admits, hclsB]; exact q4
  cases hnamed.symm.trans q3
  obtain ⟨vm₁, X₁, hstep₁⟩ := X.invokevirtual hexec hown hlink hnamed hmethM hstM hkP hkPi hy (a := b) (cell := cellB) hcellT
    (fun z h => by rw [h] at hstatB; cases hstatB) hselP hmethM habM hkP hkPi (g := g) hg (argsL := argsL) (rest := rest) (hlen _ hsigM) hstack hdg
  obtain ⟨v, B, X', hS, hgr, hpost, hsteps⟩ := hK m meth c ⟨T.setVm vm₁, locs, cells, slots⟩ { g with stack := rest } (.invokevirtual index) mk (.ref b :: argsL).toArray X₁ hg hsize hdg hW (X₁.named hnamed) (hpre vm₁ X₁.warmed)
  exact ⟨v, vm₁, B, X₁.warmed, X', hS, hgr, hpost, (hcome.trans (hstep₁ _ fun acts => by rw [doInvoke_state]; exact Steps.refl _)).trans hsteps⟩
theorem same_of {C : String} {u : MethodName} (w2 : (Cond.instanceMethod y).before a0 Z = true) (w6 : (Cond.selects C u u).before a0 Z = true) (hu : u.cls = y.cls) (hy : y.cls ≠ "java/lang/invoke/MethodHandle" ∧ y.cls ≠ "java/lang/invoke/VarHandle") : (Cond.sameMethod y.cls y.cls y.name y.desc).before a0 Z = true := by
  obtain ⟨mk, methM, hnamed, hmethM, hstM, habM⟩ := Cond.instanceMethod_spec w2
  obtain ⟨c2, r2, m2, q1, q2, q3, q4, kP, hkP, hkPi⟩ := Cond.selects_spec w6
  have hf := State.methodFound?_of_named hnamed hy
  have hc := findClass_of_methodNamed hnamed
  have hc2 := findClass_of_methodNamed q3
  rw [hu, hc] at hc2
  have e1 : mk.cls = m2.cls := Option.some.inj hc2
  rw [← e1] at hkP
  have hn' : Z.methodNamed? ⟨y.cls, y.name, y.desc⟩ = some mk := hnamed
  simp [Cond.before, Cond.holds, Cond.value, hc, hf, hn', hkP, hkPi]
theorem Wk.callW (W : Wk p l e R s m args below meth c Z EL n0 ws own sf T cells slots h) (hx : p.tables.exec = Jvm.exec) (hEL : EW Z a0 EL) {index : Nat} {C : String} (w1 : (Cond.methodLink own index y).before a0 Z = true) (w5 : (Cond.selects C y y).before a0 Z = true) (w6 : (Cond.instanceMethod y).before a0 Z = true) (w3 : (Cond.initialized y.cls).before a0 Z = true) (w4 : (Cond.code y bytes maxL ret).before a0 Z = true)
    (hy : y.cls ≠ "java/lang/invoke/MethodHandle" ∧ y.cls ≠ "java/lang/invoke/VarHandle") (Ea : Exa Z h a C) {argsL rest : List Value} {sf' : List Addr} (M : Met l Z EL n0 y bytes maxL ret [] rm (.ref a :: argsL).toArray h ws' sf' Qv) (hsf : ∀ x ∈ sf', x ∈ sf) (hf : rm.frames + 1 ≤ R.frames) {Wd : Nat} (hl : Wd + (maxL + 11) + rm.locals ≤ R.locals) (hc : cells + rm.cells ≤ R.cells) (hsl : slots + rm.slots ≤ R.slots)
    (gws : ∀ x ∈ ws', n0 ≤ x ∧ (x ∈ ws ∨ s.heap.size ≤ x)) {g : JFrame} (hg : g.method = m) (hsize : g.locals.size = c.maxLocals) (hlen : ∀ sig, parseMethodDescriptor y.desc = some sig → argsL.length = sig.parameters.length) (hstack : g.stack = argsL.reverse ++ .ref a :: rest) (hW : 2 * g.monitorRoom + (rest.map fun v => v.category).sum ≤ Wd)
    (hd : decode c.code g.pc = .ok (.invokevirtual index, 3)) (k : ∀ T' h' v (S : Addr → Prop), (∀ sfx : List Addr, (∀ x ∈ sfx, S x) → Wk p l e R s m args below meth c Z EL n0 ws own (sfx ++ sf) T' (cells + rm.cells) (slots + rm.slots) h') → Keep h h' ws' → Qv v h' S → Go p e below Q (T'.setTop { g with pc := g.pc + 3, stack := v.toList ++ rest })) : Go p e below Q (T.setTop g) := by
  obtain ⟨vm0, locs, k0, X, eT, hS, hk, hZ, hown, hC, N, K, Ol, Fs⟩ := W
  obtain ⟨cB, kB, qa, qb, qc⟩ := isOf (s := s.setVm vm0) hZ eT Ea
  obtain ⟨v, vm₁, ⟨U, Lb, kb, nb⟩, hw, X', hS', hle, ⟨L, ⟨q, N', K'⟩, e1, e2, e3, A⟩, st⟩ := privBackS X hx hown (mvT (s := s.setVm vm0) hZ w1) (mvT (s := s.setVm vm0) hZ w4) (mvT (s := s.setVm vm0) hZ w5) (mvT (s := s.setVm vm0) hZ w6) hy (Met.pay (s := s) (Wd := Wd) M hZ w4 w3 hf hl hEL hC.1 (fun x hx => Fs x (hsf x hx))) qa qc hg hsize (Steps.refl _) hlen hstack hW hd (fun _ _ => ⟨rfl, eT, hc, hsl⟩)
  dsimp only [Pt.U, Pt.locs, Pt.cells, Pt.slots] at X' hS' hle q K' e1 e2 e3 A st
  subst e1 e2 e3
  exact Go.on st (k U U.heap v _ (fun sfx hx => wk_more (wk_call X X' hS' hle eT N' K' A gws hS hk hZ hown hC N K Ol Fs) hx) K' q)
theorem notFace_by {C : String} {u y : MethodName} (w : (Cond.selects C u u).before args s = true) (hu : u.cls = y.cls) : NotFace s y := fun r0 hn => by
  obtain ⟨c2, r2, m2, q1, q2, q3, q4, kP, hkP, hkPi⟩ := Cond.selects_spec w
  have h1 := findClass_of_methodNamed q3
  have h2 := findClass_of_methodNamed hn
  rw [hu, h2] at h1
  have e1 : r0.cls = m2.cls := Option.some.inj h1
  exact ⟨kP, by rw [e1]; exact hkP, hkPi⟩
theorem Wk.callL (W : Wk p l e R s m args below meth c Z EL n0 ws own sf T cells slots h) (hx : p.tables.exec = Jvm.exec) (hEL : EW Z a0 EL) {index : Nat} {C : String} {yn : MethodName} (w1 : (Cond.methodLink own index yn).before a0 Z = true) (w2 : (Cond.declares yn).before a0 Z = true) (w5 : (Cond.selects C yn y).before a0 Z = true) (w6 : (Cond.instanceMethod y).before a0 Z = true) (w3 : (Cond.initialized y.cls).before a0 Z = true) (w4 : (Cond.code y bytes maxL ret).before a0 Z = true)
    {u : MethodName} (w7 : (Cond.selects C u u).before a0 Z = true) (hu : u.cls = yn.cls) (hy : yn.cls ≠ "java/lang/invoke/MethodHandle" ∧ yn.cls ≠ "java/lang/invoke/VarHandle") (Ea : Exa Z h a C) {argsL rest : List Value} {sf' : List Addr} (M : Met l Z EL n0 y bytes maxL ret [] rm (.ref a :: argsL).toArray h ws' sf' Qv) (hsf : ∀ x ∈ sf', x ∈ sf) (hf : rm.frames + 1 ≤ R.frames) {Wd : Nat} (hl : Wd + (maxL + 11) + rm.locals ≤ R.locals) (hc : cells + rm.cells ≤ R.cells) (hsl : slots + rm.slots ≤ R.slots)
    (gws : ∀ x ∈ ws', n0 ≤ x ∧ (x ∈ ws ∨ s.heap.size ≤ x)) {g : JFrame} (hg : g.method = m) (hsize : g.locals.size = c.maxLocals) (hlen : ∀ sig, parseMethodDescriptor yn.desc = some sig → argsL.length = sig.parameters.length) (hstack : g.stack = argsL.reverse ++ .ref a :: rest) (hW : 2 * g.monitorRoom + (rest.map fun v => v.category).sum ≤ Wd)
    (hd : decode c.code g.pc = .ok (.invokevirtual index, 3)) (k : ∀ T' h' v (S : Addr → Prop), (∀ sfx : List Addr, (∀ x ∈ sfx, S x) → Wk p l e R s m args below meth c Z EL n0 ws own (sfx ++ sf) T' (cells + rm.cells) (slots + rm.slots) h') → Keep h h' ws' → Qv v h' S → Go p e below Q (T'.setTop { g with pc := g.pc + 3, stack := v.toList ++ rest })) : Go p e below Q (T.setTop g) := by
  obtain ⟨vm0, locs, k0, X, eT, hS, hk, hZ, hown, hC, N, K, Ol, Fs⟩ := W
  obtain ⟨cB, kB, qa, qb, qc⟩ := isOf (s := s.setVm vm0) hZ eT Ea
  obtain ⟨v, vm₁, ⟨U, Lb, kb, nb⟩, hw, X', hS', hle, ⟨L, ⟨q, N', K'⟩, e1, e2, e3, A⟩, st⟩ := X.virtualBackS hx (z := y) hown (mvT (s := s.setVm vm0) hZ w1) (mvT (s := s.setVm vm0) hZ w2) (notFace_by (args := #[]) (mvT (s := s.setVm vm0) hZ w7) hu) (mvT (s := s.setVm vm0) hZ w5) (mvT (s := s.setVm vm0) hZ w6) hy (Met.pay (s := s) (Wd := Wd) M hZ w4 w3 hf hl hEL hC.1 (fun x hx => Fs x (hsf x hx))) qa qc hg hsize (Steps.refl _) hlen hstack hW hd (fun _ _ => ⟨rfl, eT, hc, hsl⟩)
  dsimp only [Pt.U, Pt.locs, Pt.cells, Pt.slots] at X' hS' hle q K' e1 e2 e3 A st
  subst e1 e2 e3
  exact Go.on st (k U U.heap v _ (fun sfx hx => wk_more (wk_call X X' hS' hle eT N' K' A gws hS hk hZ hown hC N K Ol Fs) hx) K' q)
theorem Wk.callU (W : Wk p l e R s m args below meth c Z EL n0 ws own sf T cells slots h) (hx : p.tables.exec = Jvm.exec) (hEL : EW Z a0 EL) {index : Nat} {C : String} (w1 : (Cond.methodLink own index y).before a0 Z = true) {u : MethodName} (w2 : (Cond.superclass own y.cls).before a0 Z = true) (w5 : (Cond.selects C u u).before a0 Z = true) (hu : u.cls = y.cls) (hn : y.name ≠ "<init>") (w6 : (Cond.instanceMethod y).before a0 Z = true) (w3 : (Cond.initialized y.cls).before a0 Z = true) (w4 : (Cond.code y bytes maxL ret).before a0 Z = true)
    (hy : y.cls ≠ "java/lang/invoke/MethodHandle" ∧ y.cls ≠ "java/lang/invoke/VarHandle") (Ea : Exa Z h a C) {argsL rest : List Value} {sf' : List Addr} (M : Met l Z EL n0 y bytes maxL ret [] rm (.ref a :: argsL).toArray h ws' sf' Qv) (hsf : ∀ x ∈ sf', x ∈ sf) (hf : rm.frames + 1 ≤ R.frames) {Wd : Nat} (hl : Wd + (maxL + 11) + rm.locals ≤ R.locals) (hc : cells + rm.cells ≤ R.cells) (hsl : slots + rm.slots ≤ R.slots)
    (gws : ∀ x ∈ ws', n0 ≤ x ∧ (x ∈ ws ∨ s.heap.size ≤ x)) {g : JFrame} (hg : g.method = m) (hsize : g.locals.size = c.maxLocals) (hlen : ∀ sig, parseMethodDescriptor y.desc = some sig → argsL.length = sig.parameters.length) (hstack : g.stack = argsL.reverse ++ .ref a :: rest) (hW : 2 * g.monitorRoom + (rest.map fun v => v.category).sum ≤ Wd)
    (hd : decode c.code g.pc = .ok (.invokespecial index, 3)) (k : ∀ T' h' v (S : Addr → Prop), (∀ sfx : List Addr, (∀ x ∈ sfx, S x) → Wk p l e R s m args below meth c Z EL n0 ws own (sfx ++ sf) T' (cells + rm.cells) (slots + rm.slots) h') → Keep h h' ws' → Qv v h' S → Go p e below Q (T'.setTop { g with pc := g.pc + 3, stack := v.toList ++ rest })) : Go p e below Q (T.setTop g) := by
  obtain ⟨vm0, locs, k0, X, eT, hS, hk, hZ, hown, hC, N, K, Ol, Fs⟩ := W
  obtain ⟨v, vm₁, ⟨U, Lb, kb, nb⟩, hw, X', hS', hle, ⟨L, ⟨q, N', K'⟩, e1, e2, e3, A⟩, st⟩ := superBackS (s := s.setVm vm0) X hx hZ hown w1 (same_of w6 w5 hu hy) w6 w2 hn (Met.pay (s := s) (Wd := Wd) M hZ w4 w3 hf hl hEL hC.1 (fun x hx => Fs x (hsf x hx))) eT (Ins.self Ea) hg hsize w4 hlen hstack hW hd (fun _ _ => ⟨rfl, eT, hc, hsl⟩)
  dsimp only [Pt.U, Pt.locs, Pt.cells, Pt.slots] at X' hS' hle q K' e1 e2 e3 A st
  subst e1 e2 e3
  exact Go.on st (k U U.heap v _ (fun sfx hx => wk_more (wk_call X X' hS' hle eT N' K' A gws hS hk hZ hown hC N K Ol Fs) hx) K' q)
/-! calls that a law of the JDK pays -/
theorem wk_keep (X : Stand p l e R (s.setVm vm0) m args below meth c T' locs cells slots) (e' : T'.heap = h') (E : Keep h h' ws') (gws : ∀ x ∈ ws', n0 ≤ x ∧ (x ∈ ws ∨ s.heap.size ≤ x)) (sws : ∀ x ∈ ws', x ∈ sf) (hS : s.Since vm0 k0) (hk : k0 ≤ h.size) (hZ : Z.Warmed39 vm0) (hown : vm0.findClass own = some m.cls) (hC : CHr Z EL s.vm s.heap vm0 h) (N : Fr n0 locs) (K : Keep s.heap h ws) (O : Old Z n0 h)
    (F : ∀ x ∈ sf, Safe Z EL vm0 h x ∧ x < h.size) : Wk p l e R s m args below meth c Z EL n0 ws own sf T' cells slots h' :=
  wk_tab X e' E gws hS (Nat.le_trans hk E.1) hZ hown (CHr.keep E (fun y hy => (F y (sws y hy)).1) hC.1) hC N K O F
variable {Q1 : Option Value → Heap → List Loc → Prop} {kk nn : Nat} {Qp : Option Value → Heap → Prop}
theorem Wk.specB (W : Wk p l e R s m args below meth c Z EL n0 ws own sf T cells slots h) (hx : p.tables.exec = Jvm.exec) {index : Nat} (hy1 : y.name = "<init>") (w1 : (Cond.methodLink own index y).before a0 Z = true) (w2 : (Cond.instanceMethod y).before a0 Z = true) (w4 : (Cond.code y bytes maxL none).before a0 Z = true)
    (hy : y.cls ≠ "java/lang/invoke/MethodHandle" ∧ y.cls ≠ "java/lang/invoke/VarHandle") {argsL rest : List Value} {Wd : Nat} (hK : ∀ s' : State, Z.Warmed39 s'.vm → Back l R p e below s' args y 3 Wd (fun A as => as = (.ref a :: argsL).toArray ∧ A.U.heap = h ∧ A.cells + kk ≤ R.cells ∧ A.slots + nn ≤ R.slots) (fun A _ v B => ∃ L, Q1 v B.U.heap L ∧ B.locs = A.locs ++ L ∧ B.cells = A.cells + kk ∧ B.slots = A.slots + nn))
    (hq : ∀ v h' L, Q1 v h' L → Fr n0 L ∧ Keep h h' ws' ∧ Qp v h') (hc : cells + kk ≤ R.cells) (hsl : slots + nn ≤ R.slots)
    (gws : ∀ x ∈ ws', n0 ≤ x ∧ (x ∈ ws ∨ s.heap.size ≤ x)) (sws : ∀ x ∈ ws', x ∈ sf) {g : JFrame} (hg : g.method = m) (hsize : g.locals.size = c.maxLocals) (hlen : ∀ sig, parseMethodDescriptor y.desc = some sig → argsL.length = sig.parameters.length) (hstack : g.stack = argsL.reverse ++ .ref a :: rest) (hW : 2 * g.monitorRoom + (rest.map fun v => v.category).sum ≤ Wd)
    (hd : decode c.code g.pc = .ok (.invokespecial index, 3)) (k : ∀ T' h' v, Wk p l e R s m args below meth c Z EL n0 ws own sf T' (cells + kk) (slots + nn) h' → Keep h h' ws' → Qp v h' → Go p e below Q (T'.setTop { g with pc := g.pc + 3, stack := v.toList ++ rest })) : Go p e below Q (T.setTop g) := by
  obtain ⟨vm0, locs, k0, X, eT, hS, hk, hZ, hown, hC, N, K, Ol, Fs⟩ := W
  obtain ⟨v, vm₁, ⟨U, Lb, kb, nb⟩, hw, X', ⟨L, q, e1, e2, e3⟩, st⟩ := X.specialBack hx hy1 hown (mvT (s := s.setVm vm0) hZ w1) (mvT (s := s.setVm vm0) hZ w2) (mvT (s := s.setVm vm0) hZ w4) hy (hK (s.setVm vm0) hZ) hg hsize (Steps.refl _) hlen hstack hW hd (fun _ _ => ⟨rfl, eT, hc, hsl⟩)
  dsimp only [Pt.U, Pt.locs, Pt.cells, Pt.slots] at X' q e1 e2 e3 st
  subst e1 e2 e3
  obtain ⟨N', K', q'⟩ := hq _ _ _ q
  exact Go.on st (k U U.heap v (wk_keep X' rfl K' gws sws hS hk hZ hown hC (N.app N') K Ol Fs) K' q')
theorem Wk.virtB (W : Wk p l e R s m args below meth c Z EL n0 ws own sf T cells slots h) (hx : p.tables.exec = Jvm.exec) {index : Nat} {C : String} (w1 : (Cond.methodLink own index y).before a0 Z = true) (w2 : (Cond.declares y).before a0 Z = true) (w5 : (Cond.selects C y y).before a0 Z = true) (w6 : (Cond.instanceMethod y).before a0 Z = true)
    (hy : y.cls ≠ "java/lang/invoke/MethodHandle" ∧ y.cls ≠ "java/lang/invoke/VarHandle") (Ea : Exa Z h a C) {argsL rest : List Value} {Wd : Nat} (hK : ∀ s' : State, Z.Warmed39 s'.vm → Back l R p e below s' args y 3 Wd (fun A as => as = (.ref a :: argsL).toArray ∧ A.U.heap = h ∧ A.cells + kk ≤ R.cells ∧ A.slots + nn ≤ R.slots) (fun A _ v B => ∃ L, Q1 v B.U.heap L ∧ B.locs = A.locs ++ L ∧ B.cells = A.cells + kk ∧ B.slots = A.slots + nn))
    (hq : ∀ v h' L, Q1 v h' L → Fr n0 L ∧ Keep h h' ws' ∧ Qp v h') (hc : cells + kk ≤ R.cells) (hsl : slots + nn ≤ R.slots)
    (gws : ∀ x ∈ ws', n0 ≤ x ∧ (x ∈ ws ∨ s.heap.size ≤ x)) (sws : ∀ x ∈ ws', x ∈ sf) {g : JFrame} (hg : g.method = m) (hsize : g.locals.size = c.maxLocals) (hlen : ∀ sig, parseMethodDescriptor y.desc = some sig → argsL.length = sig.parameters.length) (hstack : g.stack = argsL.reverse ++ .ref a :: rest) (hW : 2 * g.monitorRoom + (rest.map fun v => v.category).sum ≤ Wd)
    (hd : decode c.code g.pc = .ok (.invokevirtual index, 3)) (k : ∀ T' h' v, Wk p l e R s m args below meth c Z EL n0 ws own sf T' (cells + kk) (slots + nn) h' → Keep h h' ws' → Qp v h' → Go p e below Q (T'.setTop { g with pc := g.pc + 3, stack := v.toList ++ rest })) : Go p e below Q (T.setTop g) := by
  obtain ⟨vm0, locs, k0, X, eT, hS, hk, hZ, hown, hC, N, K, Ol, Fs⟩ := W
  obtain ⟨cB, kB, qa, qb, qc⟩ := isOf (s := s.setVm vm0) hZ eT Ea
  obtain ⟨v, vm₁, ⟨U, Lb, kb, nb⟩, hw, X', ⟨L, q, e1, e2, e3⟩, st⟩ := X.virtualBack hx (z := y) hown (mvT (s := s.setVm vm0) hZ w1) (mvT (s := s.setVm vm0) hZ w2) (notFace_of_selects (args := #[]) (mvT (s := s.setVm vm0) hZ w5)) (mvT (s := s.setVm vm0) hZ w5) (mvT (s := s.setVm vm0) hZ w6) hy (hK (s.setVm vm0) hZ) qa qc hg hsize (Steps.refl _) hlen hstack hW hd (fun _ _ => ⟨rfl, eT, hc, hsl⟩)
  dsimp only [Pt.U, Pt.locs, Pt.cells, Pt.slots] at X' q e1 e2 e3 st
  subst e1 e2 e3
  obtain ⟨N', K', q'⟩ := hq _ _ _ q
  exact Go.on st (k U U.heap v (wk_keep X' rfl K' gws sws hS hk hZ hown hC (N.app N') K Ol Fs) K' q')
theorem Wk.cp (W : Wk p l e R s m args below meth c Z EL n0 ws own sf T cells slots h) (hx : p.tables.exec = Jvm.exec) {index : Nat} (w1 : (Cond.methodLink own index Jvm.Stand.acN).before a0 Z = true) (w2 : (Cond.native Jvm.Stand.acN).before a0 Z = true) (w3 : (Cond.static Jvm.Stand.acN).before a0 Z = true) (w4 : (Cond.initialized "java/lang/System").before a0 Z = true)
    {k1 k2 : ClassId} {ty : FieldType} {z z' sp dp nn : Int32} {vs vd us : List Value} {dv dd : Value} (A : Arv Z h a k1 ty z vs dv) (B : Arv Z h b k2 ty z' vd dd) (hty : refKind ty = false) (h1 : ¬ sp < 0) (h2 : ¬ dp < 0) (h3 : ¬ nn < 0) (h4 : sp.toNatClampNeg + nn.toNatClampNeg ≤ z.toNatClampNeg) (h5 : dp.toNatClampNeg + nn.toNatClampNeg ≤ z'.toNatClampNeg)
    (hus : us = (List.range nn.toNatClampNeg).map fun i => vs.getD (sp.toNatClampNeg + i) dv) (hl : dp.toNatClampNeg + nn.toNatClampNeg ≤ vd.length) (ga : n0 ≤ b) (gw : b ∈ ws ∨ s.heap.size ≤ b) (sb : b ∈ sf)
    {g : JFrame} (hg : g.method = m) (hsize : g.locals.size = c.maxLocals) {rest : List Value} (hs : g.stack = .int nn :: .int dp :: .ref b :: .int sp :: .ref a :: rest) (hd : decode c.code g.pc = .ok (.invokestatic index, 3))
    (hf : 1 ≤ R.frames) {Wd : Nat} (hW : 2 * g.monitorRoom + (rest.map fun v => v.category).sum ≤ Wd) (hlo : Wd + (nativeFrameWords "java/lang/System" "arraycopy" 5 + 11) ≤ R.locals)
    (k : ∀ T' h', Wk p l e R s m args below meth c Z EL n0 ws own sf T' cells slots h' → Keep h h' [b] → Arv Z h' b k2 ty z' (vd.take dp.toNatClampNeg ++ us ++ vd.drop (dp.toNatClampNeg + nn.toNatClampNeg)) dd → Go p e below Q (T'.setTop { g with pc := g.pc + 3, stack := rest })) : Go p e below Q (T.setTop g) := by
  obtain ⟨vm0, locs, k0, X, eT, hS, hk, hZ, hown, hC, N, K, Ol, Fs⟩ := W
  obtain ⟨T', h', L, X', e', N', K', A', st⟩ := RoadKit.cpA X hx hZ hown w1 w2 w3 w4 eT A B (Or.inl ⟨rfl, hty⟩) h1 h2 h3 h4 h5 hus hl N ga hg hsize hs hd hf hW hlo
  exact Go.of st (k T' h' (wk_keep X' e' K' (allS ⟨ga, gw⟩ all0) (allS sb all0) hS hk hZ hown hC N' K Ol Fs) K' A')
theorem Wk.aaload (W : Wk p l e R s m args below meth c Z EL n0 ws own sf T cells slots h) (hx : p.tables.exec = Jvm.exec) {kc : ClassId} {ty : FieldType} {z j : Int32} {vs : List Value} {dv : Value} (V : Arv Z h a kc ty z vs dv) (hty : ty.isReference = true) (hj : ¬ j < 0 ∧ j < z) (hv : vs.getD j.toNatClampNeg dv = v)
    {g : JFrame} (hg : g.method = m) {rest : List Value} (hs : g.stack = .int j :: .ref a :: rest) (hd : decode c.code g.pc = .ok (.aaload, 1)) (k : Go p e below Q (T.setTop { g with pc := g.pc + 1, stack := v :: rest })) : Go p e below Q (T.setTop g) := by
  obtain ⟨vm0, locs, k0, X, eT, hS, hk, hZ, hown, r⟩ := W
  obtain ⟨cl, A, q1, S1, q3, H, G⟩ := V
  exact Go.of (fun t q => X.aaload hx (by rw [eT]; exact A.1) (State.isArrayOf_alike hZ.alike A.2.1) hty A.2.2 (inb_of S1 hj) (H.at (inb_of S1 hj) hv) hg hs hd t q) k
theorem Wk.cloneV (W : Wk p l e R s m args below meth c Z EL n0 ws own sf T cells slots h) (hx : p.tables.exec = Jvm.exec) {ad : String} {index : Nat} (w1 : (Cond.methodLink own index ⟨ad, "clone", "()Ljava/lang/Object;"⟩).before a0 Z = true) (w2 : (Cond.sameMethod ad "java/lang/Object" "clone" "()Ljava/lang/Object;").before a0 Z = true) (w3 : (Cond.native ⟨"java/lang/Object", "clone", "()Ljava/lang/Object;"⟩).before a0 Z = true)
    (w4 : (Cond.instanceMethod ⟨"java/lang/Object", "clone", "()Ljava/lang/Object;"⟩).before a0 Z = true) (w5 : (Cond.selects ad ⟨ad, "clone", "()Ljava/lang/Object;"⟩ ⟨"java/lang/Object", "clone", "()Ljava/lang/Object;"⟩).before a0 Z = true) (w6 : (Cond.castable ad "java/lang/Cloneable").before a0 Z = true)
    {kc : ClassId} {ty : FieldType} {z : Int32} {vs : List Value} {dv : Value} (V : Arv Z h a kc ty z vs dv) (E : Exa Z h a ad) (F : ∀ cl : Cell, Arr Z h a cl ty → FitC Z cl) {g : JFrame} (hg : g.method = m) (hsize : g.locals.size = c.maxLocals) {rest : List Value} (hs : g.stack = .ref a :: rest) (hd : decode c.code g.pc = .ok (.invokevirtual index, 3))
    (hf : 1 ≤ R.frames) {Wd cap : Nat} (hW : 2 * g.monitorRoom + (rest.map fun v => v.category).sum ≤ Wd) (hl : Wd + 14 ≤ R.locals) (hcap : z.toNatClampNeg ≤ cap) (hc : cells + 1 ≤ R.cells) (hsl : slots + cap ≤ R.slots)
    (k : ∀ T' h' b, b = h.size → n0 ≤ b ∧ s.heap.size ≤ b → Wk p l e R s m args below meth c Z EL n0 ws own (b :: sf) T' (cells + 1) (slots + cap) h' → Keep h h' [] → Arv Z h' b kc ty z vs dv → Exa Z h' b ad → Go p e below Q (T'.setTop { g with pc := g.pc + 3, stack := .ref b :: rest })) : Go p e below Q (T.setTop g) := by
  have hle := W.n0le
  have hle' := W.s0le
  obtain ⟨vm0, locs, k0, X, eT, hS, hk, hZ, hown, hC, N, K, O, Fs⟩ := W
  obtain ⟨cl, A, q1, S1, q3, H, G⟩ := V
  obtain ⟨T', h', X', e', Ex, A', E', st⟩ := RoadKit.cloneA X hx hZ hown w1 w2 w3 w4 w5 w6 eT A E (F cl A) hg hsize hs hd hf hW hl (by rw [S1]; exact hcap) hc hsl
  exact Go.of st (k T' h' h.size rfl ⟨hle, hle'⟩ (wk_new X' e' Ex A'.lt hS hk hZ hown hC N K O Fs) ((Keep.refl h []).ext Ex) ⟨cloneOf cl, A', q1, S1, q3, H, G⟩ E')
theorem ne_of_born {h h1 : Heap} (hb : h.size ≤ b) (hlt : a < h1.size) (hle : h1.size ≤ h.size) : a ≠ b := Nat.ne_of_lt (Nat.lt_of_lt_of_le hlt (Nat.le_trans hle hb))
theorem nin1 (q : a ≠ b) : a ∉ [b] := ninS q nin0
theorem all1 {P : Addr → Prop} (q : P a) : ∀ x ∈ [a], P x := allS q all0
theorem all0i {P : Int32 → Prop} : ∀ x ∈ ([] : List Int32), P x := fun _ q => nomatch q
theorem allSi {P : Int32 → Prop} {y : Int32} {L : List Int32} (q : P y) (r : ∀ x ∈ L, P x) : ∀ x ∈ y :: L, P x := fun x z => (List.mem_cons.mp z).elim (fun u => u ▸ q) (r x)
theorem fin256 {P : Int32 → Prop} (t : ∀ k : Fin 256, P (Int32.ofNat k.val)) {q : Int32} (hq : ¬ q < 0 ∧ ¬ (255 : Int32) < q) : P q := by
  have h0 : ¬ q.toInt < 0 := fun z => hq.1 (by rw [Int32.lt_iff_toInt_lt]; exact z)
  have h1 : ¬ 255 < q.toInt := fun z => hq.2 (by rw [Int32.lt_iff_toInt_lt]; exact z)
  have e : q = Int32.ofNat q.toInt.toNat := by
    apply Int32.toInt_inj.mp
    rw [Int32.toInt_ofNat_of_lt (by omega)]
    omega
  rw [e]
  exact t ⟨q.toInt.toNat, by omega⟩
theorem and255 (x : Int32) : ¬ (x &&& (255 : Int32)) < 0 ∧ ¬ (255 : Int32) < (x &&& (255 : Int32)) := by
  have t : ∀ k : Fin 256, ¬ (Int32.ofNat k.val) < 0 ∧ ¬ (255 : Int32) < (Int32.ofNat k.val) := by decide +kernel
  have h : (x &&& 255).toBitVec.toNat < 256 := by
    simp only [Int32.toBitVec_and, BitVec.toNat_and]
    exact Nat.lt_succ_of_le Nat.and_le_right
  have e : (x &&& 255) = Int32.ofNat (x &&& 255).toBitVec.toNat := by
    apply Int32.toBitVec_inj.mp
    show _ = BitVec.ofNat 32 _
    rw [BitVec.ofNat_toNat]; simp
  rw [e]
  exact t ⟨_, h⟩
theorem snd255 {cs : List Int32} (h : ∀ c ∈ cs, ¬ c < 0 ∧ ¬ (255 : Int32) < c) : ∀ c ∈ cs, ¬ (255 : Int32) < c := fun c hc => (h c hc).2
theorem irr32 (x : Int32) : ¬ x < x := by rw [Int32.lt_iff_toInt_lt]; exact Int.lt_irrefl _
theorem char_id {q : Int32} (hq : ¬ q < 0 ∧ ¬ (255 : Int32) < q) : q.toUInt32.toUInt16.toUInt32.toInt32 = q := fin256 (P := fun q => q.toUInt32.toUInt16.toUInt32.toInt32 = q) (by decide +kernel) hq
theorem char255 (x : Int32) : ∃ q : Int32, (x &&& (255 : Int32)).toUInt32.toUInt16.toUInt32.toInt32 = q ∧ (¬ q < 0 ∧ ¬ (255 : Int32) < q) ∧ q = x &&& (255 : Int32) := ⟨x &&& 255, char_id (and255 x), and255 x, rfl⟩
theorem nar_char {q : Int32} (hq : ¬ q < 0 ∧ ¬ (255 : Int32) < q) : nar .char q = q := fin256 (P := fun q => nar .char q = q) (by decide +kernel) hq
theorem and1 (x : Int32) : (x &&& (1 : Int32)) = (0 : Int32) ∨ (x &&& (1 : Int32)) = (1 : Int32) := by
  have t : ∀ k : Fin 2, (Int32.ofNat k.val) = (0 : Int32) ∨ (Int32.ofNat k.val) = (1 : Int32) := by decide +kernel
  have h : (x &&& 1).toBitVec.toNat < 2 := by
    simp only [Int32.toBitVec_and, BitVec.toNat_and]
    exact Nat.lt_succ_of_le Nat.and_le_right
  have e : (x &&& 1) = Int32.ofNat (x &&& 1).toBitVec.toNat := by
    apply Int32.toBitVec_inj.mp
    show _ = BitVec.ofNat 32 _
    rw [BitVec.ofNat_toNat]; simp
  rw [e]
  exact t ⟨_, h⟩
theorem and3 (x : Int32) : (x &&& (3 : Int32)) = (0 : Int32) ∨ (x &&& (3 : Int32)) = (1 : Int32) ∨ (x &&& (3 : Int32)) = (2 : Int32) ∨ (x &&& (3 : Int32)) = (3 : Int32) := by
  have t : ∀ k : Fin 4, (Int32.ofNat k.val) = (0 : Int32) ∨ (Int32.ofNat k.val) = (1 : Int32) ∨ (Int32.ofNat k.val) = (2 : Int32) ∨ (Int32.ofNat k.val) = (3 : Int32) := by decide +kernel
  have h : (x &&& 3).toBitVec.toNat < 4 := by
    simp only [Int32.toBitVec_and, BitVec.toNat_and]
    exact Nat.lt_succ_of_le Nat.and_le_right
  have e : (x &&& 3) = Int32.ofNat (x &&& 3).toBitVec.toNat := by
    apply Int32.toBitVec_inj.mp
    show _ = BitVec.ofNat 32 _
    rw [BitVec.ofNat_toNat]; simp
  rw [e]
  exact t ⟨_, h⟩
theorem and7 (x : Int32) : (x &&& (7 : Int32)) = (0 : Int32) ∨ (x &&& (7 : Int32)) = (1 : Int32) ∨ (x &&& (7 : Int32)) = (2 : Int32) ∨ (x &&& (7 : Int32)) = (3 : Int32) ∨ (x &&& (7 : Int32)) = (4 : Int32) ∨ (x &&& (7 : Int32)) = (5 : Int32) ∨ (x &&& (7 : Int32)) = (6 : Int32) ∨ (x &&& (7 : Int32)) = (7 : Int32) := by
  have t : ∀ k : Fin 8, (Int32.ofNat k.val) = (0 : Int32) ∨ (Int32.ofNat k.val) = (1 : Int32) ∨ (Int32.ofNat k.val) = (2 : Int32) ∨ (Int32.ofNat k.val) = (3 : Int32) ∨ (Int32.ofNat k.val) = (4 : Int32) ∨ (Int32.ofNat k.val) = (5 : Int32) ∨ (Int32.ofNat k.val) = (6 : Int32) ∨ (Int32.ofNat k.val) = (7 : Int32) := by decide +kernel
  have h : (x &&& 7).toBitVec.toNat < 8 := by
    simp only [Int32.toBitVec_and, BitVec.toNat_and]
    exact Nat.lt_succ_of_le Nat.and_le_right
  have e : (x &&& 7) = Int32.ofNat (x &&& 7).toBitVec.toNat := by
    apply Int32.toBitVec_inj.mp
    show _ = BitVec.ofNat 32 _
    rw [BitVec.ofNat_toNat]; simp
  rw [e]
  exact t ⟨_, h⟩
theorem and3_cap (x : Int32) : ¬ (x &&& (3 : Int32)) < 0 ∧ (x &&& (3 : Int32)).toNatClampNeg ≤ 3 := by
  rcases and3 x with e | e | e | e <;> rw [e] <;> decide
theorem nar_byte (x : Int32) : nar .byte (x.toInt8.toInt32) = x.toInt8.toInt32 := by
  show x.toInt8.toInt32.toInt8.toInt32 = x.toInt8.toInt32
  simp
theorem ne_tys {c1 c2 : Cell} {t1 t2 : FieldType} (F : Arr Z h a c1 t1) (G : Arr Z h b c2 t2) (hn : t1 ≠ t2) : a ≠ b := fun q => by
  subst q
  cases F.1.symm.trans G.1
  obtain ⟨-, k1, e1, p1, r1⟩ := F.2.1
  obtain ⟨-, k2, e2, p2, r2⟩ := G.2.1
  cases e1.symm.trans e2
  cases r1.symm.trans r2
  exact hn rfl
end OwnKit
end Jvm.Pilot.@@N@@
namespace Jvm.Pilot.@@N@@
open Jvm Jvm.ClassFile Sem Op Lib Jvm.Free Jvm.Stand Jvm.LawKit Jvm.RoadKit Bundle Jvm.Pilot.@@N@@.Jvm.D
section OwnStr
variable {p : Program} {l : Launch} {e : Env} {R : Room} {s : State} {m : MethodId} {args : Array Value} {below : List Frame} {meth : Method} {c : Code} {T T' : State} {locs : List Loc} {cells slots : Nat} {Z : State} {a0 : Array Value} {h h' : Heap} {EL : List (String × Nat)} {n0 k0 : Nat} {ws ws' sf : List Addr} {own : String} {Q : Outcome → State → Prop} {a b x : Addr} {v : Value} {sl : Nat}
variable {y : MethodName} {bytes : ByteArray} {maxL : Nat} {zc : Int32} {cs ds : List Int32} {kC : ClassId} {N : Int32} {d : Value} {n : Nat} {v0 c0 : Value} {index : Nat} {Wd : Nat} {g : JFrame} {rest : List Value}
/-- a String at x that spells cs -/
def Str (Z : State) (h : Heap) (x : Addr) (cs : List Int32) : Prop := ∃ (t : Addr) (kb : ClassId) (cd N2 : Int32) (vs : List Value), Exa Z h x "java/lang/String" ∧ Fld Z h x "java/lang/String" "value" "[B" (.ref t) ∧ Fld Z h x "java/lang/String" "coder" "B" (.int cd) ∧ Arv Z h t kb .byte N2 vs (.int 0) ∧ StrChars.Road.CodA cs cd N2 vs ∧ (∀ c ∈ cs, ¬ c < 0 ∧ ¬ (65535 : Int32) < c) ∧ cs.length ≤ 4000
theorem Str.exa (S : Str Z h x cs) : Exa Z h x "java/lang/String" := by
  obtain ⟨_, _, _, _, _, E, _⟩ := S
  exact E
theorem Str.keep0 (S : Str Z h x cs) (K : Keep h h' []) : Str Z h' x cs := by
  obtain ⟨t, kb, cd, N2, vs, E, V, C, A, r⟩ := S
  exact ⟨t, kb, cd, N2, vs, E.keep K, V.keep K nin0, C.keep K nin0, A.keep K nin0, r⟩
theorem Str.ext (S : Str Z h x cs) (E : Ext h h') : Str Z h' x cs := S.keep0 ((Keep.refl h []).ext E)
/-- carried over a step that may have written the one object b, no String of hers and no array -/
theorem Str.keepE {C : String} {kI : Nat} (S : Str Z h x cs) (K : Keep h h' [b]) (Eb : Exa Z h b C) (wi : (Cond.instantiable C kI).before a0 Z = true) (hne : x ≠ b) : Str Z h' x cs := by
  obtain ⟨t, kb, cd, N2, vs, E, V, D, A, r⟩ := S
  have ht : t ≠ b := by
    obtain ⟨cl, A1, -⟩ := A
    exact (ne_arr Eb wi A1).symm
  exact ⟨t, kb, cd, N2, vs, E.keep K, V.keep K (nin1 hne), D.keep K (nin1 hne), A.keep K (nin1 ht), r⟩
theorem Str.keepC {C : String} {kI : Nat} (S : Str Z h x cs) (K : Keep h h' [b]) (Eb : Exa Z h b C) (wi : (Cond.instantiable C kI).before a0 Z = true) (hC : "java/lang/String" ≠ C) : Str Z h' x cs := S.keepE K Eb wi (ne_exa S.exa Eb hC)
/-- carried over a step that may have written one array of another kind than byte -/
theorem Str.keepA {kc : ClassId} {ty : FieldType} {z : Int32} {vs : List Value} {dv : Value} (S : Str Z h x cs) (K : Keep h h' [b]) (V : Arv Z h b kc ty z vs dv) (wi : (Cond.instantiable "java/lang/String" 4).before a0 Z = true) (ht : ∀ t : Addr, t < h.size → ∀ (kb : ClassId) (N2 : Int32) (us : List Value), Arv Z h t kb .byte N2 us (.int 0) → t ≠ b) : Str Z h' x cs := by
  obtain ⟨t, kb, cd, N2, us, E, V1, D, A, r⟩ := S
  have hx : x ≠ b := by
    obtain ⟨cl, A1, -⟩ := V
    exact ne_arr E wi A1
  have ht := ht t A.lt kb N2 us A
  exact ⟨t, kb, cd, N2, us, E.keep K, V1.keep K (nin1 hx), D.keep K (nin1 hx), A.keep K (nin1 ht), r⟩
theorem Str.keepT {kc : ClassId} {ty : FieldType} {z : Int32} {vs : List Value} {dv : Value} (S : Str Z h x cs) (K : Keep h h' [b]) (V : Arv Z h b kc ty z vs dv) (wi : (Cond.instantiable "java/lang/String" 4).before a0 Z = true) (ht : FieldType.byte ≠ ty) : Str Z h' x cs :=
  S.keepA K V wi fun t _ kb N2 us A => by
    obtain ⟨c1, A1, -⟩ := A
    obtain ⟨c2, A2, -⟩ := V
    exact ne_tys A1 A2 ht
theorem Str.open_ (S : Str Z h x cs) (hlat : ∀ c ∈ cs, ¬ (255 : Int32) < c) : ∃ (t : Addr) (kb : ClassId), Exa Z h x "java/lang/String" ∧ Fld Z h x "java/lang/String" "value" "[B" (.ref t) ∧ Fld Z h x "java/lang/String" "coder" "B" (.int 0) ∧ Arv Z h t kb .byte (Int32.ofNat cs.length) (cs.map fun c => Value.int (StrChars.lo8 c)) (.int 0) := by
  obtain ⟨t, kb, cd, N2, vs, E, V, C, A, hc, -, -⟩ := S
  rcases hc with ⟨rfl, rfl, rfl, -⟩ | ⟨-, -, -, c, hc, hw⟩
  · exact ⟨t, kb, E, V, C, A⟩
  · exact absurd hw (hlat c hc)
theorem up255 (h : ∀ c ∈ cs, ¬ c < 0 ∧ ¬ (255 : Int32) < c) : ∀ c ∈ cs, ¬ c < 0 ∧ ¬ (65535 : Int32) < c := fun c hc => ⟨(h c hc).1, fun q => (h c hc).2 (by rw [Int32.lt_iff_toInt_lt] at q ⊢; have e1 : (65535 : Int32).toInt = 65535 := rfl; have e2 : (255 : Int32).toInt = 255 := rfl; omega)⟩
theorem pdChars : parseMethodDescriptor "([C)V" = some ⟨[.array .char], none⟩ := by decide +kernel
theorem Wk.newStr (W : Wk p l e R s m args below meth c Z EL n0 ws own sf T cells slots h) (hx : p.tables.exec = Jvm.exec) (hws : ∀ d ∈ StrChars.Road.words, d.before a0 Z = true) (wi : (Cond.instantiable "java/lang/String" 4).before a0 Z = true) (SC : Sta Z Z.heap "java/lang/String" "COMPACT_STRINGS" "Z" (.int zc)) (hz : ¬ zc = 0)
    (w1 : (Cond.methodLink own index ⟨"java/lang/String", "<init>", "([C)V"⟩).before a0 Z = true) (w2 : (Cond.instanceMethod ⟨"java/lang/String", "<init>", "([C)V"⟩).before a0 Z = true) (w4 : (Cond.code ⟨"java/lang/String", "<init>", "([C)V"⟩ bytes maxL none).before a0 Z = true)
    (Ex : Exa Z h x "java/lang/String") (V : Fld Z h x "java/lang/String" "value" "[B" v0) (C : Fld Z h x "java/lang/String" "coder" "B" c0) (A : Arv Z h b kC .char N (cs.map Value.int) d) (hn : cs.length = n) (hN : N = Int32.ofNat n) (l0 : 0 < n) (l2 : n ≤ 4000) (hp : ∀ c ∈ cs, ¬ c < 0 ∧ ¬ (255 : Int32) < c) (gx : n0 ≤ x) (gw : x ∈ ws ∨ s.heap.size ≤ x) (sx : x ∈ sf)
    (hfr : 4 ≤ R.frames) (hlo : Wd + 65 ≤ R.locals) (hc : cells + 1 ≤ R.cells) (hsl : slots + n ≤ R.slots) (hg : g.method = m) (hsize : g.locals.size = c.maxLocals) (hstack : g.stack = .ref b :: .ref x :: rest) (hW : 2 * g.monitorRoom + (rest.map fun v => v.category).sum ≤ Wd) (hd : decode c.code g.pc = .ok (.invokespecial index, 3))
    (k : ∀ T' h', Wk p l e R s m args below meth c Z EL n0 ws own sf T' (cells + 1) (slots + n) h' → Keep h h' [x] → Str Z h' x cs → Go p e below Q (T'.setTop { g with pc := g.pc + 3, stack := rest })) : Go p e below Q (T.setTop g) := by
  have hle := W.n0le
  have hO := W.old
  refine W.specB hx (y := ⟨"java/lang/String", "<init>", "([C)V"⟩) rfl w1 w2 w4 (by decide) (kk := 1) (nn := n) (ws' := [x]) (a := x) (Qp := fun v h' => v = none ∧ Str Z h' x cs) (Q1 := fun v h' L => StrChars.Road.QV Z x N (cs.map fun c => c.toInt8.toInt32) h n0 v h' L) (argsL := [.ref b]) (rest := rest) (Wd := Wd)
    (fun s' hZ' => StrChars.Road.backV (W := Wd) hZ' hws wi gx hle Ex V C A (SC.ext hO.2) hz hn hN l0 l2 hp rfl hfr hlo) (fun v h' L q => ?_) hc hsl (all1 ⟨gx, gw⟩) (all1 sx) hg hsize (lenOf pdChars rfl) hstack hW hd (fun T' h' v W' K' q => ?_)
  · obtain ⟨rfl, q1, q2, q3, q4, t, kb, -, -, -, q5, q6⟩ := q
    refine ⟨q1, q2, rfl, t, kb, 0, N, _, q3, q5, q4, q6, ?_, up255 hp, by omega⟩
    subst hN
    exact StrChars.Road.codOf hn (fun c hc => (hp c hc).2)
  · obtain ⟨rfl, S⟩ := q
    exact k T' h' W' K' S
end OwnStr
end Jvm.Pilot.@@N@@
namespace Jvm.Pilot.@@N@@
open Jvm Jvm.ClassFile Sem Op Lib Jvm.Free Jvm.Stand Jvm.LawKit Jvm.RoadKit Bundle Jvm.Pilot.@@N@@.Jvm.D
section OwnStrMore
variable {p : Program} {l : Launch} {e : Env} {R : Room} {s : State} {m : MethodId} {args : Array Value} {below : List Frame} {meth : Method} {c : Code} {T T' : State} {cells slots : Nat} {Z : State} {a0 : Array Value} {h h' : Heap} {EL : List (String × Nat)} {n0 : Nat} {ws sf : List Addr} {own : String} {Q : Outcome → State → Prop} {a b x y : Addr}
variable {zc : Int32} {cs ds : List Int32} {n : Nat} {index : Nat} {Wd : Nat} {g : JFrame} {rest : List Value} {fm : Value}
theorem pdStrLen : parseMethodDescriptor "()I" = some ⟨[], some .int⟩ := by decide +kernel
theorem Wk.strLen (W : Wk p l e R s m args below meth c Z EL n0 ws own sf T cells slots h) (hx : p.tables.exec = Jvm.exec) (hsw : ∀ d ∈ StrChars.Road.wordsLen, d.before a0 Z = true) (wi : (Cond.instantiable "java/lang/String" 4).before a0 Z = true) (SC : Sta Z Z.heap "java/lang/String" "COMPACT_STRINGS" "Z" (.int zc)) (hz : ¬ zc = 0) (S : Str Z h x cs)
    (w1 : (Cond.methodLink own index ⟨"java/lang/String", "length", "()I"⟩).before a0 Z = true) (w2 : (Cond.declares ⟨"java/lang/String", "length", "()I"⟩).before a0 Z = true) (w5 : (Cond.selects "java/lang/String" ⟨"java/lang/String", "length", "()I"⟩ ⟨"java/lang/String", "length", "()I"⟩).before a0 Z = true) (w6 : (Cond.instanceMethod ⟨"java/lang/String", "length", "()I"⟩).before a0 Z = true)
    (hfr : 2 ≤ R.frames) (hlo : Wd + 25 ≤ R.locals) (hc : cells ≤ R.cells) (hsl : slots ≤ R.slots) (hg : g.method = m) (hsize : g.locals.size = c.maxLocals) (hstack : g.stack = .ref x :: rest) (hW : 2 * g.monitorRoom + (rest.map fun v => v.category).sum ≤ Wd) (hd : decode c.code g.pc = .ok (.invokevirtual index, 3))
    (k : ∀ T', Wk p l e R s m args below meth c Z EL n0 ws own sf T' cells slots h → Go p e below Q (T'.setTop { g with pc := g.pc + 3, stack := (.int (Int32.ofNat cs.length)) :: rest })) : Go p e below Q (T.setTop g) := by
  have hO := W.old
  have hEx := S.exa
  obtain ⟨t, kb, cd, N2, vs, E1, V1, C1, A1, hcd, hbd, hln⟩ := S
  refine W.virtB hx w1 w2 w5 w6 (by decide) hEx (kk := 0) (nn := 0) (ws' := []) (Qp := fun v h' => v = some (.int (Int32.ofNat cs.length)) ∧ h = h') (Q1 := fun v h' L => v = some (.int (Int32.ofNat cs.length)) ∧ L = [] ∧ h' = h) (argsL := []) (rest := rest) (Wd := Wd)
    (fun s' hZ' => StrChars.Road.lenW (W := Wd) hZ' hsw wi E1 V1 C1 A1 hcd hbd (SC.ext hO.2) hz hln hfr hlo) (fun v h' L q => ?_) hc hsl all0 all0 hg hsize (lenOf pdStrLen rfl) hstack hW hd (fun T' h' v W' K' q => ?_)
  · obtain ⟨q1, rfl, rfl⟩ := q
    exact ⟨Fr.nil n0, Keep.refl _ _, q1, rfl⟩
  · obtain ⟨q1, rfl⟩ := q
    subst q1
    exact k T' W'
end OwnStrMore
end Jvm.Pilot.@@N@@
namespace Jvm.Pilot.@@N@@
open Jvm Jvm.ClassFile Sem Op Lib Jvm.Free Jvm.Stand Jvm.LawKit Jvm.RoadKit Bundle Jvm.Pilot.@@N@@.Jvm.D
section OwnStrMore
variable {p : Program} {l : Launch} {e : Env} {R : Room} {s : State} {m : MethodId} {args : Array Value} {below : List Frame} {meth : Method} {c : Code} {T T' : State} {cells slots : Nat} {Z : State} {a0 : Array Value} {h h' : Heap} {EL : List (String × Nat)} {n0 : Nat} {ws sf : List Addr} {own : String} {Q : Outcome → State → Prop} {a b x y : Addr}
variable {zc : Int32} {cs ds : List Int32} {n : Nat} {index : Nat} {Wd : Nat} {g : JFrame} {rest : List Value} {fm : Value}
theorem pdStrEq : parseMethodDescriptor "(Ljava/lang/Object;)Z" = some ⟨[.object "java/lang/Object"], some .boolean⟩ := by decide +kernel
theorem Wk.strEq (W : Wk p l e R s m args below meth c Z EL n0 ws own sf T cells slots h) (hx : p.tables.exec = Jvm.exec) (hsw : ∀ d ∈ StrChars.Road.wordsEq, d.before a0 Z = true) (wi : (Cond.instantiable "java/lang/String" 4).before a0 Z = true) (SC : Sta Z Z.heap "java/lang/String" "COMPACT_STRINGS" "Z" (.int zc)) (hz : ¬ zc = 0) (S : Str Z h x cs) (S' : Str Z h y ds)
    (w1 : (Cond.methodLink own index ⟨"java/lang/String", "equals", "(Ljava/lang/Object;)Z"⟩).before a0 Z = true) (w2 : (Cond.declares ⟨"java/lang/String", "equals", "(Ljava/lang/Object;)Z"⟩).before a0 Z = true) (w5 : (Cond.selects "java/lang/String" ⟨"java/lang/String", "equals", "(Ljava/lang/Object;)Z"⟩ ⟨"java/lang/String", "equals", "(Ljava/lang/Object;)Z"⟩).before a0 Z = true) (w6 : (Cond.instanceMethod ⟨"java/lang/String", "equals", "(Ljava/lang/Object;)Z"⟩).before a0 Z = true)
    (hfr : 2 ≤ R.frames) (hlo : Wd + 28 ≤ R.locals) (hc : cells ≤ R.cells) (hsl : slots ≤ R.slots) (hg : g.method = m) (hsize : g.locals.size = c.maxLocals) (hstack : g.stack = .ref y :: .ref x :: rest) (hW : 2 * g.monitorRoom + (rest.map fun v => v.category).sum ≤ Wd) (hd : decode c.code g.pc = .ok (.invokevirtual index, 3))
    (k : ∀ T' (r : Int32), (r = 1 ∧ cs = ds ∨ r = 0 ∧ ¬ cs = ds) → Wk p l e R s m args below meth c Z EL n0 ws own sf T' cells slots h → Go p e below Q (T'.setTop { g with pc := g.pc + 3, stack := .int r :: rest })) : Go p e below Q (T.setTop g) := by
  have hO := W.old
  have hEx := S.exa
  obtain ⟨t, kb, cd, N2, vs, E1, V1, C1, A1, hcd, hbd, hln⟩ := S
  obtain ⟨t', kb', cd', N2', vs', E1', V1', C1', A1', hcd', hbd', hln'⟩ := S'
  refine W.virtB hx w1 w2 w5 w6 (by decide) hEx (kk := 0) (nn := 0) (ws' := []) (Qp := fun v h' => ((v = some (.int 1) ∧ cs = ds) ∨ (v = some (.int 0) ∧ ¬ cs = ds)) ∧ h = h') (Q1 := fun v h' L => ((v = some (.int 1) ∧ cs = ds) ∨ (v = some (.int 0) ∧ ¬ cs = ds)) ∧ L = [] ∧ h' = h) (argsL := [.ref y]) (rest := rest) (Wd := Wd)
    (fun s' hZ' => StrChars.Road.eqW (W := Wd) hZ' hsw wi E1 V1 C1 A1 hcd hbd hln E1' V1' C1' A1' hcd' hbd' hln' (SC.ext hO.2) hz hfr hlo) (fun v h' L q => ?_) hc hsl all0 all0 hg hsize (lenOf pdStrEq rfl) hstack hW hd (fun T' h' v W' K' q => ?_)
  · obtain ⟨q1, rfl, rfl⟩ := q
    exact ⟨Fr.nil n0, Keep.refl _ _, q1, rfl⟩
  · obtain ⟨q1, rfl⟩ := q
    rcases q1 with ⟨rfl, q1⟩ | ⟨rfl, q1⟩
    · exact k T' 1 (Or.inl ⟨rfl, q1⟩) W'
    · exact k T' 0 (Or.inr ⟨rfl, q1⟩) W'
end OwnStrMore
end Jvm.Pilot.@@N@@
namespace Jvm.Pilot.@@N@@
open Jvm Jvm.ClassFile Sem Op Lib Jvm.Free Jvm.Stand Jvm.LawKit Jvm.RoadKit Bundle Jvm.Pilot.@@N@@.Jvm.D
open Jvm.Free.XT (cmpL)
abbrev EL0 : List (String × Nat) := [("com/example/frontier/frontier/replay/ReplayPath", 74), ("com/example/frontier/frontier/replay/ReplayPath", 76), ("com/example/frontier/frontier/replay/ReplayPath", 78), ("com/example/frontier/frontier/replay/ReplayPath", 80)]
set_option maxRecDepth 65536 in
theorem sa_in : ∀ d ∈ Bundle.stringAtoms, d ∈ tables_1 := by decide +kernel
set_option maxRecDepth 65536 in
theorem ws_in : ∀ d ∈ StrChars.Road.words, d ∈ tables_1 := by decide +kernel
set_option maxRecDepth 65536 in
theorem ln_in : ∀ d ∈ StrChars.Road.wordsLen, d ∈ tables_1 := by decide +kernel
set_option maxRecDepth 65536 in
theorem eq_in : ∀ d ∈ StrChars.Road.wordsEq, d ∈ tables_1 := by decide +kernel
def idxC (c : Int32) : List Int32 → Int32 → Int32
  | [], _ => -1
  | x :: r, i => if x = c then i else idxC c r (i + 1)
theorem lo8_47 {q : Int32} (hq : ¬ q < 0 ∧ ¬ (255 : Int32) < q) (h : StrChars.lo8 q = (47 : Int32)) : q = (47 : Int32) := fin256 (P := fun q => StrChars.lo8 q = (47 : Int32) → q = (47 : Int32)) (by decide +kernel) hq h
theorem lo8_47n {q : Int32} (h : ¬ StrChars.lo8 q = (47 : Int32)) : ¬ q = (47 : Int32) := fun e => h (by rw [e]; decide)
theorem pn0 : plainName "java/lang/AbstractStringBuilder" = true := by first | (simp [plainName, overriddenIn]; done) | decide +kernel
theorem pn1 : plainName "java/lang/StringBuilder" = true := by first | (simp [plainName, overriddenIn]; done) | decide +kernel
theorem pn2 : plainName "java/lang/String" = true := by first | (simp [plainName, overriddenIn]; done) | decide +kernel
theorem pn3 : plainName "java/util/Arrays" = true := by first | (simp [plainName, overriddenIn]; done) | decide +kernel
theorem pn4 : plainName "com/example/frontier/frontier/replay/ReplayPath" = true := by first | (simp [plainName, overriddenIn]; done) | decide +kernel
theorem pn5 : plainName "com/example/frontier/frontier/replay/ReplayPathOfPinLaw" = true := by first | (simp [plainName, overriddenIn]; done) | decide +kernel
theorem pd0 : parseMethodDescriptor "(I)V" = some ⟨[.int], none⟩ := by decide +kernel
theorem pd1 : parseMethodDescriptor "()I" = some ⟨[], (some .int)⟩ := by decide +kernel
theorem pd2 : parseMethodDescriptor "()B" = some ⟨[], (some .byte)⟩ := by decide +kernel
theorem pd3 : parseMethodDescriptor "(Ljava/lang/String;)V" = some ⟨[(.object "java/lang/String")], none⟩ := by decide +kernel
theorem pd4 : parseMethodDescriptor "([BIB)V" = some ⟨[(.array .byte), .int, .byte], none⟩ := by decide +kernel
theorem pd5 : parseMethodDescriptor "(ILjava/lang/String;)V" = some ⟨[.int, (.object "java/lang/String")], none⟩ := by decide +kernel
theorem pd6 : parseMethodDescriptor "(Ljava/lang/String;)Ljava/lang/AbstractStringBuilder;" = some ⟨[(.object "java/lang/String")], (some (.object "java/lang/AbstractStringBuilder"))⟩ := by decide +kernel
theorem pd7 : parseMethodDescriptor "(II)V" = some ⟨[.int, .int], none⟩ := by decide +kernel
theorem pd8 : parseMethodDescriptor "(II)I" = some ⟨[.int, .int], (some .int)⟩ := by decide +kernel
theorem pd9 : parseMethodDescriptor "([BII)[B" = some ⟨[(.array .byte), .int, .int], (some (.array .byte))⟩ := by decide +kernel
theorem pd10 : parseMethodDescriptor "()[B" = some ⟨[], (some (.array .byte))⟩ := by decide +kernel
theorem pd11 : parseMethodDescriptor "()Z" = some ⟨[], (some .boolean)⟩ := by decide +kernel
theorem pd12 : parseMethodDescriptor "(Ljava/lang/AbstractStringBuilder;Ljava/lang/Void;)V" = some ⟨[(.object "java/lang/AbstractStringBuilder"), (.object "java/lang/Void")], none⟩ := by decide +kernel
theorem pd13 : parseMethodDescriptor "(Ljava/lang/StringBuilder;)V" = some ⟨[(.object "java/lang/StringBuilder")], none⟩ := by decide +kernel
theorem pd14 : parseMethodDescriptor "()V" = some ⟨[], none⟩ := by decide +kernel
theorem pd15 : parseMethodDescriptor "(Ljava/lang/String;)Ljava/lang/StringBuilder;" = some ⟨[(.object "java/lang/String")], (some (.object "java/lang/StringBuilder"))⟩ := by decide +kernel
theorem pd16 : parseMethodDescriptor "()Ljava/lang/String;" = some ⟨[], (some (.object "java/lang/String"))⟩ := by decide +kernel
theorem pd17 : parseMethodDescriptor "(Ljava/lang/String;ZLjava/lang/String;)Ljava/lang/String;" = some ⟨[(.object "java/lang/String"), .boolean, (.object "java/lang/String")], (some (.object "java/lang/String"))⟩ := by decide +kernel
theorem d2_0 : decode jdk_68_method_2_code 0 = .ok (.aload_n 0, 1) := by decide +kernel
theorem d2_1 : decode jdk_68_method_2_code 1 = .ok (.invokespecial 3, 3) := by decide +kernel
theorem d2_4 : decode jdk_68_method_2_code 4 = .ok (.getstatic 18, 3) := by decide +kernel
theorem d2_7 : decode jdk_68_method_2_code 7 = .ok (.ifCond .eq 18, 3) := by decide +kernel
theorem d2_10 : decode jdk_68_method_2_code 10 = .ok (.aload_n 0, 1) := by decide +kernel
theorem d2_11 : decode jdk_68_method_2_code 11 = .ok (.iload_n 1, 1) := by decide +kernel
theorem d2_12 : decode jdk_68_method_2_code 12 = .ok (.newarray .byte, 2) := by decide +kernel
theorem d2_14 : decode jdk_68_method_2_code 14 = .ok (.putfield 15, 3) := by decide +kernel
theorem d2_17 : decode jdk_68_method_2_code 17 = .ok (.aload_n 0, 1) := by decide +kernel
theorem d2_18 : decode jdk_68_method_2_code 18 = .ok (.iconst 0, 1) := by decide +kernel
theorem d2_19 : decode jdk_68_method_2_code 19 = .ok (.putfield 22, 3) := by decide +kernel
theorem d2_22 : decode jdk_68_method_2_code 22 = .ok (.goto 16, 3) := by decide +kernel
theorem d2_38 : decode jdk_68_method_2_code 38 = .ok (.return_, 1) := by decide +kernel
theorem ef2 (m : MethodId) (x0 : Addr) (x1 : Int32)  : entryFrame m #[(.ref x0), (.int x1)] 2 = mkF m 0 #[.val (.ref x0), .val (.int x1)] [] := by first | (simp [entryFrame, mkF, argsToLocals, Value.category]; done) | rfl | rfl
set_option maxRecDepth 65536 in
set_option maxHeartbeats 40000000 in
theorem rm2 (l : Launch) (Z : State) (a0 : Array Value) (hw : ∀ d ∈ tables_1, d.before a0 Z = true) (hEL : EW Z a0 EL0) (zc : Int32) (SC : Sta Z Z.heap "java/lang/String" "COMPACT_STRINGS" "Z" (.int zc)) (hzc : ¬ zc = 0) (fm : Value) (SF : Sta Z Z.heap "jdk/internal/util/Preconditions" "SIOOBE_FORMATTER" "Ljava/util/function/BiFunction;" fm) (rfm : fm.isRef = true) (a1 : Addr) (h0 : Heap) {n0 : Nat} (O0 : Old Z n0 h0) (Eb : Exa Z h0 a1 "java/lang/StringBuilder") (Fvp : Fld Z h0 a1 "java/lang/AbstractStringBuilder" "value" "[B" .null) (Fcp : Fld Z h0 a1 "java/lang/AbstractStringBuilder" "coder" "B" (.int (0 : Int32))) (Fnp : Fld Z h0 a1 "java/lang/AbstractStringBuilder" "count" "I" (.int (0 : Int32))) (g1 : n0 ≤ a1) :
    Met l Z EL0 n0 (⟨"java/lang/AbstractStringBuilder", "<init>", "(I)V"⟩ : MethodName) jdk_68_method_2_code 2 none [] ({ frames := 1, cells := 1, slots := 16, locals := 12 } : Room) #[(.ref a1), (.int (16 : Int32))] h0 [a1] [] (fun v h' S => ∃ (t : Addr) (kc : ClassId), v = none ∧ h0.size ≤ t ∧ Fld Z h' a1 "java/lang/AbstractStringBuilder" "value" "[B" (.ref t) ∧ Fld Z h' a1 "java/lang/AbstractStringBuilder" "coder" "B" (.int (0 : Int32)) ∧ Fld Z h' a1 "java/lang/AbstractStringBuilder" "count" "I" (.int (0 : Int32)) ∧ Arv Z h' t kc .byte (16 : Int32) [(.int (0 : Int32)), (.int (0 : Int32)), (.int (0 : Int32)), (.int (0 : Int32)), (.int (0 : Int32)), (.int (0 : Int32)), (.int (0 : Int32)), (.int (0 : Int32)), (.int (0 : Int32)), (.int (0 : Int32)), (.int (0 : Int32)), (.int (0 : Int32)), (.int (0 : Int32)), (.int (0 : Int32)), (.int (0 : Int32)), (.int (0 : Int32))] (.int (0 : Int32)) ∧ S t) := by
  refine Met.of (plainFor_of_name pn0) O0 ?_
  intro p e s m below meth c T0 hx hby hml hret hlk hnm hs W0
  have W0 : Wk p l e _ s m _ below meth c Z EL0 n0 [a1] "java/lang/AbstractStringBuilder" [] T0 0 0 h0 := W0
  have hSA := fun d hd => hw d (sa_in d hd)
  have hws := fun d hd => hw d (ws_in d hd)
  have hln := fun d hd => hw d (ln_in d hd)
  have heq := fun d hd => hw d (eq_in d hd)
  refine Go.of (fun _ kk => castTop (ef2 m a1 (16 : Int32)) kk) ?_
  show Go p e below _ (T0.setTop (mkF m 0 #[.val (.ref a1), .val (.int (16 : Int32))] []))
  refine Go.of (t' := T0.setTop (mkF m 1 #[.val (.ref a1), .val (.int (16 : Int32))] [(.ref a1)])) (fun _ kk => XS.aloadN W0.here hx rfl (hb hby d2_0) rfl rfl kk) ?_
  refine W0.initO hx (hw _ (List.mem_of_getElem? (i := 46) rfl)) (hw _ (List.mem_of_getElem? (i := 12) rfl)) (hw _ (List.mem_of_getElem? (i := 13) rfl)) rfl (by rw [hml]; rfl) rfl (hb hby d2_1) (by decide +kernel) (Wd := 0) (by show 2 * 0 + _ ≤ _; exact Nat.le_of_eq rfl) (by decide +kernel) (fun T1 W1 => ?_)
  show Go p e below _ (T1.setTop (mkF m 4 #[.val (.ref a1), .val (.int (16 : Int32))] []))
  refine W1.getS hx (host := "") (Or.inl (hw _ (List.mem_of_getElem? (i := 47) rfl))) Via.refl SC rfl (hb hby d2_4) (fun T2 W2 => ?_)
  show Go p e below _ (T2.setTop (mkF m 7 #[.val (.ref a1), .val (.int (16 : Int32))] [(.int zc)]))
  refine Go.of (t' := T2.setTop (mkF m 10 #[.val (.ref a1), .val (.int (16 : Int32))] [])) (fun _ kk => XS.ifNo W2.here hx rfl (hb hby d2_7) rfl (XT.i0_eq_f hzc) kk) ?_
  refine Go.of (t' := T2.setTop (mkF m 11 #[.val (.ref a1), .val (.int (16 : Int32))] [(.ref a1)])) (fun _ kk => XS.aloadN W2.here hx rfl (hb hby d2_10) rfl rfl kk) ?_
  refine Go.of (t' := T2.setTop (mkF m 12 #[.val (.ref a1), .val (.int (16 : Int32))] [(.int (16 : Int32)), (.ref a1)])) (fun _ kk => XS.iloadN W2.here hx rfl (hb hby d2_11) rfl kk) ?_
  refine W2.newP hx (hw _ (List.mem_of_getElem? (i := 19) rfl)) rfl (hb hby d2_12) rfl (by decide +kernel) (cap := 16) (by decide +kernel) (by decide +kernel) (by decide +kernel) (by decide +kernel) (fun T3 h3 b3 c3 eb3 gb3 W3 K3 A3 => ?_)
  have V3 : Arv Z h3 b3 c3 .byte (16 : Int32) [(.int (0 : Int32)), (.int (0 : Int32)), (.int (0 : Int32)), (.int (0 : Int32)), (.int (0 : Int32)), (.int (0 : Int32)), (.int (0 : Int32)), (.int (0 : Int32)), (.int (0 : Int32)), (.int (0 : Int32)), (.int (0 : Int32)), (.int (0 : Int32)), (.int (0 : Int32)), (.int (0 : Int32)), (.int (0 : Int32)), (.int (0 : Int32))] (.int (0 : Int32)) := A3
  show Go p e below _ (T3.setTop (mkF m 14 #[.val (.ref a1), .val (.int (16 : Int32))] [(.ref b3), (.ref a1)]))
  have k4 := (Fvp.keep K3 nin0)
  have k5 := (Eb.keep K3)
  refine W3.putF hx (host := "") (Or.inl (hw _ (List.mem_of_getElem? (i := 48) rfl))) Via.refl k4 k5 (Or.inl (hw _ (List.mem_of_getElem? (i := 49) rfl))) (hw _ (List.mem_of_getElem? (i := 35) rfl)) (ty := (.array .byte)) (by decide +kernel) rfl rfl g1 (Or.inl (List.mem_of_getElem? (i := 0) rfl)) (Or.inr ⟨by decide, by decide⟩) rfl rfl (hb hby d2_14) (fun T6 h6 W6 w6 => ?_)
  have k7 := (Fcp.keep K3 nin0)
  have k8 := (Fnp.keep K3 nin0)
  have K6 := Keep.of_wr w6
  have k9 := k7.other w6 (Or.inr (slot_ne (Or.inl (hw _ (List.mem_of_getElem? (i := 51) rfl))) (Or.inl (hw _ (List.mem_of_getElem? (i := 49) rfl))) (by decide +kernel) (t := .byte) (t' := (.array .byte)) (by decide +kernel) (by decide +kernel)))
  have k10 := k8.other w6 (Or.inr (slot_ne (Or.inl (hw _ (List.mem_of_getElem? (i := 76) rfl))) (Or.inl (hw _ (List.mem_of_getElem? (i := 49) rfl))) (by decide +kernel) (t := .int) (t' := (.array .byte)) (by decide +kernel) (by decide +kernel)))
  have k11 := k4.same w6
  show Go p e below _ (T6.setTop (mkF m 17 #[.val (.ref a1), .val (.int (16 : Int32))] []))
  refine Go.of (t' := T6.setTop (mkF m 18 #[.val (.ref a1), .val (.int (16 : Int32))] [(.ref a1)])) (fun _ kk => XS.aloadN W6.here hx rfl (hb hby d2_17) rfl rfl kk) ?_
  refine Go.of (t' := T6.setTop (mkF m 19 #[.val (.ref a1), .val (.int (16 : Int32))] [(.int (0 : Int32)), (.ref a1)])) (fun _ kk => XS.iconst W6.here hx rfl (hb hby d2_18) kk) ?_
  have k12 := (k5.keep K6)
  refine W6.putF hx (host := "") (Or.inl (hw _ (List.mem_of_getElem? (i := 50) rfl))) Via.refl k9 k12 (Or.inl (hw _ (List.mem_of_getElem? (i := 51) rfl))) (hw _ (List.mem_of_getElem? (i := 35) rfl)) (ty := .byte) (by decide +kernel) rfl rfl g1 (Or.inl (List.mem_of_getElem? (i := 0) rfl)) (Or.inr ⟨by decide, by decide⟩) rfl rfl (hb hby d2_19) (fun T13 h13 W13 w13 => ?_)
  have K13 := Keep.of_wr w13
  have k14 := k11.other w13 (Or.inr (slot_ne (Or.inl (hw _ (List.mem_of_getElem? (i := 49) rfl))) (Or.inl (hw _ (List.mem_of_getElem? (i := 51) rfl))) (by decide +kernel) (t := (.array .byte)) (t' := .byte) (by decide +kernel) (by decide +kernel)))
  have k15 := k10.other w13 (Or.inr (slot_ne (Or.inl (hw _ (List.mem_of_getElem? (i := 76) rfl))) (Or.inl (hw _ (List.mem_of_getElem? (i := 51) rfl))) (by decide +kernel) (t := .int) (t' := .byte) (by decide +kernel) (by decide +kernel)))
  have k16 := k9.same w13
  show Go p e below _ (T13.setTop (mkF m 22 #[.val (.ref a1), .val (.int (16 : Int32))] []))
  refine Go.of (t' := T13.setTop (mkF m 38 #[.val (.ref a1), .val (.int (16 : Int32))] [])) (fun _ kk => XS.goto W13.here hx rfl (pc0 := 22) (pc' := 38) rfl (hb hby d2_22) (by decide +kernel) (by decide +kernel) kk) ?_
  have k17 := ((V3.keep K6 (ninS (ne_of_born (Nat.le_of_eq eb3.symm) Eb.lt (Nat.le_refl _)).symm nin0)).keep K13 (ninS (ne_of_born (Nat.le_of_eq eb3.symm) Eb.lt (Nat.le_refl _)).symm nin0))
  exact W13.retV hx hEL hs hlk (by decide +kernel) (by decide +kernel) hret (hb hby d2_38) (fun S hS => ⟨b3, c3, rfl, hs ▸ gb3.2, k14, k16, k15, k17, hS _ (List.mem_of_getElem? (i := 0) rfl)⟩)
theorem d3_0 : decode jdk_67_method_1_code 0 = .ok (.aload_n 0, 1) := by decide +kernel
theorem d3_1 : decode jdk_67_method_1_code 1 = .ok (.bipush 16, 2) := by decide +kernel
theorem d3_3 : decode jdk_67_method_1_code 3 = .ok (.invokespecial 1, 3) := by decide +kernel
theorem d3_6 : decode jdk_67_method_1_code 6 = .ok (.return_, 1) := by decide +kernel
theorem ef3 (m : MethodId) (x0 : Addr)  : entryFrame m #[(.ref x0)] 1 = mkF m 0 #[.val (.ref x0)] [] := by first | (simp [entryFrame, mkF, argsToLocals, Value.category]; done) | rfl | rfl
set_option maxRecDepth 65536 in
set_option maxHeartbeats 40000000 in
theorem rm3 (l : Launch) (Z : State) (a0 : Array Value) (hw : ∀ d ∈ tables_1, d.before a0 Z = true) (hEL : EW Z a0 EL0) (zc : Int32) (SC : Sta Z Z.heap "java/lang/String" "COMPACT_STRINGS" "Z" (.int zc)) (hzc : ¬ zc = 0) (fm : Value) (SF : Sta Z Z.heap "jdk/internal/util/Preconditions" "SIOOBE_FORMATTER" "Ljava/util/function/BiFunction;" fm) (rfm : fm.isRef = true) (a1 : Addr) (h0 : Heap) {n0 : Nat} (O0 : Old Z n0 h0) (Eb : Exa Z h0 a1 "java/lang/StringBuilder") (Fvp : Fld Z h0 a1 "java/lang/AbstractStringBuilder" "value" "[B" .null) (Fcp : Fld Z h0 a1 "java/lang/AbstractStringBuilder" "coder" "B" (.int (0 : Int32))) (Fnp : Fld Z h0 a1 "java/lang/AbstractStringBuilder" "count" "I" (.int (0 : Int32))) (g1 : n0 ≤ a1) :
    Met l Z EL0 n0 (⟨"java/lang/StringBuilder", "<init>", "()V"⟩ : MethodName) jdk_67_method_1_code 1 none [] ({ frames := 2, cells := 1, slots := 16, locals := 25 } : Room) #[(.ref a1)] h0 [a1] [] (fun v h' S => ∃ (t : Addr) (kc : ClassId), v = none ∧ h0.size ≤ t ∧ Fld Z h' a1 "java/lang/AbstractStringBuilder" "value" "[B" (.ref t) ∧ Fld Z h' a1 "java/lang/AbstractStringBuilder" "coder" "B" (.int (0 : Int32)) ∧ Fld Z h' a1 "java/lang/AbstractStringBuilder" "count" "I" (.int (0 : Int32)) ∧ Arv Z h' t kc .byte (16 : Int32) [(.int (0 : Int32)), (.int (0 : Int32)), (.int (0 : Int32)), (.int (0 : Int32)), (.int (0 : Int32)), (.int (0 : Int32)), (.int (0 : Int32)), (.int (0 : Int32)), (.int (0 : Int32)), (.int (0 : Int32)), (.int (0 : Int32)), (.int (0 : Int32)), (.int (0 : Int32)), (.int (0 : Int32)), (.int (0 : Int32)), (.int (0 : Int32))] (.int (0 : Int32)) ∧ S t) := by
  refine Met.of (plainFor_of_name pn1) O0 ?_
  intro p e s m below meth c T0 hx hby hml hret hlk hnm hs W0
  have W0 : Wk p l e _ s m _ below meth c Z EL0 n0 [a1] "java/lang/StringBuilder" [] T0 0 0 h0 := W0
  have hSA := fun d hd => hw d (sa_in d hd)
  have hws := fun d hd => hw d (ws_in d hd)
  have hln := fun d hd => hw d (ln_in d hd)
  have heq := fun d hd => hw d (eq_in d hd)
  refine Go.of (fun _ kk => castTop (ef3 m a1) kk) ?_
  show Go p e below _ (T0.setTop (mkF m 0 #[.val (.ref a1)] []))
  refine Go.of (t' := T0.setTop (mkF m 1 #[.val (.ref a1)] [(.ref a1)])) (fun _ kk => XS.aloadN W0.here hx rfl (hb hby d3_0) rfl rfl kk) ?_
  refine Go.of (t' := T0.setTop (mkF m 3 #[.val (.ref a1)] [(.int (16 : Int32)), (.ref a1)])) (fun _ kk => XS.bipush W0.here hx rfl (hb hby d3_1) kk) ?_
  refine W0.callP hx hEL rfl (hw _ (List.mem_of_getElem? (i := 40) rfl)) (hw _ (List.mem_of_getElem? (i := 41) rfl)) (hw _ (List.mem_of_getElem? (i := 44) rfl)) (hw _ (List.mem_of_getElem? (i := 45) rfl)) (by decide +kernel) (a := a1) (argsL := [(.int (16 : Int32))]) (rest := []) (rm2 l Z a0 hw hEL zc SC hzc fm SF rfm a1 h0 W0.old Eb Fvp Fcp Fnp g1) all0 (by decide +kernel) (Wd := 0) (by decide +kernel) (by decide +kernel) (by decide +kernel) (allS ⟨g1, (Or.inl (List.mem_of_getElem? (i := 0) rfl))⟩ all0) rfl (by rw [hml]; rfl) (lenOf pd0 rfl) rfl (by show 2 * 0 + _ ≤ _; exact Nat.le_of_eq rfl) (hb hby d3_3) (fun T1 h1 v1 P1 Ws1 K1 q1 => ?_)
  obtain ⟨t1, kt1, rfl, lt1, Fv1, Fc1, Fn1, A1, st1⟩ := q1
  have W1 := Ws1 [t1] (allS st1 all0)
  have gt1 : n0 ≤ t1 ∧ s.heap.size ≤ t1 := ⟨Nat.le_trans W0.n0le lt1, Nat.le_trans W0.s0le lt1⟩
  show Go p e below _ (T1.setTop (mkF m 6 #[.val (.ref a1)] []))
  exact W1.retV hx hEL hs hlk (by decide +kernel) (by decide +kernel) hret (hb hby d3_6) (fun S hS => ⟨t1, kt1, rfl, hs ▸ gt1.2, Fv1, Fc1, Fn1, A1, hS _ (List.mem_of_getElem? (i := 0) rfl)⟩)
theorem d4_0 : decode jdk_42_method_152_code 0 = .ok (.getstatic 38, 3) := by decide +kernel
theorem d4_3 : decode jdk_42_method_152_code 3 = .ok (.ifCond .eq 10, 3) := by decide +kernel
theorem d4_6 : decode jdk_42_method_152_code 6 = .ok (.aload_n 0, 1) := by decide +kernel
theorem d4_7 : decode jdk_42_method_152_code 7 = .ok (.getfield 15, 3) := by decide +kernel
theorem d4_10 : decode jdk_42_method_152_code 10 = .ok (.goto 4, 3) := by decide +kernel
theorem d4_14 : decode jdk_42_method_152_code 14 = .ok (.ireturn, 1) := by decide +kernel
theorem ef4 (m : MethodId) (x0 : Addr)  : entryFrame m #[(.ref x0)] 1 = mkF m 0 #[.val (.ref x0)] [] := by first | (simp [entryFrame, mkF, argsToLocals, Value.category]; done) | rfl | rfl
set_option maxRecDepth 65536 in
set_option maxHeartbeats 40000000 in
theorem rm4 (l : Launch) (Z : State) (a0 : Array Value) (hw : ∀ d ∈ tables_1, d.before a0 Z = true) (hEL : EW Z a0 EL0) (zc : Int32) (SC : Sta Z Z.heap "java/lang/String" "COMPACT_STRINGS" "Z" (.int zc)) (hzc : ¬ zc = 0) (fm : Value) (SF : Sta Z Z.heap "jdk/internal/util/Preconditions" "SIOOBE_FORMATTER" "Ljava/util/function/BiFunction;" fm) (rfm : fm.isRef = true) (x1 : Addr) (h0 : Heap) {n0 : Nat} (O0 : Old Z n0 h0) (Fxc : Fld Z h0 x1 "java/lang/String" "coder" "B" (.int (0 : Int32))) :
    Met l Z EL0 n0 (⟨"java/lang/String", "coder", "()B"⟩ : MethodName) jdk_42_method_152_code 1 (some .byte) [] ({ frames := 0, cells := 0, slots := 0, locals := 0 } : Room) #[(.ref x1)] h0 [] [] (fun v h' S => v = some (.int 0) ∧ h0 = h') := by
  refine Met.of (plainFor_of_name pn2) O0 ?_
  intro p e s m below meth c T0 hx hby hml hret hlk hnm hs W0
  have W0 : Wk p l e _ s m _ below meth c Z EL0 n0 [] "java/lang/String" [] T0 0 0 h0 := W0
  have hSA := fun d hd => hw d (sa_in d hd)
  have hws := fun d hd => hw d (ws_in d hd)
  have hln := fun d hd => hw d (ln_in d hd)
  have heq := fun d hd => hw d (eq_in d hd)
  refine Go.of (fun _ kk => castTop (ef4 m x1) kk) ?_
  show Go p e below _ (T0.setTop (mkF m 0 #[.val (.ref x1)] []))
  refine W0.getS hx (host := "") (Or.inl (hw _ (List.mem_of_getElem? (i := 14) rfl))) Via.refl SC rfl (hb hby d4_0) (fun T1 W1 => ?_)
  show Go p e below _ (T1.setTop (mkF m 3 #[.val (.ref x1)] [(.int zc)]))
  refine Go.of (t' := T1.setTop (mkF m 6 #[.val (.ref x1)] [])) (fun _ kk => XS.ifNo W1.here hx rfl (hb hby d4_3) rfl (XT.i0_eq_f hzc) kk) ?_
  refine Go.of (t' := T1.setTop (mkF m 7 #[.val (.ref x1)] [(.ref x1)])) (fun _ kk => XS.aloadN W1.here hx rfl (hb hby d4_6) rfl rfl kk) ?_
  refine W1.getF hx (host := "") (Or.inl (hw _ (List.mem_of_getElem? (i := 26) rfl))) Via.refl Fxc rfl rfl (hb hby d4_7) (fun T2 W2 => ?_)
  show Go p e below _ (T2.setTop (mkF m 10 #[.val (.ref x1)] [(.int (0 : Int32))]))
  refine Go.of (t' := T2.setTop (mkF m 14 #[.val (.ref x1)] [(.int (0 : Int32))])) (fun _ kk => XS.goto W2.here hx rfl (pc0 := 10) (pc' := 14) rfl (hb hby d4_10) (by decide +kernel) (by decide +kernel) kk) ?_
  exact W2.retI hx hEL hs hlk (by decide +kernel) (by decide +kernel) hret (by simp) rfl (hb hby d4_14) (fun S hS => ⟨rfl, rfl⟩)
theorem d5_0 : decode jdk_29_method_69_code 0 = .ok (.iload_n 0, 1) := by decide +kernel
theorem d5_1 : decode jdk_29_method_69_code 1 = .ok (.iload_n 1, 1) := by decide +kernel
theorem d5_2 : decode jdk_29_method_69_code 2 = .ok (.if_icmp .gt 7, 3) := by decide +kernel
theorem d5_9 : decode jdk_29_method_69_code 9 = .ok (.iload_n 1, 1) := by decide +kernel
theorem d5_10 : decode jdk_29_method_69_code 10 = .ok (.ireturn, 1) := by decide +kernel
theorem ef5 (m : MethodId) (x0 : Int32) (x1 : Int32)  : entryFrame m #[(.int x0), (.int x1)] 2 = mkF m 0 #[.val (.int x0), .val (.int x1)] [] := by first | (simp [entryFrame, mkF, argsToLocals, Value.category]; done) | rfl | rfl
set_option maxRecDepth 65536 in
set_option maxHeartbeats 40000000 in
theorem rm5 (l : Launch) (Z : State) (a0 : Array Value) (hw : ∀ d ∈ tables_1, d.before a0 Z = true) (hEL : EW Z a0 EL0) (zc : Int32) (SC : Sta Z Z.heap "java/lang/String" "COMPACT_STRINGS" "Z" (.int zc)) (hzc : ¬ zc = 0) (fm : Value) (SF : Sta Z Z.heap "jdk/internal/util/Preconditions" "SIOOBE_FORMATTER" "Ljava/util/function/BiFunction;" fm) (rfm : fm.isRef = true) (x1 : Int32) (x2 : Int32) (h0 : Heap) {n0 : Nat} (O0 : Old Z n0 h0) (hlt : x2 < x1) :
    Met l Z EL0 n0 (⟨"java/lang/Math", "min", "(II)I"⟩ : MethodName) jdk_29_method_69_code 2 (some .int) [] ({ frames := 0, cells := 0, slots := 0, locals := 0 } : Room) #[(.int x1), (.int x2)] h0 [] [] (fun v h' S => v = some (.int x2) ∧ h0 = h') := by
  refine Met.of (Jvm.Free.JP.mathPlain rfl (by decide +kernel)) O0 ?_
  intro p e s m below meth c T0 hx hby hml hret hlk hnm hs W0
  have W0 : Wk p l e _ s m _ below meth c Z EL0 n0 [] "java/lang/Math" [] T0 0 0 h0 := W0
  have hSA := fun d hd => hw d (sa_in d hd)
  have hws := fun d hd => hw d (ws_in d hd)
  have hln := fun d hd => hw d (ln_in d hd)
  have heq := fun d hd => hw d (eq_in d hd)
  refine Go.of (fun _ kk => castTop (ef5 m x1 x2) kk) ?_
  show Go p e below _ (T0.setTop (mkF m 0 #[.val (.int x1), .val (.int x2)] []))
  refine Go.of (t' := T0.setTop (mkF m 1 #[.val (.int x1), .val (.int x2)] [(.int x1)])) (fun _ kk => XS.iloadN W0.here hx rfl (hb hby d5_0) rfl kk) ?_
  refine Go.of (t' := T0.setTop (mkF m 2 #[.val (.int x1), .val (.int x2)] [(.int x2), (.int x1)])) (fun _ kk => XS.iloadN W0.here hx rfl (hb hby d5_1) rfl kk) ?_
  refine Go.of (t' := T0.setTop (mkF m 9 #[.val (.int x1), .val (.int x2)] [])) (fun _ kk => XS.icmpYes W0.here hx rfl (pc0 := 2) (pc' := 9) rfl (hb hby d5_2) rfl (XT.ii_gt_t hlt) (by decide +kernel) (by decide +kernel) kk) ?_
  refine Go.of (t' := T0.setTop (mkF m 10 #[.val (.int x1), .val (.int x2)] [(.int x2)])) (fun _ kk => XS.iloadN W0.here hx rfl (hb hby d5_9) rfl kk) ?_
  exact W0.retI hx hEL hs hlk (by decide +kernel) (by decide +kernel) hret (by simp) rfl (hb hby d5_10) (fun S hS => ⟨rfl, rfl⟩)
theorem d6_0 : decode jdk_65_method_131_code 0 = .ok (.iload_n 1, 1) := by decide +kernel
theorem d6_1 : decode jdk_65_method_131_code 1 = .ok (.iload_n 0, 1) := by decide +kernel
theorem d6_2 : decode jdk_65_method_131_code 2 = .ok (.if_icmp .ge 35, 3) := by decide +kernel
theorem d6_37 : decode jdk_65_method_131_code 37 = .ok (.return_, 1) := by decide +kernel
theorem ef6 (m : MethodId) (x0 : Int32) (x1 : Int32)  : entryFrame m #[(.int x0), (.int x1)] 2 = mkF m 0 #[.val (.int x0), .val (.int x1)] [] := by first | (simp [entryFrame, mkF, argsToLocals, Value.category]; done) | rfl | rfl
set_option maxRecDepth 65536 in
set_option maxHeartbeats 40000000 in
theorem rm6 (l : Launch) (Z : State) (a0 : Array Value) (hw : ∀ d ∈ tables_1, d.before a0 Z = true) (hEL : EW Z a0 EL0) (zc : Int32) (SC : Sta Z Z.heap "java/lang/String" "COMPACT_STRINGS" "Z" (.int zc)) (hzc : ¬ zc = 0) (fm : Value) (SF : Sta Z Z.heap "jdk/internal/util/Preconditions" "SIOOBE_FORMATTER" "Ljava/util/function/BiFunction;" fm) (rfm : fm.isRef = true) (x1 : Int32) (x2 : Int32) (h0 : Heap) {n0 : Nat} (O0 : Old Z n0 h0) (hge : ¬ x2 < x1) :
    Met l Z EL0 n0 (⟨"java/util/Arrays", "checkLength", "(II)V"⟩ : MethodName) jdk_65_method_131_code 2 none [] ({ frames := 0, cells := 0, slots := 0, locals := 0 } : Room) #[(.int x1), (.int x2)] h0 [] [] (fun v h' S => v = none ∧ h0 = h') := by
  refine Met.of (plainFor_of_name pn3) O0 ?_
  intro p e s m below meth c T0 hx hby hml hret hlk hnm hs W0
  have W0 : Wk p l e _ s m _ below meth c Z EL0 n0 [] "java/util/Arrays" [] T0 0 0 h0 := W0
  have hSA := fun d hd => hw d (sa_in d hd)
  have hws := fun d hd => hw d (ws_in d hd)
  have hln := fun d hd => hw d (ln_in d hd)
  have heq := fun d hd => hw d (eq_in d hd)
  refine Go.of (fun _ kk => castTop (ef6 m x1 x2) kk) ?_
  show Go p e below _ (T0.setTop (mkF m 0 #[.val (.int x1), .val (.int x2)] []))
  refine Go.of (t' := T0.setTop (mkF m 1 #[.val (.int x1), .val (.int x2)] [(.int x2)])) (fun _ kk => XS.iloadN W0.here hx rfl (hb hby d6_0) rfl kk) ?_
  refine Go.of (t' := T0.setTop (mkF m 2 #[.val (.int x1), .val (.int x2)] [(.int x1), (.int x2)])) (fun _ kk => XS.iloadN W0.here hx rfl (hb hby d6_1) rfl kk) ?_
  refine Go.of (t' := T0.setTop (mkF m 37 #[.val (.int x1), .val (.int x2)] [])) (fun _ kk => XS.icmpYes W0.here hx rfl (pc0 := 2) (pc' := 37) rfl (hb hby d6_2) rfl (XT.ii_ge_t hge) (by decide +kernel) (by decide +kernel) kk) ?_
  exact W0.retV hx hEL hs hlk (by decide +kernel) (by decide +kernel) hret (hb hby d6_37) (fun S hS => ⟨rfl, rfl⟩)
theorem d7_0 : decode jdk_68_method_64_code 0 = .ok (.aload_n 0, 1) := by decide +kernel
theorem d7_1 : decode jdk_68_method_64_code 1 = .ok (.getfield 15, 3) := by decide +kernel
theorem d7_4 : decode jdk_68_method_64_code 4 = .ok (.areturn, 1) := by decide +kernel
theorem ef7 (m : MethodId) (x0 : Addr)  : entryFrame m #[(.ref x0)] 1 = mkF m 0 #[.val (.ref x0)] [] := by first | (simp [entryFrame, mkF, argsToLocals, Value.category]; done) | rfl | rfl
set_option maxRecDepth 65536 in
set_option maxHeartbeats 40000000 in
theorem rm7 (l : Launch) (Z : State) (a0 : Array Value) (hw : ∀ d ∈ tables_1, d.before a0 Z = true) (hEL : EW Z a0 EL0) (zc : Int32) (SC : Sta Z Z.heap "java/lang/String" "COMPACT_STRINGS" "Z" (.int zc)) (hzc : ¬ zc = 0) (fm : Value) (SF : Sta Z Z.heap "jdk/internal/util/Preconditions" "SIOOBE_FORMATTER" "Ljava/util/function/BiFunction;" fm) (rfm : fm.isRef = true) (a1 : Addr) (t : Addr) (h0 : Heap) {n0 : Nat} (O0 : Old Z n0 h0) (Fvp : Fld Z h0 a1 "java/lang/AbstractStringBuilder" "value" "[B" (.ref t)) :
    Met l Z EL0 n0 (⟨"java/lang/AbstractStringBuilder", "getValue", "()[B"⟩ : MethodName) jdk_68_method_64_code 1 (some (.array .byte)) [] ({ frames := 0, cells := 0, slots := 0, locals := 0 } : Room) #[(.ref a1)] h0 [] [] (fun v h' S => v = some (.ref t) ∧ h0 = h') := by
  refine Met.of (plainFor_of_name pn0) O0 ?_
  intro p e s m below meth c T0 hx hby hml hret hlk hnm hs W0
  have W0 : Wk p l e _ s m _ below meth c Z EL0 n0 [] "java/lang/AbstractStringBuilder" [] T0 0 0 h0 := W0
  have hSA := fun d hd => hw d (sa_in d hd)
  have hws := fun d hd => hw d (ws_in d hd)
  have hln := fun d hd => hw d (ln_in d hd)
  have heq := fun d hd => hw d (eq_in d hd)
  refine Go.of (fun _ kk => castTop (ef7 m a1) kk) ?_
  show Go p e below _ (T0.setTop (mkF m 0 #[.val (.ref a1)] []))
  refine Go.of (t' := T0.setTop (mkF m 1 #[.val (.ref a1)] [(.ref a1)])) (fun _ kk => XS.aloadN W0.here hx rfl (hb hby d7_0) rfl rfl kk) ?_
  refine W0.getF hx (host := "") (Or.inl (hw _ (List.mem_of_getElem? (i := 48) rfl))) Via.refl Fvp rfl rfl (hb hby d7_1) (fun T1 W1 => ?_)
  show Go p e below _ (T1.setTop (mkF m 4 #[.val (.ref a1)] [(.ref t)]))
  exact W1.retA hx hEL hs hlk (by decide +kernel) (by decide +kernel) hret rfl rfl (hb hby d7_4) (fun S hS => ⟨rfl, rfl⟩)
theorem d8_0 : decode jdk_68_method_68_code 0 = .ok (.getstatic 18, 3) := by decide +kernel
theorem d8_3 : decode jdk_68_method_68_code 3 = .ok (.ifCond .eq 14, 3) := by decide +kernel
theorem d8_6 : decode jdk_68_method_68_code 6 = .ok (.aload_n 0, 1) := by decide +kernel
theorem d8_7 : decode jdk_68_method_68_code 7 = .ok (.getfield 22, 3) := by decide +kernel
theorem d8_10 : decode jdk_68_method_68_code 10 = .ok (.ifCond .ne 7, 3) := by decide +kernel
theorem d8_13 : decode jdk_68_method_68_code 13 = .ok (.iconst 1, 1) := by decide +kernel
theorem d8_14 : decode jdk_68_method_68_code 14 = .ok (.goto 4, 3) := by decide +kernel
theorem d8_18 : decode jdk_68_method_68_code 18 = .ok (.ireturn, 1) := by decide +kernel
theorem ef8 (m : MethodId) (x0 : Addr)  : entryFrame m #[(.ref x0)] 1 = mkF m 0 #[.val (.ref x0)] [] := by first | (simp [entryFrame, mkF, argsToLocals, Value.category]; done) | rfl | rfl
set_option maxRecDepth 65536 in
set_option maxHeartbeats 40000000 in
theorem rm8 (l : Launch) (Z : State) (a0 : Array Value) (hw : ∀ d ∈ tables_1, d.before a0 Z = true) (hEL : EW Z a0 EL0) (zc : Int32) (SC : Sta Z Z.heap "java/lang/String" "COMPACT_STRINGS" "Z" (.int zc)) (hzc : ¬ zc = 0) (fm : Value) (SF : Sta Z Z.heap "jdk/internal/util/Preconditions" "SIOOBE_FORMATTER" "Ljava/util/function/BiFunction;" fm) (rfm : fm.isRef = true) (a1 : Addr) (h0 : Heap) {n0 : Nat} (O0 : Old Z n0 h0) (Fcp : Fld Z h0 a1 "java/lang/AbstractStringBuilder" "coder" "B" (.int (0 : Int32))) :
    Met l Z EL0 n0 (⟨"java/lang/AbstractStringBuilder", "isLatin1", "()Z"⟩ : MethodName) jdk_68_method_68_code 1 (some .boolean) [] ({ frames := 0, cells := 0, slots := 0, locals := 0 } : Room) #[(.ref a1)] h0 [] [] (fun v h' S => v = some (.int 1) ∧ h0 = h') := by
  refine Met.of (plainFor_of_name pn0) O0 ?_
  intro p e s m below meth c T0 hx hby hml hret hlk hnm hs W0
  have W0 : Wk p l e _ s m _ below meth c Z EL0 n0 [] "java/lang/AbstractStringBuilder" [] T0 0 0 h0 := W0
  have hSA := fun d hd => hw d (sa_in d hd)
  have hws := fun d hd => hw d (ws_in d hd)
  have hln := fun d hd => hw d (ln_in d hd)
  have heq := fun d hd => hw d (eq_in d hd)
  refine Go.of (fun _ kk => castTop (ef8 m a1) kk) ?_
  show Go p e below _ (T0.setTop (mkF m 0 #[.val (.ref a1)] []))
  refine W0.getS hx (host := "") (Or.inl (hw _ (List.mem_of_getElem? (i := 47) rfl))) Via.refl SC rfl (hb hby d8_0) (fun T1 W1 => ?_)
  show Go p e below _ (T1.setTop (mkF m 3 #[.val (.ref a1)] [(.int zc)]))
  refine Go.of (t' := T1.setTop (mkF m 6 #[.val (.ref a1)] [])) (fun _ kk => XS.ifNo W1.here hx rfl (hb hby d8_3) rfl (XT.i0_eq_f hzc) kk) ?_
  refine Go.of (t' := T1.setTop (mkF m 7 #[.val (.ref a1)] [(.ref a1)])) (fun _ kk => XS.aloadN W1.here hx rfl (hb hby d8_6) rfl rfl kk) ?_
  refine W1.getF hx (host := "") (Or.inl (hw _ (List.mem_of_getElem? (i := 50) rfl))) Via.refl Fcp rfl rfl (hb hby d8_7) (fun T2 W2 => ?_)
  show Go p e below _ (T2.setTop (mkF m 10 #[.val (.ref a1)] [(.int (0 : Int32))]))
  refine Go.of (t' := T2.setTop (mkF m 13 #[.val (.ref a1)] [])) (fun _ kk => XS.ifNo W2.here hx rfl (hb hby d8_10) rfl (XT.i0_ne_f (by decide +kernel)) kk) ?_
  refine Go.of (t' := T2.setTop (mkF m 14 #[.val (.ref a1)] [(.int (1 : Int32))])) (fun _ kk => XS.iconst W2.here hx rfl (hb hby d8_13) kk) ?_
  refine Go.of (t' := T2.setTop (mkF m 18 #[.val (.ref a1)] [(.int (1 : Int32))])) (fun _ kk => XS.goto W2.here hx rfl (pc0 := 14) (pc' := 18) rfl (hb hby d8_14) (by decide +kernel) (by decide +kernel) kk) ?_
  exact W2.retI hx hEL hs hlk (by decide +kernel) (by decide +kernel) hret (by simp) rfl (hb hby d8_18) (fun S hS => ⟨rfl, rfl⟩)
theorem d9_0 : decode jdk_68_method_6_code 0 = .ok (.aload_n 0, 1) := by decide +kernel
theorem d9_1 : decode jdk_68_method_6_code 1 = .ok (.getfield 79, 3) := by decide +kernel
theorem d9_4 : decode jdk_68_method_6_code 4 = .ok (.ireturn, 1) := by decide +kernel
theorem ef9 (m : MethodId) (x0 : Addr)  : entryFrame m #[(.ref x0)] 1 = mkF m 0 #[.val (.ref x0)] [] := by first | (simp [entryFrame, mkF, argsToLocals, Value.category]; done) | rfl | rfl
set_option maxRecDepth 65536 in
set_option maxHeartbeats 40000000 in
theorem rm9 (l : Launch) (Z : State) (a0 : Array Value) (hw : ∀ d ∈ tables_1, d.before a0 Z = true) (hEL : EW Z a0 EL0) (zc : Int32) (SC : Sta Z Z.heap "java/lang/String" "COMPACT_STRINGS" "Z" (.int zc)) (hzc : ¬ zc = 0) (fm : Value) (SF : Sta Z Z.heap "jdk/internal/util/Preconditions" "SIOOBE_FORMATTER" "Ljava/util/function/BiFunction;" fm) (rfm : fm.isRef = true) (a1 : Addr) (x9 : Int32) (h0 : Heap) {n0 : Nat} (O0 : Old Z n0 h0) (Eb : Exa Z h0 a1 "java/lang/StringBuilder") (Fnp : Fld Z h0 a1 "java/lang/AbstractStringBuilder" "count" "I" (.int x9)) :
    Met l Z EL0 n0 (⟨"java/lang/AbstractStringBuilder", "length", "()I"⟩ : MethodName) jdk_68_method_6_code 1 (some .int) [] ({ frames := 0, cells := 0, slots := 0, locals := 0 } : Room) #[(.ref a1)] h0 [] [] (fun v h' S => v = some (.int x9) ∧ h0 = h') := by
  refine Met.of (plainFor_of_name pn0) O0 ?_
  intro p e s m below meth c T0 hx hby hml hret hlk hnm hs W0
  have W0 : Wk p l e _ s m _ below meth c Z EL0 n0 [] "java/lang/AbstractStringBuilder" [] T0 0 0 h0 := W0
  have hSA := fun d hd => hw d (sa_in d hd)
  have hws := fun d hd => hw d (ws_in d hd)
  have hln := fun d hd => hw d (ln_in d hd)
  have heq := fun d hd => hw d (eq_in d hd)
  refine Go.of (fun _ kk => castTop (ef9 m a1) kk) ?_
  show Go p e below _ (T0.setTop (mkF m 0 #[.val (.ref a1)] []))
  refine Go.of (t' := T0.setTop (mkF m 1 #[.val (.ref a1)] [(.ref a1)])) (fun _ kk => XS.aloadN W0.here hx rfl (hb hby d9_0) rfl rfl kk) ?_
  refine W0.getF hx (host := "") (Or.inl (hw _ (List.mem_of_getElem? (i := 75) rfl))) Via.refl Fnp rfl rfl (hb hby d9_1) (fun T1 W1 => ?_)
  show Go p e below _ (T1.setTop (mkF m 4 #[.val (.ref a1)] [(.int x9)]))
  exact W1.retI hx hEL hs hlk (by decide +kernel) (by decide +kernel) hret (by simp) rfl (hb hby d9_4) (fun S hS => ⟨rfl, rfl⟩)
theorem d10_0 : decode jdk_67_method_93_code 0 = .ok (.aload_n 0, 1) := by decide +kernel
theorem d10_1 : decode jdk_67_method_93_code 1 = .ok (.invokespecial 343, 3) := by decide +kernel
theorem d10_4 : decode jdk_67_method_93_code 4 = .ok (.ireturn, 1) := by decide +kernel
theorem ef10 (m : MethodId) (x0 : Addr)  : entryFrame m #[(.ref x0)] 1 = mkF m 0 #[.val (.ref x0)] [] := by first | (simp [entryFrame, mkF, argsToLocals, Value.category]; done) | rfl | rfl
set_option maxRecDepth 65536 in
set_option maxHeartbeats 40000000 in
theorem rm10 (l : Launch) (Z : State) (a0 : Array Value) (hw : ∀ d ∈ tables_1, d.before a0 Z = true) (hEL : EW Z a0 EL0) (zc : Int32) (SC : Sta Z Z.heap "java/lang/String" "COMPACT_STRINGS" "Z" (.int zc)) (hzc : ¬ zc = 0) (fm : Value) (SF : Sta Z Z.heap "jdk/internal/util/Preconditions" "SIOOBE_FORMATTER" "Ljava/util/function/BiFunction;" fm) (rfm : fm.isRef = true) (a1 : Addr) (x9 : Int32) (h0 : Heap) {n0 : Nat} (O0 : Old Z n0 h0) (Eb : Exa Z h0 a1 "java/lang/StringBuilder") (Fnp : Fld Z h0 a1 "java/lang/AbstractStringBuilder" "count" "I" (.int x9)) :
    Met l Z EL0 n0 (⟨"java/lang/StringBuilder", "length", "()I"⟩ : MethodName) jdk_67_method_93_code 1 (some .int) [] ({ frames := 1, cells := 0, slots := 0, locals := 12 } : Room) #[(.ref a1)] h0 [] [] (fun v h' S => v = some (.int x9) ∧ h0 = h') := by
  refine Met.of (plainFor_of_name pn1) O0 ?_
  intro p e s m below meth c T0 hx hby hml hret hlk hnm hs W0
  have W0 : Wk p l e _ s m _ below meth c Z EL0 n0 [] "java/lang/StringBuilder" [] T0 0 0 h0 := W0
  have hSA := fun d hd => hw d (sa_in d hd)
  have hws := fun d hd => hw d (ws_in d hd)
  have hln := fun d hd => hw d (ln_in d hd)
  have heq := fun d hd => hw d (eq_in d hd)
  refine Go.of (fun _ kk => castTop (ef10 m a1) kk) ?_
  show Go p e below _ (T0.setTop (mkF m 0 #[.val (.ref a1)] []))
  refine Go.of (t' := T0.setTop (mkF m 1 #[.val (.ref a1)] [(.ref a1)])) (fun _ kk => XS.aloadN W0.here hx rfl (hb hby d10_0) rfl rfl kk) ?_
  refine W0.callU hx hEL (hw _ (List.mem_of_getElem? (i := 127) rfl)) (hw _ (List.mem_of_getElem? (i := 62) rfl)) (hw _ (List.mem_of_getElem? (i := 80) rfl)) rfl (by decide +kernel) (hw _ (List.mem_of_getElem? (i := 123) rfl)) (hw _ (List.mem_of_getElem? (i := 44) rfl)) (hw _ (List.mem_of_getElem? (i := 128) rfl)) (by decide +kernel) Eb (a := a1) (argsL := []) (rest := []) (rm9 l Z a0 hw hEL zc SC hzc fm SF rfm a1 x9 h0 W0.old Eb Fnp) all0 (by decide +kernel) (Wd := 0) (by decide +kernel) (by decide +kernel) (by decide +kernel) all0 rfl (by rw [hml]; rfl) (lenOf pd1 rfl) rfl (by show 2 * 0 + _ ≤ _; exact Nat.le_of_eq rfl) (hb hby d10_1) (fun T1 h1 v1 P1 Ws1 K1 q1 => ?_)
  have W1 := Ws1 [] all0
  obtain ⟨rfl, rfl⟩ := q1
  show Go p e below _ (T1.setTop (mkF m 4 #[.val (.ref a1)] [(.int x9)]))
  exact W1.retI hx hEL hs hlk (by decide +kernel) (by decide +kernel) hret (by simp) rfl (hb hby d10_4) (fun S hS => ⟨rfl, rfl⟩)
theorem d20_0 : decode jdk_68_method_9_code 0 = .ok (.aload_n 0, 1) := by decide +kernel
theorem d20_1 : decode jdk_68_method_9_code 1 = .ok (.getfield 15, 3) := by decide +kernel
theorem d20_4 : decode jdk_68_method_9_code 4 = .ok (.arraylength, 1) := by decide +kernel
theorem d20_5 : decode jdk_68_method_9_code 5 = .ok (.aload_n 0, 1) := by decide +kernel
theorem d20_6 : decode jdk_68_method_9_code 6 = .ok (.getfield 22, 3) := by decide +kernel
theorem d20_9 : decode jdk_68_method_9_code 9 = .ok (.ishr, 1) := by decide +kernel
theorem d20_10 : decode jdk_68_method_9_code 10 = .ok (.istore_n 2, 1) := by decide +kernel
theorem d20_11 : decode jdk_68_method_9_code 11 = .ok (.iload_n 1, 1) := by decide +kernel
theorem d20_12 : decode jdk_68_method_9_code 12 = .ok (.iload_n 2, 1) := by decide +kernel
theorem d20_13 : decode jdk_68_method_9_code 13 = .ok (.isub, 1) := by decide +kernel
theorem d20_14 : decode jdk_68_method_9_code 14 = .ok (.ifCond .le 24, 3) := by decide +kernel
theorem d20_38 : decode jdk_68_method_9_code 38 = .ok (.return_, 1) := by decide +kernel
theorem ef20 (m : MethodId) (x0 : Addr) (x1 : Int32)  : entryFrame m #[(.ref x0), (.int x1)] 3 = mkF m 0 #[.val (.ref x0), .val (.int x1), .unset] [] := by first | (simp [entryFrame, mkF, argsToLocals, Value.category]; done) | rfl | rfl
set_option maxRecDepth 65536 in
set_option maxHeartbeats 40000000 in
theorem rm20 (l : Launch) (Z : State) (a0 : Array Value) (hw : ∀ d ∈ tables_1, d.before a0 Z = true) (hEL : EW Z a0 EL0) (zc : Int32) (SC : Sta Z Z.heap "java/lang/String" "COMPACT_STRINGS" "Z" (.int zc)) (hzc : ¬ zc = 0) (fm : Value) (SF : Sta Z Z.heap "jdk/internal/util/Preconditions" "SIOOBE_FORMATTER" "Ljava/util/function/BiFunction;" fm) (rfm : fm.isRef = true) (a1 : Addr) (t : Addr) (kc : ClassId) (by1 : Int32) (by2 : Int32) (by3 : Int32) (by4 : Int32) (by5 : Int32) (by6 : Int32) (by7 : Int32) (by8 : Int32) (by9 : Int32) (by10 : Int32) (by11 : Int32) (by12 : Int32) (by13 : Int32) (by14 : Int32) (by15 : Int32) (by16 : Int32) (h0 : Heap) {n0 : Nat} (O0 : Old Z n0 h0) (Eb : Exa Z h0 a1 "java/lang/StringBuilder") (Fvp : Fld Z h0 a1 "java/lang/AbstractStringBuilder" "value" "[B" (.ref t)) (Fcp : Fld Z h0 a1 "java/lang/AbstractStringBuilder" "coder" "B" (.int (0 : Int32))) (Ab : Arv Z h0 t kc .byte (16 : Int32) [(.int by1), (.int by2), (.int by3), (.int by4), (.int by5), (.int by6), (.int by7), (.int by8), (.int by9), (.int by10), (.int by11), (.int by12), (.int by13), (.int by14), (.int by15), (.int by16)] (.int (0 : Int32))) :
    Met l Z EL0 n0 (⟨"java/lang/AbstractStringBuilder", "ensureCapacityInternal", "(I)V"⟩ : MethodName) jdk_68_method_9_code 3 none [] ({ frames := 0, cells := 0, slots := 0, locals := 0 } : Room) #[(.ref a1), (.int (5 : Int32))] h0 [] [] (fun v h' S => v = none ∧ h0 = h') := by
  refine Met.of (plainFor_of_name pn0) O0 ?_
  intro p e s m below meth c T0 hx hby hml hret hlk hnm hs W0
  have W0 : Wk p l e _ s m _ below meth c Z EL0 n0 [] "java/lang/AbstractStringBuilder" [] T0 0 0 h0 := W0
  have hSA := fun d hd => hw d (sa_in d hd)
  have hws := fun d hd => hw d (ws_in d hd)
  have hln := fun d hd => hw d (ln_in d hd)
  have heq := fun d hd => hw d (eq_in d hd)
  refine Go.of (fun _ kk => castTop (ef20 m a1 (5 : Int32)) kk) ?_
  show Go p e below _ (T0.setTop (mkF m 0 #[.val (.ref a1), .val (.int (5 : Int32)), .unset] []))
  refine Go.of (t' := T0.setTop (mkF m 1 #[.val (.ref a1), .val (.int (5 : Int32)), .unset] [(.ref a1)])) (fun _ kk => XS.aloadN W0.here hx rfl (hb hby d20_0) rfl rfl kk) ?_
  refine W0.getF hx (host := "") (Or.inl (hw _ (List.mem_of_getElem? (i := 48) rfl))) Via.refl Fvp rfl rfl (hb hby d20_1) (fun T1 W1 => ?_)
  show Go p e below _ (T1.setTop (mkF m 4 #[.val (.ref a1), .val (.int (5 : Int32)), .unset] [(.ref t)]))
  refine W1.alen hx Ab rfl rfl (hb hby d20_4) ?_
  show Go p e below _ (T1.setTop (mkF m 5 #[.val (.ref a1), .val (.int (5 : Int32)), .unset] [(.int (16 : Int32))]))
  refine Go.of (t' := T1.setTop (mkF m 6 #[.val (.ref a1), .val (.int (5 : Int32)), .unset] [(.ref a1), (.int (16 : Int32))])) (fun _ kk => XS.aloadN W1.here hx rfl (hb hby d20_5) rfl rfl kk) ?_
  refine W1.getF hx (host := "") (Or.inl (hw _ (List.mem_of_getElem? (i := 50) rfl))) Via.refl Fcp rfl rfl (hb hby d20_6) (fun T2 W2 => ?_)
  show Go p e below _ (T2.setTop (mkF m 9 #[.val (.ref a1), .val (.int (5 : Int32)), .unset] [(.int (0 : Int32)), (.int (16 : Int32))]))
  refine Go.of (t' := T2.setTop (mkF m 10 #[.val (.ref a1), .val (.int (5 : Int32)), .unset] [(.int (16 : Int32))])) (fun _ kk => XS.ishr W2.here hx rfl (hb hby d20_9) rfl kk) ?_
  refine Go.of (t' := T2.setTop (mkF m 11 #[.val (.ref a1), .val (.int (5 : Int32)), .val (.int (16 : Int32))] [])) (fun _ kk => XS.istoreN W2.here hx rfl (hb hby d20_10) rfl (l' := #[.val (.ref a1), .val (.int (5 : Int32)), .val (.int (16 : Int32))]) rfl kk) ?_
  refine Go.of (t' := T2.setTop (mkF m 12 #[.val (.ref a1), .val (.int (5 : Int32)), .val (.int (16 : Int32))] [(.int (5 : Int32))])) (fun _ kk => XS.iloadN W2.here hx rfl (hb hby d20_11) rfl kk) ?_
  refine Go.of (t' := T2.setTop (mkF m 13 #[.val (.ref a1), .val (.int (5 : Int32)), .val (.int (16 : Int32))] [(.int (16 : Int32)), (.int (5 : Int32))])) (fun _ kk => XS.iloadN W2.here hx rfl (hb hby d20_12) rfl kk) ?_
  refine Go.of (t' := T2.setTop (mkF m 14 #[.val (.ref a1), .val (.int (5 : Int32)), .val (.int (16 : Int32))] [(.int (-11 : Int32))])) (fun _ kk => XS.isub W2.here hx rfl (hb hby d20_13) rfl kk) ?_
  refine Go.of (t' := T2.setTop (mkF m 38 #[.val (.ref a1), .val (.int (5 : Int32)), .val (.int (16 : Int32))] [])) (fun _ kk => XS.ifYes W2.here hx rfl (pc0 := 14) (pc' := 38) rfl (hb hby d20_14) rfl (XT.i0_le_t (by decide +kernel)) (by decide +kernel) (by decide +kernel) kk) ?_
  exact W2.retV hx hEL hs hlk (by decide +kernel) (by decide +kernel) hret (hb hby d20_38) (fun S hS => ⟨rfl, rfl⟩)
theorem d21_0 : decode jdk_68_method_9_code 0 = .ok (.aload_n 0, 1) := by decide +kernel
theorem d21_1 : decode jdk_68_method_9_code 1 = .ok (.getfield 15, 3) := by decide +kernel
theorem d21_4 : decode jdk_68_method_9_code 4 = .ok (.arraylength, 1) := by decide +kernel
theorem d21_5 : decode jdk_68_method_9_code 5 = .ok (.aload_n 0, 1) := by decide +kernel
theorem d21_6 : decode jdk_68_method_9_code 6 = .ok (.getfield 22, 3) := by decide +kernel
theorem d21_9 : decode jdk_68_method_9_code 9 = .ok (.ishr, 1) := by decide +kernel
theorem d21_10 : decode jdk_68_method_9_code 10 = .ok (.istore_n 2, 1) := by decide +kernel
theorem d21_11 : decode jdk_68_method_9_code 11 = .ok (.iload_n 1, 1) := by decide +kernel
theorem d21_12 : decode jdk_68_method_9_code 12 = .ok (.iload_n 2, 1) := by decide +kernel
theorem d21_13 : decode jdk_68_method_9_code 13 = .ok (.isub, 1) := by decide +kernel
theorem d21_14 : decode jdk_68_method_9_code 14 = .ok (.ifCond .le 24, 3) := by decide +kernel
theorem d21_38 : decode jdk_68_method_9_code 38 = .ok (.return_, 1) := by decide +kernel
theorem ef21 (m : MethodId) (x0 : Addr) (x1 : Int32)  : entryFrame m #[(.ref x0), (.int x1)] 3 = mkF m 0 #[.val (.ref x0), .val (.int x1), .unset] [] := by first | (simp [entryFrame, mkF, argsToLocals, Value.category]; done) | rfl | rfl
set_option maxRecDepth 65536 in
set_option maxHeartbeats 40000000 in
theorem rm21 (l : Launch) (Z : State) (a0 : Array Value) (hw : ∀ d ∈ tables_1, d.before a0 Z = true) (hEL : EW Z a0 EL0) (zc : Int32) (SC : Sta Z Z.heap "java/lang/String" "COMPACT_STRINGS" "Z" (.int zc)) (hzc : ¬ zc = 0) (fm : Value) (SF : Sta Z Z.heap "jdk/internal/util/Preconditions" "SIOOBE_FORMATTER" "Ljava/util/function/BiFunction;" fm) (rfm : fm.isRef = true) (a1 : Addr) (t : Addr) (kc : ClassId) (by1 : Int32) (by2 : Int32) (by3 : Int32) (by4 : Int32) (by5 : Int32) (by6 : Int32) (by7 : Int32) (by8 : Int32) (by9 : Int32) (by10 : Int32) (by11 : Int32) (by12 : Int32) (by13 : Int32) (by14 : Int32) (by15 : Int32) (by16 : Int32) (h0 : Heap) {n0 : Nat} (O0 : Old Z n0 h0) (Eb : Exa Z h0 a1 "java/lang/StringBuilder") (Fvp : Fld Z h0 a1 "java/lang/AbstractStringBuilder" "value" "[B" (.ref t)) (Fcp : Fld Z h0 a1 "java/lang/AbstractStringBuilder" "coder" "B" (.int (0 : Int32))) (Ab : Arv Z h0 t kc .byte (16 : Int32) [(.int by1), (.int by2), (.int by3), (.int by4), (.int by5), (.int by6), (.int by7), (.int by8), (.int by9), (.int by10), (.int by11), (.int by12), (.int by13), (.int by14), (.int by15), (.int by16)] (.int (0 : Int32))) :
    Met l Z EL0 n0 (⟨"java/lang/AbstractStringBuilder", "ensureCapacityInternal", "(I)V"⟩ : MethodName) jdk_68_method_9_code 3 none [] ({ frames := 0, cells := 0, slots := 0, locals := 0 } : Room) #[(.ref a1), (.int (7 : Int32))] h0 [] [] (fun v h' S => v = none ∧ h0 = h') := by
  refine Met.of (plainFor_of_name pn0) O0 ?_
  intro p e s m below meth c T0 hx hby hml hret hlk hnm hs W0
  have W0 : Wk p l e _ s m _ below meth c Z EL0 n0 [] "java/lang/AbstractStringBuilder" [] T0 0 0 h0 := W0
  have hSA := fun d hd => hw d (sa_in d hd)
  have hws := fun d hd => hw d (ws_in d hd)
  have hln := fun d hd => hw d (ln_in d hd)
  have heq := fun d hd => hw d (eq_in d hd)
  refine Go.of (fun _ kk => castTop (ef21 m a1 (7 : Int32)) kk) ?_
  show Go p e below _ (T0.setTop (mkF m 0 #[.val (.ref a1), .val (.int (7 : Int32)), .unset] []))
  refine Go.of (t' := T0.setTop (mkF m 1 #[.val (.ref a1), .val (.int (7 : Int32)), .unset] [(.ref a1)])) (fun _ kk => XS.aloadN W0.here hx rfl (hb hby d21_0) rfl rfl kk) ?_
  refine W0.getF hx (host := "") (Or.inl (hw _ (List.mem_of_getElem? (i := 48) rfl))) Via.refl Fvp rfl rfl (hb hby d21_1) (fun T1 W1 => ?_)
  show Go p e below _ (T1.setTop (mkF m 4 #[.val (.ref a1), .val (.int (7 : Int32)), .unset] [(.ref t)]))
  refine W1.alen hx Ab rfl rfl (hb hby d21_4) ?_
  show Go p e below _ (T1.setTop (mkF m 5 #[.val (.ref a1), .val (.int (7 : Int32)), .unset] [(.int (16 : Int32))]))
  refine Go.of (t' := T1.setTop (mkF m 6 #[.val (.ref a1), .val (.int (7 : Int32)), .unset] [(.ref a1), (.int (16 : Int32))])) (fun _ kk => XS.aloadN W1.here hx rfl (hb hby d21_5) rfl rfl kk) ?_
  refine W1.getF hx (host := "") (Or.inl (hw _ (List.mem_of_getElem? (i := 50) rfl))) Via.refl Fcp rfl rfl (hb hby d21_6) (fun T2 W2 => ?_)
  show Go p e below _ (T2.setTop (mkF m 9 #[.val (.ref a1), .val (.int (7 : Int32)), .unset] [(.int (0 : Int32)), (.int (16 : Int32))]))
  refine Go.of (t' := T2.setTop (mkF m 10 #[.val (.ref a1), .val (.int (7 : Int32)), .unset] [(.int (16 : Int32))])) (fun _ kk => XS.ishr W2.here hx rfl (hb hby d21_9) rfl kk) ?_
  refine Go.of (t' := T2.setTop (mkF m 11 #[.val (.ref a1), .val (.int (7 : Int32)), .val (.int (16 : Int32))] [])) (fun _ kk => XS.istoreN W2.here hx rfl (hb hby d21_10) rfl (l' := #[.val (.ref a1), .val (.int (7 : Int32)), .val (.int (16 : Int32))]) rfl kk) ?_
  refine Go.of (t' := T2.setTop (mkF m 12 #[.val (.ref a1), .val (.int (7 : Int32)), .val (.int (16 : Int32))] [(.int (7 : Int32))])) (fun _ kk => XS.iloadN W2.here hx rfl (hb hby d21_11) rfl kk) ?_
  refine Go.of (t' := T2.setTop (mkF m 13 #[.val (.ref a1), .val (.int (7 : Int32)), .val (.int (16 : Int32))] [(.int (16 : Int32)), (.int (7 : Int32))])) (fun _ kk => XS.iloadN W2.here hx rfl (hb hby d21_12) rfl kk) ?_
  refine Go.of (t' := T2.setTop (mkF m 14 #[.val (.ref a1), .val (.int (7 : Int32)), .val (.int (16 : Int32))] [(.int (-9 : Int32))])) (fun _ kk => XS.isub W2.here hx rfl (hb hby d21_13) rfl kk) ?_
  refine Go.of (t' := T2.setTop (mkF m 38 #[.val (.ref a1), .val (.int (7 : Int32)), .val (.int (16 : Int32))] [])) (fun _ kk => XS.ifYes W2.here hx rfl (pc0 := 14) (pc' := 38) rfl (hb hby d21_14) rfl (XT.i0_le_t (by decide +kernel)) (by decide +kernel) (by decide +kernel) kk) ?_
  exact W2.retV hx hEL hs hlk (by decide +kernel) (by decide +kernel) hret (hb hby d21_38) (fun S hS => ⟨rfl, rfl⟩)
theorem d22_0 : decode jdk_68_method_9_code 0 = .ok (.aload_n 0, 1) := by decide +kernel
theorem d22_1 : decode jdk_68_method_9_code 1 = .ok (.getfield 15, 3) := by decide +kernel
theorem d22_4 : decode jdk_68_method_9_code 4 = .ok (.arraylength, 1) := by decide +kernel
theorem d22_5 : decode jdk_68_method_9_code 5 = .ok (.aload_n 0, 1) := by decide +kernel
theorem d22_6 : decode jdk_68_method_9_code 6 = .ok (.getfield 22, 3) := by decide +kernel
theorem d22_9 : decode jdk_68_method_9_code 9 = .ok (.ishr, 1) := by decide +kernel
theorem d22_10 : decode jdk_68_method_9_code 10 = .ok (.istore_n 2, 1) := by decide +kernel
theorem d22_11 : decode jdk_68_method_9_code 11 = .ok (.iload_n 1, 1) := by decide +kernel
theorem d22_12 : decode jdk_68_method_9_code 12 = .ok (.iload_n 2, 1) := by decide +kernel
theorem d22_13 : decode jdk_68_method_9_code 13 = .ok (.isub, 1) := by decide +kernel
theorem d22_14 : decode jdk_68_method_9_code 14 = .ok (.ifCond .le 24, 3) := by decide +kernel
theorem d22_38 : decode jdk_68_method_9_code 38 = .ok (.return_, 1) := by decide +kernel
theorem ef22 (m : MethodId) (x0 : Addr) (x1 : Int32)  : entryFrame m #[(.ref x0), (.int x1)] 3 = mkF m 0 #[.val (.ref x0), .val (.int x1), .unset] [] := by first | (simp [entryFrame, mkF, argsToLocals, Value.category]; done) | rfl | rfl
set_option maxRecDepth 65536 in
set_option maxHeartbeats 40000000 in
theorem rm22 (l : Launch) (Z : State) (a0 : Array Value) (hw : ∀ d ∈ tables_1, d.before a0 Z = true) (hEL : EW Z a0 EL0) (zc : Int32) (SC : Sta Z Z.heap "java/lang/String" "COMPACT_STRINGS" "Z" (.int zc)) (hzc : ¬ zc = 0) (fm : Value) (SF : Sta Z Z.heap "jdk/internal/util/Preconditions" "SIOOBE_FORMATTER" "Ljava/util/function/BiFunction;" fm) (rfm : fm.isRef = true) (a1 : Addr) (t : Addr) (kc : ClassId) (by1 : Int32) (by2 : Int32) (by3 : Int32) (by4 : Int32) (by5 : Int32) (by6 : Int32) (by7 : Int32) (by8 : Int32) (by9 : Int32) (by10 : Int32) (by11 : Int32) (by12 : Int32) (by13 : Int32) (by14 : Int32) (by15 : Int32) (by16 : Int32) (h0 : Heap) {n0 : Nat} (O0 : Old Z n0 h0) (Eb : Exa Z h0 a1 "java/lang/StringBuilder") (Fvp : Fld Z h0 a1 "java/lang/AbstractStringBuilder" "value" "[B" (.ref t)) (Fcp : Fld Z h0 a1 "java/lang/AbstractStringBuilder" "coder" "B" (.int (0 : Int32))) (Ab : Arv Z h0 t kc .byte (16 : Int32) [(.int by1), (.int by2), (.int by3), (.int by4), (.int by5), (.int by6), (.int by7), (.int by8), (.int by9), (.int by10), (.int by11), (.int by12), (.int by13), (.int by14), (.int by15), (.int by16)] (.int (0 : Int32))) :
    Met l Z EL0 n0 (⟨"java/lang/AbstractStringBuilder", "ensureCapacityInternal", "(I)V"⟩ : MethodName) jdk_68_method_9_code 3 none [] ({ frames := 0, cells := 0, slots := 0, locals := 0 } : Room) #[(.ref a1), (.int (8 : Int32))] h0 [] [] (fun v h' S => v = none ∧ h0 = h') := by
  refine Met.of (plainFor_of_name pn0) O0 ?_
  intro p e s m below meth c T0 hx hby hml hret hlk hnm hs W0
  have W0 : Wk p l e _ s m _ below meth c Z EL0 n0 [] "java/lang/AbstractStringBuilder" [] T0 0 0 h0 := W0
  have hSA := fun d hd => hw d (sa_in d hd)
  have hws := fun d hd => hw d (ws_in d hd)
  have hln := fun d hd => hw d (ln_in d hd)
  have heq := fun d hd => hw d (eq_in d hd)
  refine Go.of (fun _ kk => castTop (ef22 m a1 (8 : Int32)) kk) ?_
  show Go p e below _ (T0.setTop (mkF m 0 #[.val (.ref a1), .val (.int (8 : Int32)), .unset] []))
  refine Go.of (t' := T0.setTop (mkF m 1 #[.val (.ref a1), .val (.int (8 : Int32)), .unset] [(.ref a1)])) (fun _ kk => XS.aloadN W0.here hx rfl (hb hby d22_0) rfl rfl kk) ?_
  refine W0.getF hx (host := "") (Or.inl (hw _ (List.mem_of_getElem? (i := 48) rfl))) Via.refl Fvp rfl rfl (hb hby d22_1) (fun T1 W1 => ?_)
  show Go p e below _ (T1.setTop (mkF m 4 #[.val (.ref a1), .val (.int (8 : Int32)), .unset] [(.ref t)]))
  refine W1.alen hx Ab rfl rfl (hb hby d22_4) ?_
  show Go p e below _ (T1.setTop (mkF m 5 #[.val (.ref a1), .val (.int (8 : Int32)), .unset] [(.int (16 : Int32))]))
  refine Go.of (t' := T1.setTop (mkF m 6 #[.val (.ref a1), .val (.int (8 : Int32)), .unset] [(.ref a1), (.int (16 : Int32))])) (fun _ kk => XS.aloadN W1.here hx rfl (hb hby d22_5) rfl rfl kk) ?_
  refine W1.getF hx (host := "") (Or.inl (hw _ (List.mem_of_getElem? (i := 50) rfl))) Via.refl Fcp rfl rfl (hb hby d22_6) (fun T2 W2 => ?_)
  show Go p e below _ (T2.setTop (mkF m 9 #[.val (.ref a1), .val (.int (8 : Int32)), .unset] [(.int (0 : Int32)), (.int (16 : Int32))]))
  refine Go.of (t' := T2.setTop (mkF m 10 #[.val (.ref a1), .val (.int (8 : Int32)), .unset] [(.int (16 : Int32))])) (fun _ kk => XS.ishr W2.here hx rfl (hb hby d22_9) rfl kk) ?_
  refine Go.of (t' := T2.setTop (mkF m 11 #[.val (.ref a1), .val (.int (8 : Int32)), .val (.int (16 : Int32))] [])) (fun _ kk => XS.istoreN W2.here hx rfl (hb hby d22_10) rfl (l' := #[.val (.ref a1), .val (.int (8 : Int32)), .val (.int (16 : Int32))]) rfl kk) ?_
  refine Go.of (t' := T2.setTop (mkF m 12 #[.val (.ref a1), .val (.int (8 : Int32)), .val (.int (16 : Int32))] [(.int (8 : Int32))])) (fun _ kk => XS.iloadN W2.here hx rfl (hb hby d22_11) rfl kk) ?_
  refine Go.of (t' := T2.setTop (mkF m 13 #[.val (.ref a1), .val (.int (8 : Int32)), .val (.int (16 : Int32))] [(.int (16 : Int32)), (.int (8 : Int32))])) (fun _ kk => XS.iloadN W2.here hx rfl (hb hby d22_12) rfl kk) ?_
  refine Go.of (t' := T2.setTop (mkF m 14 #[.val (.ref a1), .val (.int (8 : Int32)), .val (.int (16 : Int32))] [(.int (-8 : Int32))])) (fun _ kk => XS.isub W2.here hx rfl (hb hby d22_13) rfl kk) ?_
  refine Go.of (t' := T2.setTop (mkF m 38 #[.val (.ref a1), .val (.int (8 : Int32)), .val (.int (16 : Int32))] [])) (fun _ kk => XS.ifYes W2.here hx rfl (pc0 := 14) (pc' := 38) rfl (hb hby d22_14) rfl (XT.i0_le_t (by decide +kernel)) (by decide +kernel) (by decide +kernel) kk) ?_
  exact W2.retV hx hEL hs hlk (by decide +kernel) (by decide +kernel) hret (hb hby d22_38) (fun S hS => ⟨rfl, rfl⟩)
theorem d23_0 : decode jdk_68_method_9_code 0 = .ok (.aload_n 0, 1) := by decide +kernel
theorem d23_1 : decode jdk_68_method_9_code 1 = .ok (.getfield 15, 3) := by decide +kernel
theorem d23_4 : decode jdk_68_method_9_code 4 = .ok (.arraylength, 1) := by decide +kernel
theorem d23_5 : decode jdk_68_method_9_code 5 = .ok (.aload_n 0, 1) := by decide +kernel
theorem d23_6 : decode jdk_68_method_9_code 6 = .ok (.getfield 22, 3) := by decide +kernel
theorem d23_9 : decode jdk_68_method_9_code 9 = .ok (.ishr, 1) := by decide +kernel
theorem d23_10 : decode jdk_68_method_9_code 10 = .ok (.istore_n 2, 1) := by decide +kernel
theorem d23_11 : decode jdk_68_method_9_code 11 = .ok (.iload_n 1, 1) := by decide +kernel
theorem d23_12 : decode jdk_68_method_9_code 12 = .ok (.iload_n 2, 1) := by decide +kernel
theorem d23_13 : decode jdk_68_method_9_code 13 = .ok (.isub, 1) := by decide +kernel
theorem d23_14 : decode jdk_68_method_9_code 14 = .ok (.ifCond .le 24, 3) := by decide +kernel
theorem d23_38 : decode jdk_68_method_9_code 38 = .ok (.return_, 1) := by decide +kernel
theorem ef23 (m : MethodId) (x0 : Addr) (x1 : Int32)  : entryFrame m #[(.ref x0), (.int x1)] 3 = mkF m 0 #[.val (.ref x0), .val (.int x1), .unset] [] := by first | (simp [entryFrame, mkF, argsToLocals, Value.category]; done) | rfl | rfl
set_option maxRecDepth 65536 in
set_option maxHeartbeats 40000000 in
theorem rm23 (l : Launch) (Z : State) (a0 : Array Value) (hw : ∀ d ∈ tables_1, d.before a0 Z = true) (hEL : EW Z a0 EL0) (zc : Int32) (SC : Sta Z Z.heap "java/lang/String" "COMPACT_STRINGS" "Z" (.int zc)) (hzc : ¬ zc = 0) (fm : Value) (SF : Sta Z Z.heap "jdk/internal/util/Preconditions" "SIOOBE_FORMATTER" "Ljava/util/function/BiFunction;" fm) (rfm : fm.isRef = true) (a1 : Addr) (t : Addr) (kc : ClassId) (by1 : Int32) (by2 : Int32) (by3 : Int32) (by4 : Int32) (by5 : Int32) (by6 : Int32) (by7 : Int32) (by8 : Int32) (by9 : Int32) (by10 : Int32) (by11 : Int32) (by12 : Int32) (by13 : Int32) (by14 : Int32) (by15 : Int32) (by16 : Int32) (h0 : Heap) {n0 : Nat} (O0 : Old Z n0 h0) (Eb : Exa Z h0 a1 "java/lang/StringBuilder") (Fvp : Fld Z h0 a1 "java/lang/AbstractStringBuilder" "value" "[B" (.ref t)) (Fcp : Fld Z h0 a1 "java/lang/AbstractStringBuilder" "coder" "B" (.int (0 : Int32))) (Ab : Arv Z h0 t kc .byte (16 : Int32) [(.int by1), (.int by2), (.int by3), (.int by4), (.int by5), (.int by6), (.int by7), (.int by8), (.int by9), (.int by10), (.int by11), (.int by12), (.int by13), (.int by14), (.int by15), (.int by16)] (.int (0 : Int32))) :
    Met l Z EL0 n0 (⟨"java/lang/AbstractStringBuilder", "ensureCapacityInternal", "(I)V"⟩ : MethodName) jdk_68_method_9_code 3 none [] ({ frames := 0, cells := 0, slots := 0, locals := 0 } : Room) #[(.ref a1), (.int (10 : Int32))] h0 [] [] (fun v h' S => v = none ∧ h0 = h') := by
  refine Met.of (plainFor_of_name pn0) O0 ?_
  intro p e s m below meth c T0 hx hby hml hret hlk hnm hs W0
  have W0 : Wk p l e _ s m _ below meth c Z EL0 n0 [] "java/lang/AbstractStringBuilder" [] T0 0 0 h0 := W0
  have hSA := fun d hd => hw d (sa_in d hd)
  have hws := fun d hd => hw d (ws_in d hd)
  have hln := fun d hd => hw d (ln_in d hd)
  have heq := fun d hd => hw d (eq_in d hd)
  refine Go.of (fun _ kk => castTop (ef23 m a1 (10 : Int32)) kk) ?_
  show Go p e below _ (T0.setTop (mkF m 0 #[.val (.ref a1), .val (.int (10 : Int32)), .unset] []))
  refine Go.of (t' := T0.setTop (mkF m 1 #[.val (.ref a1), .val (.int (10 : Int32)), .unset] [(.ref a1)])) (fun _ kk => XS.aloadN W0.here hx rfl (hb hby d23_0) rfl rfl kk) ?_
  refine W0.getF hx (host := "") (Or.inl (hw _ (List.mem_of_getElem? (i := 48) rfl))) Via.refl Fvp rfl rfl (hb hby d23_1) (fun T1 W1 => ?_)
  show Go p e below _ (T1.setTop (mkF m 4 #[.val (.ref a1), .val (.int (10 : Int32)), .unset] [(.ref t)]))
  refine W1.alen hx Ab rfl rfl (hb hby d23_4) ?_
  show Go p e below _ (T1.setTop (mkF m 5 #[.val (.ref a1), .val (.int (10 : Int32)), .unset] [(.int (16 : Int32))]))
  refine Go.of (t' := T1.setTop (mkF m 6 #[.val (.ref a1), .val (.int (10 : Int32)), .unset] [(.ref a1), (.int (16 : Int32))])) (fun _ kk => XS.aloadN W1.here hx rfl (hb hby d23_5) rfl rfl kk) ?_
  refine W1.getF hx (host := "") (Or.inl (hw _ (List.mem_of_getElem? (i := 50) rfl))) Via.refl Fcp rfl rfl (hb hby d23_6) (fun T2 W2 => ?_)
  show Go p e below _ (T2.setTop (mkF m 9 #[.val (.ref a1), .val (.int (10 : Int32)), .unset] [(.int (0 : Int32)), (.int (16 : Int32))]))
  refine Go.of (t' := T2.setTop (mkF m 10 #[.val (.ref a1), .val (.int (10 : Int32)), .unset] [(.int (16 : Int32))])) (fun _ kk => XS.ishr W2.here hx rfl (hb hby d23_9) rfl kk) ?_
  refine Go.of (t' := T2.setTop (mkF m 11 #[.val (.ref a1), .val (.int (10 : Int32)), .val (.int (16 : Int32))] [])) (fun _ kk => XS.istoreN W2.here hx rfl (hb hby d23_10) rfl (l' := #[.val (.ref a1), .val (.int (10 : Int32)), .val (.int (16 : Int32))]) rfl kk) ?_
  refine Go.of (t' := T2.setTop (mkF m 12 #[.val (.ref a1), .val (.int (10 : Int32)), .val (.int (16 : Int32))] [(.int (10 : Int32))])) (fun _ kk => XS.iloadN W2.here hx rfl (hb hby d23_11) rfl kk) ?_
  refine Go.of (t' := T2.setTop (mkF m 13 #[.val (.ref a1), .val (.int (10 : Int32)), .val (.int (16 : Int32))] [(.int (16 : Int32)), (.int (10 : Int32))])) (fun _ kk => XS.iloadN W2.here hx rfl (hb hby d23_12) rfl kk) ?_
  refine Go.of (t' := T2.setTop (mkF m 14 #[.val (.ref a1), .val (.int (10 : Int32)), .val (.int (16 : Int32))] [(.int (-6 : Int32))])) (fun _ kk => XS.isub W2.here hx rfl (hb hby d23_13) rfl kk) ?_
  refine Go.of (t' := T2.setTop (mkF m 38 #[.val (.ref a1), .val (.int (10 : Int32)), .val (.int (16 : Int32))] [])) (fun _ kk => XS.ifYes W2.here hx rfl (pc0 := 14) (pc' := 38) rfl (hb hby d23_14) rfl (XT.i0_le_t (by decide +kernel)) (by decide +kernel) (by decide +kernel) kk) ?_
  exact W2.retV hx hEL hs hlk (by decide +kernel) (by decide +kernel) hret (hb hby d23_38) (fun S hS => ⟨rfl, rfl⟩)
theorem d24_0 : decode jdk_68_method_9_code 0 = .ok (.aload_n 0, 1) := by decide +kernel
theorem d24_1 : decode jdk_68_method_9_code 1 = .ok (.getfield 15, 3) := by decide +kernel
theorem d24_4 : decode jdk_68_method_9_code 4 = .ok (.arraylength, 1) := by decide +kernel
theorem d24_5 : decode jdk_68_method_9_code 5 = .ok (.aload_n 0, 1) := by decide +kernel
theorem d24_6 : decode jdk_68_method_9_code 6 = .ok (.getfield 22, 3) := by decide +kernel
theorem d24_9 : decode jdk_68_method_9_code 9 = .ok (.ishr, 1) := by decide +kernel
theorem d24_10 : decode jdk_68_method_9_code 10 = .ok (.istore_n 2, 1) := by decide +kernel
theorem d24_11 : decode jdk_68_method_9_code 11 = .ok (.iload_n 1, 1) := by decide +kernel
theorem d24_12 : decode jdk_68_method_9_code 12 = .ok (.iload_n 2, 1) := by decide +kernel
theorem d24_13 : decode jdk_68_method_9_code 13 = .ok (.isub, 1) := by decide +kernel
theorem d24_14 : decode jdk_68_method_9_code 14 = .ok (.ifCond .le 24, 3) := by decide +kernel
theorem d24_38 : decode jdk_68_method_9_code 38 = .ok (.return_, 1) := by decide +kernel
theorem ef24 (m : MethodId) (x0 : Addr) (x1 : Int32)  : entryFrame m #[(.ref x0), (.int x1)] 3 = mkF m 0 #[.val (.ref x0), .val (.int x1), .unset] [] := by first | (simp [entryFrame, mkF, argsToLocals, Value.category]; done) | rfl | rfl
set_option maxRecDepth 65536 in
set_option maxHeartbeats 40000000 in
theorem rm24 (l : Launch) (Z : State) (a0 : Array Value) (hw : ∀ d ∈ tables_1, d.before a0 Z = true) (hEL : EW Z a0 EL0) (zc : Int32) (SC : Sta Z Z.heap "java/lang/String" "COMPACT_STRINGS" "Z" (.int zc)) (hzc : ¬ zc = 0) (fm : Value) (SF : Sta Z Z.heap "jdk/internal/util/Preconditions" "SIOOBE_FORMATTER" "Ljava/util/function/BiFunction;" fm) (rfm : fm.isRef = true) (a1 : Addr) (t : Addr) (kc : ClassId) (by1 : Int32) (by2 : Int32) (by3 : Int32) (by4 : Int32) (by5 : Int32) (by6 : Int32) (by7 : Int32) (by8 : Int32) (by9 : Int32) (by10 : Int32) (by11 : Int32) (by12 : Int32) (by13 : Int32) (by14 : Int32) (by15 : Int32) (by16 : Int32) (h0 : Heap) {n0 : Nat} (O0 : Old Z n0 h0) (Eb : Exa Z h0 a1 "java/lang/StringBuilder") (Fvp : Fld Z h0 a1 "java/lang/AbstractStringBuilder" "value" "[B" (.ref t)) (Fcp : Fld Z h0 a1 "java/lang/AbstractStringBuilder" "coder" "B" (.int (0 : Int32))) (Ab : Arv Z h0 t kc .byte (16 : Int32) [(.int by1), (.int by2), (.int by3), (.int by4), (.int by5), (.int by6), (.int by7), (.int by8), (.int by9), (.int by10), (.int by11), (.int by12), (.int by13), (.int by14), (.int by15), (.int by16)] (.int (0 : Int32))) :
    Met l Z EL0 n0 (⟨"java/lang/AbstractStringBuilder", "ensureCapacityInternal", "(I)V"⟩ : MethodName) jdk_68_method_9_code 3 none [] ({ frames := 0, cells := 0, slots := 0, locals := 0 } : Room) #[(.ref a1), (.int (11 : Int32))] h0 [] [] (fun v h' S => v = none ∧ h0 = h') := by
  refine Met.of (plainFor_of_name pn0) O0 ?_
  intro p e s m below meth c T0 hx hby hml hret hlk hnm hs W0
  have W0 : Wk p l e _ s m _ below meth c Z EL0 n0 [] "java/lang/AbstractStringBuilder" [] T0 0 0 h0 := W0
  have hSA := fun d hd => hw d (sa_in d hd)
  have hws := fun d hd => hw d (ws_in d hd)
  have hln := fun d hd => hw d (ln_in d hd)
  have heq := fun d hd => hw d (eq_in d hd)
  refine Go.of (fun _ kk => castTop (ef24 m a1 (11 : Int32)) kk) ?_
  show Go p e below _ (T0.setTop (mkF m 0 #[.val (.ref a1), .val (.int (11 : Int32)), .unset] []))
  refine Go.of (t' := T0.setTop (mkF m 1 #[.val (.ref a1), .val (.int (11 : Int32)), .unset] [(.ref a1)])) (fun _ kk => XS.aloadN W0.here hx rfl (hb hby d24_0) rfl rfl kk) ?_
  refine W0.getF hx (host := "") (Or.inl (hw _ (List.mem_of_getElem? (i := 48) rfl))) Via.refl Fvp rfl rfl (hb hby d24_1) (fun T1 W1 => ?_)
  show Go p e below _ (T1.setTop (mkF m 4 #[.val (.ref a1), .val (.int (11 : Int32)), .unset] [(.ref t)]))
  refine W1.alen hx Ab rfl rfl (hb hby d24_4) ?_
  show Go p e below _ (T1.setTop (mkF m 5 #[.val (.ref a1), .val (.int (11 : Int32)), .unset] [(.int (16 : Int32))]))
  refine Go.of (t' := T1.setTop (mkF m 6 #[.val (.ref a1), .val (.int (11 : Int32)), .unset] [(.ref a1), (.int (16 : Int32))])) (fun _ kk => XS.aloadN W1.here hx rfl (hb hby d24_5) rfl rfl kk) ?_
  refine W1.getF hx (host := "") (Or.inl (hw _ (List.mem_of_getElem? (i := 50) rfl))) Via.refl Fcp rfl rfl (hb hby d24_6) (fun T2 W2 => ?_)
  show Go p e below _ (T2.setTop (mkF m 9 #[.val (.ref a1), .val (.int (11 : Int32)), .unset] [(.int (0 : Int32)), (.int (16 : Int32))]))
  refine Go.of (t' := T2.setTop (mkF m 10 #[.val (.ref a1), .val (.int (11 : Int32)), .unset] [(.int (16 : Int32))])) (fun _ kk => XS.ishr W2.here hx rfl (hb hby d24_9) rfl kk) ?_
  refine Go.of (t' := T2.setTop (mkF m 11 #[.val (.ref a1), .val (.int (11 : Int32)), .val (.int (16 : Int32))] [])) (fun _ kk => XS.istoreN W2.here hx rfl (hb hby d24_10) rfl (l' := #[.val (.ref a1), .val (.int (11 : Int32)), .val (.int (16 : Int32))]) rfl kk) ?_
  refine Go.of (t' := T2.setTop (mkF m 12 #[.val (.ref a1), .val (.int (11 : Int32)), .val (.int (16 : Int32))] [(.int (11 : Int32))])) (fun _ kk => XS.iloadN W2.here hx rfl (hb hby d24_11) rfl kk) ?_
  refine Go.of (t' := T2.setTop (mkF m 13 #[.val (.ref a1), .val (.int (11 : Int32)), .val (.int (16 : Int32))] [(.int (16 : Int32)), (.int (11 : Int32))])) (fun _ kk => XS.iloadN W2.here hx rfl (hb hby d24_12) rfl kk) ?_
  refine Go.of (t' := T2.setTop (mkF m 14 #[.val (.ref a1), .val (.int (11 : Int32)), .val (.int (16 : Int32))] [(.int (-5 : Int32))])) (fun _ kk => XS.isub W2.here hx rfl (hb hby d24_13) rfl kk) ?_
  refine Go.of (t' := T2.setTop (mkF m 38 #[.val (.ref a1), .val (.int (11 : Int32)), .val (.int (16 : Int32))] [])) (fun _ kk => XS.ifYes W2.here hx rfl (pc0 := 14) (pc' := 38) rfl (hb hby d24_14) rfl (XT.i0_le_t (by decide +kernel)) (by decide +kernel) (by decide +kernel) kk) ?_
  exact W2.retV hx hEL hs hlk (by decide +kernel) (by decide +kernel) hret (hb hby d24_38) (fun S hS => ⟨rfl, rfl⟩)
theorem d25_0 : decode jdk_68_method_9_code 0 = .ok (.aload_n 0, 1) := by decide +kernel
theorem d25_1 : decode jdk_68_method_9_code 1 = .ok (.getfield 15, 3) := by decide +kernel
theorem d25_4 : decode jdk_68_method_9_code 4 = .ok (.arraylength, 1) := by decide +kernel
theorem d25_5 : decode jdk_68_method_9_code 5 = .ok (.aload_n 0, 1) := by decide +kernel
theorem d25_6 : decode jdk_68_method_9_code 6 = .ok (.getfield 22, 3) := by decide +kernel
theorem d25_9 : decode jdk_68_method_9_code 9 = .ok (.ishr, 1) := by decide +kernel
theorem d25_10 : decode jdk_68_method_9_code 10 = .ok (.istore_n 2, 1) := by decide +kernel
theorem d25_11 : decode jdk_68_method_9_code 11 = .ok (.iload_n 1, 1) := by decide +kernel
theorem d25_12 : decode jdk_68_method_9_code 12 = .ok (.iload_n 2, 1) := by decide +kernel
theorem d25_13 : decode jdk_68_method_9_code 13 = .ok (.isub, 1) := by decide +kernel
theorem d25_14 : decode jdk_68_method_9_code 14 = .ok (.ifCond .le 24, 3) := by decide +kernel
theorem d25_38 : decode jdk_68_method_9_code 38 = .ok (.return_, 1) := by decide +kernel
theorem ef25 (m : MethodId) (x0 : Addr) (x1 : Int32)  : entryFrame m #[(.ref x0), (.int x1)] 3 = mkF m 0 #[.val (.ref x0), .val (.int x1), .unset] [] := by first | (simp [entryFrame, mkF, argsToLocals, Value.category]; done) | rfl | rfl
set_option maxRecDepth 65536 in
set_option maxHeartbeats 40000000 in
theorem rm25 (l : Launch) (Z : State) (a0 : Array Value) (hw : ∀ d ∈ tables_1, d.before a0 Z = true) (hEL : EW Z a0 EL0) (zc : Int32) (SC : Sta Z Z.heap "java/lang/String" "COMPACT_STRINGS" "Z" (.int zc)) (hzc : ¬ zc = 0) (fm : Value) (SF : Sta Z Z.heap "jdk/internal/util/Preconditions" "SIOOBE_FORMATTER" "Ljava/util/function/BiFunction;" fm) (rfm : fm.isRef = true) (a1 : Addr) (t : Addr) (kc : ClassId) (by1 : Int32) (by2 : Int32) (by3 : Int32) (by4 : Int32) (by5 : Int32) (by6 : Int32) (by7 : Int32) (by8 : Int32) (by9 : Int32) (by10 : Int32) (by11 : Int32) (by12 : Int32) (by13 : Int32) (by14 : Int32) (by15 : Int32) (by16 : Int32) (h0 : Heap) {n0 : Nat} (O0 : Old Z n0 h0) (Eb : Exa Z h0 a1 "java/lang/StringBuilder") (Fvp : Fld Z h0 a1 "java/lang/AbstractStringBuilder" "value" "[B" (.ref t)) (Fcp : Fld Z h0 a1 "java/lang/AbstractStringBuilder" "coder" "B" (.int (0 : Int32))) (Ab : Arv Z h0 t kc .byte (16 : Int32) [(.int by1), (.int by2), (.int by3), (.int by4), (.int by5), (.int by6), (.int by7), (.int by8), (.int by9), (.int by10), (.int by11), (.int by12), (.int by13), (.int by14), (.int by15), (.int by16)] (.int (0 : Int32))) :
    Met l Z EL0 n0 (⟨"java/lang/AbstractStringBuilder", "ensureCapacityInternal", "(I)V"⟩ : MethodName) jdk_68_method_9_code 3 none [] ({ frames := 0, cells := 0, slots := 0, locals := 0 } : Room) #[(.ref a1), (.int (13 : Int32))] h0 [] [] (fun v h' S => v = none ∧ h0 = h') := by
  refine Met.of (plainFor_of_name pn0) O0 ?_
  intro p e s m below meth c T0 hx hby hml hret hlk hnm hs W0
  have W0 : Wk p l e _ s m _ below meth c Z EL0 n0 [] "java/lang/AbstractStringBuilder" [] T0 0 0 h0 := W0
  have hSA := fun d hd => hw d (sa_in d hd)
  have hws := fun d hd => hw d (ws_in d hd)
  have hln := fun d hd => hw d (ln_in d hd)
  have heq := fun d hd => hw d (eq_in d hd)
  refine Go.of (fun _ kk => castTop (ef25 m a1 (13 : Int32)) kk) ?_
  show Go p e below _ (T0.setTop (mkF m 0 #[.val (.ref a1), .val (.int (13 : Int32)), .unset] []))
  refine Go.of (t' := T0.setTop (mkF m 1 #[.val (.ref a1), .val (.int (13 : Int32)), .unset] [(.ref a1)])) (fun _ kk => XS.aloadN W0.here hx rfl (hb hby d25_0) rfl rfl kk) ?_
  refine W0.getF hx (host := "") (Or.inl (hw _ (List.mem_of_getElem? (i := 48) rfl))) Via.refl Fvp rfl rfl (hb hby d25_1) (fun T1 W1 => ?_)
  show Go p e below _ (T1.setTop (mkF m 4 #[.val (.ref a1), .val (.int (13 : Int32)), .unset] [(.ref t)]))
  refine W1.alen hx Ab rfl rfl (hb hby d25_4) ?_
  show Go p e below _ (T1.setTop (mkF m 5 #[.val (.ref a1), .val (.int (13 : Int32)), .unset] [(.int (16 : Int32))]))
  refine Go.of (t' := T1.setTop (mkF m 6 #[.val (.ref a1), .val (.int (13 : Int32)), .unset] [(.ref a1), (.int (16 : Int32))])) (fun _ kk => XS.aloadN W1.here hx rfl (hb hby d25_5) rfl rfl kk) ?_
  refine W1.getF hx (host := "") (Or.inl (hw _ (List.mem_of_getElem? (i := 50) rfl))) Via.refl Fcp rfl rfl (hb hby d25_6) (fun T2 W2 => ?_)
  show Go p e below _ (T2.setTop (mkF m 9 #[.val (.ref a1), .val (.int (13 : Int32)), .unset] [(.int (0 : Int32)), (.int (16 : Int32))]))
  refine Go.of (t' := T2.setTop (mkF m 10 #[.val (.ref a1), .val (.int (13 : Int32)), .unset] [(.int (16 : Int32))])) (fun _ kk => XS.ishr W2.here hx rfl (hb hby d25_9) rfl kk) ?_
  refine Go.of (t' := T2.setTop (mkF m 11 #[.val (.ref a1), .val (.int (13 : Int32)), .val (.int (16 : Int32))] [])) (fun _ kk => XS.istoreN W2.here hx rfl (hb hby d25_10) rfl (l' := #[.val (.ref a1), .val (.int (13 : Int32)), .val (.int (16 : Int32))]) rfl kk) ?_
  refine Go.of (t' := T2.setTop (mkF m 12 #[.val (.ref a1), .val (.int (13 : Int32)), .val (.int (16 : Int32))] [(.int (13 : Int32))])) (fun _ kk => XS.iloadN W2.here hx rfl (hb hby d25_11) rfl kk) ?_
  refine Go.of (t' := T2.setTop (mkF m 13 #[.val (.ref a1), .val (.int (13 : Int32)), .val (.int (16 : Int32))] [(.int (16 : Int32)), (.int (13 : Int32))])) (fun _ kk => XS.iloadN W2.here hx rfl (hb hby d25_12) rfl kk) ?_
  refine Go.of (t' := T2.setTop (mkF m 14 #[.val (.ref a1), .val (.int (13 : Int32)), .val (.int (16 : Int32))] [(.int (-3 : Int32))])) (fun _ kk => XS.isub W2.here hx rfl (hb hby d25_13) rfl kk) ?_
  refine Go.of (t' := T2.setTop (mkF m 38 #[.val (.ref a1), .val (.int (13 : Int32)), .val (.int (16 : Int32))] [])) (fun _ kk => XS.ifYes W2.here hx rfl (pc0 := 14) (pc' := 38) rfl (hb hby d25_14) rfl (XT.i0_le_t (by decide +kernel)) (by decide +kernel) (by decide +kernel) kk) ?_
  exact W2.retV hx hEL hs hlk (by decide +kernel) (by decide +kernel) hret (hb hby d25_38) (fun S hS => ⟨rfl, rfl⟩)
theorem d30_0 : decode jdk_68_method_71_code 0 = .ok (.getstatic 18, 3) := by decide +kernel
theorem d30_3 : decode jdk_68_method_71_code 3 = .ok (.ifCond .eq 18, 3) := by decide +kernel
theorem d30_6 : decode jdk_68_method_71_code 6 = .ok (.aload_n 0, 1) := by decide +kernel
theorem d30_7 : decode jdk_68_method_71_code 7 = .ok (.getfield 22, 3) := by decide +kernel
theorem d30_10 : decode jdk_68_method_71_code 10 = .ok (.aload_n 1, 1) := by decide +kernel
theorem d30_11 : decode jdk_68_method_71_code 11 = .ok (.invokevirtual 40, 3) := by decide +kernel
theorem d30_14 : decode jdk_68_method_71_code 14 = .ok (.if_icmp .eq 7, 3) := by decide +kernel
theorem d30_21 : decode jdk_68_method_71_code 21 = .ok (.return_, 1) := by decide +kernel
theorem ef30 (m : MethodId) (x0 : Addr) (x1 : Addr)  : entryFrame m #[(.ref x0), (.ref x1)] 2 = mkF m 0 #[.val (.ref x0), .val (.ref x1)] [] := by first | (simp [entryFrame, mkF, argsToLocals, Value.category]; done) | rfl | rfl
set_option maxRecDepth 65536 in
set_option maxHeartbeats 40000000 in
theorem rm30 (l : Launch) (Z : State) (a0 : Array Value) (hw : ∀ d ∈ tables_1, d.before a0 Z = true) (hEL : EW Z a0 EL0) (zc : Int32) (SC : Sta Z Z.heap "java/lang/String" "COMPACT_STRINGS" "Z" (.int zc)) (hzc : ¬ zc = 0) (fm : Value) (SF : Sta Z Z.heap "jdk/internal/util/Preconditions" "SIOOBE_FORMATTER" "Ljava/util/function/BiFunction;" fm) (rfm : fm.isRef = true) (a1 : Addr) (x2 : Addr) (h0 : Heap) {n0 : Nat} (O0 : Old Z n0 h0) (Eb : Exa Z h0 a1 "java/lang/StringBuilder") (Fcp : Fld Z h0 a1 "java/lang/AbstractStringBuilder" "coder" "B" (.int (0 : Int32))) (Sa : Str Z h0 x2 []) :
    Met l Z EL0 n0 (⟨"java/lang/AbstractStringBuilder", "inflateIfNeededFor", "(Ljava/lang/String;)V"⟩ : MethodName) jdk_68_method_71_code 2 none [] ({ frames := 1, cells := 0, slots := 0, locals := 13 } : Room) #[(.ref a1), (.ref x2)] h0 [] [] (fun v h' S => v = none ∧ h0 = h') := by
  refine Met.of (plainFor_of_name pn0) O0 ?_
  intro p e s m below meth c T0 hx hby hml hret hlk hnm hs W0
  have W0 : Wk p l e _ s m _ below meth c Z EL0 n0 [] "java/lang/AbstractStringBuilder" [] T0 0 0 h0 := W0
  have hSA := fun d hd => hw d (sa_in d hd)
  have hws := fun d hd => hw d (ws_in d hd)
  have hln := fun d hd => hw d (ln_in d hd)
  have heq := fun d hd => hw d (eq_in d hd)
  refine Go.of (fun _ kk => castTop (ef30 m a1 x2) kk) ?_
  show Go p e below _ (T0.setTop (mkF m 0 #[.val (.ref a1), .val (.ref x2)] []))
  obtain ⟨t1, kb1, E1, Fv1, Fc1, A1⟩ := Sa.open_ (snd255 all0i)
  have V1 : Arv Z h0 t1 kb1 .byte (0 : Int32) [] (.int (0 : Int32)) := A1
  refine W0.getS hx (host := "") (Or.inl (hw _ (List.mem_of_getElem? (i := 47) rfl))) Via.refl SC rfl (hb hby d30_0) (fun T2 W2 => ?_)
  show Go p e below _ (T2.setTop (mkF m 3 #[.val (.ref a1), .val (.ref x2)] [(.int zc)]))
  refine Go.of (t' := T2.setTop (mkF m 6 #[.val (.ref a1), .val (.ref x2)] [])) (fun _ kk => XS.ifNo W2.here hx rfl (hb hby d30_3) rfl (XT.i0_eq_f hzc) kk) ?_
  refine Go.of (t' := T2.setTop (mkF m 7 #[.val (.ref a1), .val (.ref x2)] [(.ref a1)])) (fun _ kk => XS.aloadN W2.here hx rfl (hb hby d30_6) rfl rfl kk) ?_
  refine W2.getF hx (host := "") (Or.inl (hw _ (List.mem_of_getElem? (i := 50) rfl))) Via.refl Fcp rfl rfl (hb hby d30_7) (fun T3 W3 => ?_)
  show Go p e below _ (T3.setTop (mkF m 10 #[.val (.ref a1), .val (.ref x2)] [(.int (0 : Int32))]))
  refine Go.of (t' := T3.setTop (mkF m 11 #[.val (.ref a1), .val (.ref x2)] [(.ref x2), (.int (0 : Int32))])) (fun _ kk => XS.aloadN W3.here hx rfl (hb hby d30_10) rfl rfl kk) ?_
  refine W3.callV hx hEL (hw _ (List.mem_of_getElem? (i := 92) rfl)) (hw _ (List.mem_of_getElem? (i := 71) rfl)) (hw _ (List.mem_of_getElem? (i := 73) rfl)) (hw _ (List.mem_of_getElem? (i := 72) rfl)) (hw _ (List.mem_of_getElem? (i := 2) rfl)) (hw _ (List.mem_of_getElem? (i := 74) rfl)) (by decide +kernel) E1 (a := x2) (argsL := []) (rest := [(.int (0 : Int32))]) (rm4 l Z a0 hw hEL zc SC hzc fm SF rfm x2 h0 W3.old Fc1) all0 (by decide +kernel) (Wd := 1) (by decide +kernel) (by decide +kernel) (by decide +kernel) all0 rfl (by rw [hml]; rfl) (lenOf pd2 rfl) rfl (by show 2 * 0 + _ ≤ _; exact Nat.le_of_eq rfl) (hb hby d30_11) (fun T4 h4 v4 P4 Ws4 K4 q4 => ?_)
  have W4 := Ws4 [] all0
  obtain ⟨rfl, rfl⟩ := q4
  show Go p e below _ (T4.setTop (mkF m 14 #[.val (.ref a1), .val (.ref x2)] [(.int (0 : Int32)), (.int (0 : Int32))]))
  refine Go.of (t' := T4.setTop (mkF m 21 #[.val (.ref a1), .val (.ref x2)] [])) (fun _ kk => XS.icmpYes W4.here hx rfl (pc0 := 14) (pc' := 21) rfl (hb hby d30_14) rfl (XT.ii_eq_t (by decide +kernel)) (by decide +kernel) (by decide +kernel) kk) ?_
  exact W4.retV hx hEL hs hlk (by decide +kernel) (by decide +kernel) hret (hb hby d30_21) (fun S hS => ⟨rfl, rfl⟩)
theorem d31_0 : decode jdk_68_method_71_code 0 = .ok (.getstatic 18, 3) := by decide +kernel
theorem d31_3 : decode jdk_68_method_71_code 3 = .ok (.ifCond .eq 18, 3) := by decide +kernel
theorem d31_6 : decode jdk_68_method_71_code 6 = .ok (.aload_n 0, 1) := by decide +kernel
theorem d31_7 : decode jdk_68_method_71_code 7 = .ok (.getfield 22, 3) := by decide +kernel
theorem d31_10 : decode jdk_68_method_71_code 10 = .ok (.aload_n 1, 1) := by decide +kernel
theorem d31_11 : decode jdk_68_method_71_code 11 = .ok (.invokevirtual 40, 3) := by decide +kernel
theorem d31_14 : decode jdk_68_method_71_code 14 = .ok (.if_icmp .eq 7, 3) := by decide +kernel
theorem d31_21 : decode jdk_68_method_71_code 21 = .ok (.return_, 1) := by decide +kernel
theorem ef31 (m : MethodId) (x0 : Addr) (x1 : Addr)  : entryFrame m #[(.ref x0), (.ref x1)] 2 = mkF m 0 #[.val (.ref x0), .val (.ref x1)] [] := by first | (simp [entryFrame, mkF, argsToLocals, Value.category]; done) | rfl | rfl
set_option maxRecDepth 65536 in
set_option maxHeartbeats 40000000 in
theorem rm31 (l : Launch) (Z : State) (a0 : Array Value) (hw : ∀ d ∈ tables_1, d.before a0 Z = true) (hEL : EW Z a0 EL0) (zc : Int32) (SC : Sta Z Z.heap "java/lang/String" "COMPACT_STRINGS" "Z" (.int zc)) (hzc : ¬ zc = 0) (fm : Value) (SF : Sta Z Z.heap "jdk/internal/util/Preconditions" "SIOOBE_FORMATTER" "Ljava/util/function/BiFunction;" fm) (rfm : fm.isRef = true) (a1 : Addr) (x2 : Addr) (q1 : Int32) (h0 : Heap) {n0 : Nat} (O0 : Old Z n0 h0) (Eb : Exa Z h0 a1 "java/lang/StringBuilder") (Fcp : Fld Z h0 a1 "java/lang/AbstractStringBuilder" "coder" "B" (.int (0 : Int32))) (Sa : Str Z h0 x2 [q1]) (cq1 : ¬ q1 < 0 ∧ ¬ (255 : Int32) < q1) :
    Met l Z EL0 n0 (⟨"java/lang/AbstractStringBuilder", "inflateIfNeededFor", "(Ljava/lang/String;)V"⟩ : MethodName) jdk_68_method_71_code 2 none [] ({ frames := 1, cells := 0, slots := 0, locals := 13 } : Room) #[(.ref a1), (.ref x2)] h0 [] [] (fun v h' S => v = none ∧ h0 = h') := by
  refine Met.of (plainFor_of_name pn0) O0 ?_
  intro p e s m below meth c T0 hx hby hml hret hlk hnm hs W0
  have W0 : Wk p l e _ s m _ below meth c Z EL0 n0 [] "java/lang/AbstractStringBuilder" [] T0 0 0 h0 := W0
  have hSA := fun d hd => hw d (sa_in d hd)
  have hws := fun d hd => hw d (ws_in d hd)
  have hln := fun d hd => hw d (ln_in d hd)
  have heq := fun d hd => hw d (eq_in d hd)
  refine Go.of (fun _ kk => castTop (ef31 m a1 x2) kk) ?_
  show Go p e below _ (T0.setTop (mkF m 0 #[.val (.ref a1), .val (.ref x2)] []))
  obtain ⟨t1, kb1, E1, Fv1, Fc1, A1⟩ := Sa.open_ (snd255 (allSi cq1 all0i))
  have V1 : Arv Z h0 t1 kb1 .byte (1 : Int32) [(.int (StrChars.lo8 q1))] (.int (0 : Int32)) := A1
  refine W0.getS hx (host := "") (Or.inl (hw _ (List.mem_of_getElem? (i := 47) rfl))) Via.refl SC rfl (hb hby d31_0) (fun T2 W2 => ?_)
  show Go p e below _ (T2.setTop (mkF m 3 #[.val (.ref a1), .val (.ref x2)] [(.int zc)]))
  refine Go.of (t' := T2.setTop (mkF m 6 #[.val (.ref a1), .val (.ref x2)] [])) (fun _ kk => XS.ifNo W2.here hx rfl (hb hby d31_3) rfl (XT.i0_eq_f hzc) kk) ?_
  refine Go.of (t' := T2.setTop (mkF m 7 #[.val (.ref a1), .val (.ref x2)] [(.ref a1)])) (fun _ kk => XS.aloadN W2.here hx rfl (hb hby d31_6) rfl rfl kk) ?_
  refine W2.getF hx (host := "") (Or.inl (hw _ (List.mem_of_getElem? (i := 50) rfl))) Via.refl Fcp rfl rfl (hb hby d31_7) (fun T3 W3 => ?_)
  show Go p e below _ (T3.setTop (mkF m 10 #[.val (.ref a1), .val (.ref x2)] [(.int (0 : Int32))]))
  refine Go.of (t' := T3.setTop (mkF m 11 #[.val (.ref a1), .val (.ref x2)] [(.ref x2), (.int (0 : Int32))])) (fun _ kk => XS.aloadN W3.here hx rfl (hb hby d31_10) rfl rfl kk) ?_
  refine W3.callV hx hEL (hw _ (List.mem_of_getElem? (i := 92) rfl)) (hw _ (List.mem_of_getElem? (i := 71) rfl)) (hw _ (List.mem_of_getElem? (i := 73) rfl)) (hw _ (List.mem_of_getElem? (i := 72) rfl)) (hw _ (List.mem_of_getElem? (i := 2) rfl)) (hw _ (List.mem_of_getElem? (i := 74) rfl)) (by decide +kernel) E1 (a := x2) (argsL := []) (rest := [(.int (0 : Int32))]) (rm4 l Z a0 hw hEL zc SC hzc fm SF rfm x2 h0 W3.old Fc1) all0 (by decide +kernel) (Wd := 1) (by decide +kernel) (by decide +kernel) (by decide +kernel) all0 rfl (by rw [hml]; rfl) (lenOf pd2 rfl) rfl (by show 2 * 0 + _ ≤ _; exact Nat.le_of_eq rfl) (hb hby d31_11) (fun T4 h4 v4 P4 Ws4 K4 q4 => ?_)
  have W4 := Ws4 [] all0
  obtain ⟨rfl, rfl⟩ := q4
  show Go p e below _ (T4.setTop (mkF m 14 #[.val (.ref a1), .val (.ref x2)] [(.int (0 : Int32)), (.int (0 : Int32))]))
  refine Go.of (t' := T4.setTop (mkF m 21 #[.val (.ref a1), .val (.ref x2)] [])) (fun _ kk => XS.icmpYes W4.here hx rfl (pc0 := 14) (pc' := 21) rfl (hb hby d31_14) rfl (XT.ii_eq_t (by decide +kernel)) (by decide +kernel) (by decide +kernel) kk) ?_
  exact W4.retV hx hEL hs hlk (by decide +kernel) (by decide +kernel) hret (hb hby d31_21) (fun S hS => ⟨rfl, rfl⟩)
theorem d32_0 : decode jdk_68_method_71_code 0 = .ok (.getstatic 18, 3) := by decide +kernel
theorem d32_3 : decode jdk_68_method_71_code 3 = .ok (.ifCond .eq 18, 3) := by decide +kernel
theorem d32_6 : decode jdk_68_method_71_code 6 = .ok (.aload_n 0, 1) := by decide +kernel
theorem d32_7 : decode jdk_68_method_71_code 7 = .ok (.getfield 22, 3) := by decide +kernel
theorem d32_10 : decode jdk_68_method_71_code 10 = .ok (.aload_n 1, 1) := by decide +kernel
theorem d32_11 : decode jdk_68_method_71_code 11 = .ok (.invokevirtual 40, 3) := by decide +kernel
theorem d32_14 : decode jdk_68_method_71_code 14 = .ok (.if_icmp .eq 7, 3) := by decide +kernel
theorem d32_21 : decode jdk_68_method_71_code 21 = .ok (.return_, 1) := by decide +kernel
theorem ef32 (m : MethodId) (x0 : Addr) (x1 : Addr)  : entryFrame m #[(.ref x0), (.ref x1)] 2 = mkF m 0 #[.val (.ref x0), .val (.ref x1)] [] := by first | (simp [entryFrame, mkF, argsToLocals, Value.category]; done) | rfl | rfl
set_option maxRecDepth 65536 in
set_option maxHeartbeats 40000000 in
theorem rm32 (l : Launch) (Z : State) (a0 : Array Value) (hw : ∀ d ∈ tables_1, d.before a0 Z = true) (hEL : EW Z a0 EL0) (zc : Int32) (SC : Sta Z Z.heap "java/lang/String" "COMPACT_STRINGS" "Z" (.int zc)) (hzc : ¬ zc = 0) (fm : Value) (SF : Sta Z Z.heap "jdk/internal/util/Preconditions" "SIOOBE_FORMATTER" "Ljava/util/function/BiFunction;" fm) (rfm : fm.isRef = true) (a1 : Addr) (x2 : Addr) (q1 : Int32) (q2 : Int32) (h0 : Heap) {n0 : Nat} (O0 : Old Z n0 h0) (Eb : Exa Z h0 a1 "java/lang/StringBuilder") (Fcp : Fld Z h0 a1 "java/lang/AbstractStringBuilder" "coder" "B" (.int (0 : Int32))) (Sa : Str Z h0 x2 [q1, q2]) (cq1 : ¬ q1 < 0 ∧ ¬ (255 : Int32) < q1) (cq2 : ¬ q2 < 0 ∧ ¬ (255 : Int32) < q2) :
    Met l Z EL0 n0 (⟨"java/lang/AbstractStringBuilder", "inflateIfNeededFor", "(Ljava/lang/String;)V"⟩ : MethodName) jdk_68_method_71_code 2 none [] ({ frames := 1, cells := 0, slots := 0, locals := 13 } : Room) #[(.ref a1), (.ref x2)] h0 [] [] (fun v h' S => v = none ∧ h0 = h') := by
  refine Met.of (plainFor_of_name pn0) O0 ?_
  intro p e s m below meth c T0 hx hby hml hret hlk hnm hs W0
  have W0 : Wk p l e _ s m _ below meth c Z EL0 n0 [] "java/lang/AbstractStringBuilder" [] T0 0 0 h0 := W0
  have hSA := fun d hd => hw d (sa_in d hd)
  have hws := fun d hd => hw d (ws_in d hd)
  have hln := fun d hd => hw d (ln_in d hd)
  have heq := fun d hd => hw d (eq_in d hd)
  refine Go.of (fun _ kk => castTop (ef32 m a1 x2) kk) ?_
  show Go p e below _ (T0.setTop (mkF m 0 #[.val (.ref a1), .val (.ref x2)] []))
  obtain ⟨t1, kb1, E1, Fv1, Fc1, A1⟩ := Sa.open_ (snd255 (allSi cq1 (allSi cq2 all0i)))
  have V1 : Arv Z h0 t1 kb1 .byte (2 : Int32) [(.int (StrChars.lo8 q1)), (.int (StrChars.lo8 q2))] (.int (0 : Int32)) := A1
  refine W0.getS hx (host := "") (Or.inl (hw _ (List.mem_of_getElem? (i := 47) rfl))) Via.refl SC rfl (hb hby d32_0) (fun T2 W2 => ?_)
  show Go p e below _ (T2.setTop (mkF m 3 #[.val (.ref a1), .val (.ref x2)] [(.int zc)]))
  refine Go.of (t' := T2.setTop (mkF m 6 #[.val (.ref a1), .val (.ref x2)] [])) (fun _ kk => XS.ifNo W2.here hx rfl (hb hby d32_3) rfl (XT.i0_eq_f hzc) kk) ?_
  refine Go.of (t' := T2.setTop (mkF m 7 #[.val (.ref a1), .val (.ref x2)] [(.ref a1)])) (fun _ kk => XS.aloadN W2.here hx rfl (hb hby d32_6) rfl rfl kk) ?_
  refine W2.getF hx (host := "") (Or.inl (hw _ (List.mem_of_getElem? (i := 50) rfl))) Via.refl Fcp rfl rfl (hb hby d32_7) (fun T3 W3 => ?_)
  show Go p e below _ (T3.setTop (mkF m 10 #[.val (.ref a1), .val (.ref x2)] [(.int (0 : Int32))]))
  refine Go.of (t' := T3.setTop (mkF m 11 #[.val (.ref a1), .val (.ref x2)] [(.ref x2), (.int (0 : Int32))])) (fun _ kk => XS.aloadN W3.here hx rfl (hb hby d32_10) rfl rfl kk) ?_
  refine W3.callV hx hEL (hw _ (List.mem_of_getElem? (i := 92) rfl)) (hw _ (List.mem_of_getElem? (i := 71) rfl)) (hw _ (List.mem_of_getElem? (i := 73) rfl)) (hw _ (List.mem_of_getElem? (i := 72) rfl)) (hw _ (List.mem_of_getElem? (i := 2) rfl)) (hw _ (List.mem_of_getElem? (i := 74) rfl)) (by decide +kernel) E1 (a := x2) (argsL := []) (rest := [(.int (0 : Int32))]) (rm4 l Z a0 hw hEL zc SC hzc fm SF rfm x2 h0 W3.old Fc1) all0 (by decide +kernel) (Wd := 1) (by decide +kernel) (by decide +kernel) (by decide +kernel) all0 rfl (by rw [hml]; rfl) (lenOf pd2 rfl) rfl (by show 2 * 0 + _ ≤ _; exact Nat.le_of_eq rfl) (hb hby d32_11) (fun T4 h4 v4 P4 Ws4 K4 q4 => ?_)
  have W4 := Ws4 [] all0
  obtain ⟨rfl, rfl⟩ := q4
  show Go p e below _ (T4.setTop (mkF m 14 #[.val (.ref a1), .val (.ref x2)] [(.int (0 : Int32)), (.int (0 : Int32))]))
  refine Go.of (t' := T4.setTop (mkF m 21 #[.val (.ref a1), .val (.ref x2)] [])) (fun _ kk => XS.icmpYes W4.here hx rfl (pc0 := 14) (pc' := 21) rfl (hb hby d32_14) rfl (XT.ii_eq_t (by decide +kernel)) (by decide +kernel) (by decide +kernel) kk) ?_
  exact W4.retV hx hEL hs hlk (by decide +kernel) (by decide +kernel) hret (hb hby d32_21) (fun S hS => ⟨rfl, rfl⟩)
theorem d33_0 : decode jdk_68_method_71_code 0 = .ok (.getstatic 18, 3) := by decide +kernel
theorem d33_3 : decode jdk_68_method_71_code 3 = .ok (.ifCond .eq 18, 3) := by decide +kernel
theorem d33_6 : decode jdk_68_method_71_code 6 = .ok (.aload_n 0, 1) := by decide +kernel
theorem d33_7 : decode jdk_68_method_71_code 7 = .ok (.getfield 22, 3) := by decide +kernel
theorem d33_10 : decode jdk_68_method_71_code 10 = .ok (.aload_n 1, 1) := by decide +kernel
theorem d33_11 : decode jdk_68_method_71_code 11 = .ok (.invokevirtual 40, 3) := by decide +kernel
theorem d33_14 : decode jdk_68_method_71_code 14 = .ok (.if_icmp .eq 7, 3) := by decide +kernel
theorem d33_21 : decode jdk_68_method_71_code 21 = .ok (.return_, 1) := by decide +kernel
theorem ef33 (m : MethodId) (x0 : Addr) (x1 : Addr)  : entryFrame m #[(.ref x0), (.ref x1)] 2 = mkF m 0 #[.val (.ref x0), .val (.ref x1)] [] := by first | (simp [entryFrame, mkF, argsToLocals, Value.category]; done) | rfl | rfl
set_option maxRecDepth 65536 in
set_option maxHeartbeats 40000000 in
theorem rm33 (l : Launch) (Z : State) (a0 : Array Value) (hw : ∀ d ∈ tables_1, d.before a0 Z = true) (hEL : EW Z a0 EL0) (zc : Int32) (SC : Sta Z Z.heap "java/lang/String" "COMPACT_STRINGS" "Z" (.int zc)) (hzc : ¬ zc = 0) (fm : Value) (SF : Sta Z Z.heap "jdk/internal/util/Preconditions" "SIOOBE_FORMATTER" "Ljava/util/function/BiFunction;" fm) (rfm : fm.isRef = true) (a1 : Addr) (x2 : Addr) (q1 : Int32) (q2 : Int32) (q3 : Int32) (h0 : Heap) {n0 : Nat} (O0 : Old Z n0 h0) (Eb : Exa Z h0 a1 "java/lang/StringBuilder") (Fcp : Fld Z h0 a1 "java/lang/AbstractStringBuilder" "coder" "B" (.int (0 : Int32))) (Sa : Str Z h0 x2 [q1, q2, q3]) (cq1 : ¬ q1 < 0 ∧ ¬ (255 : Int32) < q1) (cq2 : ¬ q2 < 0 ∧ ¬ (255 : Int32) < q2) (cq3 : ¬ q3 < 0 ∧ ¬ (255 : Int32) < q3) :
    Met l Z EL0 n0 (⟨"java/lang/AbstractStringBuilder", "inflateIfNeededFor", "(Ljava/lang/String;)V"⟩ : MethodName) jdk_68_method_71_code 2 none [] ({ frames := 1, cells := 0, slots := 0, locals := 13 } : Room) #[(.ref a1), (.ref x2)] h0 [] [] (fun v h' S => v = none ∧ h0 = h') := by
  refine Met.of (plainFor_of_name pn0) O0 ?_
  intro p e s m below meth c T0 hx hby hml hret hlk hnm hs W0
  have W0 : Wk p l e _ s m _ below meth c Z EL0 n0 [] "java/lang/AbstractStringBuilder" [] T0 0 0 h0 := W0
  have hSA := fun d hd => hw d (sa_in d hd)
  have hws := fun d hd => hw d (ws_in d hd)
  have hln := fun d hd => hw d (ln_in d hd)
  have heq := fun d hd => hw d (eq_in d hd)
  refine Go.of (fun _ kk => castTop (ef33 m a1 x2) kk) ?_
  show Go p e below _ (T0.setTop (mkF m 0 #[.val (.ref a1), .val (.ref x2)] []))
  obtain ⟨t1, kb1, E1, Fv1, Fc1, A1⟩ := Sa.open_ (snd255 (allSi cq1 (allSi cq2 (allSi cq3 all0i))))
  have V1 : Arv Z h0 t1 kb1 .byte (3 : Int32) [(.int (StrChars.lo8 q1)), (.int (StrChars.lo8 q2)), (.int (StrChars.lo8 q3))] (.int (0 : Int32)) := A1
  refine W0.getS hx (host := "") (Or.inl (hw _ (List.mem_of_getElem? (i := 47) rfl))) Via.refl SC rfl (hb hby d33_0) (fun T2 W2 => ?_)
  show Go p e below _ (T2.setTop (mkF m 3 #[.val (.ref a1), .val (.ref x2)] [(.int zc)]))
  refine Go.of (t' := T2.setTop (mkF m 6 #[.val (.ref a1), .val (.ref x2)] [])) (fun _ kk => XS.ifNo W2.here hx rfl (hb hby d33_3) rfl (XT.i0_eq_f hzc) kk) ?_
  refine Go.of (t' := T2.setTop (mkF m 7 #[.val (.ref a1), .val (.ref x2)] [(.ref a1)])) (fun _ kk => XS.aloadN W2.here hx rfl (hb hby d33_6) rfl rfl kk) ?_
  refine W2.getF hx (host := "") (Or.inl (hw _ (List.mem_of_getElem? (i := 50) rfl))) Via.refl Fcp rfl rfl (hb hby d33_7) (fun T3 W3 => ?_)
  show Go p e below _ (T3.setTop (mkF m 10 #[.val (.ref a1), .val (.ref x2)] [(.int (0 : Int32))]))
  refine Go.of (t' := T3.setTop (mkF m 11 #[.val (.ref a1), .val (.ref x2)] [(.ref x2), (.int (0 : Int32))])) (fun _ kk => XS.aloadN W3.here hx rfl (hb hby d33_10) rfl rfl kk) ?_
  refine W3.callV hx hEL (hw _ (List.mem_of_getElem? (i := 92) rfl)) (hw _ (List.mem_of_getElem? (i := 71) rfl)) (hw _ (List.mem_of_getElem? (i := 73) rfl)) (hw _ (List.mem_of_getElem? (i := 72) rfl)) (hw _ (List.mem_of_getElem? (i := 2) rfl)) (hw _ (List.mem_of_getElem? (i := 74) rfl)) (by decide +kernel) E1 (a := x2) (argsL := []) (rest := [(.int (0 : Int32))]) (rm4 l Z a0 hw hEL zc SC hzc fm SF rfm x2 h0 W3.old Fc1) all0 (by decide +kernel) (Wd := 1) (by decide +kernel) (by decide +kernel) (by decide +kernel) all0 rfl (by rw [hml]; rfl) (lenOf pd2 rfl) rfl (by show 2 * 0 + _ ≤ _; exact Nat.le_of_eq rfl) (hb hby d33_11) (fun T4 h4 v4 P4 Ws4 K4 q4 => ?_)
  have W4 := Ws4 [] all0
  obtain ⟨rfl, rfl⟩ := q4
  show Go p e below _ (T4.setTop (mkF m 14 #[.val (.ref a1), .val (.ref x2)] [(.int (0 : Int32)), (.int (0 : Int32))]))
  refine Go.of (t' := T4.setTop (mkF m 21 #[.val (.ref a1), .val (.ref x2)] [])) (fun _ kk => XS.icmpYes W4.here hx rfl (pc0 := 14) (pc' := 21) rfl (hb hby d33_14) rfl (XT.ii_eq_t (by decide +kernel)) (by decide +kernel) (by decide +kernel) kk) ?_
  exact W4.retV hx hEL hs hlk (by decide +kernel) (by decide +kernel) hret (hb hby d33_21) (fun S hS => ⟨rfl, rfl⟩)
theorem d35_0 : decode jdk_68_method_71_code 0 = .ok (.getstatic 18, 3) := by decide +kernel
theorem d35_3 : decode jdk_68_method_71_code 3 = .ok (.ifCond .eq 18, 3) := by decide +kernel
theorem d35_6 : decode jdk_68_method_71_code 6 = .ok (.aload_n 0, 1) := by decide +kernel
theorem d35_7 : decode jdk_68_method_71_code 7 = .ok (.getfield 22, 3) := by decide +kernel
theorem d35_10 : decode jdk_68_method_71_code 10 = .ok (.aload_n 1, 1) := by decide +kernel
theorem d35_11 : decode jdk_68_method_71_code 11 = .ok (.invokevirtual 40, 3) := by decide +kernel
theorem d35_14 : decode jdk_68_method_71_code 14 = .ok (.if_icmp .eq 7, 3) := by decide +kernel
theorem d35_21 : decode jdk_68_method_71_code 21 = .ok (.return_, 1) := by decide +kernel
theorem ef35 (m : MethodId) (x0 : Addr) (x1 : Addr)  : entryFrame m #[(.ref x0), (.ref x1)] 2 = mkF m 0 #[.val (.ref x0), .val (.ref x1)] [] := by first | (simp [entryFrame, mkF, argsToLocals, Value.category]; done) | rfl | rfl
set_option maxRecDepth 65536 in
set_option maxHeartbeats 40000000 in
theorem rm35 (l : Launch) (Z : State) (a0 : Array Value) (hw : ∀ d ∈ tables_1, d.before a0 Z = true) (hEL : EW Z a0 EL0) (zc : Int32) (SC : Sta Z Z.heap "java/lang/String" "COMPACT_STRINGS" "Z" (.int zc)) (hzc : ¬ zc = 0) (fm : Value) (SF : Sta Z Z.heap "jdk/internal/util/Preconditions" "SIOOBE_FORMATTER" "Ljava/util/function/BiFunction;" fm) (rfm : fm.isRef = true) (a1 : Addr) (x2 : Addr) (q1 : Int32) (q2 : Int32) (q3 : Int32) (q4 : Int32) (q5 : Int32) (h0 : Heap) {n0 : Nat} (O0 : Old Z n0 h0) (Eb : Exa Z h0 a1 "java/lang/StringBuilder") (Fcp : Fld Z h0 a1 "java/lang/AbstractStringBuilder" "coder" "B" (.int (0 : Int32))) (Sa : Str Z h0 x2 [q1, q2, q3, q4, q5]) (cq1 : ¬ q1 < 0 ∧ ¬ (255 : Int32) < q1) (cq2 : ¬ q2 < 0 ∧ ¬ (255 : Int32) < q2) (cq3 : ¬ q3 < 0 ∧ ¬ (255 : Int32) < q3) (cq4 : ¬ q4 < 0 ∧ ¬ (255 : Int32) < q4) (cq5 : ¬ q5 < 0 ∧ ¬ (255 : Int32) < q5) :
    Met l Z EL0 n0 (⟨"java/lang/AbstractStringBuilder", "inflateIfNeededFor", "(Ljava/lang/String;)V"⟩ : MethodName) jdk_68_method_71_code 2 none [] ({ frames := 1, cells := 0, slots := 0, locals := 13 } : Room) #[(.ref a1), (.ref x2)] h0 [] [] (fun v h' S => v = none ∧ h0 = h') := by
  refine Met.of (plainFor_of_name pn0) O0 ?_
  intro p e s m below meth c T0 hx hby hml hret hlk hnm hs W0
  have W0 : Wk p l e _ s m _ below meth c Z EL0 n0 [] "java/lang/AbstractStringBuilder" [] T0 0 0 h0 := W0
  have hSA := fun d hd => hw d (sa_in d hd)
  have hws := fun d hd => hw d (ws_in d hd)
  have hln := fun d hd => hw d (ln_in d hd)
  have heq := fun d hd => hw d (eq_in d hd)
  refine Go.of (fun _ kk => castTop (ef35 m a1 x2) kk) ?_
  show Go p e below _ (T0.setTop (mkF m 0 #[.val (.ref a1), .val (.ref x2)] []))
  obtain ⟨t1, kb1, E1, Fv1, Fc1, A1⟩ := Sa.open_ (snd255 (allSi cq1 (allSi cq2 (allSi cq3 (allSi cq4 (allSi cq5 all0i))))))
  have V1 : Arv Z h0 t1 kb1 .byte (5 : Int32) [(.int (StrChars.lo8 q1)), (.int (StrChars.lo8 q2)), (.int (StrChars.lo8 q3)), (.int (StrChars.lo8 q4)), (.int (StrChars.lo8 q5))] (.int (0 : Int32)) := A1
  refine W0.getS hx (host := "") (Or.inl (hw _ (List.mem_of_getElem? (i := 47) rfl))) Via.refl SC rfl (hb hby d35_0) (fun T2 W2 => ?_)
  show Go p e below _ (T2.setTop (mkF m 3 #[.val (.ref a1), .val (.ref x2)] [(.int zc)]))
  refine Go.of (t' := T2.setTop (mkF m 6 #[.val (.ref a1), .val (.ref x2)] [])) (fun _ kk => XS.ifNo W2.here hx rfl (hb hby d35_3) rfl (XT.i0_eq_f hzc) kk) ?_
  refine Go.of (t' := T2.setTop (mkF m 7 #[.val (.ref a1), .val (.ref x2)] [(.ref a1)])) (fun _ kk => XS.aloadN W2.here hx rfl (hb hby d35_6) rfl rfl kk) ?_
  refine W2.getF hx (host := "") (Or.inl (hw _ (List.mem_of_getElem? (i := 50) rfl))) Via.refl Fcp rfl rfl (hb hby d35_7) (fun T3 W3 => ?_)
  show Go p e below _ (T3.setTop (mkF m 10 #[.val (.ref a1), .val (.ref x2)] [(.int (0 : Int32))]))
  refine Go.of (t' := T3.setTop (mkF m 11 #[.val (.ref a1), .val (.ref x2)] [(.ref x2), (.int (0 : Int32))])) (fun _ kk => XS.aloadN W3.here hx rfl (hb hby d35_10) rfl rfl kk) ?_
  refine W3.callV hx hEL (hw _ (List.mem_of_getElem? (i := 92) rfl)) (hw _ (List.mem_of_getElem? (i := 71) rfl)) (hw _ (List.mem_of_getElem? (i := 73) rfl)) (hw _ (List.mem_of_getElem? (i := 72) rfl)) (hw _ (List.mem_of_getElem? (i := 2) rfl)) (hw _ (List.mem_of_getElem? (i := 74) rfl)) (by decide +kernel) E1 (a := x2) (argsL := []) (rest := [(.int (0 : Int32))]) (rm4 l Z a0 hw hEL zc SC hzc fm SF rfm x2 h0 W3.old Fc1) all0 (by decide +kernel) (Wd := 1) (by decide +kernel) (by decide +kernel) (by decide +kernel) all0 rfl (by rw [hml]; rfl) (lenOf pd2 rfl) rfl (by show 2 * 0 + _ ≤ _; exact Nat.le_of_eq rfl) (hb hby d35_11) (fun T4 h4 v4 P4 Ws4 K4 q4 => ?_)
  have W4 := Ws4 [] all0
  obtain ⟨rfl, rfl⟩ := q4
  show Go p e below _ (T4.setTop (mkF m 14 #[.val (.ref a1), .val (.ref x2)] [(.int (0 : Int32)), (.int (0 : Int32))]))
  refine Go.of (t' := T4.setTop (mkF m 21 #[.val (.ref a1), .val (.ref x2)] [])) (fun _ kk => XS.icmpYes W4.here hx rfl (pc0 := 14) (pc' := 21) rfl (hb hby d35_14) rfl (XT.ii_eq_t (by decide +kernel)) (by decide +kernel) (by decide +kernel) kk) ?_
  exact W4.retV hx hEL hs hlk (by decide +kernel) (by decide +kernel) hret (hb hby d35_21) (fun S hS => ⟨rfl, rfl⟩)
theorem d100_0 : decode jdk_42_method_147_code 0 = .ok (.aload_n 0, 1) := by decide +kernel
theorem d100_1 : decode jdk_42_method_147_code 1 = .ok (.invokevirtual 335, 3) := by decide +kernel
theorem d100_4 : decode jdk_42_method_147_code 4 = .ok (.iload_n 3, 1) := by decide +kernel
theorem d100_5 : decode jdk_42_method_147_code 5 = .ok (.if_icmp .ne 23, 3) := by decide +kernel
theorem d100_8 : decode jdk_42_method_147_code 8 = .ok (.aload_n 0, 1) := by decide +kernel
theorem d100_9 : decode jdk_42_method_147_code 9 = .ok (.getfield 9, 3) := by decide +kernel
theorem d100_12 : decode jdk_42_method_147_code 12 = .ok (.iconst 0, 1) := by decide +kernel
theorem d100_13 : decode jdk_42_method_147_code 13 = .ok (.aload_n 1, 1) := by decide +kernel
theorem d100_14 : decode jdk_42_method_147_code 14 = .ok (.iload_n 2, 1) := by decide +kernel
theorem d100_15 : decode jdk_42_method_147_code 15 = .ok (.iload_n 3, 1) := by decide +kernel
theorem d100_16 : decode jdk_42_method_147_code 16 = .ok (.ishl, 1) := by decide +kernel
theorem d100_17 : decode jdk_42_method_147_code 17 = .ok (.aload_n 0, 1) := by decide +kernel
theorem d100_18 : decode jdk_42_method_147_code 18 = .ok (.getfield 9, 3) := by decide +kernel
theorem d100_21 : decode jdk_42_method_147_code 21 = .ok (.arraylength, 1) := by decide +kernel
theorem d100_22 : decode jdk_42_method_147_code 22 = .ok (.invokestatic 212, 3) := by decide +kernel
theorem d100_25 : decode jdk_42_method_147_code 25 = .ok (.goto 18, 3) := by decide +kernel
theorem d100_43 : decode jdk_42_method_147_code 43 = .ok (.return_, 1) := by decide +kernel
theorem ef100 (m : MethodId) (x0 : Addr) (x1 : Addr) (x2 : Int32) (x3 : Int32)  : entryFrame m #[(.ref x0), (.ref x1), (.int x2), (.int x3)] 4 = mkF m 0 #[.val (.ref x0), .val (.ref x1), .val (.int x2), .val (.int x3)] [] := by first | (simp [entryFrame, mkF, argsToLocals, Value.category]; done) | rfl | rfl
set_option maxRecDepth 65536 in
set_option maxHeartbeats 40000000 in
theorem rm100 (l : Launch) (Z : State) (a0 : Array Value) (hw : ∀ d ∈ tables_1, d.before a0 Z = true) (hEL : EW Z a0 EL0) (zc : Int32) (SC : Sta Z Z.heap "java/lang/String" "COMPACT_STRINGS" "Z" (.int zc)) (hzc : ¬ zc = 0) (fm : Value) (SF : Sta Z Z.heap "jdk/internal/util/Preconditions" "SIOOBE_FORMATTER" "Ljava/util/function/BiFunction;" fm) (rfm : fm.isRef = true) (x2 : Addr) (t : Addr) (kc : ClassId) (by1 : Int32) (by2 : Int32) (by3 : Int32) (by4 : Int32) (by5 : Int32) (by6 : Int32) (by7 : Int32) (by8 : Int32) (by9 : Int32) (by10 : Int32) (by11 : Int32) (by12 : Int32) (by13 : Int32) (by14 : Int32) (by15 : Int32) (by16 : Int32) (q1 : Int32) (q2 : Int32) (q3 : Int32) (q4 : Int32) (q5 : Int32) (h0 : Heap) {n0 : Nat} (O0 : Old Z n0 h0) (Sa : Str Z h0 x2 [q1, q2, q3, q4, q5]) (cq1 : ¬ q1 < 0 ∧ ¬ (255 : Int32) < q1) (cq2 : ¬ q2 < 0 ∧ ¬ (255 : Int32) < q2) (cq3 : ¬ q3 < 0 ∧ ¬ (255 : Int32) < q3) (cq4 : ¬ q4 < 0 ∧ ¬ (255 : Int32) < q4) (cq5 : ¬ q5 < 0 ∧ ¬ (255 : Int32) < q5) (Ab : Arv Z h0 t kc .byte (16 : Int32) [(.int by1), (.int by2), (.int by3), (.int by4), (.int by5), (.int by6), (.int by7), (.int by8), (.int by9), (.int by10), (.int by11), (.int by12), (.int by13), (.int by14), (.int by15), (.int by16)] (.int (0 : Int32))) (g2 : n0 ≤ t) :
    Met l Z EL0 n0 (⟨"java/lang/String", "getBytes", "([BIB)V"⟩ : MethodName) jdk_42_method_147_code 4 none [] ({ frames := 1, cells := 0, slots := 0, locals := 18 } : Room) #[(.ref x2), (.ref t), (.int (0 : Int32)), (.int (0 : Int32))] h0 [t] [t] (fun v h' S => v = none ∧ Arv Z h' t kc .byte (16 : Int32) [(.int (StrChars.lo8 q1)), (.int (StrChars.lo8 q2)), (.int (StrChars.lo8 q3)), (.int (StrChars.lo8 q4)), (.int (StrChars.lo8 q5)), (.int by6), (.int by7), (.int by8), (.int by9), (.int by10), (.int by11), (.int by12), (.int by13), (.int by14), (.int by15), (.int by16)] (.int (0 : Int32))) := by
  refine Met.of (plainFor_of_name pn2) O0 ?_
  intro p e s m below meth c T0 hx hby hml hret hlk hnm hs W0
  have W0 : Wk p l e _ s m _ below meth c Z EL0 n0 [t] "java/lang/String" [t] T0 0 0 h0 := W0
  have hSA := fun d hd => hw d (sa_in d hd)
  have hws := fun d hd => hw d (ws_in d hd)
  have hln := fun d hd => hw d (ln_in d hd)
  have heq := fun d hd => hw d (eq_in d hd)
  refine Go.of (fun _ kk => castTop (ef100 m x2 t (0 : Int32) (0 : Int32)) kk) ?_
  show Go p e below _ (T0.setTop (mkF m 0 #[.val (.ref x2), .val (.ref t), .val (.int (0 : Int32)), .val (.int (0 : Int32))] []))
  obtain ⟨t1, kb1, E1, Fv1, Fc1, A1⟩ := Sa.open_ (snd255 (allSi cq1 (allSi cq2 (allSi cq3 (allSi cq4 (allSi cq5 all0i))))))
  have V1 : Arv Z h0 t1 kb1 .byte (5 : Int32) [(.int (StrChars.lo8 q1)), (.int (StrChars.lo8 q2)), (.int (StrChars.lo8 q3)), (.int (StrChars.lo8 q4)), (.int (StrChars.lo8 q5))] (.int (0 : Int32)) := A1
  refine Go.of (t' := T0.setTop (mkF m 1 #[.val (.ref x2), .val (.ref t), .val (.int (0 : Int32)), .val (.int (0 : Int32))] [(.ref x2)])) (fun _ kk => XS.aloadN W0.here hx rfl (hb hby d100_0) rfl rfl kk) ?_
  refine W0.callV hx hEL (hw _ (List.mem_of_getElem? (i := 70) rfl)) (hw _ (List.mem_of_getElem? (i := 71) rfl)) (hw _ (List.mem_of_getElem? (i := 73) rfl)) (hw _ (List.mem_of_getElem? (i := 72) rfl)) (hw _ (List.mem_of_getElem? (i := 2) rfl)) (hw _ (List.mem_of_getElem? (i := 74) rfl)) (by decide +kernel) E1 (a := x2) (argsL := []) (rest := []) (rm4 l Z a0 hw hEL zc SC hzc fm SF rfm x2 h0 W0.old Fc1) all0 (by decide +kernel) (Wd := 0) (by decide +kernel) (by decide +kernel) (by decide +kernel) all0 rfl (by rw [hml]; rfl) (lenOf pd2 rfl) rfl (by show 2 * 0 + _ ≤ _; exact Nat.le_of_eq rfl) (hb hby d100_1) (fun T2 h2 v2 P2 Ws2 K2 q2 => ?_)
  have W2 := Ws2 [] all0
  obtain ⟨rfl, rfl⟩ := q2
  show Go p e below _ (T2.setTop (mkF m 4 #[.val (.ref x2), .val (.ref t), .val (.int (0 : Int32)), .val (.int (0 : Int32))] [(.int (0 : Int32))]))
  refine Go.of (t' := T2.setTop (mkF m 5 #[.val (.ref x2), .val (.ref t), .val (.int (0 : Int32)), .val (.int (0 : Int32))] [(.int (0 : Int32)), (.int (0 : Int32))])) (fun _ kk => XS.iloadN W2.here hx rfl (hb hby d100_4) rfl kk) ?_
  refine Go.of (t' := T2.setTop (mkF m 8 #[.val (.ref x2), .val (.ref t), .val (.int (0 : Int32)), .val (.int (0 : Int32))] [])) (fun _ kk => XS.icmpNo W2.here hx rfl (hb hby d100_5) rfl (XT.ii_ne_f (by decide +kernel)) kk) ?_
  refine Go.of (t' := T2.setTop (mkF m 9 #[.val (.ref x2), .val (.ref t), .val (.int (0 : Int32)), .val (.int (0 : Int32))] [(.ref x2)])) (fun _ kk => XS.aloadN W2.here hx rfl (hb hby d100_8) rfl rfl kk) ?_
  refine W2.getF hx (host := "") (Or.inl (hw _ (List.mem_of_getElem? (i := 28) rfl))) Via.refl Fv1 rfl rfl (hb hby d100_9) (fun T3 W3 => ?_)
  show Go p e below _ (T3.setTop (mkF m 12 #[.val (.ref x2), .val (.ref t), .val (.int (0 : Int32)), .val (.int (0 : Int32))] [(.ref t1)]))
  refine Go.of (t' := T3.setTop (mkF m 13 #[.val (.ref x2), .val (.ref t), .val (.int (0 : Int32)), .val (.int (0 : Int32))] [(.int (0 : Int32)), (.ref t1)])) (fun _ kk => XS.iconst W3.here hx rfl (hb hby d100_12) kk) ?_
  refine Go.of (t' := T3.setTop (mkF m 14 #[.val (.ref x2), .val (.ref t), .val (.int (0 : Int32)), .val (.int (0 : Int32))] [(.ref t), (.int (0 : Int32)), (.ref t1)])) (fun _ kk => XS.aloadN W3.here hx rfl (hb hby d100_13) rfl rfl kk) ?_
  refine Go.of (t' := T3.setTop (mkF m 15 #[.val (.ref x2), .val (.ref t), .val (.int (0 : Int32)), .val (.int (0 : Int32))] [(.int (0 : Int32)), (.ref t), (.int (0 : Int32)), (.ref t1)])) (fun _ kk => XS.iloadN W3.here hx rfl (hb hby d100_14) rfl kk) ?_
  refine Go.of (t' := T3.setTop (mkF m 16 #[.val (.ref x2), .val (.ref t), .val (.int (0 : Int32)), .val (.int (0 : Int32))] [(.int (0 : Int32)), (.int (0 : Int32)), (.ref t), (.int (0 : Int32)), (.ref t1)])) (fun _ kk => XS.iloadN W3.here hx rfl (hb hby d100_15) rfl kk) ?_
  refine Go.of (t' := T3.setTop (mkF m 17 #[.val (.ref x2), .val (.ref t), .val (.int (0 : Int32)), .val (.int (0 : Int32))] [(.int (0 : Int32)), (.ref t), (.int (0 : Int32)), (.ref t1)])) (fun _ kk => XS.ishl W3.here hx rfl (hb hby d100_16) rfl kk) ?_
  refine Go.of (t' := T3.setTop (mkF m 18 #[.val (.ref x2), .val (.ref t), .val (.int (0 : Int32)), .val (.int (0 : Int32))] [(.ref x2), (.int (0 : Int32)), (.ref t), (.int (0 : Int32)), (.ref t1)])) (fun _ kk => XS.aloadN W3.here hx rfl (hb hby d100_17) rfl rfl kk) ?_
  refine W3.getF hx (host := "") (Or.inl (hw _ (List.mem_of_getElem? (i := 28) rfl))) Via.refl Fv1 rfl rfl (hb hby d100_18) (fun T4 W4 => ?_)
  show Go p e below _ (T4.setTop (mkF m 21 #[.val (.ref x2), .val (.ref t), .val (.int (0 : Int32)), .val (.int (0 : Int32))] [(.ref t1), (.int (0 : Int32)), (.ref t), (.int (0 : Int32)), (.ref t1)]))
  refine W4.alen hx V1 rfl rfl (hb hby d100_21) ?_
  show Go p e below _ (T4.setTop (mkF m 22 #[.val (.ref x2), .val (.ref t), .val (.int (0 : Int32)), .val (.int (0 : Int32))] [(.int (5 : Int32)), (.int (0 : Int32)), (.ref t), (.int (0 : Int32)), (.ref t1)]))
  refine W4.cp hx (hw _ (List.mem_of_getElem? (i := 98) rfl)) (hw _ (List.mem_of_getElem? (i := 101) rfl)) (hw _ (List.mem_of_getElem? (i := 99) rfl)) (hw _ (List.mem_of_getElem? (i := 100) rfl)) (us := [(.int (StrChars.lo8 q1)), (.int (StrChars.lo8 q2)), (.int (StrChars.lo8 q3)), (.int (StrChars.lo8 q4)), (.int (StrChars.lo8 q5))]) V1 Ab rfl (by decide) (by decide) (by decide) (by decide) (by decide) rfl (Nat.le_of_ble_eq_true rfl) g2 (Or.inl (List.mem_of_getElem? (i := 0) rfl)) (List.mem_of_getElem? (i := 0) rfl) rfl (by rw [hml]; rfl) rfl (hb hby d100_22) (by decide +kernel) (Wd := 0) (by show 2 * 0 + _ ≤ _; exact Nat.le_of_eq rfl) (by decide +kernel) (fun T5 h5 W5 K5 A5 => ?_)
  have V5 : Arv Z h5 t kc .byte (16 : Int32) [(.int (StrChars.lo8 q1)), (.int (StrChars.lo8 q2)), (.int (StrChars.lo8 q3)), (.int (StrChars.lo8 q4)), (.int (StrChars.lo8 q5)), (.int by6), (.int by7), (.int by8), (.int by9), (.int by10), (.int by11), (.int by12), (.int by13), (.int by14), (.int by15), (.int by16)] (.int (0 : Int32)) := A5
  show Go p e below _ (T5.setTop (mkF m 25 #[.val (.ref x2), .val (.ref t), .val (.int (0 : Int32)), .val (.int (0 : Int32))] []))
  refine Go.of (t' := T5.setTop (mkF m 43 #[.val (.ref x2), .val (.ref t), .val (.int (0 : Int32)), .val (.int (0 : Int32))] [])) (fun _ kk => XS.goto W5.here hx rfl (pc0 := 25) (pc' := 43) rfl (hb hby d100_25) (by decide +kernel) (by decide +kernel) kk) ?_
  exact W5.retV hx hEL hs hlk (by decide +kernel) (by decide +kernel) hret (hb hby d100_43) (fun S hS => ⟨rfl, V5⟩)
theorem d101_0 : decode jdk_68_method_73_code 0 = .ok (.aload_n 0, 1) := by decide +kernel
theorem d101_1 : decode jdk_68_method_73_code 1 = .ok (.aload_n 2, 1) := by decide +kernel
theorem d101_2 : decode jdk_68_method_73_code 2 = .ok (.invokevirtual 397, 3) := by decide +kernel
theorem d101_5 : decode jdk_68_method_73_code 5 = .ok (.aload_n 2, 1) := by decide +kernel
theorem d101_6 : decode jdk_68_method_73_code 6 = .ok (.aload_n 0, 1) := by decide +kernel
theorem d101_7 : decode jdk_68_method_73_code 7 = .ok (.getfield 15, 3) := by decide +kernel
theorem d101_10 : decode jdk_68_method_73_code 10 = .ok (.iload_n 1, 1) := by decide +kernel
theorem d101_11 : decode jdk_68_method_73_code 11 = .ok (.aload_n 0, 1) := by decide +kernel
theorem d101_12 : decode jdk_68_method_73_code 12 = .ok (.getfield 22, 3) := by decide +kernel
theorem d101_15 : decode jdk_68_method_73_code 15 = .ok (.invokevirtual 399, 3) := by decide +kernel
theorem d101_18 : decode jdk_68_method_73_code 18 = .ok (.return_, 1) := by decide +kernel
theorem ef101 (m : MethodId) (x0 : Addr) (x1 : Int32) (x2 : Addr)  : entryFrame m #[(.ref x0), (.int x1), (.ref x2)] 3 = mkF m 0 #[.val (.ref x0), .val (.int x1), .val (.ref x2)] [] := by first | (simp [entryFrame, mkF, argsToLocals, Value.category]; done) | rfl | rfl
set_option maxRecDepth 65536 in
set_option maxHeartbeats 40000000 in
theorem rm101 (l : Launch) (Z : State) (a0 : Array Value) (hw : ∀ d ∈ tables_1, d.before a0 Z = true) (hEL : EW Z a0 EL0) (zc : Int32) (SC : Sta Z Z.heap "java/lang/String" "COMPACT_STRINGS" "Z" (.int zc)) (hzc : ¬ zc = 0) (fm : Value) (SF : Sta Z Z.heap "jdk/internal/util/Preconditions" "SIOOBE_FORMATTER" "Ljava/util/function/BiFunction;" fm) (rfm : fm.isRef = true) (a1 : Addr) (x2 : Addr) (t : Addr) (kc : ClassId) (by1 : Int32) (by2 : Int32) (by3 : Int32) (by4 : Int32) (by5 : Int32) (by6 : Int32) (by7 : Int32) (by8 : Int32) (by9 : Int32) (by10 : Int32) (by11 : Int32) (by12 : Int32) (by13 : Int32) (by14 : Int32) (by15 : Int32) (by16 : Int32) (q1 : Int32) (q2 : Int32) (q3 : Int32) (q4 : Int32) (q5 : Int32) (h0 : Heap) {n0 : Nat} (O0 : Old Z n0 h0) (Eb : Exa Z h0 a1 "java/lang/StringBuilder") (Fvp : Fld Z h0 a1 "java/lang/AbstractStringBuilder" "value" "[B" (.ref t)) (Fcp : Fld Z h0 a1 "java/lang/AbstractStringBuilder" "coder" "B" (.int (0 : Int32))) (Ab : Arv Z h0 t kc .byte (16 : Int32) [(.int by1), (.int by2), (.int by3), (.int by4), (.int by5), (.int by6), (.int by7), (.int by8), (.int by9), (.int by10), (.int by11), (.int by12), (.int by13), (.int by14), (.int by15), (.int by16)] (.int (0 : Int32))) (g2 : n0 ≤ t) (Sa : Str Z h0 x2 [q1, q2, q3, q4, q5]) (cq1 : ¬ q1 < 0 ∧ ¬ (255 : Int32) < q1) (cq2 : ¬ q2 < 0 ∧ ¬ (255 : Int32) < q2) (cq3 : ¬ q3 < 0 ∧ ¬ (255 : Int32) < q3) (cq4 : ¬ q4 < 0 ∧ ¬ (255 : Int32) < q4) (cq5 : ¬ q5 < 0 ∧ ¬ (255 : Int32) < q5) :
    Met l Z EL0 n0 (⟨"java/lang/AbstractStringBuilder", "putStringAt", "(ILjava/lang/String;)V"⟩ : MethodName) jdk_68_method_73_code 3 none [] ({ frames := 2, cells := 0, slots := 0, locals := 33 } : Room) #[(.ref a1), (.int (0 : Int32)), (.ref x2)] h0 [t] [t] (fun v h' S => v = none ∧ Arv Z h' t kc .byte (16 : Int32) [(.int (StrChars.lo8 q1)), (.int (StrChars.lo8 q2)), (.int (StrChars.lo8 q3)), (.int (StrChars.lo8 q4)), (.int (StrChars.lo8 q5)), (.int by6), (.int by7), (.int by8), (.int by9), (.int by10), (.int by11), (.int by12), (.int by13), (.int by14), (.int by15), (.int by16)] (.int (0 : Int32))) := by
  refine Met.of (plainFor_of_name pn0) O0 ?_
  intro p e s m below meth c T0 hx hby hml hret hlk hnm hs W0
  have W0 : Wk p l e _ s m _ below meth c Z EL0 n0 [t] "java/lang/AbstractStringBuilder" [t] T0 0 0 h0 := W0
  have hSA := fun d hd => hw d (sa_in d hd)
  have hws := fun d hd => hw d (ws_in d hd)
  have hln := fun d hd => hw d (ln_in d hd)
  have heq := fun d hd => hw d (eq_in d hd)
  refine Go.of (fun _ kk => castTop (ef101 m a1 (0 : Int32) x2) kk) ?_
  show Go p e below _ (T0.setTop (mkF m 0 #[.val (.ref a1), .val (.int (0 : Int32)), .val (.ref x2)] []))
  refine Go.of (t' := T0.setTop (mkF m 1 #[.val (.ref a1), .val (.int (0 : Int32)), .val (.ref x2)] [(.ref a1)])) (fun _ kk => XS.aloadN W0.here hx rfl (hb hby d101_0) rfl rfl kk) ?_
  refine Go.of (t' := T0.setTop (mkF m 2 #[.val (.ref a1), .val (.int (0 : Int32)), .val (.ref x2)] [(.ref x2), (.ref a1)])) (fun _ kk => XS.aloadN W0.here hx rfl (hb hby d101_1) rfl rfl kk) ?_
  refine W0.callW hx hEL (hw _ (List.mem_of_getElem? (i := 87) rfl)) (hw _ (List.mem_of_getElem? (i := 90) rfl)) (hw _ (List.mem_of_getElem? (i := 88) rfl)) (hw _ (List.mem_of_getElem? (i := 44) rfl)) (hw _ (List.mem_of_getElem? (i := 91) rfl)) (by decide +kernel) Eb (a := a1) (argsL := [(.ref x2)]) (rest := []) (rm35 l Z a0 hw hEL zc SC hzc fm SF rfm a1 x2 q1 q2 q3 q4 q5 h0 W0.old Eb Fcp Sa cq1 cq2 cq3 cq4 cq5) all0 (by decide +kernel) (Wd := 0) (by decide +kernel) (by decide +kernel) (by decide +kernel) all0 rfl (by rw [hml]; rfl) (lenOf pd3 rfl) rfl (by show 2 * 0 + _ ≤ _; exact Nat.le_of_eq rfl) (hb hby d101_2) (fun T1 h1 v1 P1 Ws1 K1 q1 => ?_)
  have W1 := Ws1 [] all0
  obtain ⟨rfl, rfl⟩ := q1
  show Go p e below _ (T1.setTop (mkF m 5 #[.val (.ref a1), .val (.int (0 : Int32)), .val (.ref x2)] []))
  refine Go.of (t' := T1.setTop (mkF m 6 #[.val (.ref a1), .val (.int (0 : Int32)), .val (.ref x2)] [(.ref x2)])) (fun _ kk => XS.aloadN W1.here hx rfl (hb hby d101_5) rfl rfl kk) ?_
  refine Go.of (t' := T1.setTop (mkF m 7 #[.val (.ref a1), .val (.int (0 : Int32)), .val (.ref x2)] [(.ref a1), (.ref x2)])) (fun _ kk => XS.aloadN W1.here hx rfl (hb hby d101_6) rfl rfl kk) ?_
  refine W1.getF hx (host := "") (Or.inl (hw _ (List.mem_of_getElem? (i := 48) rfl))) Via.refl Fvp rfl rfl (hb hby d101_7) (fun T2 W2 => ?_)
  show Go p e below _ (T2.setTop (mkF m 10 #[.val (.ref a1), .val (.int (0 : Int32)), .val (.ref x2)] [(.ref t), (.ref x2)]))
  refine Go.of (t' := T2.setTop (mkF m 11 #[.val (.ref a1), .val (.int (0 : Int32)), .val (.ref x2)] [(.int (0 : Int32)), (.ref t), (.ref x2)])) (fun _ kk => XS.iloadN W2.here hx rfl (hb hby d101_10) rfl kk) ?_
  refine Go.of (t' := T2.setTop (mkF m 12 #[.val (.ref a1), .val (.int (0 : Int32)), .val (.ref x2)] [(.ref a1), (.int (0 : Int32)), (.ref t), (.ref x2)])) (fun _ kk => XS.aloadN W2.here hx rfl (hb hby d101_11) rfl rfl kk) ?_
  refine W2.getF hx (host := "") (Or.inl (hw _ (List.mem_of_getElem? (i := 50) rfl))) Via.refl Fcp rfl rfl (hb hby d101_12) (fun T3 W3 => ?_)
  show Go p e below _ (T3.setTop (mkF m 15 #[.val (.ref a1), .val (.int (0 : Int32)), .val (.ref x2)] [(.int (0 : Int32)), (.int (0 : Int32)), (.ref t), (.ref x2)]))
  have k5 := Sa.exa
  refine W3.callV hx hEL (hw _ (List.mem_of_getElem? (i := 93) rfl)) (hw _ (List.mem_of_getElem? (i := 94) rfl)) (hw _ (List.mem_of_getElem? (i := 96) rfl)) (hw _ (List.mem_of_getElem? (i := 95) rfl)) (hw _ (List.mem_of_getElem? (i := 2) rfl)) (hw _ (List.mem_of_getElem? (i := 97) rfl)) (by decide +kernel) k5 (a := x2) (argsL := [(.ref t), (.int (0 : Int32)), (.int (0 : Int32))]) (rest := []) (rm100 l Z a0 hw hEL zc SC hzc fm SF rfm x2 t kc by1 by2 by3 by4 by5 by6 by7 by8 by9 by10 by11 by12 by13 by14 by15 by16 q1 q2 q3 q4 q5 h0 W3.old Sa cq1 cq2 cq3 cq4 cq5 Ab g2) (allS (List.mem_of_getElem? (i := 0) rfl) all0) (by decide +kernel) (Wd := 0) (by decide +kernel) (by decide +kernel) (by decide +kernel) (allS ⟨g2, (Or.inl (List.mem_of_getElem? (i := 0) rfl))⟩ all0) rfl (by rw [hml]; rfl) (lenOf pd4 rfl) rfl (by show 2 * 0 + _ ≤ _; exact Nat.le_of_eq rfl) (hb hby d101_15) (fun T4 h4 v4 P4 Ws4 K4 q4 => ?_)
  have W4 := Ws4 [] all0
  obtain ⟨rfl, A4⟩ := q4
  show Go p e below _ (T4.setTop (mkF m 18 #[.val (.ref a1), .val (.int (0 : Int32)), .val (.ref x2)] []))
  exact W4.retV hx hEL hs hlk (by decide +kernel) (by decide +kernel) hret (hb hby d101_18) (fun S hS => ⟨rfl, A4⟩)
theorem d102_0 : decode jdk_68_method_22_code 0 = .ok (.aload_n 1, 1) := by decide +kernel
theorem d102_1 : decode jdk_68_method_22_code 1 = .ok (.ifnonnull 8, 3) := by decide +kernel
theorem d102_9 : decode jdk_68_method_22_code 9 = .ok (.aload_n 1, 1) := by decide +kernel
theorem d102_10 : decode jdk_68_method_22_code 10 = .ok (.invokevirtual 32, 3) := by decide +kernel
theorem d102_13 : decode jdk_68_method_22_code 13 = .ok (.istore_n 2, 1) := by decide +kernel
theorem d102_14 : decode jdk_68_method_22_code 14 = .ok (.aload_n 0, 1) := by decide +kernel
theorem d102_15 : decode jdk_68_method_22_code 15 = .ok (.aload_n 0, 1) := by decide +kernel
theorem d102_16 : decode jdk_68_method_22_code 16 = .ok (.getfield 79, 3) := by decide +kernel
theorem d102_19 : decode jdk_68_method_22_code 19 = .ok (.iload_n 2, 1) := by decide +kernel
theorem d102_20 : decode jdk_68_method_22_code 20 = .ok (.iadd, 1) := by decide +kernel
theorem d102_21 : decode jdk_68_method_22_code 21 = .ok (.invokevirtual 100, 3) := by decide +kernel
theorem d102_24 : decode jdk_68_method_22_code 24 = .ok (.aload_n 0, 1) := by decide +kernel
theorem d102_25 : decode jdk_68_method_22_code 25 = .ok (.aload_n 0, 1) := by decide +kernel
theorem d102_26 : decode jdk_68_method_22_code 26 = .ok (.getfield 79, 3) := by decide +kernel
theorem d102_29 : decode jdk_68_method_22_code 29 = .ok (.aload_n 1, 1) := by decide +kernel
theorem d102_30 : decode jdk_68_method_22_code 30 = .ok (.invokevirtual 208, 3) := by decide +kernel
theorem d102_33 : decode jdk_68_method_22_code 33 = .ok (.aload_n 0, 1) := by decide +kernel
theorem d102_34 : decode jdk_68_method_22_code 34 = .ok (.dup, 1) := by decide +kernel
theorem d102_35 : decode jdk_68_method_22_code 35 = .ok (.getfield 79, 3) := by decide +kernel
theorem d102_38 : decode jdk_68_method_22_code 38 = .ok (.iload_n 2, 1) := by decide +kernel
theorem d102_39 : decode jdk_68_method_22_code 39 = .ok (.iadd, 1) := by decide +kernel
theorem d102_40 : decode jdk_68_method_22_code 40 = .ok (.putfield 79, 3) := by decide +kernel
theorem d102_43 : decode jdk_68_method_22_code 43 = .ok (.aload_n 0, 1) := by decide +kernel
theorem d102_44 : decode jdk_68_method_22_code 44 = .ok (.areturn, 1) := by decide +kernel
theorem ef102 (m : MethodId) (x0 : Addr) (x1 : Addr)  : entryFrame m #[(.ref x0), (.ref x1)] 3 = mkF m 0 #[.val (.ref x0), .val (.ref x1), .unset] [] := by first | (simp [entryFrame, mkF, argsToLocals, Value.category]; done) | rfl | rfl
set_option maxRecDepth 65536 in
set_option maxHeartbeats 40000000 in
theorem rm102 (l : Launch) (Z : State) (a0 : Array Value) (hw : ∀ d ∈ tables_1, d.before a0 Z = true) (hEL : EW Z a0 EL0) (zc : Int32) (SC : Sta Z Z.heap "java/lang/String" "COMPACT_STRINGS" "Z" (.int zc)) (hzc : ¬ zc = 0) (fm : Value) (SF : Sta Z Z.heap "jdk/internal/util/Preconditions" "SIOOBE_FORMATTER" "Ljava/util/function/BiFunction;" fm) (rfm : fm.isRef = true) (a1 : Addr) (x2 : Addr) (t : Addr) (kc : ClassId) (by1 : Int32) (by2 : Int32) (by3 : Int32) (by4 : Int32) (by5 : Int32) (by6 : Int32) (by7 : Int32) (by8 : Int32) (by9 : Int32) (by10 : Int32) (by11 : Int32) (by12 : Int32) (by13 : Int32) (by14 : Int32) (by15 : Int32) (by16 : Int32) (q1 : Int32) (q2 : Int32) (q3 : Int32) (q4 : Int32) (q5 : Int32) (h0 : Heap) {n0 : Nat} (O0 : Old Z n0 h0) (Eb : Exa Z h0 a1 "java/lang/StringBuilder") (Fvp : Fld Z h0 a1 "java/lang/AbstractStringBuilder" "value" "[B" (.ref t)) (Fcp : Fld Z h0 a1 "java/lang/AbstractStringBuilder" "coder" "B" (.int (0 : Int32))) (Fnp : Fld Z h0 a1 "java/lang/AbstractStringBuilder" "count" "I" (.int (0 : Int32))) (Ab : Arv Z h0 t kc .byte (16 : Int32) [(.int by1), (.int by2), (.int by3), (.int by4), (.int by5), (.int by6), (.int by7), (.int by8), (.int by9), (.int by10), (.int by11), (.int by12), (.int by13), (.int by14), (.int by15), (.int by16)] (.int (0 : Int32))) (g1 : n0 ≤ a1) (g2 : n0 ≤ t) (nat : a1 ≠ t) (Sa : Str Z h0 x2 [q1, q2, q3, q4, q5]) (cq1 : ¬ q1 < 0 ∧ ¬ (255 : Int32) < q1) (cq2 : ¬ q2 < 0 ∧ ¬ (255 : Int32) < q2) (cq3 : ¬ q3 < 0 ∧ ¬ (255 : Int32) < q3) (cq4 : ¬ q4 < 0 ∧ ¬ (255 : Int32) < q4) (cq5 : ¬ q5 < 0 ∧ ¬ (255 : Int32) < q5) :
    Met l Z EL0 n0 (⟨"java/lang/AbstractStringBuilder", "append", "(Ljava/lang/String;)Ljava/lang/AbstractStringBuilder;"⟩ : MethodName) jdk_68_method_22_code 3 (some (.object "java/lang/AbstractStringBuilder")) [] ({ frames := 3, cells := 0, slots := 0, locals := 47 } : Room) #[(.ref a1), (.ref x2)] h0 [a1, t] [t] (fun v h' S => v = some (.ref a1) ∧ Fld Z h' a1 "java/lang/AbstractStringBuilder" "value" "[B" (.ref t) ∧ Fld Z h' a1 "java/lang/AbstractStringBuilder" "coder" "B" (.int (0 : Int32)) ∧ Fld Z h' a1 "java/lang/AbstractStringBuilder" "count" "I" (.int (5 : Int32)) ∧ Arv Z h' t kc .byte (16 : Int32) [(.int (StrChars.lo8 q1)), (.int (StrChars.lo8 q2)), (.int (StrChars.lo8 q3)), (.int (StrChars.lo8 q4)), (.int (StrChars.lo8 q5)), (.int by6), (.int by7), (.int by8), (.int by9), (.int by10), (.int by11), (.int by12), (.int by13), (.int by14), (.int by15), (.int by16)] (.int (0 : Int32))) := by
  refine Met.of (plainFor_of_name pn0) O0 ?_
  intro p e s m below meth c T0 hx hby hml hret hlk hnm hs W0
  have W0 : Wk p l e _ s m _ below meth c Z EL0 n0 [a1, t] "java/lang/AbstractStringBuilder" [t] T0 0 0 h0 := W0
  have hSA := fun d hd => hw d (sa_in d hd)
  have hws := fun d hd => hw d (ws_in d hd)
  have hln := fun d hd => hw d (ln_in d hd)
  have heq := fun d hd => hw d (eq_in d hd)
  refine Go.of (fun _ kk => castTop (ef102 m a1 x2) kk) ?_
  show Go p e below _ (T0.setTop (mkF m 0 #[.val (.ref a1), .val (.ref x2), .unset] []))
  refine Go.of (t' := T0.setTop (mkF m 1 #[.val (.ref a1), .val (.ref x2), .unset] [(.ref x2)])) (fun _ kk => XS.aloadN W0.here hx rfl (hb hby d102_0) rfl rfl kk) ?_
  refine Go.of (t' := T0.setTop (mkF m 9 #[.val (.ref a1), .val (.ref x2), .unset] [])) (fun _ kk => XS.ifnonnullYes W0.here hx rfl (pc0 := 1) (pc' := 9) rfl (hb hby d102_1) rfl (by decide +kernel) (by decide +kernel) kk) ?_
  refine Go.of (t' := T0.setTop (mkF m 10 #[.val (.ref a1), .val (.ref x2), .unset] [(.ref x2)])) (fun _ kk => XS.aloadN W0.here hx rfl (hb hby d102_9) rfl rfl kk) ?_
  refine W0.strLen hx hln (hw _ (List.mem_of_getElem? (i := 1) rfl)) SC hzc Sa (hw _ (List.mem_of_getElem? (i := 65) rfl)) (hw _ (List.mem_of_getElem? (i := 66) rfl)) (hw _ (List.mem_of_getElem? (i := 68) rfl)) (hw _ (List.mem_of_getElem? (i := 67) rfl)) (by decide +kernel) (Wd := 0) (by decide +kernel) (by decide +kernel) (by decide +kernel) rfl (by rw [hml]; rfl) rfl (by show 2 * 0 + _ ≤ _; exact Nat.le_of_eq rfl) (hb hby d102_10) (fun T1 W1 => ?_)
  show Go p e below _ (T1.setTop (mkF m 13 #[.val (.ref a1), .val (.ref x2), .unset] [(.int (5 : Int32))]))
  refine Go.of (t' := T1.setTop (mkF m 14 #[.val (.ref a1), .val (.ref x2), .val (.int (5 : Int32))] [])) (fun _ kk => XS.istoreN W1.here hx rfl (hb hby d102_13) rfl (l' := #[.val (.ref a1), .val (.ref x2), .val (.int (5 : Int32))]) rfl kk) ?_
  refine Go.of (t' := T1.setTop (mkF m 15 #[.val (.ref a1), .val (.ref x2), .val (.int (5 : Int32))] [(.ref a1)])) (fun _ kk => XS.aloadN W1.here hx rfl (hb hby d102_14) rfl rfl kk) ?_
  refine Go.of (t' := T1.setTop (mkF m 16 #[.val (.ref a1), .val (.ref x2), .val (.int (5 : Int32))] [(.ref a1), (.ref a1)])) (fun _ kk => XS.aloadN W1.here hx rfl (hb hby d102_15) rfl rfl kk) ?_
  refine W1.getF hx (host := "") (Or.inl (hw _ (List.mem_of_getElem? (i := 75) rfl))) Via.refl Fnp rfl rfl (hb hby d102_16) (fun T2 W2 => ?_)
  show Go p e below _ (T2.setTop (mkF m 19 #[.val (.ref a1), .val (.ref x2), .val (.int (5 : Int32))] [(.int (0 : Int32)), (.ref a1)]))
  refine Go.of (t' := T2.setTop (mkF m 20 #[.val (.ref a1), .val (.ref x2), .val (.int (5 : Int32))] [(.int (5 : Int32)), (.int (0 : Int32)), (.ref a1)])) (fun _ kk => XS.iloadN W2.here hx rfl (hb hby d102_19) rfl kk) ?_
  refine Go.of (t' := T2.setTop (mkF m 21 #[.val (.ref a1), .val (.ref x2), .val (.int (5 : Int32))] [(.int (5 : Int32)), (.ref a1)])) (fun _ kk => XS.iadd W2.here hx rfl (hb hby d102_20) rfl kk) ?_
  refine W2.callW hx hEL (hw _ (List.mem_of_getElem? (i := 77) rfl)) (hw _ (List.mem_of_getElem? (i := 80) rfl)) (hw _ (List.mem_of_getElem? (i := 78) rfl)) (hw _ (List.mem_of_getElem? (i := 44) rfl)) (hw _ (List.mem_of_getElem? (i := 81) rfl)) (by decide +kernel) Eb (a := a1) (argsL := [(.int (5 : Int32))]) (rest := []) (rm20 l Z a0 hw hEL zc SC hzc fm SF rfm a1 t kc by1 by2 by3 by4 by5 by6 by7 by8 by9 by10 by11 by12 by13 by14 by15 by16 h0 W2.old Eb Fvp Fcp Ab) all0 (by decide +kernel) (Wd := 0) (by decide +kernel) (by decide +kernel) (by decide +kernel) all0 rfl (by rw [hml]; rfl) (lenOf pd0 rfl) rfl (by show 2 * 0 + _ ≤ _; exact Nat.le_of_eq rfl) (hb hby d102_21) (fun T3 h3 v3 P3 Ws3 K3 q3 => ?_)
  have W3 := Ws3 [] all0
  obtain ⟨rfl, rfl⟩ := q3
  show Go p e below _ (T3.setTop (mkF m 24 #[.val (.ref a1), .val (.ref x2), .val (.int (5 : Int32))] []))
  refine Go.of (t' := T3.setTop (mkF m 25 #[.val (.ref a1), .val (.ref x2), .val (.int (5 : Int32))] [(.ref a1)])) (fun _ kk => XS.aloadN W3.here hx rfl (hb hby d102_24) rfl rfl kk) ?_
  refine Go.of (t' := T3.setTop (mkF m 26 #[.val (.ref a1), .val (.ref x2), .val (.int (5 : Int32))] [(.ref a1), (.ref a1)])) (fun _ kk => XS.aloadN W3.here hx rfl (hb hby d102_25) rfl rfl kk) ?_
  refine W3.getF hx (host := "") (Or.inl (hw _ (List.mem_of_getElem? (i := 75) rfl))) Via.refl Fnp rfl rfl (hb hby d102_26) (fun T4 W4 => ?_)
  show Go p e below _ (T4.setTop (mkF m 29 #[.val (.ref a1), .val (.ref x2), .val (.int (5 : Int32))] [(.int (0 : Int32)), (.ref a1)]))
  refine Go.of (t' := T4.setTop (mkF m 30 #[.val (.ref a1), .val (.ref x2), .val (.int (5 : Int32))] [(.ref x2), (.int (0 : Int32)), (.ref a1)])) (fun _ kk => XS.aloadN W4.here hx rfl (hb hby d102_29) rfl rfl kk) ?_
  refine W4.callW hx hEL (hw _ (List.mem_of_getElem? (i := 82) rfl)) (hw _ (List.mem_of_getElem? (i := 85) rfl)) (hw _ (List.mem_of_getElem? (i := 83) rfl)) (hw _ (List.mem_of_getElem? (i := 44) rfl)) (hw _ (List.mem_of_getElem? (i := 86) rfl)) (by decide +kernel) Eb (a := a1) (argsL := [(.int (0 : Int32)), (.ref x2)]) (rest := []) (rm101 l Z a0 hw hEL zc SC hzc fm SF rfm a1 x2 t kc by1 by2 by3 by4 by5 by6 by7 by8 by9 by10 by11 by12 by13 by14 by15 by16 q1 q2 q3 q4 q5 h0 W4.old Eb Fvp Fcp Ab g2 Sa cq1 cq2 cq3 cq4 cq5) (allS (List.mem_of_getElem? (i := 0) rfl) all0) (by decide +kernel) (Wd := 0) (by decide +kernel) (by decide +kernel) (by decide +kernel) (allS ⟨g2, (Or.inl (List.mem_of_getElem? (i := 1) rfl))⟩ all0) rfl (by rw [hml]; rfl) (lenOf pd5 rfl) rfl (by show 2 * 0 + _ ≤ _; exact Nat.le_of_eq rfl) (hb hby d102_30) (fun T5 h5 v5 P5 Ws5 K5 q5 => ?_)
  have W5 := Ws5 [] all0
  obtain ⟨rfl, A5⟩ := q5
  show Go p e below _ (T5.setTop (mkF m 33 #[.val (.ref a1), .val (.ref x2), .val (.int (5 : Int32))] []))
  refine Go.of (t' := T5.setTop (mkF m 34 #[.val (.ref a1), .val (.ref x2), .val (.int (5 : Int32))] [(.ref a1)])) (fun _ kk => XS.aloadN W5.here hx rfl (hb hby d102_33) rfl rfl kk) ?_
  refine Go.of (t' := T5.setTop (mkF m 35 #[.val (.ref a1), .val (.ref x2), .val (.int (5 : Int32))] [(.ref a1), (.ref a1)])) (fun _ kk => XS.dup W5.here hx rfl (hb hby d102_34) rfl rfl kk) ?_
  have k6 := (Fnp.keep K5 (ninS nat nin0))
  refine W5.getF hx (host := "") (Or.inl (hw _ (List.mem_of_getElem? (i := 75) rfl))) Via.refl k6 rfl rfl (hb hby d102_35) (fun T7 W7 => ?_)
  show Go p e below _ (T7.setTop (mkF m 38 #[.val (.ref a1), .val (.ref x2), .val (.int (5 : Int32))] [(.int (0 : Int32)), (.ref a1)]))
  refine Go.of (t' := T7.setTop (mkF m 39 #[.val (.ref a1), .val (.ref x2), .val (.int (5 : Int32))] [(.int (5 : Int32)), (.int (0 : Int32)), (.ref a1)])) (fun _ kk => XS.iloadN W7.here hx rfl (hb hby d102_38) rfl kk) ?_
  refine Go.of (t' := T7.setTop (mkF m 40 #[.val (.ref a1), .val (.ref x2), .val (.int (5 : Int32))] [(.int (5 : Int32)), (.ref a1)])) (fun _ kk => XS.iadd W7.here hx rfl (hb hby d102_39) rfl kk) ?_
  have k8 := (Eb.keep K5)
  refine W7.putF hx (host := "") (Or.inl (hw _ (List.mem_of_getElem? (i := 75) rfl))) Via.refl k6 k8 (Or.inl (hw _ (List.mem_of_getElem? (i := 76) rfl))) (hw _ (List.mem_of_getElem? (i := 35) rfl)) (ty := .int) (by decide +kernel) rfl rfl g1 (Or.inl (List.mem_of_getElem? (i := 0) rfl)) (Or.inr ⟨by decide, by decide⟩) rfl rfl (hb hby d102_40) (fun T9 h9 W9 w9 => ?_)
  have k10 := (Fvp.keep K5 (ninS nat nin0))
  have k11 := (Fcp.keep K5 (ninS nat nin0))
  have K9 := Keep.of_wr w9
  have k12 := k10.other w9 (Or.inr (slot_ne (Or.inl (hw _ (List.mem_of_getElem? (i := 49) rfl))) (Or.inl (hw _ (List.mem_of_getElem? (i := 76) rfl))) (by decide +kernel) (t := (.array .byte)) (t' := .int) (by decide +kernel) (by decide +kernel)))
  have k13 := k11.other w9 (Or.inr (slot_ne (Or.inl (hw _ (List.mem_of_getElem? (i := 51) rfl))) (Or.inl (hw _ (List.mem_of_getElem? (i := 76) rfl))) (by decide +kernel) (t := .byte) (t' := .int) (by decide +kernel) (by decide +kernel)))
  have k14 := k6.same w9
  show Go p e below _ (T9.setTop (mkF m 43 #[.val (.ref a1), .val (.ref x2), .val (.int (5 : Int32))] []))
  refine Go.of (t' := T9.setTop (mkF m 44 #[.val (.ref a1), .val (.ref x2), .val (.int (5 : Int32))] [(.ref a1)])) (fun _ kk => XS.aloadN W9.here hx rfl (hb hby d102_43) rfl rfl kk) ?_
  have k15 := (A5.keep K9 (ninS (nat).symm nin0))
  exact W9.retA hx hEL hs hlk (by decide +kernel) (by decide +kernel) hret rfl rfl (hb hby d102_44) (fun S hS => ⟨rfl, k12, k13, k14, k15⟩)
theorem d103_0 : decode jdk_67_method_7_code 0 = .ok (.aload_n 0, 1) := by decide +kernel
theorem d103_1 : decode jdk_67_method_7_code 1 = .ok (.aload_n 1, 1) := by decide +kernel
theorem d103_2 : decode jdk_67_method_7_code 2 = .ok (.invokespecial 29, 3) := by decide +kernel
theorem d103_5 : decode jdk_67_method_7_code 5 = .ok (.pop, 1) := by decide +kernel
theorem d103_6 : decode jdk_67_method_7_code 6 = .ok (.aload_n 0, 1) := by decide +kernel
theorem d103_7 : decode jdk_67_method_7_code 7 = .ok (.areturn, 1) := by decide +kernel
theorem ef103 (m : MethodId) (x0 : Addr) (x1 : Addr)  : entryFrame m #[(.ref x0), (.ref x1)] 2 = mkF m 0 #[.val (.ref x0), .val (.ref x1)] [] := by first | (simp [entryFrame, mkF, argsToLocals, Value.category]; done) | rfl | rfl
set_option maxRecDepth 65536 in
set_option maxHeartbeats 40000000 in
theorem rm103 (l : Launch) (Z : State) (a0 : Array Value) (hw : ∀ d ∈ tables_1, d.before a0 Z = true) (hEL : EW Z a0 EL0) (zc : Int32) (SC : Sta Z Z.heap "java/lang/String" "COMPACT_STRINGS" "Z" (.int zc)) (hzc : ¬ zc = 0) (fm : Value) (SF : Sta Z Z.heap "jdk/internal/util/Preconditions" "SIOOBE_FORMATTER" "Ljava/util/function/BiFunction;" fm) (rfm : fm.isRef = true) (a1 : Addr) (x2 : Addr) (t : Addr) (kc : ClassId) (by1 : Int32) (by2 : Int32) (by3 : Int32) (by4 : Int32) (by5 : Int32) (by6 : Int32) (by7 : Int32) (by8 : Int32) (by9 : Int32) (by10 : Int32) (by11 : Int32) (by12 : Int32) (by13 : Int32) (by14 : Int32) (by15 : Int32) (by16 : Int32) (q1 : Int32) (q2 : Int32) (q3 : Int32) (q4 : Int32) (q5 : Int32) (h0 : Heap) {n0 : Nat} (O0 : Old Z n0 h0) (Eb : Exa Z h0 a1 "java/lang/StringBuilder") (Fvp : Fld Z h0 a1 "java/lang/AbstractStringBuilder" "value" "[B" (.ref t)) (Fcp : Fld Z h0 a1 "java/lang/AbstractStringBuilder" "coder" "B" (.int (0 : Int32))) (Fnp : Fld Z h0 a1 "java/lang/AbstractStringBuilder" "count" "I" (.int (0 : Int32))) (Ab : Arv Z h0 t kc .byte (16 : Int32) [(.int by1), (.int by2), (.int by3), (.int by4), (.int by5), (.int by6), (.int by7), (.int by8), (.int by9), (.int by10), (.int by11), (.int by12), (.int by13), (.int by14), (.int by15), (.int by16)] (.int (0 : Int32))) (g1 : n0 ≤ a1) (g2 : n0 ≤ t) (nat : a1 ≠ t) (Sa : Str Z h0 x2 [q1, q2, q3, q4, q5]) (cq1 : ¬ q1 < 0 ∧ ¬ (255 : Int32) < q1) (cq2 : ¬ q2 < 0 ∧ ¬ (255 : Int32) < q2) (cq3 : ¬ q3 < 0 ∧ ¬ (255 : Int32) < q3) (cq4 : ¬ q4 < 0 ∧ ¬ (255 : Int32) < q4) (cq5 : ¬ q5 < 0 ∧ ¬ (255 : Int32) < q5) :
    Met l Z EL0 n0 (⟨"java/lang/StringBuilder", "append", "(Ljava/lang/String;)Ljava/lang/StringBuilder;"⟩ : MethodName) jdk_67_method_7_code 2 (some (.object "java/lang/StringBuilder")) [] ({ frames := 4, cells := 0, slots := 0, locals := 61 } : Room) #[(.ref a1), (.ref x2)] h0 [a1, t] [t] (fun v h' S => v = some (.ref a1) ∧ Fld Z h' a1 "java/lang/AbstractStringBuilder" "value" "[B" (.ref t) ∧ Fld Z h' a1 "java/lang/AbstractStringBuilder" "coder" "B" (.int (0 : Int32)) ∧ Fld Z h' a1 "java/lang/AbstractStringBuilder" "count" "I" (.int (5 : Int32)) ∧ Arv Z h' t kc .byte (16 : Int32) [(.int (StrChars.lo8 q1)), (.int (StrChars.lo8 q2)), (.int (StrChars.lo8 q3)), (.int (StrChars.lo8 q4)), (.int (StrChars.lo8 q5)), (.int by6), (.int by7), (.int by8), (.int by9), (.int by10), (.int by11), (.int by12), (.int by13), (.int by14), (.int by15), (.int by16)] (.int (0 : Int32))) := by
  refine Met.of (plainFor_of_name pn1) O0 ?_
  intro p e s m below meth c T0 hx hby hml hret hlk hnm hs W0
  have W0 : Wk p l e _ s m _ below meth c Z EL0 n0 [a1, t] "java/lang/StringBuilder" [t] T0 0 0 h0 := W0
  have hSA := fun d hd => hw d (sa_in d hd)
  have hws := fun d hd => hw d (ws_in d hd)
  have hln := fun d hd => hw d (ln_in d hd)
  have heq := fun d hd => hw d (eq_in d hd)
  refine Go.of (fun _ kk => castTop (ef103 m a1 x2) kk) ?_
  show Go p e below _ (T0.setTop (mkF m 0 #[.val (.ref a1), .val (.ref x2)] []))
  refine Go.of (t' := T0.setTop (mkF m 1 #[.val (.ref a1), .val (.ref x2)] [(.ref a1)])) (fun _ kk => XS.aloadN W0.here hx rfl (hb hby d103_0) rfl rfl kk) ?_
  refine Go.of (t' := T0.setTop (mkF m 2 #[.val (.ref a1), .val (.ref x2)] [(.ref x2), (.ref a1)])) (fun _ kk => XS.aloadN W0.here hx rfl (hb hby d103_1) rfl rfl kk) ?_
  refine W0.callU hx hEL (hw _ (List.mem_of_getElem? (i := 60) rfl)) (hw _ (List.mem_of_getElem? (i := 62) rfl)) (hw _ (List.mem_of_getElem? (i := 80) rfl)) rfl (by decide +kernel) (hw _ (List.mem_of_getElem? (i := 61) rfl)) (hw _ (List.mem_of_getElem? (i := 44) rfl)) (hw _ (List.mem_of_getElem? (i := 64) rfl)) (by decide +kernel) Eb (a := a1) (argsL := [(.ref x2)]) (rest := []) (rm102 l Z a0 hw hEL zc SC hzc fm SF rfm a1 x2 t kc by1 by2 by3 by4 by5 by6 by7 by8 by9 by10 by11 by12 by13 by14 by15 by16 q1 q2 q3 q4 q5 h0 W0.old Eb Fvp Fcp Fnp Ab g1 g2 nat Sa cq1 cq2 cq3 cq4 cq5) (allS (List.mem_of_getElem? (i := 0) rfl) all0) (by decide +kernel) (Wd := 0) (by decide +kernel) (by decide +kernel) (by decide +kernel) (allS ⟨g1, (Or.inl (List.mem_of_getElem? (i := 0) rfl))⟩ (allS ⟨g2, (Or.inl (List.mem_of_getElem? (i := 1) rfl))⟩ all0)) rfl (by rw [hml]; rfl) (lenOf pd6 rfl) rfl (by show 2 * 0 + _ ≤ _; exact Nat.le_of_eq rfl) (hb hby d103_2) (fun T1 h1 v1 P1 Ws1 K1 q1 => ?_)
  have W1 := Ws1 [] all0
  obtain ⟨rfl, Fv1, Fc1, Fn1, A1⟩ := q1
  show Go p e below _ (T1.setTop (mkF m 5 #[.val (.ref a1), .val (.ref x2)] [(.ref a1)]))
  refine Go.of (t' := T1.setTop (mkF m 6 #[.val (.ref a1), .val (.ref x2)] [])) (fun _ kk => XS.pop W1.here hx rfl (hb hby d103_5) rfl rfl kk) ?_
  refine Go.of (t' := T1.setTop (mkF m 7 #[.val (.ref a1), .val (.ref x2)] [(.ref a1)])) (fun _ kk => XS.aloadN W1.here hx rfl (hb hby d103_6) rfl rfl kk) ?_
  exact W1.retA hx hEL hs hlk (by decide +kernel) (by decide +kernel) hret rfl rfl (hb hby d103_7) (fun S hS => ⟨rfl, Fv1, Fc1, Fn1, A1⟩)
theorem d110_0 : decode jdk_42_method_147_code 0 = .ok (.aload_n 0, 1) := by decide +kernel
theorem d110_1 : decode jdk_42_method_147_code 1 = .ok (.invokevirtual 335, 3) := by decide +kernel
theorem d110_4 : decode jdk_42_method_147_code 4 = .ok (.iload_n 3, 1) := by decide +kernel
theorem d110_5 : decode jdk_42_method_147_code 5 = .ok (.if_icmp .ne 23, 3) := by decide +kernel
theorem d110_8 : decode jdk_42_method_147_code 8 = .ok (.aload_n 0, 1) := by decide +kernel
theorem d110_9 : decode jdk_42_method_147_code 9 = .ok (.getfield 9, 3) := by decide +kernel
theorem d110_12 : decode jdk_42_method_147_code 12 = .ok (.iconst 0, 1) := by decide +kernel
theorem d110_13 : decode jdk_42_method_147_code 13 = .ok (.aload_n 1, 1) := by decide +kernel
theorem d110_14 : decode jdk_42_method_147_code 14 = .ok (.iload_n 2, 1) := by decide +kernel
theorem d110_15 : decode jdk_42_method_147_code 15 = .ok (.iload_n 3, 1) := by decide +kernel
theorem d110_16 : decode jdk_42_method_147_code 16 = .ok (.ishl, 1) := by decide +kernel
theorem d110_17 : decode jdk_42_method_147_code 17 = .ok (.aload_n 0, 1) := by decide +kernel
theorem d110_18 : decode jdk_42_method_147_code 18 = .ok (.getfield 9, 3) := by decide +kernel
theorem d110_21 : decode jdk_42_method_147_code 21 = .ok (.arraylength, 1) := by decide +kernel
theorem d110_22 : decode jdk_42_method_147_code 22 = .ok (.invokestatic 212, 3) := by decide +kernel
theorem d110_25 : decode jdk_42_method_147_code 25 = .ok (.goto 18, 3) := by decide +kernel
theorem d110_43 : decode jdk_42_method_147_code 43 = .ok (.return_, 1) := by decide +kernel
theorem ef110 (m : MethodId) (x0 : Addr) (x1 : Addr) (x2 : Int32) (x3 : Int32)  : entryFrame m #[(.ref x0), (.ref x1), (.int x2), (.int x3)] 4 = mkF m 0 #[.val (.ref x0), .val (.ref x1), .val (.int x2), .val (.int x3)] [] := by first | (simp [entryFrame, mkF, argsToLocals, Value.category]; done) | rfl | rfl
set_option maxRecDepth 65536 in
set_option maxHeartbeats 40000000 in
theorem rm110 (l : Launch) (Z : State) (a0 : Array Value) (hw : ∀ d ∈ tables_1, d.before a0 Z = true) (hEL : EW Z a0 EL0) (zc : Int32) (SC : Sta Z Z.heap "java/lang/String" "COMPACT_STRINGS" "Z" (.int zc)) (hzc : ¬ zc = 0) (fm : Value) (SF : Sta Z Z.heap "jdk/internal/util/Preconditions" "SIOOBE_FORMATTER" "Ljava/util/function/BiFunction;" fm) (rfm : fm.isRef = true) (x2 : Addr) (t : Addr) (kc : ClassId) (by1 : Int32) (by2 : Int32) (by3 : Int32) (by4 : Int32) (by5 : Int32) (by6 : Int32) (by7 : Int32) (by8 : Int32) (by9 : Int32) (by10 : Int32) (by11 : Int32) (by12 : Int32) (by13 : Int32) (by14 : Int32) (by15 : Int32) (by16 : Int32) (q1 : Int32) (q2 : Int32) (h0 : Heap) {n0 : Nat} (O0 : Old Z n0 h0) (Sa : Str Z h0 x2 [q1, q2]) (cq1 : ¬ q1 < 0 ∧ ¬ (255 : Int32) < q1) (cq2 : ¬ q2 < 0 ∧ ¬ (255 : Int32) < q2) (Ab : Arv Z h0 t kc .byte (16 : Int32) [(.int by1), (.int by2), (.int by3), (.int by4), (.int by5), (.int by6), (.int by7), (.int by8), (.int by9), (.int by10), (.int by11), (.int by12), (.int by13), (.int by14), (.int by15), (.int by16)] (.int (0 : Int32))) (g2 : n0 ≤ t) :
    Met l Z EL0 n0 (⟨"java/lang/String", "getBytes", "([BIB)V"⟩ : MethodName) jdk_42_method_147_code 4 none [] ({ frames := 1, cells := 0, slots := 0, locals := 18 } : Room) #[(.ref x2), (.ref t), (.int (5 : Int32)), (.int (0 : Int32))] h0 [t] [t] (fun v h' S => v = none ∧ Arv Z h' t kc .byte (16 : Int32) [(.int by1), (.int by2), (.int by3), (.int by4), (.int by5), (.int (StrChars.lo8 q1)), (.int (StrChars.lo8 q2)), (.int by8), (.int by9), (.int by10), (.int by11), (.int by12), (.int by13), (.int by14), (.int by15), (.int by16)] (.int (0 : Int32))) := by
  refine Met.of (plainFor_of_name pn2) O0 ?_
  intro p e s m below meth c T0 hx hby hml hret hlk hnm hs W0
  have W0 : Wk p l e _ s m _ below meth c Z EL0 n0 [t] "java/lang/String" [t] T0 0 0 h0 := W0
  have hSA := fun d hd => hw d (sa_in d hd)
  have hws := fun d hd => hw d (ws_in d hd)
  have hln := fun d hd => hw d (ln_in d hd)
  have heq := fun d hd => hw d (eq_in d hd)
  refine Go.of (fun _ kk => castTop (ef110 m x2 t (5 : Int32) (0 : Int32)) kk) ?_
  show Go p e below _ (T0.setTop (mkF m 0 #[.val (.ref x2), .val (.ref t), .val (.int (5 : Int32)), .val (.int (0 : Int32))] []))
  obtain ⟨t1, kb1, E1, Fv1, Fc1, A1⟩ := Sa.open_ (snd255 (allSi cq1 (allSi cq2 all0i)))
  have V1 : Arv Z h0 t1 kb1 .byte (2 : Int32) [(.int (StrChars.lo8 q1)), (.int (StrChars.lo8 q2))] (.int (0 : Int32)) := A1
  refine Go.of (t' := T0.setTop (mkF m 1 #[.val (.ref x2), .val (.ref t), .val (.int (5 : Int32)), .val (.int (0 : Int32))] [(.ref x2)])) (fun _ kk => XS.aloadN W0.here hx rfl (hb hby d110_0) rfl rfl kk) ?_
  refine W0.callV hx hEL (hw _ (List.mem_of_getElem? (i := 70) rfl)) (hw _ (List.mem_of_getElem? (i := 71) rfl)) (hw _ (List.mem_of_getElem? (i := 73) rfl)) (hw _ (List.mem_of_getElem? (i := 72) rfl)) (hw _ (List.mem_of_getElem? (i := 2) rfl)) (hw _ (List.mem_of_getElem? (i := 74) rfl)) (by decide +kernel) E1 (a := x2) (argsL := []) (rest := []) (rm4 l Z a0 hw hEL zc SC hzc fm SF rfm x2 h0 W0.old Fc1) all0 (by decide +kernel) (Wd := 0) (by decide +kernel) (by decide +kernel) (by decide +kernel) all0 rfl (by rw [hml]; rfl) (lenOf pd2 rfl) rfl (by show 2 * 0 + _ ≤ _; exact Nat.le_of_eq rfl) (hb hby d110_1) (fun T2 h2 v2 P2 Ws2 K2 q2 => ?_)
  have W2 := Ws2 [] all0
  obtain ⟨rfl, rfl⟩ := q2
  show Go p e below _ (T2.setTop (mkF m 4 #[.val (.ref x2), .val (.ref t), .val (.int (5 : Int32)), .val (.int (0 : Int32))] [(.int (0 : Int32))]))
  refine Go.of (t' := T2.setTop (mkF m 5 #[.val (.ref x2), .val (.ref t), .val (.int (5 : Int32)), .val (.int (0 : Int32))] [(.int (0 : Int32)), (.int (0 : Int32))])) (fun _ kk => XS.iloadN W2.here hx rfl (hb hby d110_4) rfl kk) ?_
  refine Go.of (t' := T2.setTop (mkF m 8 #[.val (.ref x2), .val (.ref t), .val (.int (5 : Int32)), .val (.int (0 : Int32))] [])) (fun _ kk => XS.icmpNo W2.here hx rfl (hb hby d110_5) rfl (XT.ii_ne_f (by decide +kernel)) kk) ?_
  refine Go.of (t' := T2.setTop (mkF m 9 #[.val (.ref x2), .val (.ref t), .val (.int (5 : Int32)), .val (.int (0 : Int32))] [(.ref x2)])) (fun _ kk => XS.aloadN W2.here hx rfl (hb hby d110_8) rfl rfl kk) ?_
  refine W2.getF hx (host := "") (Or.inl (hw _ (List.mem_of_getElem? (i := 28) rfl))) Via.refl Fv1 rfl rfl (hb hby d110_9) (fun T3 W3 => ?_)
  show Go p e below _ (T3.setTop (mkF m 12 #[.val (.ref x2), .val (.ref t), .val (.int (5 : Int32)), .val (.int (0 : Int32))] [(.ref t1)]))
  refine Go.of (t' := T3.setTop (mkF m 13 #[.val (.ref x2), .val (.ref t), .val (.int (5 : Int32)), .val (.int (0 : Int32))] [(.int (0 : Int32)), (.ref t1)])) (fun _ kk => XS.iconst W3.here hx rfl (hb hby d110_12) kk) ?_
  refine Go.of (t' := T3.setTop (mkF m 14 #[.val (.ref x2), .val (.ref t), .val (.int (5 : Int32)), .val (.int (0 : Int32))] [(.ref t), (.int (0 : Int32)), (.ref t1)])) (fun _ kk => XS.aloadN W3.here hx rfl (hb hby d110_13) rfl rfl kk) ?_
  refine Go.of (t' := T3.setTop (mkF m 15 #[.val (.ref x2), .val (.ref t), .val (.int (5 : Int32)), .val (.int (0 : Int32))] [(.int (5 : Int32)), (.ref t), (.int (0 : Int32)), (.ref t1)])) (fun _ kk => XS.iloadN W3.here hx rfl (hb hby d110_14) rfl kk) ?_
  refine Go.of (t' := T3.setTop (mkF m 16 #[.val (.ref x2), .val (.ref t), .val (.int (5 : Int32)), .val (.int (0 : Int32))] [(.int (0 : Int32)), (.int (5 : Int32)), (.ref t), (.int (0 : Int32)), (.ref t1)])) (fun _ kk => XS.iloadN W3.here hx rfl (hb hby d110_15) rfl kk) ?_
  refine Go.of (t' := T3.setTop (mkF m 17 #[.val (.ref x2), .val (.ref t), .val (.int (5 : Int32)), .val (.int (0 : Int32))] [(.int (5 : Int32)), (.ref t), (.int (0 : Int32)), (.ref t1)])) (fun _ kk => XS.ishl W3.here hx rfl (hb hby d110_16) rfl kk) ?_
  refine Go.of (t' := T3.setTop (mkF m 18 #[.val (.ref x2), .val (.ref t), .val (.int (5 : Int32)), .val (.int (0 : Int32))] [(.ref x2), (.int (5 : Int32)), (.ref t), (.int (0 : Int32)), (.ref t1)])) (fun _ kk => XS.aloadN W3.here hx rfl (hb hby d110_17) rfl rfl kk) ?_
  refine W3.getF hx (host := "") (Or.inl (hw _ (List.mem_of_getElem? (i := 28) rfl))) Via.refl Fv1 rfl rfl (hb hby d110_18) (fun T4 W4 => ?_)
  show Go p e below _ (T4.setTop (mkF m 21 #[.val (.ref x2), .val (.ref t), .val (.int (5 : Int32)), .val (.int (0 : Int32))] [(.ref t1), (.int (5 : Int32)), (.ref t), (.int (0 : Int32)), (.ref t1)]))
  refine W4.alen hx V1 rfl rfl (hb hby d110_21) ?_
  show Go p e below _ (T4.setTop (mkF m 22 #[.val (.ref x2), .val (.ref t), .val (.int (5 : Int32)), .val (.int (0 : Int32))] [(.int (2 : Int32)), (.int (5 : Int32)), (.ref t), (.int (0 : Int32)), (.ref t1)]))
  refine W4.cp hx (hw _ (List.mem_of_getElem? (i := 98) rfl)) (hw _ (List.mem_of_getElem? (i := 101) rfl)) (hw _ (List.mem_of_getElem? (i := 99) rfl)) (hw _ (List.mem_of_getElem? (i := 100) rfl)) (us := [(.int (StrChars.lo8 q1)), (.int (StrChars.lo8 q2))]) V1 Ab rfl (by decide) (by decide) (by decide) (by decide) (by decide) rfl (Nat.le_of_ble_eq_true rfl) g2 (Or.inl (List.mem_of_getElem? (i := 0) rfl)) (List.mem_of_getElem? (i := 0) rfl) rfl (by rw [hml]; rfl) rfl (hb hby d110_22) (by decide +kernel) (Wd := 0) (by show 2 * 0 + _ ≤ _; exact Nat.le_of_eq rfl) (by decide +kernel) (fun T5 h5 W5 K5 A5 => ?_)
  have V5 : Arv Z h5 t kc .byte (16 : Int32) [(.int by1), (.int by2), (.int by3), (.int by4), (.int by5), (.int (StrChars.lo8 q1)), (.int (StrChars.lo8 q2)), (.int by8), (.int by9), (.int by10), (.int by11), (.int by12), (.int by13), (.int by14), (.int by15), (.int by16)] (.int (0 : Int32)) := A5
  show Go p e below _ (T5.setTop (mkF m 25 #[.val (.ref x2), .val (.ref t), .val (.int (5 : Int32)), .val (.int (0 : Int32))] []))
  refine Go.of (t' := T5.setTop (mkF m 43 #[.val (.ref x2), .val (.ref t), .val (.int (5 : Int32)), .val (.int (0 : Int32))] [])) (fun _ kk => XS.goto W5.here hx rfl (pc0 := 25) (pc' := 43) rfl (hb hby d110_25) (by decide +kernel) (by decide +kernel) kk) ?_
  exact W5.retV hx hEL hs hlk (by decide +kernel) (by decide +kernel) hret (hb hby d110_43) (fun S hS => ⟨rfl, V5⟩)
theorem d111_0 : decode jdk_68_method_73_code 0 = .ok (.aload_n 0, 1) := by decide +kernel
theorem d111_1 : decode jdk_68_method_73_code 1 = .ok (.aload_n 2, 1) := by decide +kernel
theorem d111_2 : decode jdk_68_method_73_code 2 = .ok (.invokevirtual 397, 3) := by decide +kernel
theorem d111_5 : decode jdk_68_method_73_code 5 = .ok (.aload_n 2, 1) := by decide +kernel
theorem d111_6 : decode jdk_68_method_73_code 6 = .ok (.aload_n 0, 1) := by decide +kernel
theorem d111_7 : decode jdk_68_method_73_code 7 = .ok (.getfield 15, 3) := by decide +kernel
theorem d111_10 : decode jdk_68_method_73_code 10 = .ok (.iload_n 1, 1) := by decide +kernel
theorem d111_11 : decode jdk_68_method_73_code 11 = .ok (.aload_n 0, 1) := by decide +kernel
theorem d111_12 : decode jdk_68_method_73_code 12 = .ok (.getfield 22, 3) := by decide +kernel
theorem d111_15 : decode jdk_68_method_73_code 15 = .ok (.invokevirtual 399, 3) := by decide +kernel
theorem d111_18 : decode jdk_68_method_73_code 18 = .ok (.return_, 1) := by decide +kernel
theorem ef111 (m : MethodId) (x0 : Addr) (x1 : Int32) (x2 : Addr)  : entryFrame m #[(.ref x0), (.int x1), (.ref x2)] 3 = mkF m 0 #[.val (.ref x0), .val (.int x1), .val (.ref x2)] [] := by first | (simp [entryFrame, mkF, argsToLocals, Value.category]; done) | rfl | rfl
set_option maxRecDepth 65536 in
set_option maxHeartbeats 40000000 in
theorem rm111 (l : Launch) (Z : State) (a0 : Array Value) (hw : ∀ d ∈ tables_1, d.before a0 Z = true) (hEL : EW Z a0 EL0) (zc : Int32) (SC : Sta Z Z.heap "java/lang/String" "COMPACT_STRINGS" "Z" (.int zc)) (hzc : ¬ zc = 0) (fm : Value) (SF : Sta Z Z.heap "jdk/internal/util/Preconditions" "SIOOBE_FORMATTER" "Ljava/util/function/BiFunction;" fm) (rfm : fm.isRef = true) (a1 : Addr) (x2 : Addr) (t : Addr) (kc : ClassId) (by1 : Int32) (by2 : Int32) (by3 : Int32) (by4 : Int32) (by5 : Int32) (by6 : Int32) (by7 : Int32) (by8 : Int32) (by9 : Int32) (by10 : Int32) (by11 : Int32) (by12 : Int32) (by13 : Int32) (by14 : Int32) (by15 : Int32) (by16 : Int32) (q1 : Int32) (q2 : Int32) (h0 : Heap) {n0 : Nat} (O0 : Old Z n0 h0) (Eb : Exa Z h0 a1 "java/lang/StringBuilder") (Fvp : Fld Z h0 a1 "java/lang/AbstractStringBuilder" "value" "[B" (.ref t)) (Fcp : Fld Z h0 a1 "java/lang/AbstractStringBuilder" "coder" "B" (.int (0 : Int32))) (Ab : Arv Z h0 t kc .byte (16 : Int32) [(.int by1), (.int by2), (.int by3), (.int by4), (.int by5), (.int by6), (.int by7), (.int by8), (.int by9), (.int by10), (.int by11), (.int by12), (.int by13), (.int by14), (.int by15), (.int by16)] (.int (0 : Int32))) (g2 : n0 ≤ t) (Sa : Str Z h0 x2 [q1, q2]) (cq1 : ¬ q1 < 0 ∧ ¬ (255 : Int32) < q1) (cq2 : ¬ q2 < 0 ∧ ¬ (255 : Int32) < q2) :
    Met l Z EL0 n0 (⟨"java/lang/AbstractStringBuilder", "putStringAt", "(ILjava/lang/String;)V"⟩ : MethodName) jdk_68_method_73_code 3 none [] ({ frames := 2, cells := 0, slots := 0, locals := 33 } : Room) #[(.ref a1), (.int (5 : Int32)), (.ref x2)] h0 [t] [t] (fun v h' S => v = none ∧ Arv Z h' t kc .byte (16 : Int32) [(.int by1), (.int by2), (.int by3), (.int by4), (.int by5), (.int (StrChars.lo8 q1)), (.int (StrChars.lo8 q2)), (.int by8), (.int by9), (.int by10), (.int by11), (.int by12), (.int by13), (.int by14), (.int by15), (.int by16)] (.int (0 : Int32))) := by
  refine Met.of (plainFor_of_name pn0) O0 ?_
  intro p e s m below meth c T0 hx hby hml hret hlk hnm hs W0
  have W0 : Wk p l e _ s m _ below meth c Z EL0 n0 [t] "java/lang/AbstractStringBuilder" [t] T0 0 0 h0 := W0
  have hSA := fun d hd => hw d (sa_in d hd)
  have hws := fun d hd => hw d (ws_in d hd)
  have hln := fun d hd => hw d (ln_in d hd)
  have heq := fun d hd => hw d (eq_in d hd)
  refine Go.of (fun _ kk => castTop (ef111 m a1 (5 : Int32) x2) kk) ?_
  show Go p e below _ (T0.setTop (mkF m 0 #[.val (.ref a1), .val (.int (5 : Int32)), .val (.ref x2)] []))
  refine Go.of (t' := T0.setTop (mkF m 1 #[.val (.ref a1), .val (.int (5 : Int32)), .val (.ref x2)] [(.ref a1)])) (fun _ kk => XS.aloadN W0.here hx rfl (hb hby d111_0) rfl rfl kk) ?_
  refine Go.of (t' := T0.setTop (mkF m 2 #[.val (.ref a1), .val (.int (5 : Int32)), .val (.ref x2)] [(.ref x2), (.ref a1)])) (fun _ kk => XS.aloadN W0.here hx rfl (hb hby d111_1) rfl rfl kk) ?_
  refine W0.callW hx hEL (hw _ (List.mem_of_getElem? (i := 87) rfl)) (hw _ (List.mem_of_getElem? (i := 90) rfl)) (hw _ (List.mem_of_getElem? (i := 88) rfl)) (hw _ (List.mem_of_getElem? (i := 44) rfl)) (hw _ (List.mem_of_getElem? (i := 91) rfl)) (by decide +kernel) Eb (a := a1) (argsL := [(.ref x2)]) (rest := []) (rm32 l Z a0 hw hEL zc SC hzc fm SF rfm a1 x2 q1 q2 h0 W0.old Eb Fcp Sa cq1 cq2) all0 (by decide +kernel) (Wd := 0) (by decide +kernel) (by decide +kernel) (by decide +kernel) all0 rfl (by rw [hml]; rfl) (lenOf pd3 rfl) rfl (by show 2 * 0 + _ ≤ _; exact Nat.le_of_eq rfl) (hb hby d111_2) (fun T1 h1 v1 P1 Ws1 K1 q1 => ?_)
  have W1 := Ws1 [] all0
  obtain ⟨rfl, rfl⟩ := q1
  show Go p e below _ (T1.setTop (mkF m 5 #[.val (.ref a1), .val (.int (5 : Int32)), .val (.ref x2)] []))
  refine Go.of (t' := T1.setTop (mkF m 6 #[.val (.ref a1), .val (.int (5 : Int32)), .val (.ref x2)] [(.ref x2)])) (fun _ kk => XS.aloadN W1.here hx rfl (hb hby d111_5) rfl rfl kk) ?_
  refine Go.of (t' := T1.setTop (mkF m 7 #[.val (.ref a1), .val (.int (5 : Int32)), .val (.ref x2)] [(.ref a1), (.ref x2)])) (fun _ kk => XS.aloadN W1.here hx rfl (hb hby d111_6) rfl rfl kk) ?_
  refine W1.getF hx (host := "") (Or.inl (hw _ (List.mem_of_getElem? (i := 48) rfl))) Via.refl Fvp rfl rfl (hb hby d111_7) (fun T2 W2 => ?_)
  show Go p e below _ (T2.setTop (mkF m 10 #[.val (.ref a1), .val (.int (5 : Int32)), .val (.ref x2)] [(.ref t), (.ref x2)]))
  refine Go.of (t' := T2.setTop (mkF m 11 #[.val (.ref a1), .val (.int (5 : Int32)), .val (.ref x2)] [(.int (5 : Int32)), (.ref t), (.ref x2)])) (fun _ kk => XS.iloadN W2.here hx rfl (hb hby d111_10) rfl kk) ?_
  refine Go.of (t' := T2.setTop (mkF m 12 #[.val (.ref a1), .val (.int (5 : Int32)), .val (.ref x2)] [(.ref a1), (.int (5 : Int32)), (.ref t), (.ref x2)])) (fun _ kk => XS.aloadN W2.here hx rfl (hb hby d111_11) rfl rfl kk) ?_
  refine W2.getF hx (host := "") (Or.inl (hw _ (List.mem_of_getElem? (i := 50) rfl))) Via.refl Fcp rfl rfl (hb hby d111_12) (fun T3 W3 => ?_)
  show Go p e below _ (T3.setTop (mkF m 15 #[.val (.ref a1), .val (.int (5 : Int32)), .val (.ref x2)] [(.int (0 : Int32)), (.int (5 : Int32)), (.ref t), (.ref x2)]))
  have k5 := Sa.exa
  refine W3.callV hx hEL (hw _ (List.mem_of_getElem? (i := 93) rfl)) (hw _ (List.mem_of_getElem? (i := 94) rfl)) (hw _ (List.mem_of_getElem? (i := 96) rfl)) (hw _ (List.mem_of_getElem? (i := 95) rfl)) (hw _ (List.mem_of_getElem? (i := 2) rfl)) (hw _ (List.mem_of_getElem? (i := 97) rfl)) (by decide +kernel) k5 (a := x2) (argsL := [(.ref t), (.int (5 : Int32)), (.int (0 : Int32))]) (rest := []) (rm110 l Z a0 hw hEL zc SC hzc fm SF rfm x2 t kc by1 by2 by3 by4 by5 by6 by7 by8 by9 by10 by11 by12 by13 by14 by15 by16 q1 q2 h0 W3.old Sa cq1 cq2 Ab g2) (allS (List.mem_of_getElem? (i := 0) rfl) all0) (by decide +kernel) (Wd := 0) (by decide +kernel) (by decide +kernel) (by decide +kernel) (allS ⟨g2, (Or.inl (List.mem_of_getElem? (i := 0) rfl))⟩ all0) rfl (by rw [hml]; rfl) (lenOf pd4 rfl) rfl (by show 2 * 0 + _ ≤ _; exact Nat.le_of_eq rfl) (hb hby d111_15) (fun T4 h4 v4 P4 Ws4 K4 q4 => ?_)
  have W4 := Ws4 [] all0
  obtain ⟨rfl, A4⟩ := q4
  show Go p e below _ (T4.setTop (mkF m 18 #[.val (.ref a1), .val (.int (5 : Int32)), .val (.ref x2)] []))
  exact W4.retV hx hEL hs hlk (by decide +kernel) (by decide +kernel) hret (hb hby d111_18) (fun S hS => ⟨rfl, A4⟩)
theorem d112_0 : decode jdk_68_method_22_code 0 = .ok (.aload_n 1, 1) := by decide +kernel
theorem d112_1 : decode jdk_68_method_22_code 1 = .ok (.ifnonnull 8, 3) := by decide +kernel
theorem d112_9 : decode jdk_68_method_22_code 9 = .ok (.aload_n 1, 1) := by decide +kernel
theorem d112_10 : decode jdk_68_method_22_code 10 = .ok (.invokevirtual 32, 3) := by decide +kernel
theorem d112_13 : decode jdk_68_method_22_code 13 = .ok (.istore_n 2, 1) := by decide +kernel
theorem d112_14 : decode jdk_68_method_22_code 14 = .ok (.aload_n 0, 1) := by decide +kernel
theorem d112_15 : decode jdk_68_method_22_code 15 = .ok (.aload_n 0, 1) := by decide +kernel
theorem d112_16 : decode jdk_68_method_22_code 16 = .ok (.getfield 79, 3) := by decide +kernel
theorem d112_19 : decode jdk_68_method_22_code 19 = .ok (.iload_n 2, 1) := by decide +kernel
theorem d112_20 : decode jdk_68_method_22_code 20 = .ok (.iadd, 1) := by decide +kernel
theorem d112_21 : decode jdk_68_method_22_code 21 = .ok (.invokevirtual 100, 3) := by decide +kernel
theorem d112_24 : decode jdk_68_method_22_code 24 = .ok (.aload_n 0, 1) := by decide +kernel
theorem d112_25 : decode jdk_68_method_22_code 25 = .ok (.aload_n 0, 1) := by decide +kernel
theorem d112_26 : decode jdk_68_method_22_code 26 = .ok (.getfield 79, 3) := by decide +kernel
theorem d112_29 : decode jdk_68_method_22_code 29 = .ok (.aload_n 1, 1) := by decide +kernel
theorem d112_30 : decode jdk_68_method_22_code 30 = .ok (.invokevirtual 208, 3) := by decide +kernel
theorem d112_33 : decode jdk_68_method_22_code 33 = .ok (.aload_n 0, 1) := by decide +kernel
theorem d112_34 : decode jdk_68_method_22_code 34 = .ok (.dup, 1) := by decide +kernel
theorem d112_35 : decode jdk_68_method_22_code 35 = .ok (.getfield 79, 3) := by decide +kernel
theorem d112_38 : decode jdk_68_method_22_code 38 = .ok (.iload_n 2, 1) := by decide +kernel
theorem d112_39 : decode jdk_68_method_22_code 39 = .ok (.iadd, 1) := by decide +kernel
theorem d112_40 : decode jdk_68_method_22_code 40 = .ok (.putfield 79, 3) := by decide +kernel
theorem d112_43 : decode jdk_68_method_22_code 43 = .ok (.aload_n 0, 1) := by decide +kernel
theorem d112_44 : decode jdk_68_method_22_code 44 = .ok (.areturn, 1) := by decide +kernel
theorem ef112 (m : MethodId) (x0 : Addr) (x1 : Addr)  : entryFrame m #[(.ref x0), (.ref x1)] 3 = mkF m 0 #[.val (.ref x0), .val (.ref x1), .unset] [] := by first | (simp [entryFrame, mkF, argsToLocals, Value.category]; done) | rfl | rfl
set_option maxRecDepth 65536 in
set_option maxHeartbeats 40000000 in
theorem rm112 (l : Launch) (Z : State) (a0 : Array Value) (hw : ∀ d ∈ tables_1, d.before a0 Z = true) (hEL : EW Z a0 EL0) (zc : Int32) (SC : Sta Z Z.heap "java/lang/String" "COMPACT_STRINGS" "Z" (.int zc)) (hzc : ¬ zc = 0) (fm : Value) (SF : Sta Z Z.heap "jdk/internal/util/Preconditions" "SIOOBE_FORMATTER" "Ljava/util/function/BiFunction;" fm) (rfm : fm.isRef = true) (a1 : Addr) (x2 : Addr) (t : Addr) (kc : ClassId) (by1 : Int32) (by2 : Int32) (by3 : Int32) (by4 : Int32) (by5 : Int32) (by6 : Int32) (by7 : Int32) (by8 : Int32) (by9 : Int32) (by10 : Int32) (by11 : Int32) (by12 : Int32) (by13 : Int32) (by14 : Int32) (by15 : Int32) (by16 : Int32) (q1 : Int32) (q2 : Int32) (h0 : Heap) {n0 : Nat} (O0 : Old Z n0 h0) (Eb : Exa Z h0 a1 "java/lang/StringBuilder") (Fvp : Fld Z h0 a1 "java/lang/AbstractStringBuilder" "value" "[B" (.ref t)) (Fcp : Fld Z h0 a1 "java/lang/AbstractStringBuilder" "coder" "B" (.int (0 : Int32))) (Fnp : Fld Z h0 a1 "java/lang/AbstractStringBuilder" "count" "I" (.int (5 : Int32))) (Ab : Arv Z h0 t kc .byte (16 : Int32) [(.int by1), (.int by2), (.int by3), (.int by4), (.int by5), (.int by6), (.int by7), (.int by8), (.int by9), (.int by10), (.int by11), (.int by12), (.int by13), (.int by14), (.int by15), (.int by16)] (.int (0 : Int32))) (g1 : n0 ≤ a1) (g2 : n0 ≤ t) (nat : a1 ≠ t) (Sa : Str Z h0 x2 [q1, q2]) (cq1 : ¬ q1 < 0 ∧ ¬ (255 : Int32) < q1) (cq2 : ¬ q2 < 0 ∧ ¬ (255 : Int32) < q2) :
    Met l Z EL0 n0 (⟨"java/lang/AbstractStringBuilder", "append", "(Ljava/lang/String;)Ljava/lang/AbstractStringBuilder;"⟩ : MethodName) jdk_68_method_22_code 3 (some (.object "java/lang/AbstractStringBuilder")) [] ({ frames := 3, cells := 0, slots := 0, locals := 47 } : Room) #[(.ref a1), (.ref x2)] h0 [a1, t] [t] (fun v h' S => v = some (.ref a1) ∧ Fld Z h' a1 "java/lang/AbstractStringBuilder" "value" "[B" (.ref t) ∧ Fld Z h' a1 "java/lang/AbstractStringBuilder" "coder" "B" (.int (0 : Int32)) ∧ Fld Z h' a1 "java/lang/AbstractStringBuilder" "count" "I" (.int (7 : Int32)) ∧ Arv Z h' t kc .byte (16 : Int32) [(.int by1), (.int by2), (.int by3), (.int by4), (.int by5), (.int (StrChars.lo8 q1)), (.int (StrChars.lo8 q2)), (.int by8), (.int by9), (.int by10), (.int by11), (.int by12), (.int by13), (.int by14), (.int by15), (.int by16)] (.int (0 : Int32))) := by
  refine Met.of (plainFor_of_name pn0) O0 ?_
  intro p e s m below meth c T0 hx hby hml hret hlk hnm hs W0
  have W0 : Wk p l e _ s m _ below meth c Z EL0 n0 [a1, t] "java/lang/AbstractStringBuilder" [t] T0 0 0 h0 := W0
  have hSA := fun d hd => hw d (sa_in d hd)
  have hws := fun d hd => hw d (ws_in d hd)
  have hln := fun d hd => hw d (ln_in d hd)
  have heq := fun d hd => hw d (eq_in d hd)
  refine Go.of (fun _ kk => castTop (ef112 m a1 x2) kk) ?_
  show Go p e below _ (T0.setTop (mkF m 0 #[.val (.ref a1), .val (.ref x2), .unset] []))
  refine Go.of (t' := T0.setTop (mkF m 1 #[.val (.ref a1), .val (.ref x2), .unset] [(.ref x2)])) (fun _ kk => XS.aloadN W0.here hx rfl (hb hby d112_0) rfl rfl kk) ?_
  refine Go.of (t' := T0.setTop (mkF m 9 #[.val (.ref a1), .val (.ref x2), .unset] [])) (fun _ kk => XS.ifnonnullYes W0.here hx rfl (pc0 := 1) (pc' := 9) rfl (hb hby d112_1) rfl (by decide +kernel) (by decide +kernel) kk) ?_
  refine Go.of (t' := T0.setTop (mkF m 10 #[.val (.ref a1), .val (.ref x2), .unset] [(.ref x2)])) (fun _ kk => XS.aloadN W0.here hx rfl (hb hby d112_9) rfl rfl kk) ?_
  refine W0.strLen hx hln (hw _ (List.mem_of_getElem? (i := 1) rfl)) SC hzc Sa (hw _ (List.mem_of_getElem? (i := 65) rfl)) (hw _ (List.mem_of_getElem? (i := 66) rfl)) (hw _ (List.mem_of_getElem? (i := 68) rfl)) (hw _ (List.mem_of_getElem? (i := 67) rfl)) (by decide +kernel) (Wd := 0) (by decide +kernel) (by decide +kernel) (by decide +kernel) rfl (by rw [hml]; rfl) rfl (by show 2 * 0 + _ ≤ _; exact Nat.le_of_eq rfl) (hb hby d112_10) (fun T1 W1 => ?_)
  show Go p e below _ (T1.setTop (mkF m 13 #[.val (.ref a1), .val (.ref x2), .unset] [(.int (2 : Int32))]))
  refine Go.of (t' := T1.setTop (mkF m 14 #[.val (.ref a1), .val (.ref x2), .val (.int (2 : Int32))] [])) (fun _ kk => XS.istoreN W1.here hx rfl (hb hby d112_13) rfl (l' := #[.val (.ref a1), .val (.ref x2), .val (.int (2 : Int32))]) rfl kk) ?_
  refine Go.of (t' := T1.setTop (mkF m 15 #[.val (.ref a1), .val (.ref x2), .val (.int (2 : Int32))] [(.ref a1)])) (fun _ kk => XS.aloadN W1.here hx rfl (hb hby d112_14) rfl rfl kk) ?_
  refine Go.of (t' := T1.setTop (mkF m 16 #[.val (.ref a1), .val (.ref x2), .val (.int (2 : Int32))] [(.ref a1), (.ref a1)])) (fun _ kk => XS.aloadN W1.here hx rfl (hb hby d112_15) rfl rfl kk) ?_
  refine W1.getF hx (host := "") (Or.inl (hw _ (List.mem_of_getElem? (i := 75) rfl))) Via.refl Fnp rfl rfl (hb hby d112_16) (fun T2 W2 => ?_)
  show Go p e below _ (T2.setTop (mkF m 19 #[.val (.ref a1), .val (.ref x2), .val (.int (2 : Int32))] [(.int (5 : Int32)), (.ref a1)]))
  refine Go.of (t' := T2.setTop (mkF m 20 #[.val (.ref a1), .val (.ref x2), .val (.int (2 : Int32))] [(.int (2 : Int32)), (.int (5 : Int32)), (.ref a1)])) (fun _ kk => XS.iloadN W2.here hx rfl (hb hby d112_19) rfl kk) ?_
  refine Go.of (t' := T2.setTop (mkF m 21 #[.val (.ref a1), .val (.ref x2), .val (.int (2 : Int32))] [(.int (7 : Int32)), (.ref a1)])) (fun _ kk => XS.iadd W2.here hx rfl (hb hby d112_20) rfl kk) ?_
  refine W2.callW hx hEL (hw _ (List.mem_of_getElem? (i := 77) rfl)) (hw _ (List.mem_of_getElem? (i := 80) rfl)) (hw _ (List.mem_of_getElem? (i := 78) rfl)) (hw _ (List.mem_of_getElem? (i := 44) rfl)) (hw _ (List.mem_of_getElem? (i := 81) rfl)) (by decide +kernel) Eb (a := a1) (argsL := [(.int (7 : Int32))]) (rest := []) (rm21 l Z a0 hw hEL zc SC hzc fm SF rfm a1 t kc by1 by2 by3 by4 by5 by6 by7 by8 by9 by10 by11 by12 by13 by14 by15 by16 h0 W2.old Eb Fvp Fcp Ab) all0 (by decide +kernel) (Wd := 0) (by decide +kernel) (by decide +kernel) (by decide +kernel) all0 rfl (by rw [hml]; rfl) (lenOf pd0 rfl) rfl (by show 2 * 0 + _ ≤ _; exact Nat.le_of_eq rfl) (hb hby d112_21) (fun T3 h3 v3 P3 Ws3 K3 q3 => ?_)
  have W3 := Ws3 [] all0
  obtain ⟨rfl, rfl⟩ := q3
  show Go p e below _ (T3.setTop (mkF m 24 #[.val (.ref a1), .val (.ref x2), .val (.int (2 : Int32))] []))
  refine Go.of (t' := T3.setTop (mkF m 25 #[.val (.ref a1), .val (.ref x2), .val (.int (2 : Int32))] [(.ref a1)])) (fun _ kk => XS.aloadN W3.here hx rfl (hb hby d112_24) rfl rfl kk) ?_
  refine Go.of (t' := T3.setTop (mkF m 26 #[.val (.ref a1), .val (.ref x2), .val (.int (2 : Int32))] [(.ref a1), (.ref a1)])) (fun _ kk => XS.aloadN W3.here hx rfl (hb hby d112_25) rfl rfl kk) ?_
  refine W3.getF hx (host := "") (Or.inl (hw _ (List.mem_of_getElem? (i := 75) rfl))) Via.refl Fnp rfl rfl (hb hby d112_26) (fun T4 W4 => ?_)
  show Go p e below _ (T4.setTop (mkF m 29 #[.val (.ref a1), .val (.ref x2), .val (.int (2 : Int32))] [(.int (5 : Int32)), (.ref a1)]))
  refine Go.of (t' := T4.setTop (mkF m 30 #[.val (.ref a1), .val (.ref x2), .val (.int (2 : Int32))] [(.ref x2), (.int (5 : Int32)), (.ref a1)])) (fun _ kk => XS.aloadN W4.here hx rfl (hb hby d112_29) rfl rfl kk) ?_
  refine W4.callW hx hEL (hw _ (List.mem_of_getElem? (i := 82) rfl)) (hw _ (List.mem_of_getElem? (i := 85) rfl)) (hw _ (List.mem_of_getElem? (i := 83) rfl)) (hw _ (List.mem_of_getElem? (i := 44) rfl)) (hw _ (List.mem_of_getElem? (i := 86) rfl)) (by decide +kernel) Eb (a := a1) (argsL := [(.int (5 : Int32)), (.ref x2)]) (rest := []) (rm111 l Z a0 hw hEL zc SC hzc fm SF rfm a1 x2 t kc by1 by2 by3 by4 by5 by6 by7 by8 by9 by10 by11 by12 by13 by14 by15 by16 q1 q2 h0 W4.old Eb Fvp Fcp Ab g2 Sa cq1 cq2) (allS (List.mem_of_getElem? (i := 0) rfl) all0) (by decide +kernel) (Wd := 0) (by decide +kernel) (by decide +kernel) (by decide +kernel) (allS ⟨g2, (Or.inl (List.mem_of_getElem? (i := 1) rfl))⟩ all0) rfl (by rw [hml]; rfl) (lenOf pd5 rfl) rfl (by show 2 * 0 + _ ≤ _; exact Nat.le_of_eq rfl) (hb hby d112_30) (fun T5 h5 v5 P5 Ws5 K5 q5 => ?_)
  have W5 := Ws5 [] all0
  obtain ⟨rfl, A5⟩ := q5
  show Go p e below _ (T5.setTop (mkF m 33 #[.val (.ref a1), .val (.ref x2), .val (.int (2 : Int32))] []))
  refine Go.of (t' := T5.setTop (mkF m 34 #[.val (.ref a1), .val (.ref x2), .val (.int (2 : Int32))] [(.ref a1)])) (fun _ kk => XS.aloadN W5.here hx rfl (hb hby d112_33) rfl rfl kk) ?_
  refine Go.of (t' := T5.setTop (mkF m 35 #[.val (.ref a1), .val (.ref x2), .val (.int (2 : Int32))] [(.ref a1), (.ref a1)])) (fun _ kk => XS.dup W5.here hx rfl (hb hby d112_34) rfl rfl kk) ?_
  have k6 := (Fnp.keep K5 (ninS nat nin0))
  refine W5.getF hx (host := "") (Or.inl (hw _ (List.mem_of_getElem? (i := 75) rfl))) Via.refl k6 rfl rfl (hb hby d112_35) (fun T7 W7 => ?_)
  show Go p e below _ (T7.setTop (mkF m 38 #[.val (.ref a1), .val (.ref x2), .val (.int (2 : Int32))] [(.int (5 : Int32)), (.ref a1)]))
  refine Go.of (t' := T7.setTop (mkF m 39 #[.val (.ref a1), .val (.ref x2), .val (.int (2 : Int32))] [(.int (2 : Int32)), (.int (5 : Int32)), (.ref a1)])) (fun _ kk => XS.iloadN W7.here hx rfl (hb hby d112_38) rfl kk) ?_
  refine Go.of (t' := T7.setTop (mkF m 40 #[.val (.ref a1), .val (.ref x2), .val (.int (2 : Int32))] [(.int (7 : Int32)), (.ref a1)])) (fun _ kk => XS.iadd W7.here hx rfl (hb hby d112_39) rfl kk) ?_
  have k8 := (Eb.keep K5)
  refine W7.putF hx (host := "") (Or.inl (hw _ (List.mem_of_getElem? (i := 75) rfl))) Via.refl k6 k8 (Or.inl (hw _ (List.mem_of_getElem? (i := 76) rfl))) (hw _ (List.mem_of_getElem? (i := 35) rfl)) (ty := .int) (by decide +kernel) rfl rfl g1 (Or.inl (List.mem_of_getElem? (i := 0) rfl)) (Or.inr ⟨by decide, by decide⟩) rfl rfl (hb hby d112_40) (fun T9 h9 W9 w9 => ?_)
  have k10 := (Fvp.keep K5 (ninS nat nin0))
  have k11 := (Fcp.keep K5 (ninS nat nin0))
  have K9 := Keep.of_wr w9
  have k12 := k10.other w9 (Or.inr (slot_ne (Or.inl (hw _ (List.mem_of_getElem? (i := 49) rfl))) (Or.inl (hw _ (List.mem_of_getElem? (i := 76) rfl))) (by decide +kernel) (t := (.array .byte)) (t' := .int) (by decide +kernel) (by decide +kernel)))
  have k13 := k11.other w9 (Or.inr (slot_ne (Or.inl (hw _ (List.mem_of_getElem? (i := 51) rfl))) (Or.inl (hw _ (List.mem_of_getElem? (i := 76) rfl))) (by decide +kernel) (t := .byte) (t' := .int) (by decide +kernel) (by decide +kernel)))
  have k14 := k6.same w9
  show Go p e below _ (T9.setTop (mkF m 43 #[.val (.ref a1), .val (.ref x2), .val (.int (2 : Int32))] []))
  refine Go.of (t' := T9.setTop (mkF m 44 #[.val (.ref a1), .val (.ref x2), .val (.int (2 : Int32))] [(.ref a1)])) (fun _ kk => XS.aloadN W9.here hx rfl (hb hby d112_43) rfl rfl kk) ?_
  have k15 := (A5.keep K9 (ninS (nat).symm nin0))
  exact W9.retA hx hEL hs hlk (by decide +kernel) (by decide +kernel) hret rfl rfl (hb hby d112_44) (fun S hS => ⟨rfl, k12, k13, k14, k15⟩)
theorem d113_0 : decode jdk_67_method_7_code 0 = .ok (.aload_n 0, 1) := by decide +kernel
theorem d113_1 : decode jdk_67_method_7_code 1 = .ok (.aload_n 1, 1) := by decide +kernel
theorem d113_2 : decode jdk_67_method_7_code 2 = .ok (.invokespecial 29, 3) := by decide +kernel
theorem d113_5 : decode jdk_67_method_7_code 5 = .ok (.pop, 1) := by decide +kernel
theorem d113_6 : decode jdk_67_method_7_code 6 = .ok (.aload_n 0, 1) := by decide +kernel
theorem d113_7 : decode jdk_67_method_7_code 7 = .ok (.areturn, 1) := by decide +kernel
theorem ef113 (m : MethodId) (x0 : Addr) (x1 : Addr)  : entryFrame m #[(.ref x0), (.ref x1)] 2 = mkF m 0 #[.val (.ref x0), .val (.ref x1)] [] := by first | (simp [entryFrame, mkF, argsToLocals, Value.category]; done) | rfl | rfl
set_option maxRecDepth 65536 in
set_option maxHeartbeats 40000000 in
theorem rm113 (l : Launch) (Z : State) (a0 : Array Value) (hw : ∀ d ∈ tables_1, d.before a0 Z = true) (hEL : EW Z a0 EL0) (zc : Int32) (SC : Sta Z Z.heap "java/lang/String" "COMPACT_STRINGS" "Z" (.int zc)) (hzc : ¬ zc = 0) (fm : Value) (SF : Sta Z Z.heap "jdk/internal/util/Preconditions" "SIOOBE_FORMATTER" "Ljava/util/function/BiFunction;" fm) (rfm : fm.isRef = true) (a1 : Addr) (x2 : Addr) (t : Addr) (kc : ClassId) (by1 : Int32) (by2 : Int32) (by3 : Int32) (by4 : Int32) (by5 : Int32) (by6 : Int32) (by7 : Int32) (by8 : Int32) (by9 : Int32) (by10 : Int32) (by11 : Int32) (by12 : Int32) (by13 : Int32) (by14 : Int32) (by15 : Int32) (by16 : Int32) (q1 : Int32) (q2 : Int32) (h0 : Heap) {n0 : Nat} (O0 : Old Z n0 h0) (Eb : Exa Z h0 a1 "java/lang/StringBuilder") (Fvp : Fld Z h0 a1 "java/lang/AbstractStringBuilder" "value" "[B" (.ref t)) (Fcp : Fld Z h0 a1 "java/lang/AbstractStringBuilder" "coder" "B" (.int (0 : Int32))) (Fnp : Fld Z h0 a1 "java/lang/AbstractStringBuilder" "count" "I" (.int (5 : Int32))) (Ab : Arv Z h0 t kc .byte (16 : Int32) [(.int by1), (.int by2), (.int by3), (.int by4), (.int by5), (.int by6), (.int by7), (.int by8), (.int by9), (.int by10), (.int by11), (.int by12), (.int by13), (.int by14), (.int by15), (.int by16)] (.int (0 : Int32))) (g1 : n0 ≤ a1) (g2 : n0 ≤ t) (nat : a1 ≠ t) (Sa : Str Z h0 x2 [q1, q2]) (cq1 : ¬ q1 < 0 ∧ ¬ (255 : Int32) < q1) (cq2 : ¬ q2 < 0 ∧ ¬ (255 : Int32) < q2) :
    Met l Z EL0 n0 (⟨"java/lang/StringBuilder", "append", "(Ljava/lang/String;)Ljava/lang/StringBuilder;"⟩ : MethodName) jdk_67_method_7_code 2 (some (.object "java/lang/StringBuilder")) [] ({ frames := 4, cells := 0, slots := 0, locals := 61 } : Room) #[(.ref a1), (.ref x2)] h0 [a1, t] [t] (fun v h' S => v = some (.ref a1) ∧ Fld Z h' a1 "java/lang/AbstractStringBuilder" "value" "[B" (.ref t) ∧ Fld Z h' a1 "java/lang/AbstractStringBuilder" "coder" "B" (.int (0 : Int32)) ∧ Fld Z h' a1 "java/lang/AbstractStringBuilder" "count" "I" (.int (7 : Int32)) ∧ Arv Z h' t kc .byte (16 : Int32) [(.int by1), (.int by2), (.int by3), (.int by4), (.int by5), (.int (StrChars.lo8 q1)), (.int (StrChars.lo8 q2)), (.int by8), (.int by9), (.int by10), (.int by11), (.int by12), (.int by13), (.int by14), (.int by15), (.int by16)] (.int (0 : Int32))) := by
  refine Met.of (plainFor_of_name pn1) O0 ?_
  intro p e s m below meth c T0 hx hby hml hret hlk hnm hs W0
  have W0 : Wk p l e _ s m _ below meth c Z EL0 n0 [a1, t] "java/lang/StringBuilder" [t] T0 0 0 h0 := W0
  have hSA := fun d hd => hw d (sa_in d hd)
  have hws := fun d hd => hw d (ws_in d hd)
  have hln := fun d hd => hw d (ln_in d hd)
  have heq := fun d hd => hw d (eq_in d hd)
  refine Go.of (fun _ kk => castTop (ef113 m a1 x2) kk) ?_
  show Go p e below _ (T0.setTop (mkF m 0 #[.val (.ref a1), .val (.ref x2)] []))
  refine Go.of (t' := T0.setTop (mkF m 1 #[.val (.ref a1), .val (.ref x2)] [(.ref a1)])) (fun _ kk => XS.aloadN W0.here hx rfl (hb hby d113_0) rfl rfl kk) ?_
  refine Go.of (t' := T0.setTop (mkF m 2 #[.val (.ref a1), .val (.ref x2)] [(.ref x2), (.ref a1)])) (fun _ kk => XS.aloadN W0.here hx rfl (hb hby d113_1) rfl rfl kk) ?_
  refine W0.callU hx hEL (hw _ (List.mem_of_getElem? (i := 60) rfl)) (hw _ (List.mem_of_getElem? (i := 62) rfl)) (hw _ (List.mem_of_getElem? (i := 80) rfl)) rfl (by decide +kernel) (hw _ (List.mem_of_getElem? (i := 61) rfl)) (hw _ (List.mem_of_getElem? (i := 44) rfl)) (hw _ (List.mem_of_getElem? (i := 64) rfl)) (by decide +kernel) Eb (a := a1) (argsL := [(.ref x2)]) (rest := []) (rm112 l Z a0 hw hEL zc SC hzc fm SF rfm a1 x2 t kc by1 by2 by3 by4 by5 by6 by7 by8 by9 by10 by11 by12 by13 by14 by15 by16 q1 q2 h0 W0.old Eb Fvp Fcp Fnp Ab g1 g2 nat Sa cq1 cq2) (allS (List.mem_of_getElem? (i := 0) rfl) all0) (by decide +kernel) (Wd := 0) (by decide +kernel) (by decide +kernel) (by decide +kernel) (allS ⟨g1, (Or.inl (List.mem_of_getElem? (i := 0) rfl))⟩ (allS ⟨g2, (Or.inl (List.mem_of_getElem? (i := 1) rfl))⟩ all0)) rfl (by rw [hml]; rfl) (lenOf pd6 rfl) rfl (by show 2 * 0 + _ ≤ _; exact Nat.le_of_eq rfl) (hb hby d113_2) (fun T1 h1 v1 P1 Ws1 K1 q1 => ?_)
  have W1 := Ws1 [] all0
  obtain ⟨rfl, Fv1, Fc1, Fn1, A1⟩ := q1
  show Go p e below _ (T1.setTop (mkF m 5 #[.val (.ref a1), .val (.ref x2)] [(.ref a1)]))
  refine Go.of (t' := T1.setTop (mkF m 6 #[.val (.ref a1), .val (.ref x2)] [])) (fun _ kk => XS.pop W1.here hx rfl (hb hby d113_5) rfl rfl kk) ?_
  refine Go.of (t' := T1.setTop (mkF m 7 #[.val (.ref a1), .val (.ref x2)] [(.ref a1)])) (fun _ kk => XS.aloadN W1.here hx rfl (hb hby d113_6) rfl rfl kk) ?_
  exact W1.retA hx hEL hs hlk (by decide +kernel) (by decide +kernel) hret rfl rfl (hb hby d113_7) (fun S hS => ⟨rfl, Fv1, Fc1, Fn1, A1⟩)
theorem d120_0 : decode jdk_42_method_147_code 0 = .ok (.aload_n 0, 1) := by decide +kernel
theorem d120_1 : decode jdk_42_method_147_code 1 = .ok (.invokevirtual 335, 3) := by decide +kernel
theorem d120_4 : decode jdk_42_method_147_code 4 = .ok (.iload_n 3, 1) := by decide +kernel
theorem d120_5 : decode jdk_42_method_147_code 5 = .ok (.if_icmp .ne 23, 3) := by decide +kernel
theorem d120_8 : decode jdk_42_method_147_code 8 = .ok (.aload_n 0, 1) := by decide +kernel
theorem d120_9 : decode jdk_42_method_147_code 9 = .ok (.getfield 9, 3) := by decide +kernel
theorem d120_12 : decode jdk_42_method_147_code 12 = .ok (.iconst 0, 1) := by decide +kernel
theorem d120_13 : decode jdk_42_method_147_code 13 = .ok (.aload_n 1, 1) := by decide +kernel
theorem d120_14 : decode jdk_42_method_147_code 14 = .ok (.iload_n 2, 1) := by decide +kernel
theorem d120_15 : decode jdk_42_method_147_code 15 = .ok (.iload_n 3, 1) := by decide +kernel
theorem d120_16 : decode jdk_42_method_147_code 16 = .ok (.ishl, 1) := by decide +kernel
theorem d120_17 : decode jdk_42_method_147_code 17 = .ok (.aload_n 0, 1) := by decide +kernel
theorem d120_18 : decode jdk_42_method_147_code 18 = .ok (.getfield 9, 3) := by decide +kernel
theorem d120_21 : decode jdk_42_method_147_code 21 = .ok (.arraylength, 1) := by decide +kernel
theorem d120_22 : decode jdk_42_method_147_code 22 = .ok (.invokestatic 212, 3) := by decide +kernel
theorem d120_25 : decode jdk_42_method_147_code 25 = .ok (.goto 18, 3) := by decide +kernel
theorem d120_43 : decode jdk_42_method_147_code 43 = .ok (.return_, 1) := by decide +kernel
theorem ef120 (m : MethodId) (x0 : Addr) (x1 : Addr) (x2 : Int32) (x3 : Int32)  : entryFrame m #[(.ref x0), (.ref x1), (.int x2), (.int x3)] 4 = mkF m 0 #[.val (.ref x0), .val (.ref x1), .val (.int x2), .val (.int x3)] [] := by first | (simp [entryFrame, mkF, argsToLocals, Value.category]; done) | rfl | rfl
set_option maxRecDepth 65536 in
set_option maxHeartbeats 40000000 in
theorem rm120 (l : Launch) (Z : State) (a0 : Array Value) (hw : ∀ d ∈ tables_1, d.before a0 Z = true) (hEL : EW Z a0 EL0) (zc : Int32) (SC : Sta Z Z.heap "java/lang/String" "COMPACT_STRINGS" "Z" (.int zc)) (hzc : ¬ zc = 0) (fm : Value) (SF : Sta Z Z.heap "jdk/internal/util/Preconditions" "SIOOBE_FORMATTER" "Ljava/util/function/BiFunction;" fm) (rfm : fm.isRef = true) (x2 : Addr) (t : Addr) (kc : ClassId) (by1 : Int32) (by2 : Int32) (by3 : Int32) (by4 : Int32) (by5 : Int32) (by6 : Int32) (by7 : Int32) (by8 : Int32) (by9 : Int32) (by10 : Int32) (by11 : Int32) (by12 : Int32) (by13 : Int32) (by14 : Int32) (by15 : Int32) (by16 : Int32) (q1 : Int32) (q2 : Int32) (q3 : Int32) (h0 : Heap) {n0 : Nat} (O0 : Old Z n0 h0) (Sa : Str Z h0 x2 [q1, q2, q3]) (cq1 : ¬ q1 < 0 ∧ ¬ (255 : Int32) < q1) (cq2 : ¬ q2 < 0 ∧ ¬ (255 : Int32) < q2) (cq3 : ¬ q3 < 0 ∧ ¬ (255 : Int32) < q3) (Ab : Arv Z h0 t kc .byte (16 : Int32) [(.int by1), (.int by2), (.int by3), (.int by4), (.int by5), (.int by6), (.int by7), (.int by8), (.int by9), (.int by10), (.int by11), (.int by12), (.int by13), (.int by14), (.int by15), (.int by16)] (.int (0 : Int32))) (g2 : n0 ≤ t) :
    Met l Z EL0 n0 (⟨"java/lang/String", "getBytes", "([BIB)V"⟩ : MethodName) jdk_42_method_147_code 4 none [] ({ frames := 1, cells := 0, slots := 0, locals := 18 } : Room) #[(.ref x2), (.ref t), (.int (7 : Int32)), (.int (0 : Int32))] h0 [t] [t] (fun v h' S => v = none ∧ Arv Z h' t kc .byte (16 : Int32) [(.int by1), (.int by2), (.int by3), (.int by4), (.int by5), (.int by6), (.int by7), (.int (StrChars.lo8 q1)), (.int (StrChars.lo8 q2)), (.int (StrChars.lo8 q3)), (.int by11), (.int by12), (.int by13), (.int by14), (.int by15), (.int by16)] (.int (0 : Int32))) := by
  refine Met.of (plainFor_of_name pn2) O0 ?_
  intro p e s m below meth c T0 hx hby hml hret hlk hnm hs W0
  have W0 : Wk p l e _ s m _ below meth c Z EL0 n0 [t] "java/lang/String" [t] T0 0 0 h0 := W0
  have hSA := fun d hd => hw d (sa_in d hd)
  have hws := fun d hd => hw d (ws_in d hd)
  have hln := fun d hd => hw d (ln_in d hd)
  have heq := fun d hd => hw d (eq_in d hd)
  refine Go.of (fun _ kk => castTop (ef120 m x2 t (7 : Int32) (0 : Int32)) kk) ?_
  show Go p e below _ (T0.setTop (mkF m 0 #[.val (.ref x2), .val (.ref t), .val (.int (7 : Int32)), .val (.int (0 : Int32))] []))
  obtain ⟨t1, kb1, E1, Fv1, Fc1, A1⟩ := Sa.open_ (snd255 (allSi cq1 (allSi cq2 (allSi cq3 all0i))))
  have V1 : Arv Z h0 t1 kb1 .byte (3 : Int32) [(.int (StrChars.lo8 q1)), (.int (StrChars.lo8 q2)), (.int (StrChars.lo8 q3))] (.int (0 : Int32)) := A1
  refine Go.of (t' := T0.setTop (mkF m 1 #[.val (.ref x2), .val (.ref t), .val (.int (7 : Int32)), .val (.int (0 : Int32))] [(.ref x2)])) (fun _ kk => XS.aloadN W0.here hx rfl (hb hby d120_0) rfl rfl kk) ?_
  refine W0.callV hx hEL (hw _ (List.mem_of_getElem? (i := 70) rfl)) (hw _ (List.mem_of_getElem? (i := 71) rfl)) (hw _ (List.mem_of_getElem? (i := 73) rfl)) (hw _ (List.mem_of_getElem? (i := 72) rfl)) (hw _ (List.mem_of_getElem? (i := 2) rfl)) (hw _ (List.mem_of_getElem? (i := 74) rfl)) (by decide +kernel) E1 (a := x2) (argsL := []) (rest := []) (rm4 l Z a0 hw hEL zc SC hzc fm SF rfm x2 h0 W0.old Fc1) all0 (by decide +kernel) (Wd := 0) (by decide +kernel) (by decide +kernel) (by decide +kernel) all0 rfl (by rw [hml]; rfl) (lenOf pd2 rfl) rfl (by show 2 * 0 + _ ≤ _; exact Nat.le_of_eq rfl) (hb hby d120_1) (fun T2 h2 v2 P2 Ws2 K2 q2 => ?_)
  have W2 := Ws2 [] all0
  obtain ⟨rfl, rfl⟩ := q2
  show Go p e below _ (T2.setTop (mkF m 4 #[.val (.ref x2), .val (.ref t), .val (.int (7 : Int32)), .val (.int (0 : Int32))] [(.int (0 : Int32))]))
  refine Go.of (t' := T2.setTop (mkF m 5 #[.val (.ref x2), .val (.ref t), .val (.int (7 : Int32)), .val (.int (0 : Int32))] [(.int (0 : Int32)), (.int (0 : Int32))])) (fun _ kk => XS.iloadN W2.here hx rfl (hb hby d120_4) rfl kk) ?_
  refine Go.of (t' := T2.setTop (mkF m 8 #[.val (.ref x2), .val (.ref t), .val (.int (7 : Int32)), .val (.int (0 : Int32))] [])) (fun _ kk => XS.icmpNo W2.here hx rfl (hb hby d120_5) rfl (XT.ii_ne_f (by decide +kernel)) kk) ?_
  refine Go.of (t' := T2.setTop (mkF m 9 #[.val (.ref x2), .val (.ref t), .val (.int (7 : Int32)), .val (.int (0 : Int32))] [(.ref x2)])) (fun _ kk => XS.aloadN W2.here hx rfl (hb hby d120_8) rfl rfl kk) ?_
  refine W2.getF hx (host := "") (Or.inl (hw _ (List.mem_of_getElem? (i := 28) rfl))) Via.refl Fv1 rfl rfl (hb hby d120_9) (fun T3 W3 => ?_)
  show Go p e below _ (T3.setTop (mkF m 12 #[.val (.ref x2), .val (.ref t), .val (.int (7 : Int32)), .val (.int (0 : Int32))] [(.ref t1)]))
  refine Go.of (t' := T3.setTop (mkF m 13 #[.val (.ref x2), .val (.ref t), .val (.int (7 : Int32)), .val (.int (0 : Int32))] [(.int (0 : Int32)), (.ref t1)])) (fun _ kk => XS.iconst W3.here hx rfl (hb hby d120_12) kk) ?_
  refine Go.of (t' := T3.setTop (mkF m 14 #[.val (.ref x2), .val (.ref t), .val (.int (7 : Int32)), .val (.int (0 : Int32))] [(.ref t), (.int (0 : Int32)), (.ref t1)])) (fun _ kk => XS.aloadN W3.here hx rfl (hb hby d120_13) rfl rfl kk) ?_
  refine Go.of (t' := T3.setTop (mkF m 15 #[.val (.ref x2), .val (.ref t), .val (.int (7 : Int32)), .val (.int (0 : Int32))] [(.int (7 : Int32)), (.ref t), (.int (0 : Int32)), (.ref t1)])) (fun _ kk => XS.iloadN W3.here hx rfl (hb hby d120_14) rfl kk) ?_
  refine Go.of (t' := T3.setTop (mkF m 16 #[.val (.ref x2), .val (.ref t), .val (.int (7 : Int32)), .val (.int (0 : Int32))] [(.int (0 : Int32)), (.int (7 : Int32)), (.ref t), (.int (0 : Int32)), (.ref t1)])) (fun _ kk => XS.iloadN W3.here hx rfl (hb hby d120_15) rfl kk) ?_
  refine Go.of (t' := T3.setTop (mkF m 17 #[.val (.ref x2), .val (.ref t), .val (.int (7 : Int32)), .val (.int (0 : Int32))] [(.int (7 : Int32)), (.ref t), (.int (0 : Int32)), (.ref t1)])) (fun _ kk => XS.ishl W3.here hx rfl (hb hby d120_16) rfl kk) ?_
  refine Go.of (t' := T3.setTop (mkF m 18 #[.val (.ref x2), .val (.ref t), .val (.int (7 : Int32)), .val (.int (0 : Int32))] [(.ref x2), (.int (7 : Int32)), (.ref t), (.int (0 : Int32)), (.ref t1)])) (fun _ kk => XS.aloadN W3.here hx rfl (hb hby d120_17) rfl rfl kk) ?_
  refine W3.getF hx (host := "") (Or.inl (hw _ (List.mem_of_getElem? (i := 28) rfl))) Via.refl Fv1 rfl rfl (hb hby d120_18) (fun T4 W4 => ?_)
  show Go p e below _ (T4.setTop (mkF m 21 #[.val (.ref x2), .val (.ref t), .val (.int (7 : Int32)), .val (.int (0 : Int32))] [(.ref t1), (.int (7 : Int32)), (.ref t), (.int (0 : Int32)), (.ref t1)]))
  refine W4.alen hx V1 rfl rfl (hb hby d120_21) ?_
  show Go p e below _ (T4.setTop (mkF m 22 #[.val (.ref x2), .val (.ref t), .val (.int (7 : Int32)), .val (.int (0 : Int32))] [(.int (3 : Int32)), (.int (7 : Int32)), (.ref t), (.int (0 : Int32)), (.ref t1)]))
  refine W4.cp hx (hw _ (List.mem_of_getElem? (i := 98) rfl)) (hw _ (List.mem_of_getElem? (i := 101) rfl)) (hw _ (List.mem_of_getElem? (i := 99) rfl)) (hw _ (List.mem_of_getElem? (i := 100) rfl)) (us := [(.int (StrChars.lo8 q1)), (.int (StrChars.lo8 q2)), (.int (StrChars.lo8 q3))]) V1 Ab rfl (by decide) (by decide) (by decide) (by decide) (by decide) rfl (Nat.le_of_ble_eq_true rfl) g2 (Or.inl (List.mem_of_getElem? (i := 0) rfl)) (List.mem_of_getElem? (i := 0) rfl) rfl (by rw [hml]; rfl) rfl (hb hby d120_22) (by decide +kernel) (Wd := 0) (by show 2 * 0 + _ ≤ _; exact Nat.le_of_eq rfl) (by decide +kernel) (fun T5 h5 W5 K5 A5 => ?_)
  have V5 : Arv Z h5 t kc .byte (16 : Int32) [(.int by1), (.int by2), (.int by3), (.int by4), (.int by5), (.int by6), (.int by7), (.int (StrChars.lo8 q1)), (.int (StrChars.lo8 q2)), (.int (StrChars.lo8 q3)), (.int by11), (.int by12), (.int by13), (.int by14), (.int by15), (.int by16)] (.int (0 : Int32)) := A5
  show Go p e below _ (T5.setTop (mkF m 25 #[.val (.ref x2), .val (.ref t), .val (.int (7 : Int32)), .val (.int (0 : Int32))] []))
  refine Go.of (t' := T5.setTop (mkF m 43 #[.val (.ref x2), .val (.ref t), .val (.int (7 : Int32)), .val (.int (0 : Int32))] [])) (fun _ kk => XS.goto W5.here hx rfl (pc0 := 25) (pc' := 43) rfl (hb hby d120_25) (by decide +kernel) (by decide +kernel) kk) ?_
  exact W5.retV hx hEL hs hlk (by decide +kernel) (by decide +kernel) hret (hb hby d120_43) (fun S hS => ⟨rfl, V5⟩)
theorem d121_0 : decode jdk_68_method_73_code 0 = .ok (.aload_n 0, 1) := by decide +kernel
theorem d121_1 : decode jdk_68_method_73_code 1 = .ok (.aload_n 2, 1) := by decide +kernel
theorem d121_2 : decode jdk_68_method_73_code 2 = .ok (.invokevirtual 397, 3) := by decide +kernel
theorem d121_5 : decode jdk_68_method_73_code 5 = .ok (.aload_n 2, 1) := by decide +kernel
theorem d121_6 : decode jdk_68_method_73_code 6 = .ok (.aload_n 0, 1) := by decide +kernel
theorem d121_7 : decode jdk_68_method_73_code 7 = .ok (.getfield 15, 3) := by decide +kernel
theorem d121_10 : decode jdk_68_method_73_code 10 = .ok (.iload_n 1, 1) := by decide +kernel
theorem d121_11 : decode jdk_68_method_73_code 11 = .ok (.aload_n 0, 1) := by decide +kernel
theorem d121_12 : decode jdk_68_method_73_code 12 = .ok (.getfield 22, 3) := by decide +kernel
theorem d121_15 : decode jdk_68_method_73_code 15 = .ok (.invokevirtual 399, 3) := by decide +kernel
theorem d121_18 : decode jdk_68_method_73_code 18 = .ok (.return_, 1) := by decide +kernel
theorem ef121 (m : MethodId) (x0 : Addr) (x1 : Int32) (x2 : Addr)  : entryFrame m #[(.ref x0), (.int x1), (.ref x2)] 3 = mkF m 0 #[.val (.ref x0), .val (.int x1), .val (.ref x2)] [] := by first | (simp [entryFrame, mkF, argsToLocals, Value.category]; done) | rfl | rfl
set_option maxRecDepth 65536 in
set_option maxHeartbeats 40000000 in
theorem rm121 (l : Launch) (Z : State) (a0 : Array Value) (hw : ∀ d ∈ tables_1, d.before a0 Z = true) (hEL : EW Z a0 EL0) (zc : Int32) (SC : Sta Z Z.heap "java/lang/String" "COMPACT_STRINGS" "Z" (.int zc)) (hzc : ¬ zc = 0) (fm : Value) (SF : Sta Z Z.heap "jdk/internal/util/Preconditions" "SIOOBE_FORMATTER" "Ljava/util/function/BiFunction;" fm) (rfm : fm.isRef = true) (a1 : Addr) (x2 : Addr) (t : Addr) (kc : ClassId) (by1 : Int32) (by2 : Int32) (by3 : Int32) (by4 : Int32) (by5 : Int32) (by6 : Int32) (by7 : Int32) (by8 : Int32) (by9 : Int32) (by10 : Int32) (by11 : Int32) (by12 : Int32) (by13 : Int32) (by14 : Int32) (by15 : Int32) (by16 : Int32) (q1 : Int32) (q2 : Int32) (q3 : Int32) (h0 : Heap) {n0 : Nat} (O0 : Old Z n0 h0) (Eb : Exa Z h0 a1 "java/lang/StringBuilder") (Fvp : Fld Z h0 a1 "java/lang/AbstractStringBuilder" "value" "[B" (.ref t)) (Fcp : Fld Z h0 a1 "java/lang/AbstractStringBuilder" "coder" "B" (.int (0 : Int32))) (Ab : Arv Z h0 t kc .byte (16 : Int32) [(.int by1), (.int by2), (.int by3), (.int by4), (.int by5), (.int by6), (.int by7), (.int by8), (.int by9), (.int by10), (.int by11), (.int by12), (.int by13), (.int by14), (.int by15), (.int by16)] (.int (0 : Int32))) (g2 : n0 ≤ t) (Sa : Str Z h0 x2 [q1, q2, q3]) (cq1 : ¬ q1 < 0 ∧ ¬ (255 : Int32) < q1) (cq2 : ¬ q2 < 0 ∧ ¬ (255 : Int32) < q2) (cq3 : ¬ q3 < 0 ∧ ¬ (255 : Int32) < q3) :
    Met l Z EL0 n0 (⟨"java/lang/AbstractStringBuilder", "putStringAt", "(ILjava/lang/String;)V"⟩ : MethodName) jdk_68_method_73_code 3 none [] ({ frames := 2, cells := 0, slots := 0, locals := 33 } : Room) #[(.ref a1), (.int (7 : Int32)), (.ref x2)] h0 [t] [t] (fun v h' S => v = none ∧ Arv Z h' t kc .byte (16 : Int32) [(.int by1), (.int by2), (.int by3), (.int by4), (.int by5), (.int by6), (.int by7), (.int (StrChars.lo8 q1)), (.int (StrChars.lo8 q2)), (.int (StrChars.lo8 q3)), (.int by11), (.int by12), (.int by13), (.int by14), (.int by15), (.int by16)] (.int (0 : Int32))) := by
  refine Met.of (plainFor_of_name pn0) O0 ?_
  intro p e s m below meth c T0 hx hby hml hret hlk hnm hs W0
  have W0 : Wk p l e _ s m _ below meth c Z EL0 n0 [t] "java/lang/AbstractStringBuilder" [t] T0 0 0 h0 := W0
  have hSA := fun d hd => hw d (sa_in d hd)
  have hws := fun d hd => hw d (ws_in d hd)
  have hln := fun d hd => hw d (ln_in d hd)
  have heq := fun d hd => hw d (eq_in d hd)
  refine Go.of (fun _ kk => castTop (ef121 m a1 (7 : Int32) x2) kk) ?_
  show Go p e below _ (T0.setTop (mkF m 0 #[.val (.ref a1), .val (.int (7 : Int32)), .val (.ref x2)] []))
  refine Go.of (t' := T0.setTop (mkF m 1 #[.val (.ref a1), .val (.int (7 : Int32)), .val (.ref x2)] [(.ref a1)])) (fun _ kk => XS.aloadN W0.here hx rfl (hb hby d121_0) rfl rfl kk) ?_
  refine Go.of (t' := T0.setTop (mkF m 2 #[.val (.ref a1), .val (.int (7 : Int32)), .val (.ref x2)] [(.ref x2), (.ref a1)])) (fun _ kk => XS.aloadN W0.here hx rfl (hb hby d121_1) rfl rfl kk) ?_
  refine W0.callW hx hEL (hw _ (List.mem_of_getElem? (i := 87) rfl)) (hw _ (List.mem_of_getElem? (i := 90) rfl)) (hw _ (List.mem_of_getElem? (i := 88) rfl)) (hw _ (List.mem_of_getElem? (i := 44) rfl)) (hw _ (List.mem_of_getElem? (i := 91) rfl)) (by decide +kernel) Eb (a := a1) (argsL := [(.ref x2)]) (rest := []) (rm33 l Z a0 hw hEL zc SC hzc fm SF rfm a1 x2 q1 q2 q3 h0 W0.old Eb Fcp Sa cq1 cq2 cq3) all0 (by decide +kernel) (Wd := 0) (by decide +kernel) (by decide +kernel) (by decide +kernel) all0 rfl (by rw [hml]; rfl) (lenOf pd3 rfl) rfl (by show 2 * 0 + _ ≤ _; exact Nat.le_of_eq rfl) (hb hby d121_2) (fun T1 h1 v1 P1 Ws1 K1 q1 => ?_)
  have W1 := Ws1 [] all0
  obtain ⟨rfl, rfl⟩ := q1
  show Go p e below _ (T1.setTop (mkF m 5 #[.val (.ref a1), .val (.int (7 : Int32)), .val (.ref x2)] []))
  refine Go.of (t' := T1.setTop (mkF m 6 #[.val (.ref a1), .val (.int (7 : Int32)), .val (.ref x2)] [(.ref x2)])) (fun _ kk => XS.aloadN W1.here hx rfl (hb hby d121_5) rfl rfl kk) ?_
  refine Go.of (t' := T1.setTop (mkF m 7 #[.val (.ref a1), .val (.int (7 : Int32)), .val (.ref x2)] [(.ref a1), (.ref x2)])) (fun _ kk => XS.aloadN W1.here hx rfl (hb hby d121_6) rfl rfl kk) ?_
  refine W1.getF hx (host := "") (Or.inl (hw _ (List.mem_of_getElem? (i := 48) rfl))) Via.refl Fvp rfl rfl (hb hby d121_7) (fun T2 W2 => ?_)
  show Go p e below _ (T2.setTop (mkF m 10 #[.val (.ref a1), .val (.int (7 : Int32)), .val (.ref x2)] [(.ref t), (.ref x2)]))
  refine Go.of (t' := T2.setTop (mkF m 11 #[.val (.ref a1), .val (.int (7 : Int32)), .val (.ref x2)] [(.int (7 : Int32)), (.ref t), (.ref x2)])) (fun _ kk => XS.iloadN W2.here hx rfl (hb hby d121_10) rfl kk) ?_
  refine Go.of (t' := T2.setTop (mkF m 12 #[.val (.ref a1), .val (.int (7 : Int32)), .val (.ref x2)] [(.ref a1), (.int (7 : Int32)), (.ref t), (.ref x2)])) (fun _ kk => XS.aloadN W2.here hx rfl (hb hby d121_11) rfl rfl kk) ?_
  refine W2.getF hx (host := "") (Or.inl (hw _ (List.mem_of_getElem? (i := 50) rfl))) Via.refl Fcp rfl rfl (hb hby d121_12) (fun T3 W3 => ?_)
  show Go p e below _ (T3.setTop (mkF m 15 #[.val (.ref a1), .val (.int (7 : Int32)), .val (.ref x2)] [(.int (0 : Int32)), (.int (7 : Int32)), (.ref t), (.ref x2)]))
  have k5 := Sa.exa
  refine W3.callV hx hEL (hw _ (List.mem_of_getElem? (i := 93) rfl)) (hw _ (List.mem_of_getElem? (i := 94) rfl)) (hw _ (List.mem_of_getElem? (i := 96) rfl)) (hw _ (List.mem_of_getElem? (i := 95) rfl)) (hw _ (List.mem_of_getElem? (i := 2) rfl)) (hw _ (List.mem_of_getElem? (i := 97) rfl)) (by decide +kernel) k5 (a := x2) (argsL := [(.ref t), (.int (7 : Int32)), (.int (0 : Int32))]) (rest := []) (rm120 l Z a0 hw hEL zc SC hzc fm SF rfm x2 t kc by1 by2 by3 by4 by5 by6 by7 by8 by9 by10 by11 by12 by13 by14 by15 by16 q1 q2 q3 h0 W3.old Sa cq1 cq2 cq3 Ab g2) (allS (List.mem_of_getElem? (i := 0) rfl) all0) (by decide +kernel) (Wd := 0) (by decide +kernel) (by decide +kernel) (by decide +kernel) (allS ⟨g2, (Or.inl (List.mem_of_getElem? (i := 0) rfl))⟩ all0) rfl (by rw [hml]; rfl) (lenOf pd4 rfl) rfl (by show 2 * 0 + _ ≤ _; exact Nat.le_of_eq rfl) (hb hby d121_15) (fun T4 h4 v4 P4 Ws4 K4 q4 => ?_)
  have W4 := Ws4 [] all0
  obtain ⟨rfl, A4⟩ := q4
  show Go p e below _ (T4.setTop (mkF m 18 #[.val (.ref a1), .val (.int (7 : Int32)), .val (.ref x2)] []))
  exact W4.retV hx hEL hs hlk (by decide +kernel) (by decide +kernel) hret (hb hby d121_18) (fun S hS => ⟨rfl, A4⟩)
theorem d122_0 : decode jdk_68_method_22_code 0 = .ok (.aload_n 1, 1) := by decide +kernel
theorem d122_1 : decode jdk_68_method_22_code 1 = .ok (.ifnonnull 8, 3) := by decide +kernel
theorem d122_9 : decode jdk_68_method_22_code 9 = .ok (.aload_n 1, 1) := by decide +kernel
theorem d122_10 : decode jdk_68_method_22_code 10 = .ok (.invokevirtual 32, 3) := by decide +kernel
theorem d122_13 : decode jdk_68_method_22_code 13 = .ok (.istore_n 2, 1) := by decide +kernel
theorem d122_14 : decode jdk_68_method_22_code 14 = .ok (.aload_n 0, 1) := by decide +kernel
theorem d122_15 : decode jdk_68_method_22_code 15 = .ok (.aload_n 0, 1) := by decide +kernel
theorem d122_16 : decode jdk_68_method_22_code 16 = .ok (.getfield 79, 3) := by decide +kernel
theorem d122_19 : decode jdk_68_method_22_code 19 = .ok (.iload_n 2, 1) := by decide +kernel
theorem d122_20 : decode jdk_68_method_22_code 20 = .ok (.iadd, 1) := by decide +kernel
theorem d122_21 : decode jdk_68_method_22_code 21 = .ok (.invokevirtual 100, 3) := by decide +kernel
theorem d122_24 : decode jdk_68_method_22_code 24 = .ok (.aload_n 0, 1) := by decide +kernel
theorem d122_25 : decode jdk_68_method_22_code 25 = .ok (.aload_n 0, 1) := by decide +kernel
theorem d122_26 : decode jdk_68_method_22_code 26 = .ok (.getfield 79, 3) := by decide +kernel
theorem d122_29 : decode jdk_68_method_22_code 29 = .ok (.aload_n 1, 1) := by decide +kernel
theorem d122_30 : decode jdk_68_method_22_code 30 = .ok (.invokevirtual 208, 3) := by decide +kernel
theorem d122_33 : decode jdk_68_method_22_code 33 = .ok (.aload_n 0, 1) := by decide +kernel
theorem d122_34 : decode jdk_68_method_22_code 34 = .ok (.dup, 1) := by decide +kernel
theorem d122_35 : decode jdk_68_method_22_code 35 = .ok (.getfield 79, 3) := by decide +kernel
theorem d122_38 : decode jdk_68_method_22_code 38 = .ok (.iload_n 2, 1) := by decide +kernel
theorem d122_39 : decode jdk_68_method_22_code 39 = .ok (.iadd, 1) := by decide +kernel
theorem d122_40 : decode jdk_68_method_22_code 40 = .ok (.putfield 79, 3) := by decide +kernel
theorem d122_43 : decode jdk_68_method_22_code 43 = .ok (.aload_n 0, 1) := by decide +kernel
theorem d122_44 : decode jdk_68_method_22_code 44 = .ok (.areturn, 1) := by decide +kernel
theorem ef122 (m : MethodId) (x0 : Addr) (x1 : Addr)  : entryFrame m #[(.ref x0), (.ref x1)] 3 = mkF m 0 #[.val (.ref x0), .val (.ref x1), .unset] [] := by first | (simp [entryFrame, mkF, argsToLocals, Value.category]; done) | rfl | rfl
set_option maxRecDepth 65536 in
set_option maxHeartbeats 40000000 in
theorem rm122 (l : Launch) (Z : State) (a0 : Array Value) (hw : ∀ d ∈ tables_1, d.before a0 Z = true) (hEL : EW Z a0 EL0) (zc : Int32) (SC : Sta Z Z.heap "java/lang/String" "COMPACT_STRINGS" "Z" (.int zc)) (hzc : ¬ zc = 0) (fm : Value) (SF : Sta Z Z.heap "jdk/internal/util/Preconditions" "SIOOBE_FORMATTER" "Ljava/util/function/BiFunction;" fm) (rfm : fm.isRef = true) (a1 : Addr) (x2 : Addr) (t : Addr) (kc : ClassId) (by1 : Int32) (by2 : Int32) (by3 : Int32) (by4 : Int32) (by5 : Int32) (by6 : Int32) (by7 : Int32) (by8 : Int32) (by9 : Int32) (by10 : Int32) (by11 : Int32) (by12 : Int32) (by13 : Int32) (by14 : Int32) (by15 : Int32) (by16 : Int32) (q1 : Int32) (q2 : Int32) (q3 : Int32) (h0 : Heap) {n0 : Nat} (O0 : Old Z n0 h0) (Eb : Exa Z h0 a1 "java/lang/StringBuilder") (Fvp : Fld Z h0 a1 "java/lang/AbstractStringBuilder" "value" "[B" (.ref t)) (Fcp : Fld Z h0 a1 "java/lang/AbstractStringBuilder" "coder" "B" (.int (0 : Int32))) (Fnp : Fld Z h0 a1 "java/lang/AbstractStringBuilder" "count" "I" (.int (7 : Int32))) (Ab : Arv Z h0 t kc .byte (16 : Int32) [(.int by1), (.int by2), (.int by3), (.int by4), (.int by5), (.int by6), (.int by7), (.int by8), (.int by9), (.int by10), (.int by11), (.int by12), (.int by13), (.int by14), (.int by15), (.int by16)] (.int (0 : Int32))) (g1 : n0 ≤ a1) (g2 : n0 ≤ t) (nat : a1 ≠ t) (Sa : Str Z h0 x2 [q1, q2, q3]) (cq1 : ¬ q1 < 0 ∧ ¬ (255 : Int32) < q1) (cq2 : ¬ q2 < 0 ∧ ¬ (255 : Int32) < q2) (cq3 : ¬ q3 < 0 ∧ ¬ (255 : Int32) < q3) :
    Met l Z EL0 n0 (⟨"java/lang/AbstractStringBuilder", "append", "(Ljava/lang/String;)Ljava/lang/AbstractStringBuilder;"⟩ : MethodName) jdk_68_method_22_code 3 (some (.object "java/lang/AbstractStringBuilder")) [] ({ frames := 3, cells := 0, slots := 0, locals := 47 } : Room) #[(.ref a1), (.ref x2)] h0 [a1, t] [t] (fun v h' S => v = some (.ref a1) ∧ Fld Z h' a1 "java/lang/AbstractStringBuilder" "value" "[B" (.ref t) ∧ Fld Z h' a1 "java/lang/AbstractStringBuilder" "coder" "B" (.int (0 : Int32)) ∧ Fld Z h' a1 "java/lang/AbstractStringBuilder" "count" "I" (.int (10 : Int32)) ∧ Arv Z h' t kc .byte (16 : Int32) [(.int by1), (.int by2), (.int by3), (.int by4), (.int by5), (.int by6), (.int by7), (.int (StrChars.lo8 q1)), (.int (StrChars.lo8 q2)), (.int (StrChars.lo8 q3)), (.int by11), (.int by12), (.int by13), (.int by14), (.int by15), (.int by16)] (.int (0 : Int32))) := by
  refine Met.of (plainFor_of_name pn0) O0 ?_
  intro p e s m below meth c T0 hx hby hml hret hlk hnm hs W0
  have W0 : Wk p l e _ s m _ below meth c Z EL0 n0 [a1, t] "java/lang/AbstractStringBuilder" [t] T0 0 0 h0 := W0
  have hSA := fun d hd => hw d (sa_in d hd)
  have hws := fun d hd => hw d (ws_in d hd)
  have hln := fun d hd => hw d (ln_in d hd)
  have heq := fun d hd => hw d (eq_in d hd)
  refine Go.of (fun _ kk => castTop (ef122 m a1 x2) kk) ?_
  show Go p e below _ (T0.setTop (mkF m 0 #[.val (.ref a1), .val (.ref x2), .unset] []))
  refine Go.of (t' := T0.setTop (mkF m 1 #[.val (.ref a1), .val (.ref x2), .unset] [(.ref x2)])) (fun _ kk => XS.aloadN W0.here hx rfl (hb hby d122_0) rfl rfl kk) ?_
  refine Go.of (t' := T0.setTop (mkF m 9 #[.val (.ref a1), .val (.ref x2), .unset] [])) (fun _ kk => XS.ifnonnullYes W0.here hx rfl (pc0 := 1) (pc' := 9) rfl (hb hby d122_1) rfl (by decide +kernel) (by decide +kernel) kk) ?_
  refine Go.of (t' := T0.setTop (mkF m 10 #[.val (.ref a1), .val (.ref x2), .unset] [(.ref x2)])) (fun _ kk => XS.aloadN W0.here hx rfl (hb hby d122_9) rfl rfl kk) ?_
  refine W0.strLen hx hln (hw _ (List.mem_of_getElem? (i := 1) rfl)) SC hzc Sa (hw _ (List.mem_of_getElem? (i := 65) rfl)) (hw _ (List.mem_of_getElem? (i := 66) rfl)) (hw _ (List.mem_of_getElem? (i := 68) rfl)) (hw _ (List.mem_of_getElem? (i := 67) rfl)) (by decide +kernel) (Wd := 0) (by decide +kernel) (by decide +kernel) (by decide +kernel) rfl (by rw [hml]; rfl) rfl (by show 2 * 0 + _ ≤ _; exact Nat.le_of_eq rfl) (hb hby d122_10) (fun T1 W1 => ?_)
  show Go p e below _ (T1.setTop (mkF m 13 #[.val (.ref a1), .val (.ref x2), .unset] [(.int (3 : Int32))]))
  refine Go.of (t' := T1.setTop (mkF m 14 #[.val (.ref a1), .val (.ref x2), .val (.int (3 : Int32))] [])) (fun _ kk => XS.istoreN W1.here hx rfl (hb hby d122_13) rfl (l' := #[.val (.ref a1), .val (.ref x2), .val (.int (3 : Int32))]) rfl kk) ?_
  refine Go.of (t' := T1.setTop (mkF m 15 #[.val (.ref a1), .val (.ref x2), .val (.int (3 : Int32))] [(.ref a1)])) (fun _ kk => XS.aloadN W1.here hx rfl (hb hby d122_14) rfl rfl kk) ?_
  refine Go.of (t' := T1.setTop (mkF m 16 #[.val (.ref a1), .val (.ref x2), .val (.int (3 : Int32))] [(.ref a1), (.ref a1)])) (fun _ kk => XS.aloadN W1.here hx rfl (hb hby d122_15) rfl rfl kk) ?_
  refine W1.getF hx (host := "") (Or.inl (hw _ (List.mem_of_getElem? (i := 75) rfl))) Via.refl Fnp rfl rfl (hb hby d122_16) (fun T2 W2 => ?_)
  show Go p e below _ (T2.setTop (mkF m 19 #[.val (.ref a1), .val (.ref x2), .val (.int (3 : Int32))] [(.int (7 : Int32)), (.ref a1)]))
  refine Go.of (t' := T2.setTop (mkF m 20 #[.val (.ref a1), .val (.ref x2), .val (.int (3 : Int32))] [(.int (3 : Int32)), (.int (7 : Int32)), (.ref a1)])) (fun _ kk => XS.iloadN W2.here hx rfl (hb hby d122_19) rfl kk) ?_
  refine Go.of (t' := T2.setTop (mkF m 21 #[.val (.ref a1), .val (.ref x2), .val (.int (3 : Int32))] [(.int (10 : Int32)), (.ref a1)])) (fun _ kk => XS.iadd W2.here hx rfl (hb hby d122_20) rfl kk) ?_
  refine W2.callW hx hEL (hw _ (List.mem_of_getElem? (i := 77) rfl)) (hw _ (List.mem_of_getElem? (i := 80) rfl)) (hw _ (List.mem_of_getElem? (i := 78) rfl)) (hw _ (List.mem_of_getElem? (i := 44) rfl)) (hw _ (List.mem_of_getElem? (i := 81) rfl)) (by decide +kernel) Eb (a := a1) (argsL := [(.int (10 : Int32))]) (rest := []) (rm23 l Z a0 hw hEL zc SC hzc fm SF rfm a1 t kc by1 by2 by3 by4 by5 by6 by7 by8 by9 by10 by11 by12 by13 by14 by15 by16 h0 W2.old Eb Fvp Fcp Ab) all0 (by decide +kernel) (Wd := 0) (by decide +kernel) (by decide +kernel) (by decide +kernel) all0 rfl (by rw [hml]; rfl) (lenOf pd0 rfl) rfl (by show 2 * 0 + _ ≤ _; exact Nat.le_of_eq rfl) (hb hby d122_21) (fun T3 h3 v3 P3 Ws3 K3 q3 => ?_)
  have W3 := Ws3 [] all0
  obtain ⟨rfl, rfl⟩ := q3
  show Go p e below _ (T3.setTop (mkF m 24 #[.val (.ref a1), .val (.ref x2), .val (.int (3 : Int32))] []))
  refine Go.of (t' := T3.setTop (mkF m 25 #[.val (.ref a1), .val (.ref x2), .val (.int (3 : Int32))] [(.ref a1)])) (fun _ kk => XS.aloadN W3.here hx rfl (hb hby d122_24) rfl rfl kk) ?_
  refine Go.of (t' := T3.setTop (mkF m 26 #[.val (.ref a1), .val (.ref x2), .val (.int (3 : Int32))] [(.ref a1), (.ref a1)])) (fun _ kk => XS.aloadN W3.here hx rfl (hb hby d122_25) rfl rfl kk) ?_
  refine W3.getF hx (host := "") (Or.inl (hw _ (List.mem_of_getElem? (i := 75) rfl))) Via.refl Fnp rfl rfl (hb hby d122_26) (fun T4 W4 => ?_)
  show Go p e below _ (T4.setTop (mkF m 29 #[.val (.ref a1), .val (.ref x2), .val (.int (3 : Int32))] [(.int (7 : Int32)), (.ref a1)]))
  refine Go.of (t' := T4.setTop (mkF m 30 #[.val (.ref a1), .val (.ref x2), .val (.int (3 : Int32))] [(.ref x2), (.int (7 : Int32)), (.ref a1)])) (fun _ kk => XS.aloadN W4.here hx rfl (hb hby d122_29) rfl rfl kk) ?_
  refine W4.callW hx hEL (hw _ (List.mem_of_getElem? (i := 82) rfl)) (hw _ (List.mem_of_getElem? (i := 85) rfl)) (hw _ (List.mem_of_getElem? (i := 83) rfl)) (hw _ (List.mem_of_getElem? (i := 44) rfl)) (hw _ (List.mem_of_getElem? (i := 86) rfl)) (by decide +kernel) Eb (a := a1) (argsL := [(.int (7 : Int32)), (.ref x2)]) (rest := []) (rm121 l Z a0 hw hEL zc SC hzc fm SF rfm a1 x2 t kc by1 by2 by3 by4 by5 by6 by7 by8 by9 by10 by11 by12 by13 by14 by15 by16 q1 q2 q3 h0 W4.old Eb Fvp Fcp Ab g2 Sa cq1 cq2 cq3) (allS (List.mem_of_getElem? (i := 0) rfl) all0) (by decide +kernel) (Wd := 0) (by decide +kernel) (by decide +kernel) (by decide +kernel) (allS ⟨g2, (Or.inl (List.mem_of_getElem? (i := 1) rfl))⟩ all0) rfl (by rw [hml]; rfl) (lenOf pd5 rfl) rfl (by show 2 * 0 + _ ≤ _; exact Nat.le_of_eq rfl) (hb hby d122_30) (fun T5 h5 v5 P5 Ws5 K5 q5 => ?_)
  have W5 := Ws5 [] all0
  obtain ⟨rfl, A5⟩ := q5
  show Go p e below _ (T5.setTop (mkF m 33 #[.val (.ref a1), .val (.ref x2), .val (.int (3 : Int32))] []))
  refine Go.of (t' := T5.setTop (mkF m 34 #[.val (.ref a1), .val (.ref x2), .val (.int (3 : Int32))] [(.ref a1)])) (fun _ kk => XS.aloadN W5.here hx rfl (hb hby d122_33) rfl rfl kk) ?_
  refine Go.of (t' := T5.setTop (mkF m 35 #[.val (.ref a1), .val (.ref x2), .val (.int (3 : Int32))] [(.ref a1), (.ref a1)])) (fun _ kk => XS.dup W5.here hx rfl (hb hby d122_34) rfl rfl kk) ?_
  have k6 := (Fnp.keep K5 (ninS nat nin0))
  refine W5.getF hx (host := "") (Or.inl (hw _ (List.mem_of_getElem? (i := 75) rfl))) Via.refl k6 rfl rfl (hb hby d122_35) (fun T7 W7 => ?_)
  show Go p e below _ (T7.setTop (mkF m 38 #[.val (.ref a1), .val (.ref x2), .val (.int (3 : Int32))] [(.int (7 : Int32)), (.ref a1)]))
  refine Go.of (t' := T7.setTop (mkF m 39 #[.val (.ref a1), .val (.ref x2), .val (.int (3 : Int32))] [(.int (3 : Int32)), (.int (7 : Int32)), (.ref a1)])) (fun _ kk => XS.iloadN W7.here hx rfl (hb hby d122_38) rfl kk) ?_
  refine Go.of (t' := T7.setTop (mkF m 40 #[.val (.ref a1), .val (.ref x2), .val (.int (3 : Int32))] [(.int (10 : Int32)), (.ref a1)])) (fun _ kk => XS.iadd W7.here hx rfl (hb hby d122_39) rfl kk) ?_
  have k8 := (Eb.keep K5)
  refine W7.putF hx (host := "") (Or.inl (hw _ (List.mem_of_getElem? (i := 75) rfl))) Via.refl k6 k8 (Or.inl (hw _ (List.mem_of_getElem? (i := 76) rfl))) (hw _ (List.mem_of_getElem? (i := 35) rfl)) (ty := .int) (by decide +kernel) rfl rfl g1 (Or.inl (List.mem_of_getElem? (i := 0) rfl)) (Or.inr ⟨by decide, by decide⟩) rfl rfl (hb hby d122_40) (fun T9 h9 W9 w9 => ?_)
  have k10 := (Fvp.keep K5 (ninS nat nin0))
  have k11 := (Fcp.keep K5 (ninS nat nin0))
  have K9 := Keep.of_wr w9
  have k12 := k10.other w9 (Or.inr (slot_ne (Or.inl (hw _ (List.mem_of_getElem? (i := 49) rfl))) (Or.inl (hw _ (List.mem_of_getElem? (i := 76) rfl))) (by decide +kernel) (t := (.array .byte)) (t' := .int) (by decide +kernel) (by decide +kernel)))
  have k13 := k11.other w9 (Or.inr (slot_ne (Or.inl (hw _ (List.mem_of_getElem? (i := 51) rfl))) (Or.inl (hw _ (List.mem_of_getElem? (i := 76) rfl))) (by decide +kernel) (t := .byte) (t' := .int) (by decide +kernel) (by decide +kernel)))
  have k14 := k6.same w9
  show Go p e below _ (T9.setTop (mkF m 43 #[.val (.ref a1), .val (.ref x2), .val (.int (3 : Int32))] []))
  refine Go.of (t' := T9.setTop (mkF m 44 #[.val (.ref a1), .val (.ref x2), .val (.int (3 : Int32))] [(.ref a1)])) (fun _ kk => XS.aloadN W9.here hx rfl (hb hby d122_43) rfl rfl kk) ?_
  have k15 := (A5.keep K9 (ninS (nat).symm nin0))
  exact W9.retA hx hEL hs hlk (by decide +kernel) (by decide +kernel) hret rfl rfl (hb hby d122_44) (fun S hS => ⟨rfl, k12, k13, k14, k15⟩)
theorem d123_0 : decode jdk_67_method_7_code 0 = .ok (.aload_n 0, 1) := by decide +kernel
theorem d123_1 : decode jdk_67_method_7_code 1 = .ok (.aload_n 1, 1) := by decide +kernel
theorem d123_2 : decode jdk_67_method_7_code 2 = .ok (.invokespecial 29, 3) := by decide +kernel
theorem d123_5 : decode jdk_67_method_7_code 5 = .ok (.pop, 1) := by decide +kernel
theorem d123_6 : decode jdk_67_method_7_code 6 = .ok (.aload_n 0, 1) := by decide +kernel
theorem d123_7 : decode jdk_67_method_7_code 7 = .ok (.areturn, 1) := by decide +kernel
theorem ef123 (m : MethodId) (x0 : Addr) (x1 : Addr)  : entryFrame m #[(.ref x0), (.ref x1)] 2 = mkF m 0 #[.val (.ref x0), .val (.ref x1)] [] := by first | (simp [entryFrame, mkF, argsToLocals, Value.category]; done) | rfl | rfl
set_option maxRecDepth 65536 in
set_option maxHeartbeats 40000000 in
theorem rm123 (l : Launch) (Z : State) (a0 : Array Value) (hw : ∀ d ∈ tables_1, d.before a0 Z = true) (hEL : EW Z a0 EL0) (zc : Int32) (SC : Sta Z Z.heap "java/lang/String" "COMPACT_STRINGS" "Z" (.int zc)) (hzc : ¬ zc = 0) (fm : Value) (SF : Sta Z Z.heap "jdk/internal/util/Preconditions" "SIOOBE_FORMATTER" "Ljava/util/function/BiFunction;" fm) (rfm : fm.isRef = true) (a1 : Addr) (x2 : Addr) (t : Addr) (kc : ClassId) (by1 : Int32) (by2 : Int32) (by3 : Int32) (by4 : Int32) (by5 : Int32) (by6 : Int32) (by7 : Int32) (by8 : Int32) (by9 : Int32) (by10 : Int32) (by11 : Int32) (by12 : Int32) (by13 : Int32) (by14 : Int32) (by15 : Int32) (by16 : Int32) (q1 : Int32) (q2 : Int32) (q3 : Int32) (h0 : Heap) {n0 : Nat} (O0 : Old Z n0 h0) (Eb : Exa Z h0 a1 "java/lang/StringBuilder") (Fvp : Fld Z h0 a1 "java/lang/AbstractStringBuilder" "value" "[B" (.ref t)) (Fcp : Fld Z h0 a1 "java/lang/AbstractStringBuilder" "coder" "B" (.int (0 : Int32))) (Fnp : Fld Z h0 a1 "java/lang/AbstractStringBuilder" "count" "I" (.int (7 : Int32))) (Ab : Arv Z h0 t kc .byte (16 : Int32) [(.int by1), (.int by2), (.int by3), (.int by4), (.int by5), (.int by6), (.int by7), (.int by8), (.int by9), (.int by10), (.int by11), (.int by12), (.int by13), (.int by14), (.int by15), (.int by16)] (.int (0 : Int32))) (g1 : n0 ≤ a1) (g2 : n0 ≤ t) (nat : a1 ≠ t) (Sa : Str Z h0 x2 [q1, q2, q3]) (cq1 : ¬ q1 < 0 ∧ ¬ (255 : Int32) < q1) (cq2 : ¬ q2 < 0 ∧ ¬ (255 : Int32) < q2) (cq3 : ¬ q3 < 0 ∧ ¬ (255 : Int32) < q3) :
    Met l Z EL0 n0 (⟨"java/lang/StringBuilder", "append", "(Ljava/lang/String;)Ljava/lang/StringBuilder;"⟩ : MethodName) jdk_67_method_7_code 2 (some (.object "java/lang/StringBuilder")) [] ({ frames := 4, cells := 0, slots := 0, locals := 61 } : Room) #[(.ref a1), (.ref x2)] h0 [a1, t] [t] (fun v h' S => v = some (.ref a1) ∧ Fld Z h' a1 "java/lang/AbstractStringBuilder" "value" "[B" (.ref t) ∧ Fld Z h' a1 "java/lang/AbstractStringBuilder" "coder" "B" (.int (0 : Int32)) ∧ Fld Z h' a1 "java/lang/AbstractStringBuilder" "count" "I" (.int (10 : Int32)) ∧ Arv Z h' t kc .byte (16 : Int32) [(.int by1), (.int by2), (.int by3), (.int by4), (.int by5), (.int by6), (.int by7), (.int (StrChars.lo8 q1)), (.int (StrChars.lo8 q2)), (.int (StrChars.lo8 q3)), (.int by11), (.int by12), (.int by13), (.int by14), (.int by15), (.int by16)] (.int (0 : Int32))) := by
  refine Met.of (plainFor_of_name pn1) O0 ?_
  intro p e s m below meth c T0 hx hby hml hret hlk hnm hs W0
  have W0 : Wk p l e _ s m _ below meth c Z EL0 n0 [a1, t] "java/lang/StringBuilder" [t] T0 0 0 h0 := W0
  have hSA := fun d hd => hw d (sa_in d hd)
  have hws := fun d hd => hw d (ws_in d hd)
  have hln := fun d hd => hw d (ln_in d hd)
  have heq := fun d hd => hw d (eq_in d hd)
  refine Go.of (fun _ kk => castTop (ef123 m a1 x2) kk) ?_
  show Go p e below _ (T0.setTop (mkF m 0 #[.val (.ref a1), .val (.ref x2)] []))
  refine Go.of (t' := T0.setTop (mkF m 1 #[.val (.ref a1), .val (.ref x2)] [(.ref a1)])) (fun _ kk => XS.aloadN W0.here hx rfl (hb hby d123_0) rfl rfl kk) ?_
  refine Go.of (t' := T0.setTop (mkF m 2 #[.val (.ref a1), .val (.ref x2)] [(.ref x2), (.ref a1)])) (fun _ kk => XS.aloadN W0.here hx rfl (hb hby d123_1) rfl rfl kk) ?_
  refine W0.callU hx hEL (hw _ (List.mem_of_getElem? (i := 60) rfl)) (hw _ (List.mem_of_getElem? (i := 62) rfl)) (hw _ (List.mem_of_getElem? (i := 80) rfl)) rfl (by decide +kernel) (hw _ (List.mem_of_getElem? (i := 61) rfl)) (hw _ (List.mem_of_getElem? (i := 44) rfl)) (hw _ (List.mem_of_getElem? (i := 64) rfl)) (by decide +kernel) Eb (a := a1) (argsL := [(.ref x2)]) (rest := []) (rm122 l Z a0 hw hEL zc SC hzc fm SF rfm a1 x2 t kc by1 by2 by3 by4 by5 by6 by7 by8 by9 by10 by11 by12 by13 by14 by15 by16 q1 q2 q3 h0 W0.old Eb Fvp Fcp Fnp Ab g1 g2 nat Sa cq1 cq2 cq3) (allS (List.mem_of_getElem? (i := 0) rfl) all0) (by decide +kernel) (Wd := 0) (by decide +kernel) (by decide +kernel) (by decide +kernel) (allS ⟨g1, (Or.inl (List.mem_of_getElem? (i := 0) rfl))⟩ (allS ⟨g2, (Or.inl (List.mem_of_getElem? (i := 1) rfl))⟩ all0)) rfl (by rw [hml]; rfl) (lenOf pd6 rfl) rfl (by show 2 * 0 + _ ≤ _; exact Nat.le_of_eq rfl) (hb hby d123_2) (fun T1 h1 v1 P1 Ws1 K1 q1 => ?_)
  have W1 := Ws1 [] all0
  obtain ⟨rfl, Fv1, Fc1, Fn1, A1⟩ := q1
  show Go p e below _ (T1.setTop (mkF m 5 #[.val (.ref a1), .val (.ref x2)] [(.ref a1)]))
  refine Go.of (t' := T1.setTop (mkF m 6 #[.val (.ref a1), .val (.ref x2)] [])) (fun _ kk => XS.pop W1.here hx rfl (hb hby d123_5) rfl rfl kk) ?_
  refine Go.of (t' := T1.setTop (mkF m 7 #[.val (.ref a1), .val (.ref x2)] [(.ref a1)])) (fun _ kk => XS.aloadN W1.here hx rfl (hb hby d123_6) rfl rfl kk) ?_
  exact W1.retA hx hEL hs hlk (by decide +kernel) (by decide +kernel) hret rfl rfl (hb hby d123_7) (fun S hS => ⟨rfl, Fv1, Fc1, Fn1, A1⟩)
theorem d130_0 : decode jdk_42_method_147_code 0 = .ok (.aload_n 0, 1) := by decide +kernel
theorem d130_1 : decode jdk_42_method_147_code 1 = .ok (.invokevirtual 335, 3) := by decide +kernel
theorem d130_4 : decode jdk_42_method_147_code 4 = .ok (.iload_n 3, 1) := by decide +kernel
theorem d130_5 : decode jdk_42_method_147_code 5 = .ok (.if_icmp .ne 23, 3) := by decide +kernel
theorem d130_8 : decode jdk_42_method_147_code 8 = .ok (.aload_n 0, 1) := by decide +kernel
theorem d130_9 : decode jdk_42_method_147_code 9 = .ok (.getfield 9, 3) := by decide +kernel
theorem d130_12 : decode jdk_42_method_147_code 12 = .ok (.iconst 0, 1) := by decide +kernel
theorem d130_13 : decode jdk_42_method_147_code 13 = .ok (.aload_n 1, 1) := by decide +kernel
theorem d130_14 : decode jdk_42_method_147_code 14 = .ok (.iload_n 2, 1) := by decide +kernel
theorem d130_15 : decode jdk_42_method_147_code 15 = .ok (.iload_n 3, 1) := by decide +kernel
theorem d130_16 : decode jdk_42_method_147_code 16 = .ok (.ishl, 1) := by decide +kernel
theorem d130_17 : decode jdk_42_method_147_code 17 = .ok (.aload_n 0, 1) := by decide +kernel
theorem d130_18 : decode jdk_42_method_147_code 18 = .ok (.getfield 9, 3) := by decide +kernel
theorem d130_21 : decode jdk_42_method_147_code 21 = .ok (.arraylength, 1) := by decide +kernel
theorem d130_22 : decode jdk_42_method_147_code 22 = .ok (.invokestatic 212, 3) := by decide +kernel
theorem d130_25 : decode jdk_42_method_147_code 25 = .ok (.goto 18, 3) := by decide +kernel
theorem d130_43 : decode jdk_42_method_147_code 43 = .ok (.return_, 1) := by decide +kernel
theorem ef130 (m : MethodId) (x0 : Addr) (x1 : Addr) (x2 : Int32) (x3 : Int32)  : entryFrame m #[(.ref x0), (.ref x1), (.int x2), (.int x3)] 4 = mkF m 0 #[.val (.ref x0), .val (.ref x1), .val (.int x2), .val (.int x3)] [] := by first | (simp [entryFrame, mkF, argsToLocals, Value.category]; done) | rfl | rfl
set_option maxRecDepth 65536 in
set_option maxHeartbeats 40000000 in
theorem rm130 (l : Launch) (Z : State) (a0 : Array Value) (hw : ∀ d ∈ tables_1, d.before a0 Z = true) (hEL : EW Z a0 EL0) (zc : Int32) (SC : Sta Z Z.heap "java/lang/String" "COMPACT_STRINGS" "Z" (.int zc)) (hzc : ¬ zc = 0) (fm : Value) (SF : Sta Z Z.heap "jdk/internal/util/Preconditions" "SIOOBE_FORMATTER" "Ljava/util/function/BiFunction;" fm) (rfm : fm.isRef = true) (x2 : Addr) (t : Addr) (kc : ClassId) (by1 : Int32) (by2 : Int32) (by3 : Int32) (by4 : Int32) (by5 : Int32) (by6 : Int32) (by7 : Int32) (by8 : Int32) (by9 : Int32) (by10 : Int32) (by11 : Int32) (by12 : Int32) (by13 : Int32) (by14 : Int32) (by15 : Int32) (by16 : Int32) (h0 : Heap) {n0 : Nat} (O0 : Old Z n0 h0) (Sa : Str Z h0 x2 []) (Ab : Arv Z h0 t kc .byte (16 : Int32) [(.int by1), (.int by2), (.int by3), (.int by4), (.int by5), (.int by6), (.int by7), (.int by8), (.int by9), (.int by10), (.int by11), (.int by12), (.int by13), (.int by14), (.int by15), (.int by16)] (.int (0 : Int32))) (g2 : n0 ≤ t) :
    Met l Z EL0 n0 (⟨"java/lang/String", "getBytes", "([BIB)V"⟩ : MethodName) jdk_42_method_147_code 4 none [] ({ frames := 1, cells := 0, slots := 0, locals := 18 } : Room) #[(.ref x2), (.ref t), (.int (7 : Int32)), (.int (0 : Int32))] h0 [t] [t] (fun v h' S => v = none ∧ Arv Z h' t kc .byte (16 : Int32) [(.int by1), (.int by2), (.int by3), (.int by4), (.int by5), (.int by6), (.int by7), (.int by8), (.int by9), (.int by10), (.int by11), (.int by12), (.int by13), (.int by14), (.int by15), (.int by16)] (.int (0 : Int32))) := by
  refine Met.of (plainFor_of_name pn2) O0 ?_
  intro p e s m below meth c T0 hx hby hml hret hlk hnm hs W0
  have W0 : Wk p l e _ s m _ below meth c Z EL0 n0 [t] "java/lang/String" [t] T0 0 0 h0 := W0
  have hSA := fun d hd => hw d (sa_in d hd)
  have hws := fun d hd => hw d (ws_in d hd)
  have hln := fun d hd => hw d (ln_in d hd)
  have heq := fun d hd => hw d (eq_in d hd)
  refine Go.of (fun _ kk => castTop (ef130 m x2 t (7 : Int32) (0 : Int32)) kk) ?_
  show Go p e below _ (T0.setTop (mkF m 0 #[.val (.ref x2), .val (.ref t), .val (.int (7 : Int32)), .val (.int (0 : Int32))] []))
  obtain ⟨t1, kb1, E1, Fv1, Fc1, A1⟩ := Sa.open_ (snd255 all0i)
  have V1 : Arv Z h0 t1 kb1 .byte (0 : Int32) [] (.int (0 : Int32)) := A1
  refine Go.of (t' := T0.setTop (mkF m 1 #[.val (.ref x2), .val (.ref t), .val (.int (7 : Int32)), .val (.int (0 : Int32))] [(.ref x2)])) (fun _ kk => XS.aloadN W0.here hx rfl (hb hby d130_0) rfl rfl kk) ?_
  refine W0.callV hx hEL (hw _ (List.mem_of_getElem? (i := 70) rfl)) (hw _ (List.mem_of_getElem? (i := 71) rfl)) (hw _ (List.mem_of_getElem? (i := 73) rfl)) (hw _ (List.mem_of_getElem? (i := 72) rfl)) (hw _ (List.mem_of_getElem? (i := 2) rfl)) (hw _ (List.mem_of_getElem? (i := 74) rfl)) (by decide +kernel) E1 (a := x2) (argsL := []) (rest := []) (rm4 l Z a0 hw hEL zc SC hzc fm SF rfm x2 h0 W0.old Fc1) all0 (by decide +kernel) (Wd := 0) (by decide +kernel) (by decide +kernel) (by decide +kernel) all0 rfl (by rw [hml]; rfl) (lenOf pd2 rfl) rfl (by show 2 * 0 + _ ≤ _; exact Nat.le_of_eq rfl) (hb hby d130_1) (fun T2 h2 v2 P2 Ws2 K2 q2 => ?_)
  have W2 := Ws2 [] all0
  obtain ⟨rfl, rfl⟩ := q2
  show Go p e below _ (T2.setTop (mkF m 4 #[.val (.ref x2), .val (.ref t), .val (.int (7 : Int32)), .val (.int (0 : Int32))] [(.int (0 : Int32))]))
  refine Go.of (t' := T2.setTop (mkF m 5 #[.val (.ref x2), .val (.ref t), .val (.int (7 : Int32)), .val (.int (0 : Int32))] [(.int (0 : Int32)), (.int (0 : Int32))])) (fun _ kk => XS.iloadN W2.here hx rfl (hb hby d130_4) rfl kk) ?_
  refine Go.of (t' := T2.setTop (mkF m 8 #[.val (.ref x2), .val (.ref t), .val (.int (7 : Int32)), .val (.int (0 : Int32))] [])) (fun _ kk => XS.icmpNo W2.here hx rfl (hb hby d130_5) rfl (XT.ii_ne_f (by decide +kernel)) kk) ?_
  refine Go.of (t' := T2.setTop (mkF m 9 #[.val (.ref x2), .val (.ref t), .val (.int (7 : Int32)), .val (.int (0 : Int32))] [(.ref x2)])) (fun _ kk => XS.aloadN W2.here hx rfl (hb hby d130_8) rfl rfl kk) ?_
  refine W2.getF hx (host := "") (Or.inl (hw _ (List.mem_of_getElem? (i := 28) rfl))) Via.refl Fv1 rfl rfl (hb hby d130_9) (fun T3 W3 => ?_)
  show Go p e below _ (T3.setTop (mkF m 12 #[.val (.ref x2), .val (.ref t), .val (.int (7 : Int32)), .val (.int (0 : Int32))] [(.ref t1)]))
  refine Go.of (t' := T3.setTop (mkF m 13 #[.val (.ref x2), .val (.ref t), .val (.int (7 : Int32)), .val (.int (0 : Int32))] [(.int (0 : Int32)), (.ref t1)])) (fun _ kk => XS.iconst W3.here hx rfl (hb hby d130_12) kk) ?_
  refine Go.of (t' := T3.setTop (mkF m 14 #[.val (.ref x2), .val (.ref t), .val (.int (7 : Int32)), .val (.int (0 : Int32))] [(.ref t), (.int (0 : Int32)), (.ref t1)])) (fun _ kk => XS.aloadN W3.here hx rfl (hb hby d130_13) rfl rfl kk) ?_
  refine Go.of (t' := T3.setTop (mkF m 15 #[.val (.ref x2), .val (.ref t), .val (.int (7 : Int32)), .val (.int (0 : Int32))] [(.int (7 : Int32)), (.ref t), (.int (0 : Int32)), (.ref t1)])) (fun _ kk => XS.iloadN W3.here hx rfl (hb hby d130_14) rfl kk) ?_
  refine Go.of (t' := T3.setTop (mkF m 16 #[.val (.ref x2), .val (.ref t), .val (.int (7 : Int32)), .val (.int (0 : Int32))] [(.int (0 : Int32)), (.int (7 : Int32)), (.ref t), (.int (0 : Int32)), (.ref t1)])) (fun _ kk => XS.iloadN W3.here hx rfl (hb hby d130_15) rfl kk) ?_
  refine Go.of (t' := T3.setTop (mkF m 17 #[.val (.ref x2), .val (.ref t), .val (.int (7 : Int32)), .val (.int (0 : Int32))] [(.int (7 : Int32)), (.ref t), (.int (0 : Int32)), (.ref t1)])) (fun _ kk => XS.ishl W3.here hx rfl (hb hby d130_16) rfl kk) ?_
  refine Go.of (t' := T3.setTop (mkF m 18 #[.val (.ref x2), .val (.ref t), .val (.int (7 : Int32)), .val (.int (0 : Int32))] [(.ref x2), (.int (7 : Int32)), (.ref t), (.int (0 : Int32)), (.ref t1)])) (fun _ kk => XS.aloadN W3.here hx rfl (hb hby d130_17) rfl rfl kk) ?_
  refine W3.getF hx (host := "") (Or.inl (hw _ (List.mem_of_getElem? (i := 28) rfl))) Via.refl Fv1 rfl rfl (hb hby d130_18) (fun T4 W4 => ?_)
  show Go p e below _ (T4.setTop (mkF m 21 #[.val (.ref x2), .val (.ref t), .val (.int (7 : Int32)), .val (.int (0 : Int32))] [(.ref t1), (.int (7 : Int32)), (.ref t), (.int (0 : Int32)), (.ref t1)]))
  refine W4.alen hx V1 rfl rfl (hb hby d130_21) ?_
  show Go p e below _ (T4.setTop (mkF m 22 #[.val (.ref x2), .val (.ref t), .val (.int (7 : Int32)), .val (.int (0 : Int32))] [(.int (0 : Int32)), (.int (7 : Int32)), (.ref t), (.int (0 : Int32)), (.ref t1)]))
  refine W4.cp hx (hw _ (List.mem_of_getElem? (i := 98) rfl)) (hw _ (List.mem_of_getElem? (i := 101) rfl)) (hw _ (List.mem_of_getElem? (i := 99) rfl)) (hw _ (List.mem_of_getElem? (i := 100) rfl)) (us := []) V1 Ab rfl (by decide) (by decide) (by decide) (by decide) (by decide) rfl (Nat.le_of_ble_eq_true rfl) g2 (Or.inl (List.mem_of_getElem? (i := 0) rfl)) (List.mem_of_getElem? (i := 0) rfl) rfl (by rw [hml]; rfl) rfl (hb hby d130_22) (by decide +kernel) (Wd := 0) (by show 2 * 0 + _ ≤ _; exact Nat.le_of_eq rfl) (by decide +kernel) (fun T5 h5 W5 K5 A5 => ?_)
  have V5 : Arv Z h5 t kc .byte (16 : Int32) [(.int by1), (.int by2), (.int by3), (.int by4), (.int by5), (.int by6), (.int by7), (.int by8), (.int by9), (.int by10), (.int by11), (.int by12), (.int by13), (.int by14), (.int by15), (.int by16)] (.int (0 : Int32)) := A5
  show Go p e below _ (T5.setTop (mkF m 25 #[.val (.ref x2), .val (.ref t), .val (.int (7 : Int32)), .val (.int (0 : Int32))] []))
  refine Go.of (t' := T5.setTop (mkF m 43 #[.val (.ref x2), .val (.ref t), .val (.int (7 : Int32)), .val (.int (0 : Int32))] [])) (fun _ kk => XS.goto W5.here hx rfl (pc0 := 25) (pc' := 43) rfl (hb hby d130_25) (by decide +kernel) (by decide +kernel) kk) ?_
  exact W5.retV hx hEL hs hlk (by decide +kernel) (by decide +kernel) hret (hb hby d130_43) (fun S hS => ⟨rfl, V5⟩)
theorem d131_0 : decode jdk_68_method_73_code 0 = .ok (.aload_n 0, 1) := by decide +kernel
theorem d131_1 : decode jdk_68_method_73_code 1 = .ok (.aload_n 2, 1) := by decide +kernel
theorem d131_2 : decode jdk_68_method_73_code 2 = .ok (.invokevirtual 397, 3) := by decide +kernel
theorem d131_5 : decode jdk_68_method_73_code 5 = .ok (.aload_n 2, 1) := by decide +kernel
theorem d131_6 : decode jdk_68_method_73_code 6 = .ok (.aload_n 0, 1) := by decide +kernel
theorem d131_7 : decode jdk_68_method_73_code 7 = .ok (.getfield 15, 3) := by decide +kernel
theorem d131_10 : decode jdk_68_method_73_code 10 = .ok (.iload_n 1, 1) := by decide +kernel
theorem d131_11 : decode jdk_68_method_73_code 11 = .ok (.aload_n 0, 1) := by decide +kernel
theorem d131_12 : decode jdk_68_method_73_code 12 = .ok (.getfield 22, 3) := by decide +kernel
theorem d131_15 : decode jdk_68_method_73_code 15 = .ok (.invokevirtual 399, 3) := by decide +kernel
theorem d131_18 : decode jdk_68_method_73_code 18 = .ok (.return_, 1) := by decide +kernel
theorem ef131 (m : MethodId) (x0 : Addr) (x1 : Int32) (x2 : Addr)  : entryFrame m #[(.ref x0), (.int x1), (.ref x2)] 3 = mkF m 0 #[.val (.ref x0), .val (.int x1), .val (.ref x2)] [] := by first | (simp [entryFrame, mkF, argsToLocals, Value.category]; done) | rfl | rfl
set_option maxRecDepth 65536 in
set_option maxHeartbeats 40000000 in
theorem rm131 (l : Launch) (Z : State) (a0 : Array Value) (hw : ∀ d ∈ tables_1, d.before a0 Z = true) (hEL : EW Z a0 EL0) (zc : Int32) (SC : Sta Z Z.heap "java/lang/String" "COMPACT_STRINGS" "Z" (.int zc)) (hzc : ¬ zc = 0) (fm : Value) (SF : Sta Z Z.heap "jdk/internal/util/Preconditions" "SIOOBE_FORMATTER" "Ljava/util/function/BiFunction;" fm) (rfm : fm.isRef = true) (a1 : Addr) (x2 : Addr) (t : Addr) (kc : ClassId) (by1 : Int32) (by2 : Int32) (by3 : Int32) (by4 : Int32) (by5 : Int32) (by6 : Int32) (by7 : Int32) (by8 : Int32) (by9 : Int32) (by10 : Int32) (by11 : Int32) (by12 : Int32) (by13 : Int32) (by14 : Int32) (by15 : Int32) (by16 : Int32) (h0 : Heap) {n0 : Nat} (O0 : Old Z n0 h0) (Eb : Exa Z h0 a1 "java/lang/StringBuilder") (Fvp : Fld Z h0 a1 "java/lang/AbstractStringBuilder" "value" "[B" (.ref t)) (Fcp : Fld Z h0 a1 "java/lang/AbstractStringBuilder" "coder" "B" (.int (0 : Int32))) (Ab : Arv Z h0 t kc .byte (16 : Int32) [(.int by1), (.int by2), (.int by3), (.int by4), (.int by5), (.int by6), (.int by7), (.int by8), (.int by9), (.int by10), (.int by11), (.int by12), (.int by13), (.int by14), (.int by15), (.int by16)] (.int (0 : Int32))) (g2 : n0 ≤ t) (Sa : Str Z h0 x2 []) :
    Met l Z EL0 n0 (⟨"java/lang/AbstractStringBuilder", "putStringAt", "(ILjava/lang/String;)V"⟩ : MethodName) jdk_68_method_73_code 3 none [] ({ frames := 2, cells := 0, slots := 0, locals := 33 } : Room) #[(.ref a1), (.int (7 : Int32)), (.ref x2)] h0 [t] [t] (fun v h' S => v = none ∧ Arv Z h' t kc .byte (16 : Int32) [(.int by1), (.int by2), (.int by3), (.int by4), (.int by5), (.int by6), (.int by7), (.int by8), (.int by9), (.int by10), (.int by11), (.int by12), (.int by13), (.int by14), (.int by15), (.int by16)] (.int (0 : Int32))) := by
  refine Met.of (plainFor_of_name pn0) O0 ?_
  intro p e s m below meth c T0 hx hby hml hret hlk hnm hs W0
  have W0 : Wk p l e _ s m _ below meth c Z EL0 n0 [t] "java/lang/AbstractStringBuilder" [t] T0 0 0 h0 := W0
  have hSA := fun d hd => hw d (sa_in d hd)
  have hws := fun d hd => hw d (ws_in d hd)
  have hln := fun d hd => hw d (ln_in d hd)
  have heq := fun d hd => hw d (eq_in d hd)
  refine Go.of (fun _ kk => castTop (ef131 m a1 (7 : Int32) x2) kk) ?_
  show Go p e below _ (T0.setTop (mkF m 0 #[.val (.ref a1), .val (.int (7 : Int32)), .val (.ref x2)] []))
  refine Go.of (t' := T0.setTop (mkF m 1 #[.val (.ref a1), .val (.int (7 : Int32)), .val (.ref x2)] [(.ref a1)])) (fun _ kk => XS.aloadN W0.here hx rfl (hb hby d131_0) rfl rfl kk) ?_
  refine Go.of (t' := T0.setTop (mkF m 2 #[.val (.ref a1), .val (.int (7 : Int32)), .val (.ref x2)] [(.ref x2), (.ref a1)])) (fun _ kk => XS.aloadN W0.here hx rfl (hb hby d131_1) rfl rfl kk) ?_
  refine W0.callW hx hEL (hw _ (List.mem_of_getElem? (i := 87) rfl)) (hw _ (List.mem_of_getElem? (i := 90) rfl)) (hw _ (List.mem_of_getElem? (i := 88) rfl)) (hw _ (List.mem_of_getElem? (i := 44) rfl)) (hw _ (List.mem_of_getElem? (i := 91) rfl)) (by decide +kernel) Eb (a := a1) (argsL := [(.ref x2)]) (rest := []) (rm30 l Z a0 hw hEL zc SC hzc fm SF rfm a1 x2 h0 W0.old Eb Fcp Sa) all0 (by decide +kernel) (Wd := 0) (by decide +kernel) (by decide +kernel) (by decide +kernel) all0 rfl (by rw [hml]; rfl) (lenOf pd3 rfl) rfl (by show 2 * 0 + _ ≤ _; exact Nat.le_of_eq rfl) (hb hby d131_2) (fun T1 h1 v1 P1 Ws1 K1 q1 => ?_)
  have W1 := Ws1 [] all0
  obtain ⟨rfl, rfl⟩ := q1
  show Go p e below _ (T1.setTop (mkF m 5 #[.val (.ref a1), .val (.int (7 : Int32)), .val (.ref x2)] []))
  refine Go.of (t' := T1.setTop (mkF m 6 #[.val (.ref a1), .val (.int (7 : Int32)), .val (.ref x2)] [(.ref x2)])) (fun _ kk => XS.aloadN W1.here hx rfl (hb hby d131_5) rfl rfl kk) ?_
  refine Go.of (t' := T1.setTop (mkF m 7 #[.val (.ref a1), .val (.int (7 : Int32)), .val (.ref x2)] [(.ref a1), (.ref x2)])) (fun _ kk => XS.aloadN W1.here hx rfl (hb hby d131_6) rfl rfl kk) ?_
  refine W1.getF hx (host := "") (Or.inl (hw _ (List.mem_of_getElem? (i := 48) rfl))) Via.refl Fvp rfl rfl (hb hby d131_7) (fun T2 W2 => ?_)
  show Go p e below _ (T2.setTop (mkF m 10 #[.val (.ref a1), .val (.int (7 : Int32)), .val (.ref x2)] [(.ref t), (.ref x2)]))
  refine Go.of (t' := T2.setTop (mkF m 11 #[.val (.ref a1), .val (.int (7 : Int32)), .val (.ref x2)] [(.int (7 : Int32)), (.ref t), (.ref x2)])) (fun _ kk => XS.iloadN W2.here hx rfl (hb hby d131_10) rfl kk) ?_
  refine Go.of (t' := T2.setTop (mkF m 12 #[.val (.ref a1), .val (.int (7 : Int32)), .val (.ref x2)] [(.ref a1), (.int (7 : Int32)), (.ref t), (.ref x2)])) (fun _ kk => XS.aloadN W2.here hx rfl (hb hby d131_11) rfl rfl kk) ?_
  refine W2.getF hx (host := "") (Or.inl (hw _ (List.mem_of_getElem? (i := 50) rfl))) Via.refl Fcp rfl rfl (hb hby d131_12) (fun T3 W3 => ?_)
  show Go p e below _ (T3.setTop (mkF m 15 #[.val (.ref a1), .val (.int (7 : Int32)), .val (.ref x2)] [(.int (0 : Int32)), (.int (7 : Int32)), (.ref t), (.ref x2)]))
  have k5 := Sa.exa
  refine W3.callV hx hEL (hw _ (List.mem_of_getElem? (i := 93) rfl)) (hw _ (List.mem_of_getElem? (i := 94) rfl)) (hw _ (List.mem_of_getElem? (i := 96) rfl)) (hw _ (List.mem_of_getElem? (i := 95) rfl)) (hw _ (List.mem_of_getElem? (i := 2) rfl)) (hw _ (List.mem_of_getElem? (i := 97) rfl)) (by decide +kernel) k5 (a := x2) (argsL := [(.ref t), (.int (7 : Int32)), (.int (0 : Int32))]) (rest := []) (rm130 l Z a0 hw hEL zc SC hzc fm SF rfm x2 t kc by1 by2 by3 by4 by5 by6 by7 by8 by9 by10 by11 by12 by13 by14 by15 by16 h0 W3.old Sa Ab g2) (allS (List.mem_of_getElem? (i := 0) rfl) all0) (by decide +kernel) (Wd := 0) (by decide +kernel) (by decide +kernel) (by decide +kernel) (allS ⟨g2, (Or.inl (List.mem_of_getElem? (i := 0) rfl))⟩ all0) rfl (by rw [hml]; rfl) (lenOf pd4 rfl) rfl (by show 2 * 0 + _ ≤ _; exact Nat.le_of_eq rfl) (hb hby d131_15) (fun T4 h4 v4 P4 Ws4 K4 q4 => ?_)
  have W4 := Ws4 [] all0
  obtain ⟨rfl, A4⟩ := q4
  show Go p e below _ (T4.setTop (mkF m 18 #[.val (.ref a1), .val (.int (7 : Int32)), .val (.ref x2)] []))
  exact W4.retV hx hEL hs hlk (by decide +kernel) (by decide +kernel) hret (hb hby d131_18) (fun S hS => ⟨rfl, A4⟩)
theorem d132_0 : decode jdk_68_method_22_code 0 = .ok (.aload_n 1, 1) := by decide +kernel
theorem d132_1 : decode jdk_68_method_22_code 1 = .ok (.ifnonnull 8, 3) := by decide +kernel
theorem d132_9 : decode jdk_68_method_22_code 9 = .ok (.aload_n 1, 1) := by decide +kernel
theorem d132_10 : decode jdk_68_method_22_code 10 = .ok (.invokevirtual 32, 3) := by decide +kernel
theorem d132_13 : decode jdk_68_method_22_code 13 = .ok (.istore_n 2, 1) := by decide +kernel
theorem d132_14 : decode jdk_68_method_22_code 14 = .ok (.aload_n 0, 1) := by decide +kernel
theorem d132_15 : decode jdk_68_method_22_code 15 = .ok (.aload_n 0, 1) := by decide +kernel
theorem d132_16 : decode jdk_68_method_22_code 16 = .ok (.getfield 79, 3) := by decide +kernel
theorem d132_19 : decode jdk_68_method_22_code 19 = .ok (.iload_n 2, 1) := by decide +kernel
theorem d132_20 : decode jdk_68_method_22_code 20 = .ok (.iadd, 1) := by decide +kernel
theorem d132_21 : decode jdk_68_method_22_code 21 = .ok (.invokevirtual 100, 3) := by decide +kernel
theorem d132_24 : decode jdk_68_method_22_code 24 = .ok (.aload_n 0, 1) := by decide +kernel
theorem d132_25 : decode jdk_68_method_22_code 25 = .ok (.aload_n 0, 1) := by decide +kernel
theorem d132_26 : decode jdk_68_method_22_code 26 = .ok (.getfield 79, 3) := by decide +kernel
theorem d132_29 : decode jdk_68_method_22_code 29 = .ok (.aload_n 1, 1) := by decide +kernel
theorem d132_30 : decode jdk_68_method_22_code 30 = .ok (.invokevirtual 208, 3) := by decide +kernel
theorem d132_33 : decode jdk_68_method_22_code 33 = .ok (.aload_n 0, 1) := by decide +kernel
theorem d132_34 : decode jdk_68_method_22_code 34 = .ok (.dup, 1) := by decide +kernel
theorem d132_35 : decode jdk_68_method_22_code 35 = .ok (.getfield 79, 3) := by decide +kernel
theorem d132_38 : decode jdk_68_method_22_code 38 = .ok (.iload_n 2, 1) := by decide +kernel
theorem d132_39 : decode jdk_68_method_22_code 39 = .ok (.iadd, 1) := by decide +kernel
theorem d132_40 : decode jdk_68_method_22_code 40 = .ok (.putfield 79, 3) := by decide +kernel
theorem d132_43 : decode jdk_68_method_22_code 43 = .ok (.aload_n 0, 1) := by decide +kernel
theorem d132_44 : decode jdk_68_method_22_code 44 = .ok (.areturn, 1) := by decide +kernel
theorem ef132 (m : MethodId) (x0 : Addr) (x1 : Addr)  : entryFrame m #[(.ref x0), (.ref x1)] 3 = mkF m 0 #[.val (.ref x0), .val (.ref x1), .unset] [] := by first | (simp [entryFrame, mkF, argsToLocals, Value.category]; done) | rfl | rfl
set_option maxRecDepth 65536 in
set_option maxHeartbeats 40000000 in
theorem rm132 (l : Launch) (Z : State) (a0 : Array Value) (hw : ∀ d ∈ tables_1, d.before a0 Z = true) (hEL : EW Z a0 EL0) (zc : Int32) (SC : Sta Z Z.heap "java/lang/String" "COMPACT_STRINGS" "Z" (.int zc)) (hzc : ¬ zc = 0) (fm : Value) (SF : Sta Z Z.heap "jdk/internal/util/Preconditions" "SIOOBE_FORMATTER" "Ljava/util/function/BiFunction;" fm) (rfm : fm.isRef = true) (a1 : Addr) (x2 : Addr) (t : Addr) (kc : ClassId) (by1 : Int32) (by2 : Int32) (by3 : Int32) (by4 : Int32) (by5 : Int32) (by6 : Int32) (by7 : Int32) (by8 : Int32) (by9 : Int32) (by10 : Int32) (by11 : Int32) (by12 : Int32) (by13 : Int32) (by14 : Int32) (by15 : Int32) (by16 : Int32) (h0 : Heap) {n0 : Nat} (O0 : Old Z n0 h0) (Eb : Exa Z h0 a1 "java/lang/StringBuilder") (Fvp : Fld Z h0 a1 "java/lang/AbstractStringBuilder" "value" "[B" (.ref t)) (Fcp : Fld Z h0 a1 "java/lang/AbstractStringBuilder" "coder" "B" (.int (0 : Int32))) (Fnp : Fld Z h0 a1 "java/lang/AbstractStringBuilder" "count" "I" (.int (7 : Int32))) (Ab : Arv Z h0 t kc .byte (16 : Int32) [(.int by1), (.int by2), (.int by3), (.int by4), (.int by5), (.int by6), (.int by7), (.int by8), (.int by9), (.int by10), (.int by11), (.int by12), (.int by13), (.int by14), (.int by15), (.int by16)] (.int (0 : Int32))) (g1 : n0 ≤ a1) (g2 : n0 ≤ t) (nat : a1 ≠ t) (Sa : Str Z h0 x2 []) :
    Met l Z EL0 n0 (⟨"java/lang/AbstractStringBuilder", "append", "(Ljava/lang/String;)Ljava/lang/AbstractStringBuilder;"⟩ : MethodName) jdk_68_method_22_code 3 (some (.object "java/lang/AbstractStringBuilder")) [] ({ frames := 3, cells := 0, slots := 0, locals := 47 } : Room) #[(.ref a1), (.ref x2)] h0 [a1, t] [t] (fun v h' S => v = some (.ref a1) ∧ Fld Z h' a1 "java/lang/AbstractStringBuilder" "value" "[B" (.ref t) ∧ Fld Z h' a1 "java/lang/AbstractStringBuilder" "coder" "B" (.int (0 : Int32)) ∧ Fld Z h' a1 "java/lang/AbstractStringBuilder" "count" "I" (.int (7 : Int32)) ∧ Arv Z h' t kc .byte (16 : Int32) [(.int by1), (.int by2), (.int by3), (.int by4), (.int by5), (.int by6), (.int by7), (.int by8), (.int by9), (.int by10), (.int by11), (.int by12), (.int by13), (.int by14), (.int by15), (.int by16)] (.int (0 : Int32))) := by
  refine Met.of (plainFor_of_name pn0) O0 ?_
  intro p e s m below meth c T0 hx hby hml hret hlk hnm hs W0
  have W0 : Wk p l e _ s m _ below meth c Z EL0 n0 [a1, t] "java/lang/AbstractStringBuilder" [t] T0 0 0 h0 := W0
  have hSA := fun d hd => hw d (sa_in d hd)
  have hws := fun d hd => hw d (ws_in d hd)
  have hln := fun d hd => hw d (ln_in d hd)
  have heq := fun d hd => hw d (eq_in d hd)
  refine Go.of (fun _ kk => castTop (ef132 m a1 x2) kk) ?_
  show Go p e below _ (T0.setTop (mkF m 0 #[.val (.ref a1), .val (.ref x2), .unset] []))
  refine Go.of (t' := T0.setTop (mkF m 1 #[.val (.ref a1), .val (.ref x2), .unset] [(.ref x2)])) (fun _ kk => XS.aloadN W0.here hx rfl (hb hby d132_0) rfl rfl kk) ?_
  refine Go.of (t' := T0.setTop (mkF m 9 #[.val (.ref a1), .val (.ref x2), .unset] [])) (fun _ kk => XS.ifnonnullYes W0.here hx rfl (pc0 := 1) (pc' := 9) rfl (hb hby d132_1) rfl (by decide +kernel) (by decide +kernel) kk) ?_
  refine Go.of (t' := T0.setTop (mkF m 10 #[.val (.ref a1), .val (.ref x2), .unset] [(.ref x2)])) (fun _ kk => XS.aloadN W0.here hx rfl (hb hby d132_9) rfl rfl kk) ?_
  refine W0.strLen hx hln (hw _ (List.mem_of_getElem? (i := 1) rfl)) SC hzc Sa (hw _ (List.mem_of_getElem? (i := 65) rfl)) (hw _ (List.mem_of_getElem? (i := 66) rfl)) (hw _ (List.mem_of_getElem? (i := 68) rfl)) (hw _ (List.mem_of_getElem? (i := 67) rfl)) (by decide +kernel) (Wd := 0) (by decide +kernel) (by decide +kernel) (by decide +kernel) rfl (by rw [hml]; rfl) rfl (by show 2 * 0 + _ ≤ _; exact Nat.le_of_eq rfl) (hb hby d132_10) (fun T1 W1 => ?_)
  show Go p e below _ (T1.setTop (mkF m 13 #[.val (.ref a1), .val (.ref x2), .unset] [(.int (0 : Int32))]))
  refine Go.of (t' := T1.setTop (mkF m 14 #[.val (.ref a1), .val (.ref x2), .val (.int (0 : Int32))] [])) (fun _ kk => XS.istoreN W1.here hx rfl (hb hby d132_13) rfl (l' := #[.val (.ref a1), .val (.ref x2), .val (.int (0 : Int32))]) rfl kk) ?_
  refine Go.of (t' := T1.setTop (mkF m 15 #[.val (.ref a1), .val (.ref x2), .val (.int (0 : Int32))] [(.ref a1)])) (fun _ kk => XS.aloadN W1.here hx rfl (hb hby d132_14) rfl rfl kk) ?_
  refine Go.of (t' := T1.setTop (mkF m 16 #[.val (.ref a1), .val (.ref x2), .val (.int (0 : Int32))] [(.ref a1), (.ref a1)])) (fun _ kk => XS.aloadN W1.here hx rfl (hb hby d132_15) rfl rfl kk) ?_
  refine W1.getF hx (host := "") (Or.inl (hw _ (List.mem_of_getElem? (i := 75) rfl))) Via.refl Fnp rfl rfl (hb hby d132_16) (fun T2 W2 => ?_)
  show Go p e below _ (T2.setTop (mkF m 19 #[.val (.ref a1), .val (.ref x2), .val (.int (0 : Int32))] [(.int (7 : Int32)), (.ref a1)]))
  refine Go.of (t' := T2.setTop (mkF m 20 #[.val (.ref a1), .val (.ref x2), .val (.int (0 : Int32))] [(.int (0 : Int32)), (.int (7 : Int32)), (.ref a1)])) (fun _ kk => XS.iloadN W2.here hx rfl (hb hby d132_19) rfl kk) ?_
  refine Go.of (t' := T2.setTop (mkF m 21 #[.val (.ref a1), .val (.ref x2), .val (.int (0 : Int32))] [(.int (7 : Int32)), (.ref a1)])) (fun _ kk => XS.iadd W2.here hx rfl (hb hby d132_20) rfl kk) ?_
  refine W2.callW hx hEL (hw _ (List.mem_of_getElem? (i := 77) rfl)) (hw _ (List.mem_of_getElem? (i := 80) rfl)) (hw _ (List.mem_of_getElem? (i := 78) rfl)) (hw _ (List.mem_of_getElem? (i := 44) rfl)) (hw _ (List.mem_of_getElem? (i := 81) rfl)) (by decide +kernel) Eb (a := a1) (argsL := [(.int (7 : Int32))]) (rest := []) (rm21 l Z a0 hw hEL zc SC hzc fm SF rfm a1 t kc by1 by2 by3 by4 by5 by6 by7 by8 by9 by10 by11 by12 by13 by14 by15 by16 h0 W2.old Eb Fvp Fcp Ab) all0 (by decide +kernel) (Wd := 0) (by decide +kernel) (by decide +kernel) (by decide +kernel) all0 rfl (by rw [hml]; rfl) (lenOf pd0 rfl) rfl (by show 2 * 0 + _ ≤ _; exact Nat.le_of_eq rfl) (hb hby d132_21) (fun T3 h3 v3 P3 Ws3 K3 q3 => ?_)
  have W3 := Ws3 [] all0
  obtain ⟨rfl, rfl⟩ := q3
  show Go p e below _ (T3.setTop (mkF m 24 #[.val (.ref a1), .val (.ref x2), .val (.int (0 : Int32))] []))
  refine Go.of (t' := T3.setTop (mkF m 25 #[.val (.ref a1), .val (.ref x2), .val (.int (0 : Int32))] [(.ref a1)])) (fun _ kk => XS.aloadN W3.here hx rfl (hb hby d132_24) rfl rfl kk) ?_
  refine Go.of (t' := T3.setTop (mkF m 26 #[.val (.ref a1), .val (.ref x2), .val (.int (0 : Int32))] [(.ref a1), (.ref a1)])) (fun _ kk => XS.aloadN W3.here hx rfl (hb hby d132_25) rfl rfl kk) ?_
  refine W3.getF hx (host := "") (Or.inl (hw _ (List.mem_of_getElem? (i := 75) rfl))) Via.refl Fnp rfl rfl (hb hby d132_26) (fun T4 W4 => ?_)
  show Go p e below _ (T4.setTop (mkF m 29 #[.val (.ref a1), .val (.ref x2), .val (.int (0 : Int32))] [(.int (7 : Int32)), (.ref a1)]))
  refine Go.of (t' := T4.setTop (mkF m 30 #[.val (.ref a1), .val (.ref x2), .val (.int (0 : Int32))] [(.ref x2), (.int (7 : Int32)), (.ref a1)])) (fun _ kk => XS.aloadN W4.here hx rfl (hb hby d132_29) rfl rfl kk) ?_
  refine W4.callW hx hEL (hw _ (List.mem_of_getElem? (i := 82) rfl)) (hw _ (List.mem_of_getElem? (i := 85) rfl)) (hw _ (List.mem_of_getElem? (i := 83) rfl)) (hw _ (List.mem_of_getElem? (i := 44) rfl)) (hw _ (List.mem_of_getElem? (i := 86) rfl)) (by decide +kernel) Eb (a := a1) (argsL := [(.int (7 : Int32)), (.ref x2)]) (rest := []) (rm131 l Z a0 hw hEL zc SC hzc fm SF rfm a1 x2 t kc by1 by2 by3 by4 by5 by6 by7 by8 by9 by10 by11 by12 by13 by14 by15 by16 h0 W4.old Eb Fvp Fcp Ab g2 Sa) (allS (List.mem_of_getElem? (i := 0) rfl) all0) (by decide +kernel) (Wd := 0) (by decide +kernel) (by decide +kernel) (by decide +kernel) (allS ⟨g2, (Or.inl (List.mem_of_getElem? (i := 1) rfl))⟩ all0) rfl (by rw [hml]; rfl) (lenOf pd5 rfl) rfl (by show 2 * 0 + _ ≤ _; exact Nat.le_of_eq rfl) (hb hby d132_30) (fun T5 h5 v5 P5 Ws5 K5 q5 => ?_)
  have W5 := Ws5 [] all0
  obtain ⟨rfl, A5⟩ := q5
  show Go p e below _ (T5.setTop (mkF m 33 #[.val (.ref a1), .val (.ref x2), .val (.int (0 : Int32))] []))
  refine Go.of (t' := T5.setTop (mkF m 34 #[.val (.ref a1), .val (.ref x2), .val (.int (0 : Int32))] [(.ref a1)])) (fun _ kk => XS.aloadN W5.here hx rfl (hb hby d132_33) rfl rfl kk) ?_
  refine Go.of (t' := T5.setTop (mkF m 35 #[.val (.ref a1), .val (.ref x2), .val (.int (0 : Int32))] [(.ref a1), (.ref a1)])) (fun _ kk => XS.dup W5.here hx rfl (hb hby d132_34) rfl rfl kk) ?_
  have k6 := (Fnp.keep K5 (ninS nat nin0))
  refine W5.getF hx (host := "") (Or.inl (hw _ (List.mem_of_getElem? (i := 75) rfl))) Via.refl k6 rfl rfl (hb hby d132_35) (fun T7 W7 => ?_)
  show Go p e below _ (T7.setTop (mkF m 38 #[.val (.ref a1), .val (.ref x2), .val (.int (0 : Int32))] [(.int (7 : Int32)), (.ref a1)]))
  refine Go.of (t' := T7.setTop (mkF m 39 #[.val (.ref a1), .val (.ref x2), .val (.int (0 : Int32))] [(.int (0 : Int32)), (.int (7 : Int32)), (.ref a1)])) (fun _ kk => XS.iloadN W7.here hx rfl (hb hby d132_38) rfl kk) ?_
  refine Go.of (t' := T7.setTop (mkF m 40 #[.val (.ref a1), .val (.ref x2), .val (.int (0 : Int32))] [(.int (7 : Int32)), (.ref a1)])) (fun _ kk => XS.iadd W7.here hx rfl (hb hby d132_39) rfl kk) ?_
  have k8 := (Eb.keep K5)
  refine W7.putF hx (host := "") (Or.inl (hw _ (List.mem_of_getElem? (i := 75) rfl))) Via.refl k6 k8 (Or.inl (hw _ (List.mem_of_getElem? (i := 76) rfl))) (hw _ (List.mem_of_getElem? (i := 35) rfl)) (ty := .int) (by decide +kernel) rfl rfl g1 (Or.inl (List.mem_of_getElem? (i := 0) rfl)) (Or.inr ⟨by decide, by decide⟩) rfl rfl (hb hby d132_40) (fun T9 h9 W9 w9 => ?_)
  have k10 := (Fvp.keep K5 (ninS nat nin0))
  have k11 := (Fcp.keep K5 (ninS nat nin0))
  have K9 := Keep.of_wr w9
  have k12 := k10.other w9 (Or.inr (slot_ne (Or.inl (hw _ (List.mem_of_getElem? (i := 49) rfl))) (Or.inl (hw _ (List.mem_of_getElem? (i := 76) rfl))) (by decide +kernel) (t := (.array .byte)) (t' := .int) (by decide +kernel) (by decide +kernel)))
  have k13 := k11.other w9 (Or.inr (slot_ne (Or.inl (hw _ (List.mem_of_getElem? (i := 51) rfl))) (Or.inl (hw _ (List.mem_of_getElem? (i := 76) rfl))) (by decide +kernel) (t := .byte) (t' := .int) (by decide +kernel) (by decide +kernel)))
  have k14 := k6.same w9
  show Go p e below _ (T9.setTop (mkF m 43 #[.val (.ref a1), .val (.ref x2), .val (.int (0 : Int32))] []))
  refine Go.of (t' := T9.setTop (mkF m 44 #[.val (.ref a1), .val (.ref x2), .val (.int (0 : Int32))] [(.ref a1)])) (fun _ kk => XS.aloadN W9.here hx rfl (hb hby d132_43) rfl rfl kk) ?_
  have k15 := (A5.keep K9 (ninS (nat).symm nin0))
  exact W9.retA hx hEL hs hlk (by decide +kernel) (by decide +kernel) hret rfl rfl (hb hby d132_44) (fun S hS => ⟨rfl, k12, k13, k14, k15⟩)
theorem d133_0 : decode jdk_67_method_7_code 0 = .ok (.aload_n 0, 1) := by decide +kernel
theorem d133_1 : decode jdk_67_method_7_code 1 = .ok (.aload_n 1, 1) := by decide +kernel
theorem d133_2 : decode jdk_67_method_7_code 2 = .ok (.invokespecial 29, 3) := by decide +kernel
theorem d133_5 : decode jdk_67_method_7_code 5 = .ok (.pop, 1) := by decide +kernel
theorem d133_6 : decode jdk_67_method_7_code 6 = .ok (.aload_n 0, 1) := by decide +kernel
theorem d133_7 : decode jdk_67_method_7_code 7 = .ok (.areturn, 1) := by decide +kernel
theorem ef133 (m : MethodId) (x0 : Addr) (x1 : Addr)  : entryFrame m #[(.ref x0), (.ref x1)] 2 = mkF m 0 #[.val (.ref x0), .val (.ref x1)] [] := by first | (simp [entryFrame, mkF, argsToLocals, Value.category]; done) | rfl | rfl
set_option maxRecDepth 65536 in
set_option maxHeartbeats 40000000 in
theorem rm133 (l : Launch) (Z : State) (a0 : Array Value) (hw : ∀ d ∈ tables_1, d.before a0 Z = true) (hEL : EW Z a0 EL0) (zc : Int32) (SC : Sta Z Z.heap "java/lang/String" "COMPACT_STRINGS" "Z" (.int zc)) (hzc : ¬ zc = 0) (fm : Value) (SF : Sta Z Z.heap "jdk/internal/util/Preconditions" "SIOOBE_FORMATTER" "Ljava/util/function/BiFunction;" fm) (rfm : fm.isRef = true) (a1 : Addr) (x2 : Addr) (t : Addr) (kc : ClassId) (by1 : Int32) (by2 : Int32) (by3 : Int32) (by4 : Int32) (by5 : Int32) (by6 : Int32) (by7 : Int32) (by8 : Int32) (by9 : Int32) (by10 : Int32) (by11 : Int32) (by12 : Int32) (by13 : Int32) (by14 : Int32) (by15 : Int32) (by16 : Int32) (h0 : Heap) {n0 : Nat} (O0 : Old Z n0 h0) (Eb : Exa Z h0 a1 "java/lang/StringBuilder") (Fvp : Fld Z h0 a1 "java/lang/AbstractStringBuilder" "value" "[B" (.ref t)) (Fcp : Fld Z h0 a1 "java/lang/AbstractStringBuilder" "coder" "B" (.int (0 : Int32))) (Fnp : Fld Z h0 a1 "java/lang/AbstractStringBuilder" "count" "I" (.int (7 : Int32))) (Ab : Arv Z h0 t kc .byte (16 : Int32) [(.int by1), (.int by2), (.int by3), (.int by4), (.int by5), (.int by6), (.int by7), (.int by8), (.int by9), (.int by10), (.int by11), (.int by12), (.int by13), (.int by14), (.int by15), (.int by16)] (.int (0 : Int32))) (g1 : n0 ≤ a1) (g2 : n0 ≤ t) (nat : a1 ≠ t) (Sa : Str Z h0 x2 []) :
    Met l Z EL0 n0 (⟨"java/lang/StringBuilder", "append", "(Ljava/lang/String;)Ljava/lang/StringBuilder;"⟩ : MethodName) jdk_67_method_7_code 2 (some (.object "java/lang/StringBuilder")) [] ({ frames := 4, cells := 0, slots := 0, locals := 61 } : Room) #[(.ref a1), (.ref x2)] h0 [a1, t] [t] (fun v h' S => v = some (.ref a1) ∧ Fld Z h' a1 "java/lang/AbstractStringBuilder" "value" "[B" (.ref t) ∧ Fld Z h' a1 "java/lang/AbstractStringBuilder" "coder" "B" (.int (0 : Int32)) ∧ Fld Z h' a1 "java/lang/AbstractStringBuilder" "count" "I" (.int (7 : Int32)) ∧ Arv Z h' t kc .byte (16 : Int32) [(.int by1), (.int by2), (.int by3), (.int by4), (.int by5), (.int by6), (.int by7), (.int by8), (.int by9), (.int by10), (.int by11), (.int by12), (.int by13), (.int by14), (.int by15), (.int by16)] (.int (0 : Int32))) := by
  refine Met.of (plainFor_of_name pn1) O0 ?_
  intro p e s m below meth c T0 hx hby hml hret hlk hnm hs W0
  have W0 : Wk p l e _ s m _ below meth c Z EL0 n0 [a1, t] "java/lang/StringBuilder" [t] T0 0 0 h0 := W0
  have hSA := fun d hd => hw d (sa_in d hd)
  have hws := fun d hd => hw d (ws_in d hd)
  have hln := fun d hd => hw d (ln_in d hd)
  have heq := fun d hd => hw d (eq_in d hd)
  refine Go.of (fun _ kk => castTop (ef133 m a1 x2) kk) ?_
  show Go p e below _ (T0.setTop (mkF m 0 #[.val (.ref a1), .val (.ref x2)] []))
  refine Go.of (t' := T0.setTop (mkF m 1 #[.val (.ref a1), .val (.ref x2)] [(.ref a1)])) (fun _ kk => XS.aloadN W0.here hx rfl (hb hby d133_0) rfl rfl kk) ?_
  refine Go.of (t' := T0.setTop (mkF m 2 #[.val (.ref a1), .val (.ref x2)] [(.ref x2), (.ref a1)])) (fun _ kk => XS.aloadN W0.here hx rfl (hb hby d133_1) rfl rfl kk) ?_
  refine W0.callU hx hEL (hw _ (List.mem_of_getElem? (i := 60) rfl)) (hw _ (List.mem_of_getElem? (i := 62) rfl)) (hw _ (List.mem_of_getElem? (i := 80) rfl)) rfl (by decide +kernel) (hw _ (List.mem_of_getElem? (i := 61) rfl)) (hw _ (List.mem_of_getElem? (i := 44) rfl)) (hw _ (List.mem_of_getElem? (i := 64) rfl)) (by decide +kernel) Eb (a := a1) (argsL := [(.ref x2)]) (rest := []) (rm132 l Z a0 hw hEL zc SC hzc fm SF rfm a1 x2 t kc by1 by2 by3 by4 by5 by6 by7 by8 by9 by10 by11 by12 by13 by14 by15 by16 h0 W0.old Eb Fvp Fcp Fnp Ab g1 g2 nat Sa) (allS (List.mem_of_getElem? (i := 0) rfl) all0) (by decide +kernel) (Wd := 0) (by decide +kernel) (by decide +kernel) (by decide +kernel) (allS ⟨g1, (Or.inl (List.mem_of_getElem? (i := 0) rfl))⟩ (allS ⟨g2, (Or.inl (List.mem_of_getElem? (i := 1) rfl))⟩ all0)) rfl (by rw [hml]; rfl) (lenOf pd6 rfl) rfl (by show 2 * 0 + _ ≤ _; exact Nat.le_of_eq rfl) (hb hby d133_2) (fun T1 h1 v1 P1 Ws1 K1 q1 => ?_)
  have W1 := Ws1 [] all0
  obtain ⟨rfl, Fv1, Fc1, Fn1, A1⟩ := q1
  show Go p e below _ (T1.setTop (mkF m 5 #[.val (.ref a1), .val (.ref x2)] [(.ref a1)]))
  refine Go.of (t' := T1.setTop (mkF m 6 #[.val (.ref a1), .val (.ref x2)] [])) (fun _ kk => XS.pop W1.here hx rfl (hb hby d133_5) rfl rfl kk) ?_
  refine Go.of (t' := T1.setTop (mkF m 7 #[.val (.ref a1), .val (.ref x2)] [(.ref a1)])) (fun _ kk => XS.aloadN W1.here hx rfl (hb hby d133_6) rfl rfl kk) ?_
  exact W1.retA hx hEL hs hlk (by decide +kernel) (by decide +kernel) hret rfl rfl (hb hby d133_7) (fun S hS => ⟨rfl, Fv1, Fc1, Fn1, A1⟩)
theorem d140_0 : decode jdk_42_method_147_code 0 = .ok (.aload_n 0, 1) := by decide +kernel
theorem d140_1 : decode jdk_42_method_147_code 1 = .ok (.invokevirtual 335, 3) := by decide +kernel
theorem d140_4 : decode jdk_42_method_147_code 4 = .ok (.iload_n 3, 1) := by decide +kernel
theorem d140_5 : decode jdk_42_method_147_code 5 = .ok (.if_icmp .ne 23, 3) := by decide +kernel
theorem d140_8 : decode jdk_42_method_147_code 8 = .ok (.aload_n 0, 1) := by decide +kernel
theorem d140_9 : decode jdk_42_method_147_code 9 = .ok (.getfield 9, 3) := by decide +kernel
theorem d140_12 : decode jdk_42_method_147_code 12 = .ok (.iconst 0, 1) := by decide +kernel
theorem d140_13 : decode jdk_42_method_147_code 13 = .ok (.aload_n 1, 1) := by decide +kernel
theorem d140_14 : decode jdk_42_method_147_code 14 = .ok (.iload_n 2, 1) := by decide +kernel
theorem d140_15 : decode jdk_42_method_147_code 15 = .ok (.iload_n 3, 1) := by decide +kernel
theorem d140_16 : decode jdk_42_method_147_code 16 = .ok (.ishl, 1) := by decide +kernel
theorem d140_17 : decode jdk_42_method_147_code 17 = .ok (.aload_n 0, 1) := by decide +kernel
theorem d140_18 : decode jdk_42_method_147_code 18 = .ok (.getfield 9, 3) := by decide +kernel
theorem d140_21 : decode jdk_42_method_147_code 21 = .ok (.arraylength, 1) := by decide +kernel
theorem d140_22 : decode jdk_42_method_147_code 22 = .ok (.invokestatic 212, 3) := by decide +kernel
theorem d140_25 : decode jdk_42_method_147_code 25 = .ok (.goto 18, 3) := by decide +kernel
theorem d140_43 : decode jdk_42_method_147_code 43 = .ok (.return_, 1) := by decide +kernel
theorem ef140 (m : MethodId) (x0 : Addr) (x1 : Addr) (x2 : Int32) (x3 : Int32)  : entryFrame m #[(.ref x0), (.ref x1), (.int x2), (.int x3)] 4 = mkF m 0 #[.val (.ref x0), .val (.ref x1), .val (.int x2), .val (.int x3)] [] := by first | (simp [entryFrame, mkF, argsToLocals, Value.category]; done) | rfl | rfl
set_option maxRecDepth 65536 in
set_option maxHeartbeats 40000000 in
theorem rm140 (l : Launch) (Z : State) (a0 : Array Value) (hw : ∀ d ∈ tables_1, d.before a0 Z = true) (hEL : EW Z a0 EL0) (zc : Int32) (SC : Sta Z Z.heap "java/lang/String" "COMPACT_STRINGS" "Z" (.int zc)) (hzc : ¬ zc = 0) (fm : Value) (SF : Sta Z Z.heap "jdk/internal/util/Preconditions" "SIOOBE_FORMATTER" "Ljava/util/function/BiFunction;" fm) (rfm : fm.isRef = true) (x2 : Addr) (t : Addr) (kc : ClassId) (by1 : Int32) (by2 : Int32) (by3 : Int32) (by4 : Int32) (by5 : Int32) (by6 : Int32) (by7 : Int32) (by8 : Int32) (by9 : Int32) (by10 : Int32) (by11 : Int32) (by12 : Int32) (by13 : Int32) (by14 : Int32) (by15 : Int32) (by16 : Int32) (q1 : Int32) (h0 : Heap) {n0 : Nat} (O0 : Old Z n0 h0) (Sa : Str Z h0 x2 [q1]) (cq1 : ¬ q1 < 0 ∧ ¬ (255 : Int32) < q1) (Ab : Arv Z h0 t kc .byte (16 : Int32) [(.int by1), (.int by2), (.int by3), (.int by4), (.int by5), (.int by6), (.int by7), (.int by8), (.int by9), (.int by10), (.int by11), (.int by12), (.int by13), (.int by14), (.int by15), (.int by16)] (.int (0 : Int32))) (g2 : n0 ≤ t) :
    Met l Z EL0 n0 (⟨"java/lang/String", "getBytes", "([BIB)V"⟩ : MethodName) jdk_42_method_147_code 4 none [] ({ frames := 1, cells := 0, slots := 0, locals := 18 } : Room) #[(.ref x2), (.ref t), (.int (10 : Int32)), (.int (0 : Int32))] h0 [t] [t] (fun v h' S => v = none ∧ Arv Z h' t kc .byte (16 : Int32) [(.int by1), (.int by2), (.int by3), (.int by4), (.int by5), (.int by6), (.int by7), (.int by8), (.int by9), (.int by10), (.int (StrChars.lo8 q1)), (.int by12), (.int by13), (.int by14), (.int by15), (.int by16)] (.int (0 : Int32))) := by
  refine Met.of (plainFor_of_name pn2) O0 ?_
  intro p e s m below meth c T0 hx hby hml hret hlk hnm hs W0
  have W0 : Wk p l e _ s m _ below meth c Z EL0 n0 [t] "java/lang/String" [t] T0 0 0 h0 := W0
  have hSA := fun d hd => hw d (sa_in d hd)
  have hws := fun d hd => hw d (ws_in d hd)
  have hln := fun d hd => hw d (ln_in d hd)
  have heq := fun d hd => hw d (eq_in d hd)
  refine Go.of (fun _ kk => castTop (ef140 m x2 t (10 : Int32) (0 : Int32)) kk) ?_
  show Go p e below _ (T0.setTop (mkF m 0 #[.val (.ref x2), .val (.ref t), .val (.int (10 : Int32)), .val (.int (0 : Int32))] []))
  obtain ⟨t1, kb1, E1, Fv1, Fc1, A1⟩ := Sa.open_ (snd255 (allSi cq1 all0i))
  have V1 : Arv Z h0 t1 kb1 .byte (1 : Int32) [(.int (StrChars.lo8 q1))] (.int (0 : Int32)) := A1
  refine Go.of (t' := T0.setTop (mkF m 1 #[.val (.ref x2), .val (.ref t), .val (.int (10 : Int32)), .val (.int (0 : Int32))] [(.ref x2)])) (fun _ kk => XS.aloadN W0.here hx rfl (hb hby d140_0) rfl rfl kk) ?_
  refine W0.callV hx hEL (hw _ (List.mem_of_getElem? (i := 70) rfl)) (hw _ (List.mem_of_getElem? (i := 71) rfl)) (hw _ (List.mem_of_getElem? (i := 73) rfl)) (hw _ (List.mem_of_getElem? (i := 72) rfl)) (hw _ (List.mem_of_getElem? (i := 2) rfl)) (hw _ (List.mem_of_getElem? (i := 74) rfl)) (by decide +kernel) E1 (a := x2) (argsL := []) (rest := []) (rm4 l Z a0 hw hEL zc SC hzc fm SF rfm x2 h0 W0.old Fc1) all0 (by decide +kernel) (Wd := 0) (by decide +kernel) (by decide +kernel) (by decide +kernel) all0 rfl (by rw [hml]; rfl) (lenOf pd2 rfl) rfl (by show 2 * 0 + _ ≤ _; exact Nat.le_of_eq rfl) (hb hby d140_1) (fun T2 h2 v2 P2 Ws2 K2 q2 => ?_)
  have W2 := Ws2 [] all0
  obtain ⟨rfl, rfl⟩ := q2
  show Go p e below _ (T2.setTop (mkF m 4 #[.val (.ref x2), .val (.ref t), .val (.int (10 : Int32)), .val (.int (0 : Int32))] [(.int (0 : Int32))]))
  refine Go.of (t' := T2.setTop (mkF m 5 #[.val (.ref x2), .val (.ref t), .val (.int (10 : Int32)), .val (.int (0 : Int32))] [(.int (0 : Int32)), (.int (0 : Int32))])) (fun _ kk => XS.iloadN W2.here hx rfl (hb hby d140_4) rfl kk) ?_
  refine Go.of (t' := T2.setTop (mkF m 8 #[.val (.ref x2), .val (.ref t), .val (.int (10 : Int32)), .val (.int (0 : Int32))] [])) (fun _ kk => XS.icmpNo W2.here hx rfl (hb hby d140_5) rfl (XT.ii_ne_f (by decide +kernel)) kk) ?_
  refine Go.of (t' := T2.setTop (mkF m 9 #[.val (.ref x2), .val (.ref t), .val (.int (10 : Int32)), .val (.int (0 : Int32))] [(.ref x2)])) (fun _ kk => XS.aloadN W2.here hx rfl (hb hby d140_8) rfl rfl kk) ?_
  refine W2.getF hx (host := "") (Or.inl (hw _ (List.mem_of_getElem? (i := 28) rfl))) Via.refl Fv1 rfl rfl (hb hby d140_9) (fun T3 W3 => ?_)
  show Go p e below _ (T3.setTop (mkF m 12 #[.val (.ref x2), .val (.ref t), .val (.int (10 : Int32)), .val (.int (0 : Int32))] [(.ref t1)]))
  refine Go.of (t' := T3.setTop (mkF m 13 #[.val (.ref x2), .val (.ref t), .val (.int (10 : Int32)), .val (.int (0 : Int32))] [(.int (0 : Int32)), (.ref t1)])) (fun _ kk => XS.iconst W3.here hx rfl (hb hby d140_12) kk) ?_
  refine Go.of (t' := T3.setTop (mkF m 14 #[.val (.ref x2), .val (.ref t), .val (.int (10 : Int32)), .val (.int (0 : Int32))] [(.ref t), (.int (0 : Int32)), (.ref t1)])) (fun _ kk => XS.aloadN W3.here hx rfl (hb hby d140_13) rfl rfl kk) ?_
  refine Go.of (t' := T3.setTop (mkF m 15 #[.val (.ref x2), .val (.ref t), .val (.int (10 : Int32)), .val (.int (0 : Int32))] [(.int (10 : Int32)), (.ref t), (.int (0 : Int32)), (.ref t1)])) (fun _ kk => XS.iloadN W3.here hx rfl (hb hby d140_14) rfl kk) ?_
  refine Go.of (t' := T3.setTop (mkF m 16 #[.val (.ref x2), .val (.ref t), .val (.int (10 : Int32)), .val (.int (0 : Int32))] [(.int (0 : Int32)), (.int (10 : Int32)), (.ref t), (.int (0 : Int32)), (.ref t1)])) (fun _ kk => XS.iloadN W3.here hx rfl (hb hby d140_15) rfl kk) ?_
  refine Go.of (t' := T3.setTop (mkF m 17 #[.val (.ref x2), .val (.ref t), .val (.int (10 : Int32)), .val (.int (0 : Int32))] [(.int (10 : Int32)), (.ref t), (.int (0 : Int32)), (.ref t1)])) (fun _ kk => XS.ishl W3.here hx rfl (hb hby d140_16) rfl kk) ?_
  refine Go.of (t' := T3.setTop (mkF m 18 #[.val (.ref x2), .val (.ref t), .val (.int (10 : Int32)), .val (.int (0 : Int32))] [(.ref x2), (.int (10 : Int32)), (.ref t), (.int (0 : Int32)), (.ref t1)])) (fun _ kk => XS.aloadN W3.here hx rfl (hb hby d140_17) rfl rfl kk) ?_
  refine W3.getF hx (host := "") (Or.inl (hw _ (List.mem_of_getElem? (i := 28) rfl))) Via.refl Fv1 rfl rfl (hb hby d140_18) (fun T4 W4 => ?_)
  show Go p e below _ (T4.setTop (mkF m 21 #[.val (.ref x2), .val (.ref t), .val (.int (10 : Int32)), .val (.int (0 : Int32))] [(.ref t1), (.int (10 : Int32)), (.ref t), (.int (0 : Int32)), (.ref t1)]))
  refine W4.alen hx V1 rfl rfl (hb hby d140_21) ?_
  show Go p e below _ (T4.setTop (mkF m 22 #[.val (.ref x2), .val (.ref t), .val (.int (10 : Int32)), .val (.int (0 : Int32))] [(.int (1 : Int32)), (.int (10 : Int32)), (.ref t), (.int (0 : Int32)), (.ref t1)]))
  refine W4.cp hx (hw _ (List.mem_of_getElem? (i := 98) rfl)) (hw _ (List.mem_of_getElem? (i := 101) rfl)) (hw _ (List.mem_of_getElem? (i := 99) rfl)) (hw _ (List.mem_of_getElem? (i := 100) rfl)) (us := [(.int (StrChars.lo8 q1))]) V1 Ab rfl (by decide) (by decide) (by decide) (by decide) (by decide) rfl (Nat.le_of_ble_eq_true rfl) g2 (Or.inl (List.mem_of_getElem? (i := 0) rfl)) (List.mem_of_getElem? (i := 0) rfl) rfl (by rw [hml]; rfl) rfl (hb hby d140_22) (by decide +kernel) (Wd := 0) (by show 2 * 0 + _ ≤ _; exact Nat.le_of_eq rfl) (by decide +kernel) (fun T5 h5 W5 K5 A5 => ?_)
  have V5 : Arv Z h5 t kc .byte (16 : Int32) [(.int by1), (.int by2), (.int by3), (.int by4), (.int by5), (.int by6), (.int by7), (.int by8), (.int by9), (.int by10), (.int (StrChars.lo8 q1)), (.int by12), (.int by13), (.int by14), (.int by15), (.int by16)] (.int (0 : Int32)) := A5
  show Go p e below _ (T5.setTop (mkF m 25 #[.val (.ref x2), .val (.ref t), .val (.int (10 : Int32)), .val (.int (0 : Int32))] []))
  refine Go.of (t' := T5.setTop (mkF m 43 #[.val (.ref x2), .val (.ref t), .val (.int (10 : Int32)), .val (.int (0 : Int32))] [])) (fun _ kk => XS.goto W5.here hx rfl (pc0 := 25) (pc' := 43) rfl (hb hby d140_25) (by decide +kernel) (by decide +kernel) kk) ?_
  exact W5.retV hx hEL hs hlk (by decide +kernel) (by decide +kernel) hret (hb hby d140_43) (fun S hS => ⟨rfl, V5⟩)
theorem d141_0 : decode jdk_68_method_73_code 0 = .ok (.aload_n 0, 1) := by decide +kernel
theorem d141_1 : decode jdk_68_method_73_code 1 = .ok (.aload_n 2, 1) := by decide +kernel
theorem d141_2 : decode jdk_68_method_73_code 2 = .ok (.invokevirtual 397, 3) := by decide +kernel
theorem d141_5 : decode jdk_68_method_73_code 5 = .ok (.aload_n 2, 1) := by decide +kernel
theorem d141_6 : decode jdk_68_method_73_code 6 = .ok (.aload_n 0, 1) := by decide +kernel
theorem d141_7 : decode jdk_68_method_73_code 7 = .ok (.getfield 15, 3) := by decide +kernel
theorem d141_10 : decode jdk_68_method_73_code 10 = .ok (.iload_n 1, 1) := by decide +kernel
theorem d141_11 : decode jdk_68_method_73_code 11 = .ok (.aload_n 0, 1) := by decide +kernel
theorem d141_12 : decode jdk_68_method_73_code 12 = .ok (.getfield 22, 3) := by decide +kernel
theorem d141_15 : decode jdk_68_method_73_code 15 = .ok (.invokevirtual 399, 3) := by decide +kernel
theorem d141_18 : decode jdk_68_method_73_code 18 = .ok (.return_, 1) := by decide +kernel
theorem ef141 (m : MethodId) (x0 : Addr) (x1 : Int32) (x2 : Addr)  : entryFrame m #[(.ref x0), (.int x1), (.ref x2)] 3 = mkF m 0 #[.val (.ref x0), .val (.int x1), .val (.ref x2)] [] := by first | (simp [entryFrame, mkF, argsToLocals, Value.category]; done) | rfl | rfl
set_option maxRecDepth 65536 in
set_option maxHeartbeats 40000000 in
theorem rm141 (l : Launch) (Z : State) (a0 : Array Value) (hw : ∀ d ∈ tables_1, d.before a0 Z = true) (hEL : EW Z a0 EL0) (zc : Int32) (SC : Sta Z Z.heap "java/lang/String" "COMPACT_STRINGS" "Z" (.int zc)) (hzc : ¬ zc = 0) (fm : Value) (SF : Sta Z Z.heap "jdk/internal/util/Preconditions" "SIOOBE_FORMATTER" "Ljava/util/function/BiFunction;" fm) (rfm : fm.isRef = true) (a1 : Addr) (x2 : Addr) (t : Addr) (kc : ClassId) (by1 : Int32) (by2 : Int32) (by3 : Int32) (by4 : Int32) (by5 : Int32) (by6 : Int32) (by7 : Int32) (by8 : Int32) (by9 : Int32) (by10 : Int32) (by11 : Int32) (by12 : Int32) (by13 : Int32) (by14 : Int32) (by15 : Int32) (by16 : Int32) (q1 : Int32) (h0 : Heap) {n0 : Nat} (O0 : Old Z n0 h0) (Eb : Exa Z h0 a1 "java/lang/StringBuilder") (Fvp : Fld Z h0 a1 "java/lang/AbstractStringBuilder" "value" "[B" (.ref t)) (Fcp : Fld Z h0 a1 "java/lang/AbstractStringBuilder" "coder" "B" (.int (0 : Int32))) (Ab : Arv Z h0 t kc .byte (16 : Int32) [(.int by1), (.int by2), (.int by3), (.int by4), (.int by5), (.int by6), (.int by7), (.int by8), (.int by9), (.int by10), (.int by11), (.int by12), (.int by13), (.int by14), (.int by15), (.int by16)] (.int (0 : Int32))) (g2 : n0 ≤ t) (Sa : Str Z h0 x2 [q1]) (cq1 : ¬ q1 < 0 ∧ ¬ (255 : Int32) < q1) :
    Met l Z EL0 n0 (⟨"java/lang/AbstractStringBuilder", "putStringAt", "(ILjava/lang/String;)V"⟩ : MethodName) jdk_68_method_73_code 3 none [] ({ frames := 2, cells := 0, slots := 0, locals := 33 } : Room) #[(.ref a1), (.int (10 : Int32)), (.ref x2)] h0 [t] [t] (fun v h' S => v = none ∧ Arv Z h' t kc .byte (16 : Int32) [(.int by1), (.int by2), (.int by3), (.int by4), (.int by5), (.int by6), (.int by7), (.int by8), (.int by9), (.int by10), (.int (StrChars.lo8 q1)), (.int by12), (.int by13), (.int by14), (.int by15), (.int by16)] (.int (0 : Int32))) := by
  refine Met.of (plainFor_of_name pn0) O0 ?_
  intro p e s m below meth c T0 hx hby hml hret hlk hnm hs W0
  have W0 : Wk p l e _ s m _ below meth c Z EL0 n0 [t] "java/lang/AbstractStringBuilder" [t] T0 0 0 h0 := W0
  have hSA := fun d hd => hw d (sa_in d hd)
  have hws := fun d hd => hw d (ws_in d hd)
  have hln := fun d hd => hw d (ln_in d hd)
  have heq := fun d hd => hw d (eq_in d hd)
  refine Go.of (fun _ kk => castTop (ef141 m a1 (10 : Int32) x2) kk) ?_
  show Go p e below _ (T0.setTop (mkF m 0 #[.val (.ref a1), .val (.int (10 : Int32)), .val (.ref x2)] []))
  refine Go.of (t' := T0.setTop (mkF m 1 #[.val (.ref a1), .val (.int (10 : Int32)), .val (.ref x2)] [(.ref a1)])) (fun _ kk => XS.aloadN W0.here hx rfl (hb hby d141_0) rfl rfl kk) ?_
  refine Go.of (t' := T0.setTop (mkF m 2 #[.val (.ref a1), .val (.int (10 : Int32)), .val (.ref x2)] [(.ref x2), (.ref a1)])) (fun _ kk => XS.aloadN W0.here hx rfl (hb hby d141_1) rfl rfl kk) ?_
  refine W0.callW hx hEL (hw _ (List.mem_of_getElem? (i := 87) rfl)) (hw _ (List.mem_of_getElem? (i := 90) rfl)) (hw _ (List.mem_of_getElem? (i := 88) rfl)) (hw _ (List.mem_of_getElem? (i := 44) rfl)) (hw _ (List.mem_of_getElem? (i := 91) rfl)) (by decide +kernel) Eb (a := a1) (argsL := [(.ref x2)]) (rest := []) (rm31 l Z a0 hw hEL zc SC hzc fm SF rfm a1 x2 q1 h0 W0.old Eb Fcp Sa cq1) all0 (by decide +kernel) (Wd := 0) (by decide +kernel) (by decide +kernel) (by decide +kernel) all0 rfl (by rw [hml]; rfl) (lenOf pd3 rfl) rfl (by show 2 * 0 + _ ≤ _; exact Nat.le_of_eq rfl) (hb hby d141_2) (fun T1 h1 v1 P1 Ws1 K1 q1 => ?_)
  have W1 := Ws1 [] all0
  obtain ⟨rfl, rfl⟩ := q1
  show Go p e below _ (T1.setTop (mkF m 5 #[.val (.ref a1), .val (.int (10 : Int32)), .val (.ref x2)] []))
  refine Go.of (t' := T1.setTop (mkF m 6 #[.val (.ref a1), .val (.int (10 : Int32)), .val (.ref x2)] [(.ref x2)])) (fun _ kk => XS.aloadN W1.here hx rfl (hb hby d141_5) rfl rfl kk) ?_
  refine Go.of (t' := T1.setTop (mkF m 7 #[.val (.ref a1), .val (.int (10 : Int32)), .val (.ref x2)] [(.ref a1), (.ref x2)])) (fun _ kk => XS.aloadN W1.here hx rfl (hb hby d141_6) rfl rfl kk) ?_
  refine W1.getF hx (host := "") (Or.inl (hw _ (List.mem_of_getElem? (i := 48) rfl))) Via.refl Fvp rfl rfl (hb hby d141_7) (fun T2 W2 => ?_)
  show Go p e below _ (T2.setTop (mkF m 10 #[.val (.ref a1), .val (.int (10 : Int32)), .val (.ref x2)] [(.ref t), (.ref x2)]))
  refine Go.of (t' := T2.setTop (mkF m 11 #[.val (.ref a1), .val (.int (10 : Int32)), .val (.ref x2)] [(.int (10 : Int32)), (.ref t), (.ref x2)])) (fun _ kk => XS.iloadN W2.here hx rfl (hb hby d141_10) rfl kk) ?_
  refine Go.of (t' := T2.setTop (mkF m 12 #[.val (.ref a1), .val (.int (10 : Int32)), .val (.ref x2)] [(.ref a1), (.int (10 : Int32)), (.ref t), (.ref x2)])) (fun _ kk => XS.aloadN W2.here hx rfl (hb hby d141_11) rfl rfl kk) ?_
  refine W2.getF hx (host := "") (Or.inl (hw _ (List.mem_of_getElem? (i := 50) rfl))) Via.refl Fcp rfl rfl (hb hby d141_12) (fun T3 W3 => ?_)
  show Go p e below _ (T3.setTop (mkF m 15 #[.val (.ref a1), .val (.int (10 : Int32)), .val (.ref x2)] [(.int (0 : Int32)), (.int (10 : Int32)), (.ref t), (.ref x2)]))
  have k5 := Sa.exa
  refine W3.callV hx hEL (hw _ (List.mem_of_getElem? (i := 93) rfl)) (hw _ (List.mem_of_getElem? (i := 94) rfl)) (hw _ (List.mem_of_getElem? (i := 96) rfl)) (hw _ (List.mem_of_getElem? (i := 95) rfl)) (hw _ (List.mem_of_getElem? (i := 2) rfl)) (hw _ (List.mem_of_getElem? (i := 97) rfl)) (by decide +kernel) k5 (a := x2) (argsL := [(.ref t), (.int (10 : Int32)), (.int (0 : Int32))]) (rest := []) (rm140 l Z a0 hw hEL zc SC hzc fm SF rfm x2 t kc by1 by2 by3 by4 by5 by6 by7 by8 by9 by10 by11 by12 by13 by14 by15 by16 q1 h0 W3.old Sa cq1 Ab g2) (allS (List.mem_of_getElem? (i := 0) rfl) all0) (by decide +kernel) (Wd := 0) (by decide +kernel) (by decide +kernel) (by decide +kernel) (allS ⟨g2, (Or.inl (List.mem_of_getElem? (i := 0) rfl))⟩ all0) rfl (by rw [hml]; rfl) (lenOf pd4 rfl) rfl (by show 2 * 0 + _ ≤ _; exact Nat.le_of_eq rfl) (hb hby d141_15) (fun T4 h4 v4 P4 Ws4 K4 q4 => ?_)
  have W4 := Ws4 [] all0
  obtain ⟨rfl, A4⟩ := q4
  show Go p e below _ (T4.setTop (mkF m 18 #[.val (.ref a1), .val (.int (10 : Int32)), .val (.ref x2)] []))
  exact W4.retV hx hEL hs hlk (by decide +kernel) (by decide +kernel) hret (hb hby d141_18) (fun S hS => ⟨rfl, A4⟩)
theorem d142_0 : decode jdk_68_method_22_code 0 = .ok (.aload_n 1, 1) := by decide +kernel
theorem d142_1 : decode jdk_68_method_22_code 1 = .ok (.ifnonnull 8, 3) := by decide +kernel
theorem d142_9 : decode jdk_68_method_22_code 9 = .ok (.aload_n 1, 1) := by decide +kernel
theorem d142_10 : decode jdk_68_method_22_code 10 = .ok (.invokevirtual 32, 3) := by decide +kernel
theorem d142_13 : decode jdk_68_method_22_code 13 = .ok (.istore_n 2, 1) := by decide +kernel
theorem d142_14 : decode jdk_68_method_22_code 14 = .ok (.aload_n 0, 1) := by decide +kernel
theorem d142_15 : decode jdk_68_method_22_code 15 = .ok (.aload_n 0, 1) := by decide +kernel
theorem d142_16 : decode jdk_68_method_22_code 16 = .ok (.getfield 79, 3) := by decide +kernel
theorem d142_19 : decode jdk_68_method_22_code 19 = .ok (.iload_n 2, 1) := by decide +kernel
theorem d142_20 : decode jdk_68_method_22_code 20 = .ok (.iadd, 1) := by decide +kernel
theorem d142_21 : decode jdk_68_method_22_code 21 = .ok (.invokevirtual 100, 3) := by decide +kernel
theorem d142_24 : decode jdk_68_method_22_code 24 = .ok (.aload_n 0, 1) := by decide +kernel
theorem d142_25 : decode jdk_68_method_22_code 25 = .ok (.aload_n 0, 1) := by decide +kernel
theorem d142_26 : decode jdk_68_method_22_code 26 = .ok (.getfield 79, 3) := by decide +kernel
theorem d142_29 : decode jdk_68_method_22_code 29 = .ok (.aload_n 1, 1) := by decide +kernel
theorem d142_30 : decode jdk_68_method_22_code 30 = .ok (.invokevirtual 208, 3) := by decide +kernel
theorem d142_33 : decode jdk_68_method_22_code 33 = .ok (.aload_n 0, 1) := by decide +kernel
theorem d142_34 : decode jdk_68_method_22_code 34 = .ok (.dup, 1) := by decide +kernel
theorem d142_35 : decode jdk_68_method_22_code 35 = .ok (.getfield 79, 3) := by decide +kernel
theorem d142_38 : decode jdk_68_method_22_code 38 = .ok (.iload_n 2, 1) := by decide +kernel
theorem d142_39 : decode jdk_68_method_22_code 39 = .ok (.iadd, 1) := by decide +kernel
theorem d142_40 : decode jdk_68_method_22_code 40 = .ok (.putfield 79, 3) := by decide +kernel
theorem d142_43 : decode jdk_68_method_22_code 43 = .ok (.aload_n 0, 1) := by decide +kernel
theorem d142_44 : decode jdk_68_method_22_code 44 = .ok (.areturn, 1) := by decide +kernel
theorem ef142 (m : MethodId) (x0 : Addr) (x1 : Addr)  : entryFrame m #[(.ref x0), (.ref x1)] 3 = mkF m 0 #[.val (.ref x0), .val (.ref x1), .unset] [] := by first | (simp [entryFrame, mkF, argsToLocals, Value.category]; done) | rfl | rfl
set_option maxRecDepth 65536 in
set_option maxHeartbeats 40000000 in
theorem rm142 (l : Launch) (Z : State) (a0 : Array Value) (hw : ∀ d ∈ tables_1, d.before a0 Z = true) (hEL : EW Z a0 EL0) (zc : Int32) (SC : Sta Z Z.heap "java/lang/String" "COMPACT_STRINGS" "Z" (.int zc)) (hzc : ¬ zc = 0) (fm : Value) (SF : Sta Z Z.heap "jdk/internal/util/Preconditions" "SIOOBE_FORMATTER" "Ljava/util/function/BiFunction;" fm) (rfm : fm.isRef = true) (a1 : Addr) (x2 : Addr) (t : Addr) (kc : ClassId) (by1 : Int32) (by2 : Int32) (by3 : Int32) (by4 : Int32) (by5 : Int32) (by6 : Int32) (by7 : Int32) (by8 : Int32) (by9 : Int32) (by10 : Int32) (by11 : Int32) (by12 : Int32) (by13 : Int32) (by14 : Int32) (by15 : Int32) (by16 : Int32) (q1 : Int32) (h0 : Heap) {n0 : Nat} (O0 : Old Z n0 h0) (Eb : Exa Z h0 a1 "java/lang/StringBuilder") (Fvp : Fld Z h0 a1 "java/lang/AbstractStringBuilder" "value" "[B" (.ref t)) (Fcp : Fld Z h0 a1 "java/lang/AbstractStringBuilder" "coder" "B" (.int (0 : Int32))) (Fnp : Fld Z h0 a1 "java/lang/AbstractStringBuilder" "count" "I" (.int (10 : Int32))) (Ab : Arv Z h0 t kc .byte (16 : Int32) [(.int by1), (.int by2), (.int by3), (.int by4), (.int by5), (.int by6), (.int by7), (.int by8), (.int by9), (.int by10), (.int by11), (.int by12), (.int by13), (.int by14), (.int by15), (.int by16)] (.int (0 : Int32))) (g1 : n0 ≤ a1) (g2 : n0 ≤ t) (nat : a1 ≠ t) (Sa : Str Z h0 x2 [q1]) (cq1 : ¬ q1 < 0 ∧ ¬ (255 : Int32) < q1) :
    Met l Z EL0 n0 (⟨"java/lang/AbstractStringBuilder", "append", "(Ljava/lang/String;)Ljava/lang/AbstractStringBuilder;"⟩ : MethodName) jdk_68_method_22_code 3 (some (.object "java/lang/AbstractStringBuilder")) [] ({ frames := 3, cells := 0, slots := 0, locals := 47 } : Room) #[(.ref a1), (.ref x2)] h0 [a1, t] [t] (fun v h' S => v = some (.ref a1) ∧ Fld Z h' a1 "java/lang/AbstractStringBuilder" "value" "[B" (.ref t) ∧ Fld Z h' a1 "java/lang/AbstractStringBuilder" "coder" "B" (.int (0 : Int32)) ∧ Fld Z h' a1 "java/lang/AbstractStringBuilder" "count" "I" (.int (11 : Int32)) ∧ Arv Z h' t kc .byte (16 : Int32) [(.int by1), (.int by2), (.int by3), (.int by4), (.int by5), (.int by6), (.int by7), (.int by8), (.int by9), (.int by10), (.int (StrChars.lo8 q1)), (.int by12), (.int by13), (.int by14), (.int by15), (.int by16)] (.int (0 : Int32))) := by
  refine Met.of (plainFor_of_name pn0) O0 ?_
  intro p e s m below meth c T0 hx hby hml hret hlk hnm hs W0
  have W0 : Wk p l e _ s m _ below meth c Z EL0 n0 [a1, t] "java/lang/AbstractStringBuilder" [t] T0 0 0 h0 := W0
  have hSA := fun d hd => hw d (sa_in d hd)
  have hws := fun d hd => hw d (ws_in d hd)
  have hln := fun d hd => hw d (ln_in d hd)
  have heq := fun d hd => hw d (eq_in d hd)
  refine Go.of (fun _ kk => castTop (ef142 m a1 x2) kk) ?_
  show Go p e below _ (T0.setTop (mkF m 0 #[.val (.ref a1), .val (.ref x2), .unset] []))
  refine Go.of (t' := T0.setTop (mkF m 1 #[.val (.ref a1), .val (.ref x2), .unset] [(.ref x2)])) (fun _ kk => XS.aloadN W0.here hx rfl (hb hby d142_0) rfl rfl kk) ?_
  refine Go.of (t' := T0.setTop (mkF m 9 #[.val (.ref a1), .val (.ref x2), .unset] [])) (fun _ kk => XS.ifnonnullYes W0.here hx rfl (pc0 := 1) (pc' := 9) rfl (hb hby d142_1) rfl (by decide +kernel) (by decide +kernel) kk) ?_
  refine Go.of (t' := T0.setTop (mkF m 10 #[.val (.ref a1), .val (.ref x2), .unset] [(.ref x2)])) (fun _ kk => XS.aloadN W0.here hx rfl (hb hby d142_9) rfl rfl kk) ?_
  refine W0.strLen hx hln (hw _ (List.mem_of_getElem? (i := 1) rfl)) SC hzc Sa (hw _ (List.mem_of_getElem? (i := 65) rfl)) (hw _ (List.mem_of_getElem? (i := 66) rfl)) (hw _ (List.mem_of_getElem? (i := 68) rfl)) (hw _ (List.mem_of_getElem? (i := 67) rfl)) (by decide +kernel) (Wd := 0) (by decide +kernel) (by decide +kernel) (by decide +kernel) rfl (by rw [hml]; rfl) rfl (by show 2 * 0 + _ ≤ _; exact Nat.le_of_eq rfl) (hb hby d142_10) (fun T1 W1 => ?_)
  show Go p e below _ (T1.setTop (mkF m 13 #[.val (.ref a1), .val (.ref x2), .unset] [(.int (1 : Int32))]))
  refine Go.of (t' := T1.setTop (mkF m 14 #[.val (.ref a1), .val (.ref x2), .val (.int (1 : Int32))] [])) (fun _ kk => XS.istoreN W1.here hx rfl (hb hby d142_13) rfl (l' := #[.val (.ref a1), .val (.ref x2), .val (.int (1 : Int32))]) rfl kk) ?_
  refine Go.of (t' := T1.setTop (mkF m 15 #[.val (.ref a1), .val (.ref x2), .val (.int (1 : Int32))] [(.ref a1)])) (fun _ kk => XS.aloadN W1.here hx rfl (hb hby d142_14) rfl rfl kk) ?_
  refine Go.of (t' := T1.setTop (mkF m 16 #[.val (.ref a1), .val (.ref x2), .val (.int (1 : Int32))] [(.ref a1), (.ref a1)])) (fun _ kk => XS.aloadN W1.here hx rfl (hb hby d142_15) rfl rfl kk) ?_
  refine W1.getF hx (host := "") (Or.inl (hw _ (List.mem_of_getElem? (i := 75) rfl))) Via.refl Fnp rfl rfl (hb hby d142_16) (fun T2 W2 => ?_)
  show Go p e below _ (T2.setTop (mkF m 19 #[.val (.ref a1), .val (.ref x2), .val (.int (1 : Int32))] [(.int (10 : Int32)), (.ref a1)]))
  refine Go.of (t' := T2.setTop (mkF m 20 #[.val (.ref a1), .val (.ref x2), .val (.int (1 : Int32))] [(.int (1 : Int32)), (.int (10 : Int32)), (.ref a1)])) (fun _ kk => XS.iloadN W2.here hx rfl (hb hby d142_19) rfl kk) ?_
  refine Go.of (t' := T2.setTop (mkF m 21 #[.val (.ref a1), .val (.ref x2), .val (.int (1 : Int32))] [(.int (11 : Int32)), (.ref a1)])) (fun _ kk => XS.iadd W2.here hx rfl (hb hby d142_20) rfl kk) ?_
  refine W2.callW hx hEL (hw _ (List.mem_of_getElem? (i := 77) rfl)) (hw _ (List.mem_of_getElem? (i := 80) rfl)) (hw _ (List.mem_of_getElem? (i := 78) rfl)) (hw _ (List.mem_of_getElem? (i := 44) rfl)) (hw _ (List.mem_of_getElem? (i := 81) rfl)) (by decide +kernel) Eb (a := a1) (argsL := [(.int (11 : Int32))]) (rest := []) (rm24 l Z a0 hw hEL zc SC hzc fm SF rfm a1 t kc by1 by2 by3 by4 by5 by6 by7 by8 by9 by10 by11 by12 by13 by14 by15 by16 h0 W2.old Eb Fvp Fcp Ab) all0 (by decide +kernel) (Wd := 0) (by decide +kernel) (by decide +kernel) (by decide +kernel) all0 rfl (by rw [hml]; rfl) (lenOf pd0 rfl) rfl (by show 2 * 0 + _ ≤ _; exact Nat.le_of_eq rfl) (hb hby d142_21) (fun T3 h3 v3 P3 Ws3 K3 q3 => ?_)
  have W3 := Ws3 [] all0
  obtain ⟨rfl, rfl⟩ := q3
  show Go p e below _ (T3.setTop (mkF m 24 #[.val (.ref a1), .val (.ref x2), .val (.int (1 : Int32))] []))
  refine Go.of (t' := T3.setTop (mkF m 25 #[.val (.ref a1), .val (.ref x2), .val (.int (1 : Int32))] [(.ref a1)])) (fun _ kk => XS.aloadN W3.here hx rfl (hb hby d142_24) rfl rfl kk) ?_
  refine Go.of (t' := T3.setTop (mkF m 26 #[.val (.ref a1), .val (.ref x2), .val (.int (1 : Int32))] [(.ref a1), (.ref a1)])) (fun _ kk => XS.aloadN W3.here hx rfl (hb hby d142_25) rfl rfl kk) ?_
  refine W3.getF hx (host := "") (Or.inl (hw _ (List.mem_of_getElem? (i := 75) rfl))) Via.refl Fnp rfl rfl (hb hby d142_26) (fun T4 W4 => ?_)
  show Go p e below _ (T4.setTop (mkF m 29 #[.val (.ref a1), .val (.ref x2), .val (.int (1 : Int32))] [(.int (10 : Int32)), (.ref a1)]))
  refine Go.of (t' := T4.setTop (mkF m 30 #[.val (.ref a1), .val (.ref x2), .val (.int (1 : Int32))] [(.ref x2), (.int (10 : Int32)), (.ref a1)])) (fun _ kk => XS.aloadN W4.here hx rfl (hb hby d142_29) rfl rfl kk) ?_
  refine W4.callW hx hEL (hw _ (List.mem_of_getElem? (i := 82) rfl)) (hw _ (List.mem_of_getElem? (i := 85) rfl)) (hw _ (List.mem_of_getElem? (i := 83) rfl)) (hw _ (List.mem_of_getElem? (i := 44) rfl)) (hw _ (List.mem_of_getElem? (i := 86) rfl)) (by decide +kernel) Eb (a := a1) (argsL := [(.int (10 : Int32)), (.ref x2)]) (rest := []) (rm141 l Z a0 hw hEL zc SC hzc fm SF rfm a1 x2 t kc by1 by2 by3 by4 by5 by6 by7 by8 by9 by10 by11 by12 by13 by14 by15 by16 q1 h0 W4.old Eb Fvp Fcp Ab g2 Sa cq1) (allS (List.mem_of_getElem? (i := 0) rfl) all0) (by decide +kernel) (Wd := 0) (by decide +kernel) (by decide +kernel) (by decide +kernel) (allS ⟨g2, (Or.inl (List.mem_of_getElem? (i := 1) rfl))⟩ all0) rfl (by rw [hml]; rfl) (lenOf pd5 rfl) rfl (by show 2 * 0 + _ ≤ _; exact Nat.le_of_eq rfl) (hb hby d142_30) (fun T5 h5 v5 P5 Ws5 K5 q5 => ?_)
  have W5 := Ws5 [] all0
  obtain ⟨rfl, A5⟩ := q5
  show Go p e below _ (T5.setTop (mkF m 33 #[.val (.ref a1), .val (.ref x2), .val (.int (1 : Int32))] []))
  refine Go.of (t' := T5.setTop (mkF m 34 #[.val (.ref a1), .val (.ref x2), .val (.int (1 : Int32))] [(.ref a1)])) (fun _ kk => XS.aloadN W5.here hx rfl (hb hby d142_33) rfl rfl kk) ?_
  refine Go.of (t' := T5.setTop (mkF m 35 #[.val (.ref a1), .val (.ref x2), .val (.int (1 : Int32))] [(.ref a1), (.ref a1)])) (fun _ kk => XS.dup W5.here hx rfl (hb hby d142_34) rfl rfl kk) ?_
  have k6 := (Fnp.keep K5 (ninS nat nin0))
  refine W5.getF hx (host := "") (Or.inl (hw _ (List.mem_of_getElem? (i := 75) rfl))) Via.refl k6 rfl rfl (hb hby d142_35) (fun T7 W7 => ?_)
  show Go p e below _ (T7.setTop (mkF m 38 #[.val (.ref a1), .val (.ref x2), .val (.int (1 : Int32))] [(.int (10 : Int32)), (.ref a1)]))
  refine Go.of (t' := T7.setTop (mkF m 39 #[.val (.ref a1), .val (.ref x2), .val (.int (1 : Int32))] [(.int (1 : Int32)), (.int (10 : Int32)), (.ref a1)])) (fun _ kk => XS.iloadN W7.here hx rfl (hb hby d142_38) rfl kk) ?_
  refine Go.of (t' := T7.setTop (mkF m 40 #[.val (.ref a1), .val (.ref x2), .val (.int (1 : Int32))] [(.int (11 : Int32)), (.ref a1)])) (fun _ kk => XS.iadd W7.here hx rfl (hb hby d142_39) rfl kk) ?_
  have k8 := (Eb.keep K5)
  refine W7.putF hx (host := "") (Or.inl (hw _ (List.mem_of_getElem? (i := 75) rfl))) Via.refl k6 k8 (Or.inl (hw _ (List.mem_of_getElem? (i := 76) rfl))) (hw _ (List.mem_of_getElem? (i := 35) rfl)) (ty := .int) (by decide +kernel) rfl rfl g1 (Or.inl (List.mem_of_getElem? (i := 0) rfl)) (Or.inr ⟨by decide, by decide⟩) rfl rfl (hb hby d142_40) (fun T9 h9 W9 w9 => ?_)
  have k10 := (Fvp.keep K5 (ninS nat nin0))
  have k11 := (Fcp.keep K5 (ninS nat nin0))
  have K9 := Keep.of_wr w9
  have k12 := k10.other w9 (Or.inr (slot_ne (Or.inl (hw _ (List.mem_of_getElem? (i := 49) rfl))) (Or.inl (hw _ (List.mem_of_getElem? (i := 76) rfl))) (by decide +kernel) (t := (.array .byte)) (t' := .int) (by decide +kernel) (by decide +kernel)))
  have k13 := k11.other w9 (Or.inr (slot_ne (Or.inl (hw _ (List.mem_of_getElem? (i := 51) rfl))) (Or.inl (hw _ (List.mem_of_getElem? (i := 76) rfl))) (by decide +kernel) (t := .byte) (t' := .int) (by decide +kernel) (by decide +kernel)))
  have k14 := k6.same w9
  show Go p e below _ (T9.setTop (mkF m 43 #[.val (.ref a1), .val (.ref x2), .val (.int (1 : Int32))] []))
  refine Go.of (t' := T9.setTop (mkF m 44 #[.val (.ref a1), .val (.ref x2), .val (.int (1 : Int32))] [(.ref a1)])) (fun _ kk => XS.aloadN W9.here hx rfl (hb hby d142_43) rfl rfl kk) ?_
  have k15 := (A5.keep K9 (ninS (nat).symm nin0))
  exact W9.retA hx hEL hs hlk (by decide +kernel) (by decide +kernel) hret rfl rfl (hb hby d142_44) (fun S hS => ⟨rfl, k12, k13, k14, k15⟩)
theorem d143_0 : decode jdk_67_method_7_code 0 = .ok (.aload_n 0, 1) := by decide +kernel
theorem d143_1 : decode jdk_67_method_7_code 1 = .ok (.aload_n 1, 1) := by decide +kernel
theorem d143_2 : decode jdk_67_method_7_code 2 = .ok (.invokespecial 29, 3) := by decide +kernel
theorem d143_5 : decode jdk_67_method_7_code 5 = .ok (.pop, 1) := by decide +kernel
theorem d143_6 : decode jdk_67_method_7_code 6 = .ok (.aload_n 0, 1) := by decide +kernel
theorem d143_7 : decode jdk_67_method_7_code 7 = .ok (.areturn, 1) := by decide +kernel
theorem ef143 (m : MethodId) (x0 : Addr) (x1 : Addr)  : entryFrame m #[(.ref x0), (.ref x1)] 2 = mkF m 0 #[.val (.ref x0), .val (.ref x1)] [] := by first | (simp [entryFrame, mkF, argsToLocals, Value.category]; done) | rfl | rfl
set_option maxRecDepth 65536 in
set_option maxHeartbeats 40000000 in
theorem rm143 (l : Launch) (Z : State) (a0 : Array Value) (hw : ∀ d ∈ tables_1, d.before a0 Z = true) (hEL : EW Z a0 EL0) (zc : Int32) (SC : Sta Z Z.heap "java/lang/String" "COMPACT_STRINGS" "Z" (.int zc)) (hzc : ¬ zc = 0) (fm : Value) (SF : Sta Z Z.heap "jdk/internal/util/Preconditions" "SIOOBE_FORMATTER" "Ljava/util/function/BiFunction;" fm) (rfm : fm.isRef = true) (a1 : Addr) (x2 : Addr) (t : Addr) (kc : ClassId) (by1 : Int32) (by2 : Int32) (by3 : Int32) (by4 : Int32) (by5 : Int32) (by6 : Int32) (by7 : Int32) (by8 : Int32) (by9 : Int32) (by10 : Int32) (by11 : Int32) (by12 : Int32) (by13 : Int32) (by14 : Int32) (by15 : Int32) (by16 : Int32) (q1 : Int32) (h0 : Heap) {n0 : Nat} (O0 : Old Z n0 h0) (Eb : Exa Z h0 a1 "java/lang/StringBuilder") (Fvp : Fld Z h0 a1 "java/lang/AbstractStringBuilder" "value" "[B" (.ref t)) (Fcp : Fld Z h0 a1 "java/lang/AbstractStringBuilder" "coder" "B" (.int (0 : Int32))) (Fnp : Fld Z h0 a1 "java/lang/AbstractStringBuilder" "count" "I" (.int (10 : Int32))) (Ab : Arv Z h0 t kc .byte (16 : Int32) [(.int by1), (.int by2), (.int by3), (.int by4), (.int by5), (.int by6), (.int by7), (.int by8), (.int by9), (.int by10), (.int by11), (.int by12), (.int by13), (.int by14), (.int by15), (.int by16)] (.int (0 : Int32))) (g1 : n0 ≤ a1) (g2 : n0 ≤ t) (nat : a1 ≠ t) (Sa : Str Z h0 x2 [q1]) (cq1 : ¬ q1 < 0 ∧ ¬ (255 : Int32) < q1) :
    Met l Z EL0 n0 (⟨"java/lang/StringBuilder", "append", "(Ljava/lang/String;)Ljava/lang/StringBuilder;"⟩ : MethodName) jdk_67_method_7_code 2 (some (.object "java/lang/StringBuilder")) [] ({ frames := 4, cells := 0, slots := 0, locals := 61 } : Room) #[(.ref a1), (.ref x2)] h0 [a1, t] [t] (fun v h' S => v = some (.ref a1) ∧ Fld Z h' a1 "java/lang/AbstractStringBuilder" "value" "[B" (.ref t) ∧ Fld Z h' a1 "java/lang/AbstractStringBuilder" "coder" "B" (.int (0 : Int32)) ∧ Fld Z h' a1 "java/lang/AbstractStringBuilder" "count" "I" (.int (11 : Int32)) ∧ Arv Z h' t kc .byte (16 : Int32) [(.int by1), (.int by2), (.int by3), (.int by4), (.int by5), (.int by6), (.int by7), (.int by8), (.int by9), (.int by10), (.int (StrChars.lo8 q1)), (.int by12), (.int by13), (.int by14), (.int by15), (.int by16)] (.int (0 : Int32))) := by
  refine Met.of (plainFor_of_name pn1) O0 ?_
  intro p e s m below meth c T0 hx hby hml hret hlk hnm hs W0
  have W0 : Wk p l e _ s m _ below meth c Z EL0 n0 [a1, t] "java/lang/StringBuilder" [t] T0 0 0 h0 := W0
  have hSA := fun d hd => hw d (sa_in d hd)
  have hws := fun d hd => hw d (ws_in d hd)
  have hln := fun d hd => hw d (ln_in d hd)
  have heq := fun d hd => hw d (eq_in d hd)
  refine Go.of (fun _ kk => castTop (ef143 m a1 x2) kk) ?_
  show Go p e below _ (T0.setTop (mkF m 0 #[.val (.ref a1), .val (.ref x2)] []))
  refine Go.of (t' := T0.setTop (mkF m 1 #[.val (.ref a1), .val (.ref x2)] [(.ref a1)])) (fun _ kk => XS.aloadN W0.here hx rfl (hb hby d143_0) rfl rfl kk) ?_
  refine Go.of (t' := T0.setTop (mkF m 2 #[.val (.ref a1), .val (.ref x2)] [(.ref x2), (.ref a1)])) (fun _ kk => XS.aloadN W0.here hx rfl (hb hby d143_1) rfl rfl kk) ?_
  refine W0.callU hx hEL (hw _ (List.mem_of_getElem? (i := 60) rfl)) (hw _ (List.mem_of_getElem? (i := 62) rfl)) (hw _ (List.mem_of_getElem? (i := 80) rfl)) rfl (by decide +kernel) (hw _ (List.mem_of_getElem? (i := 61) rfl)) (hw _ (List.mem_of_getElem? (i := 44) rfl)) (hw _ (List.mem_of_getElem? (i := 64) rfl)) (by decide +kernel) Eb (a := a1) (argsL := [(.ref x2)]) (rest := []) (rm142 l Z a0 hw hEL zc SC hzc fm SF rfm a1 x2 t kc by1 by2 by3 by4 by5 by6 by7 by8 by9 by10 by11 by12 by13 by14 by15 by16 q1 h0 W0.old Eb Fvp Fcp Fnp Ab g1 g2 nat Sa cq1) (allS (List.mem_of_getElem? (i := 0) rfl) all0) (by decide +kernel) (Wd := 0) (by decide +kernel) (by decide +kernel) (by decide +kernel) (allS ⟨g1, (Or.inl (List.mem_of_getElem? (i := 0) rfl))⟩ (allS ⟨g2, (Or.inl (List.mem_of_getElem? (i := 1) rfl))⟩ all0)) rfl (by rw [hml]; rfl) (lenOf pd6 rfl) rfl (by show 2 * 0 + _ ≤ _; exact Nat.le_of_eq rfl) (hb hby d143_2) (fun T1 h1 v1 P1 Ws1 K1 q1 => ?_)
  have W1 := Ws1 [] all0
  obtain ⟨rfl, Fv1, Fc1, Fn1, A1⟩ := q1
  show Go p e below _ (T1.setTop (mkF m 5 #[.val (.ref a1), .val (.ref x2)] [(.ref a1)]))
  refine Go.of (t' := T1.setTop (mkF m 6 #[.val (.ref a1), .val (.ref x2)] [])) (fun _ kk => XS.pop W1.here hx rfl (hb hby d143_5) rfl rfl kk) ?_
  refine Go.of (t' := T1.setTop (mkF m 7 #[.val (.ref a1), .val (.ref x2)] [(.ref a1)])) (fun _ kk => XS.aloadN W1.here hx rfl (hb hby d143_6) rfl rfl kk) ?_
  exact W1.retA hx hEL hs hlk (by decide +kernel) (by decide +kernel) hret rfl rfl (hb hby d143_7) (fun S hS => ⟨rfl, Fv1, Fc1, Fn1, A1⟩)
theorem d150_0 : decode jdk_42_method_147_code 0 = .ok (.aload_n 0, 1) := by decide +kernel
theorem d150_1 : decode jdk_42_method_147_code 1 = .ok (.invokevirtual 335, 3) := by decide +kernel
theorem d150_4 : decode jdk_42_method_147_code 4 = .ok (.iload_n 3, 1) := by decide +kernel
theorem d150_5 : decode jdk_42_method_147_code 5 = .ok (.if_icmp .ne 23, 3) := by decide +kernel
theorem d150_8 : decode jdk_42_method_147_code 8 = .ok (.aload_n 0, 1) := by decide +kernel
theorem d150_9 : decode jdk_42_method_147_code 9 = .ok (.getfield 9, 3) := by decide +kernel
theorem d150_12 : decode jdk_42_method_147_code 12 = .ok (.iconst 0, 1) := by decide +kernel
theorem d150_13 : decode jdk_42_method_147_code 13 = .ok (.aload_n 1, 1) := by decide +kernel
theorem d150_14 : decode jdk_42_method_147_code 14 = .ok (.iload_n 2, 1) := by decide +kernel
theorem d150_15 : decode jdk_42_method_147_code 15 = .ok (.iload_n 3, 1) := by decide +kernel
theorem d150_16 : decode jdk_42_method_147_code 16 = .ok (.ishl, 1) := by decide +kernel
theorem d150_17 : decode jdk_42_method_147_code 17 = .ok (.aload_n 0, 1) := by decide +kernel
theorem d150_18 : decode jdk_42_method_147_code 18 = .ok (.getfield 9, 3) := by decide +kernel
theorem d150_21 : decode jdk_42_method_147_code 21 = .ok (.arraylength, 1) := by decide +kernel
theorem d150_22 : decode jdk_42_method_147_code 22 = .ok (.invokestatic 212, 3) := by decide +kernel
theorem d150_25 : decode jdk_42_method_147_code 25 = .ok (.goto 18, 3) := by decide +kernel
theorem d150_43 : decode jdk_42_method_147_code 43 = .ok (.return_, 1) := by decide +kernel
theorem ef150 (m : MethodId) (x0 : Addr) (x1 : Addr) (x2 : Int32) (x3 : Int32)  : entryFrame m #[(.ref x0), (.ref x1), (.int x2), (.int x3)] 4 = mkF m 0 #[.val (.ref x0), .val (.ref x1), .val (.int x2), .val (.int x3)] [] := by first | (simp [entryFrame, mkF, argsToLocals, Value.category]; done) | rfl | rfl
set_option maxRecDepth 65536 in
set_option maxHeartbeats 40000000 in
theorem rm150 (l : Launch) (Z : State) (a0 : Array Value) (hw : ∀ d ∈ tables_1, d.before a0 Z = true) (hEL : EW Z a0 EL0) (zc : Int32) (SC : Sta Z Z.heap "java/lang/String" "COMPACT_STRINGS" "Z" (.int zc)) (hzc : ¬ zc = 0) (fm : Value) (SF : Sta Z Z.heap "jdk/internal/util/Preconditions" "SIOOBE_FORMATTER" "Ljava/util/function/BiFunction;" fm) (rfm : fm.isRef = true) (x2 : Addr) (t : Addr) (kc : ClassId) (by1 : Int32) (by2 : Int32) (by3 : Int32) (by4 : Int32) (by5 : Int32) (by6 : Int32) (by7 : Int32) (by8 : Int32) (by9 : Int32) (by10 : Int32) (by11 : Int32) (by12 : Int32) (by13 : Int32) (by14 : Int32) (by15 : Int32) (by16 : Int32) (q1 : Int32) (h0 : Heap) {n0 : Nat} (O0 : Old Z n0 h0) (Sa : Str Z h0 x2 [q1]) (cq1 : ¬ q1 < 0 ∧ ¬ (255 : Int32) < q1) (Ab : Arv Z h0 t kc .byte (16 : Int32) [(.int by1), (.int by2), (.int by3), (.int by4), (.int by5), (.int by6), (.int by7), (.int by8), (.int by9), (.int by10), (.int by11), (.int by12), (.int by13), (.int by14), (.int by15), (.int by16)] (.int (0 : Int32))) (g2 : n0 ≤ t) :
    Met l Z EL0 n0 (⟨"java/lang/String", "getBytes", "([BIB)V"⟩ : MethodName) jdk_42_method_147_code 4 none [] ({ frames := 1, cells := 0, slots := 0, locals := 18 } : Room) #[(.ref x2), (.ref t), (.int (7 : Int32)), (.int (0 : Int32))] h0 [t] [t] (fun v h' S => v = none ∧ Arv Z h' t kc .byte (16 : Int32) [(.int by1), (.int by2), (.int by3), (.int by4), (.int by5), (.int by6), (.int by7), (.int (StrChars.lo8 q1)), (.int by9), (.int by10), (.int by11), (.int by12), (.int by13), (.int by14), (.int by15), (.int by16)] (.int (0 : Int32))) := by
  refine Met.of (plainFor_of_name pn2) O0 ?_
  intro p e s m below meth c T0 hx hby hml hret hlk hnm hs W0
  have W0 : Wk p l e _ s m _ below meth c Z EL0 n0 [t] "java/lang/String" [t] T0 0 0 h0 := W0
  have hSA := fun d hd => hw d (sa_in d hd)
  have hws := fun d hd => hw d (ws_in d hd)
  have hln := fun d hd => hw d (ln_in d hd)
  have heq := fun d hd => hw d (eq_in d hd)
  refine Go.of (fun _ kk => castTop (ef150 m x2 t (7 : Int32) (0 : Int32)) kk) ?_
  show Go p e below _ (T0.setTop (mkF m 0 #[.val (.ref x2), .val (.ref t), .val (.int (7 : Int32)), .val (.int (0 : Int32))] []))
  obtain ⟨t1, kb1, E1, Fv1, Fc1, A1⟩ := Sa.open_ (snd255 (allSi cq1 all0i))
  have V1 : Arv Z h0 t1 kb1 .byte (1 : Int32) [(.int (StrChars.lo8 q1))] (.int (0 : Int32)) := A1
  refine Go.of (t' := T0.setTop (mkF m 1 #[.val (.ref x2), .val (.ref t), .val (.int (7 : Int32)), .val (.int (0 : Int32))] [(.ref x2)])) (fun _ kk => XS.aloadN W0.here hx rfl (hb hby d150_0) rfl rfl kk) ?_
  refine W0.callV hx hEL (hw _ (List.mem_of_getElem? (i := 70) rfl)) (hw _ (List.mem_of_getElem? (i := 71) rfl)) (hw _ (List.mem_of_getElem? (i := 73) rfl)) (hw _ (List.mem_of_getElem? (i := 72) rfl)) (hw _ (List.mem_of_getElem? (i := 2) rfl)) (hw _ (List.mem_of_getElem? (i := 74) rfl)) (by decide +kernel) E1 (a := x2) (argsL := []) (rest := []) (rm4 l Z a0 hw hEL zc SC hzc fm SF rfm x2 h0 W0.old Fc1) all0 (by decide +kernel) (Wd := 0) (by decide +kernel) (by decide +kernel) (by decide +kernel) all0 rfl (by rw [hml]; rfl) (lenOf pd2 rfl) rfl (by show 2 * 0 + _ ≤ _; exact Nat.le_of_eq rfl) (hb hby d150_1) (fun T2 h2 v2 P2 Ws2 K2 q2 => ?_)
  have W2 := Ws2 [] all0
  obtain ⟨rfl, rfl⟩ := q2
  show Go p e below _ (T2.setTop (mkF m 4 #[.val (.ref x2), .val (.ref t), .val (.int (7 : Int32)), .val (.int (0 : Int32))] [(.int (0 : Int32))]))
  refine Go.of (t' := T2.setTop (mkF m 5 #[.val (.ref x2), .val (.ref t), .val (.int (7 : Int32)), .val (.int (0 : Int32))] [(.int (0 : Int32)), (.int (0 : Int32))])) (fun _ kk => XS.iloadN W2.here hx rfl (hb hby d150_4) rfl kk) ?_
  refine Go.of (t' := T2.setTop (mkF m 8 #[.val (.ref x2), .val (.ref t), .val (.int (7 : Int32)), .val (.int (0 : Int32))] [])) (fun _ kk => XS.icmpNo W2.here hx rfl (hb hby d150_5) rfl (XT.ii_ne_f (by decide +kernel)) kk) ?_
  refine Go.of (t' := T2.setTop (mkF m 9 #[.val (.ref x2), .val (.ref t), .val (.int (7 : Int32)), .val (.int (0 : Int32))] [(.ref x2)])) (fun _ kk => XS.aloadN W2.here hx rfl (hb hby d150_8) rfl rfl kk) ?_
  refine W2.getF hx (host := "") (Or.inl (hw _ (List.mem_of_getElem? (i := 28) rfl))) Via.refl Fv1 rfl rfl (hb hby d150_9) (fun T3 W3 => ?_)
  show Go p e below _ (T3.setTop (mkF m 12 #[.val (.ref x2), .val (.ref t), .val (.int (7 : Int32)), .val (.int (0 : Int32))] [(.ref t1)]))
  refine Go.of (t' := T3.setTop (mkF m 13 #[.val (.ref x2), .val (.ref t), .val (.int (7 : Int32)), .val (.int (0 : Int32))] [(.int (0 : Int32)), (.ref t1)])) (fun _ kk => XS.iconst W3.here hx rfl (hb hby d150_12) kk) ?_
  refine Go.of (t' := T3.setTop (mkF m 14 #[.val (.ref x2), .val (.ref t), .val (.int (7 : Int32)), .val (.int (0 : Int32))] [(.ref t), (.int (0 : Int32)), (.ref t1)])) (fun _ kk => XS.aloadN W3.here hx rfl (hb hby d150_13) rfl rfl kk) ?_
  refine Go.of (t' := T3.setTop (mkF m 15 #[.val (.ref x2), .val (.ref t), .val (.int (7 : Int32)), .val (.int (0 : Int32))] [(.int (7 : Int32)), (.ref t), (.int (0 : Int32)), (.ref t1)])) (fun _ kk => XS.iloadN W3.here hx rfl (hb hby d150_14) rfl kk) ?_
  refine Go.of (t' := T3.setTop (mkF m 16 #[.val (.ref x2), .val (.ref t), .val (.int (7 : Int32)), .val (.int (0 : Int32))] [(.int (0 : Int32)), (.int (7 : Int32)), (.ref t), (.int (0 : Int32)), (.ref t1)])) (fun _ kk => XS.iloadN W3.here hx rfl (hb hby d150_15) rfl kk) ?_
  refine Go.of (t' := T3.setTop (mkF m 17 #[.val (.ref x2), .val (.ref t), .val (.int (7 : Int32)), .val (.int (0 : Int32))] [(.int (7 : Int32)), (.ref t), (.int (0 : Int32)), (.ref t1)])) (fun _ kk => XS.ishl W3.here hx rfl (hb hby d150_16) rfl kk) ?_
  refine Go.of (t' := T3.setTop (mkF m 18 #[.val (.ref x2), .val (.ref t), .val (.int (7 : Int32)), .val (.int (0 : Int32))] [(.ref x2), (.int (7 : Int32)), (.ref t), (.int (0 : Int32)), (.ref t1)])) (fun _ kk => XS.aloadN W3.here hx rfl (hb hby d150_17) rfl rfl kk) ?_
  refine W3.getF hx (host := "") (Or.inl (hw _ (List.mem_of_getElem? (i := 28) rfl))) Via.refl Fv1 rfl rfl (hb hby d150_18) (fun T4 W4 => ?_)
  show Go p e below _ (T4.setTop (mkF m 21 #[.val (.ref x2), .val (.ref t), .val (.int (7 : Int32)), .val (.int (0 : Int32))] [(.ref t1), (.int (7 : Int32)), (.ref t), (.int (0 : Int32)), (.ref t1)]))
  refine W4.alen hx V1 rfl rfl (hb hby d150_21) ?_
  show Go p e below _ (T4.setTop (mkF m 22 #[.val (.ref x2), .val (.ref t), .val (.int (7 : Int32)), .val (.int (0 : Int32))] [(.int (1 : Int32)), (.int (7 : Int32)), (.ref t), (.int (0 : Int32)), (.ref t1)]))
  refine W4.cp hx (hw _ (List.mem_of_getElem? (i := 98) rfl)) (hw _ (List.mem_of_getElem? (i := 101) rfl)) (hw _ (List.mem_of_getElem? (i := 99) rfl)) (hw _ (List.mem_of_getElem? (i := 100) rfl)) (us := [(.int (StrChars.lo8 q1))]) V1 Ab rfl (by decide) (by decide) (by decide) (by decide) (by decide) rfl (Nat.le_of_ble_eq_true rfl) g2 (Or.inl (List.mem_of_getElem? (i := 0) rfl)) (List.mem_of_getElem? (i := 0) rfl) rfl (by rw [hml]; rfl) rfl (hb hby d150_22) (by decide +kernel) (Wd := 0) (by show 2 * 0 + _ ≤ _; exact Nat.le_of_eq rfl) (by decide +kernel) (fun T5 h5 W5 K5 A5 => ?_)
  have V5 : Arv Z h5 t kc .byte (16 : Int32) [(.int by1), (.int by2), (.int by3), (.int by4), (.int by5), (.int by6), (.int by7), (.int (StrChars.lo8 q1)), (.int by9), (.int by10), (.int by11), (.int by12), (.int by13), (.int by14), (.int by15), (.int by16)] (.int (0 : Int32)) := A5
  show Go p e below _ (T5.setTop (mkF m 25 #[.val (.ref x2), .val (.ref t), .val (.int (7 : Int32)), .val (.int (0 : Int32))] []))
  refine Go.of (t' := T5.setTop (mkF m 43 #[.val (.ref x2), .val (.ref t), .val (.int (7 : Int32)), .val (.int (0 : Int32))] [])) (fun _ kk => XS.goto W5.here hx rfl (pc0 := 25) (pc' := 43) rfl (hb hby d150_25) (by decide +kernel) (by decide +kernel) kk) ?_
  exact W5.retV hx hEL hs hlk (by decide +kernel) (by decide +kernel) hret (hb hby d150_43) (fun S hS => ⟨rfl, V5⟩)
theorem d151_0 : decode jdk_68_method_73_code 0 = .ok (.aload_n 0, 1) := by decide +kernel
theorem d151_1 : decode jdk_68_method_73_code 1 = .ok (.aload_n 2, 1) := by decide +kernel
theorem d151_2 : decode jdk_68_method_73_code 2 = .ok (.invokevirtual 397, 3) := by decide +kernel
theorem d151_5 : decode jdk_68_method_73_code 5 = .ok (.aload_n 2, 1) := by decide +kernel
theorem d151_6 : decode jdk_68_method_73_code 6 = .ok (.aload_n 0, 1) := by decide +kernel
theorem d151_7 : decode jdk_68_method_73_code 7 = .ok (.getfield 15, 3) := by decide +kernel
theorem d151_10 : decode jdk_68_method_73_code 10 = .ok (.iload_n 1, 1) := by decide +kernel
theorem d151_11 : decode jdk_68_method_73_code 11 = .ok (.aload_n 0, 1) := by decide +kernel
theorem d151_12 : decode jdk_68_method_73_code 12 = .ok (.getfield 22, 3) := by decide +kernel
theorem d151_15 : decode jdk_68_method_73_code 15 = .ok (.invokevirtual 399, 3) := by decide +kernel
theorem d151_18 : decode jdk_68_method_73_code 18 = .ok (.return_, 1) := by decide +kernel
theorem ef151 (m : MethodId) (x0 : Addr) (x1 : Int32) (x2 : Addr)  : entryFrame m #[(.ref x0), (.int x1), (.ref x2)] 3 = mkF m 0 #[.val (.ref x0), .val (.int x1), .val (.ref x2)] [] := by first | (simp [entryFrame, mkF, argsToLocals, Value.category]; done) | rfl | rfl
set_option maxRecDepth 65536 in
set_option maxHeartbeats 40000000 in
theorem rm151 (l : Launch) (Z : State) (a0 : Array Value) (hw : ∀ d ∈ tables_1, d.before a0 Z = true) (hEL : EW Z a0 EL0) (zc : Int32) (SC : Sta Z Z.heap "java/lang/String" "COMPACT_STRINGS" "Z" (.int zc)) (hzc : ¬ zc = 0) (fm : Value) (SF : Sta Z Z.heap "jdk/internal/util/Preconditions" "SIOOBE_FORMATTER" "Ljava/util/function/BiFunction;" fm) (rfm : fm.isRef = true) (a1 : Addr) (x2 : Addr) (t : Addr) (kc : ClassId) (by1 : Int32) (by2 : Int32) (by3 : Int32) (by4 : Int32) (by5 : Int32) (by6 : Int32) (by7 : Int32) (by8 : Int32) (by9 : Int32) (by10 : Int32) (by11 : Int32) (by12 : Int32) (by13 : Int32) (by14 : Int32) (by15 : Int32) (by16 : Int32) (q1 : Int32) (h0 : Heap) {n0 : Nat} (O0 : Old Z n0 h0) (Eb : Exa Z h0 a1 "java/lang/StringBuilder") (Fvp : Fld Z h0 a1 "java/lang/AbstractStringBuilder" "value" "[B" (.ref t)) (Fcp : Fld Z h0 a1 "java/lang/AbstractStringBuilder" "coder" "B" (.int (0 : Int32))) (Ab : Arv Z h0 t kc .byte (16 : Int32) [(.int by1), (.int by2), (.int by3), (.int by4), (.int by5), (.int by6), (.int by7), (.int by8), (.int by9), (.int by10), (.int by11), (.int by12), (.int by13), (.int by14), (.int by15), (.int by16)] (.int (0 : Int32))) (g2 : n0 ≤ t) (Sa : Str Z h0 x2 [q1]) (cq1 : ¬ q1 < 0 ∧ ¬ (255 : Int32) < q1) :
    Met l Z EL0 n0 (⟨"java/lang/AbstractStringBuilder", "putStringAt", "(ILjava/lang/String;)V"⟩ : MethodName) jdk_68_method_73_code 3 none [] ({ frames := 2, cells := 0, slots := 0, locals := 33 } : Room) #[(.ref a1), (.int (7 : Int32)), (.ref x2)] h0 [t] [t] (fun v h' S => v = none ∧ Arv Z h' t kc .byte (16 : Int32) [(.int by1), (.int by2), (.int by3), (.int by4), (.int by5), (.int by6), (.int by7), (.int (StrChars.lo8 q1)), (.int by9), (.int by10), (.int by11), (.int by12), (.int by13), (.int by14), (.int by15), (.int by16)] (.int (0 : Int32))) := by
  refine Met.of (plainFor_of_name pn0) O0 ?_
  intro p e s m below meth c T0 hx hby hml hret hlk hnm hs W0
  have W0 : Wk p l e _ s m _ below meth c Z EL0 n0 [t] "java/lang/AbstractStringBuilder" [t] T0 0 0 h0 := W0
  have hSA := fun d hd => hw d (sa_in d hd)
  have hws := fun d hd => hw d (ws_in d hd)
  have hln := fun d hd => hw d (ln_in d hd)
  have heq := fun d hd => hw d (eq_in d hd)
  refine Go.of (fun _ kk => castTop (ef151 m a1 (7 : Int32) x2) kk) ?_
  show Go p e below _ (T0.setTop (mkF m 0 #[.val (.ref a1), .val (.int (7 : Int32)), .val (.ref x2)] []))
  refine Go.of (t' := T0.setTop (mkF m 1 #[.val (.ref a1), .val (.int (7 : Int32)), .val (.ref x2)] [(.ref a1)])) (fun _ kk => XS.aloadN W0.here hx rfl (hb hby d151_0) rfl rfl kk) ?_
  refine Go.of (t' := T0.setTop (mkF m 2 #[.val (.ref a1), .val (.int (7 : Int32)), .val (.ref x2)] [(.ref x2), (.ref a1)])) (fun _ kk => XS.aloadN W0.here hx rfl (hb hby d151_1) rfl rfl kk) ?_
  refine W0.callW hx hEL (hw _ (List.mem_of_getElem? (i := 87) rfl)) (hw _ (List.mem_of_getElem? (i := 90) rfl)) (hw _ (List.mem_of_getElem? (i := 88) rfl)) (hw _ (List.mem_of_getElem? (i := 44) rfl)) (hw _ (List.mem_of_getElem? (i := 91) rfl)) (by decide +kernel) Eb (a := a1) (argsL := [(.ref x2)]) (rest := []) (rm31 l Z a0 hw hEL zc SC hzc fm SF rfm a1 x2 q1 h0 W0.old Eb Fcp Sa cq1) all0 (by decide +kernel) (Wd := 0) (by decide +kernel) (by decide +kernel) (by decide +kernel) all0 rfl (by rw [hml]; rfl) (lenOf pd3 rfl) rfl (by show 2 * 0 + _ ≤ _; exact Nat.le_of_eq rfl) (hb hby d151_2) (fun T1 h1 v1 P1 Ws1 K1 q1 => ?_)
  have W1 := Ws1 [] all0
  obtain ⟨rfl, rfl⟩ := q1
  show Go p e below _ (T1.setTop (mkF m 5 #[.val (.ref a1), .val (.int (7 : Int32)), .val (.ref x2)] []))
  refine Go.of (t' := T1.setTop (mkF m 6 #[.val (.ref a1), .val (.int (7 : Int32)), .val (.ref x2)] [(.ref x2)])) (fun _ kk => XS.aloadN W1.here hx rfl (hb hby d151_5) rfl rfl kk) ?_
  refine Go.of (t' := T1.setTop (mkF m 7 #[.val (.ref a1), .val (.int (7 : Int32)), .val (.ref x2)] [(.ref a1), (.ref x2)])) (fun _ kk => XS.aloadN W1.here hx rfl (hb hby d151_6) rfl rfl kk) ?_
  refine W1.getF hx (host := "") (Or.inl (hw _ (List.mem_of_getElem? (i := 48) rfl))) Via.refl Fvp rfl rfl (hb hby d151_7) (fun T2 W2 => ?_)
  show Go p e below _ (T2.setTop (mkF m 10 #[.val (.ref a1), .val (.int (7 : Int32)), .val (.ref x2)] [(.ref t), (.ref x2)]))
  refine Go.of (t' := T2.setTop (mkF m 11 #[.val (.ref a1), .val (.int (7 : Int32)), .val (.ref x2)] [(.int (7 : Int32)), (.ref t), (.ref x2)])) (fun _ kk => XS.iloadN W2.here hx rfl (hb hby d151_10) rfl kk) ?_
  refine Go.of (t' := T2.setTop (mkF m 12 #[.val (.ref a1), .val (.int (7 : Int32)), .val (.ref x2)] [(.ref a1), (.int (7 : Int32)), (.ref t), (.ref x2)])) (fun _ kk => XS.aloadN W2.here hx rfl (hb hby d151_11) rfl rfl kk) ?_
  refine W2.getF hx (host := "") (Or.inl (hw _ (List.mem_of_getElem? (i := 50) rfl))) Via.refl Fcp rfl rfl (hb hby d151_12) (fun T3 W3 => ?_)
  show Go p e below _ (T3.setTop (mkF m 15 #[.val (.ref a1), .val (.int (7 : Int32)), .val (.ref x2)] [(.int (0 : Int32)), (.int (7 : Int32)), (.ref t), (.ref x2)]))
  have k5 := Sa.exa
  refine W3.callV hx hEL (hw _ (List.mem_of_getElem? (i := 93) rfl)) (hw _ (List.mem_of_getElem? (i := 94) rfl)) (hw _ (List.mem_of_getElem? (i := 96) rfl)) (hw _ (List.mem_of_getElem? (i := 95) rfl)) (hw _ (List.mem_of_getElem? (i := 2) rfl)) (hw _ (List.mem_of_getElem? (i := 97) rfl)) (by decide +kernel) k5 (a := x2) (argsL := [(.ref t), (.int (7 : Int32)), (.int (0 : Int32))]) (rest := []) (rm150 l Z a0 hw hEL zc SC hzc fm SF rfm x2 t kc by1 by2 by3 by4 by5 by6 by7 by8 by9 by10 by11 by12 by13 by14 by15 by16 q1 h0 W3.old Sa cq1 Ab g2) (allS (List.mem_of_getElem? (i := 0) rfl) all0) (by decide +kernel) (Wd := 0) (by decide +kernel) (by decide +kernel) (by decide +kernel) (allS ⟨g2, (Or.inl (List.mem_of_getElem? (i := 0) rfl))⟩ all0) rfl (by rw [hml]; rfl) (lenOf pd4 rfl) rfl (by show 2 * 0 + _ ≤ _; exact Nat.le_of_eq rfl) (hb hby d151_15) (fun T4 h4 v4 P4 Ws4 K4 q4 => ?_)
  have W4 := Ws4 [] all0
  obtain ⟨rfl, A4⟩ := q4
  show Go p e below _ (T4.setTop (mkF m 18 #[.val (.ref a1), .val (.int (7 : Int32)), .val (.ref x2)] []))
  exact W4.retV hx hEL hs hlk (by decide +kernel) (by decide +kernel) hret (hb hby d151_18) (fun S hS => ⟨rfl, A4⟩)
theorem d152_0 : decode jdk_68_method_22_code 0 = .ok (.aload_n 1, 1) := by decide +kernel
theorem d152_1 : decode jdk_68_method_22_code 1 = .ok (.ifnonnull 8, 3) := by decide +kernel
theorem d152_9 : decode jdk_68_method_22_code 9 = .ok (.aload_n 1, 1) := by decide +kernel
theorem d152_10 : decode jdk_68_method_22_code 10 = .ok (.invokevirtual 32, 3) := by decide +kernel
theorem d152_13 : decode jdk_68_method_22_code 13 = .ok (.istore_n 2, 1) := by decide +kernel
theorem d152_14 : decode jdk_68_method_22_code 14 = .ok (.aload_n 0, 1) := by decide +kernel
theorem d152_15 : decode jdk_68_method_22_code 15 = .ok (.aload_n 0, 1) := by decide +kernel
theorem d152_16 : decode jdk_68_method_22_code 16 = .ok (.getfield 79, 3) := by decide +kernel
theorem d152_19 : decode jdk_68_method_22_code 19 = .ok (.iload_n 2, 1) := by decide +kernel
theorem d152_20 : decode jdk_68_method_22_code 20 = .ok (.iadd, 1) := by decide +kernel
theorem d152_21 : decode jdk_68_method_22_code 21 = .ok (.invokevirtual 100, 3) := by decide +kernel
theorem d152_24 : decode jdk_68_method_22_code 24 = .ok (.aload_n 0, 1) := by decide +kernel
theorem d152_25 : decode jdk_68_method_22_code 25 = .ok (.aload_n 0, 1) := by decide +kernel
theorem d152_26 : decode jdk_68_method_22_code 26 = .ok (.getfield 79, 3) := by decide +kernel
theorem d152_29 : decode jdk_68_method_22_code 29 = .ok (.aload_n 1, 1) := by decide +kernel
theorem d152_30 : decode jdk_68_method_22_code 30 = .ok (.invokevirtual 208, 3) := by decide +kernel
theorem d152_33 : decode jdk_68_method_22_code 33 = .ok (.aload_n 0, 1) := by decide +kernel
theorem d152_34 : decode jdk_68_method_22_code 34 = .ok (.dup, 1) := by decide +kernel
theorem d152_35 : decode jdk_68_method_22_code 35 = .ok (.getfield 79, 3) := by decide +kernel
theorem d152_38 : decode jdk_68_method_22_code 38 = .ok (.iload_n 2, 1) := by decide +kernel
theorem d152_39 : decode jdk_68_method_22_code 39 = .ok (.iadd, 1) := by decide +kernel
theorem d152_40 : decode jdk_68_method_22_code 40 = .ok (.putfield 79, 3) := by decide +kernel
theorem d152_43 : decode jdk_68_method_22_code 43 = .ok (.aload_n 0, 1) := by decide +kernel
theorem d152_44 : decode jdk_68_method_22_code 44 = .ok (.areturn, 1) := by decide +kernel
theorem ef152 (m : MethodId) (x0 : Addr) (x1 : Addr)  : entryFrame m #[(.ref x0), (.ref x1)] 3 = mkF m 0 #[.val (.ref x0), .val (.ref x1), .unset] [] := by first | (simp [entryFrame, mkF, argsToLocals, Value.category]; done) | rfl | rfl
set_option maxRecDepth 65536 in
set_option maxHeartbeats 40000000 in
theorem rm152 (l : Launch) (Z : State) (a0 : Array Value) (hw : ∀ d ∈ tables_1, d.before a0 Z = true) (hEL : EW Z a0 EL0) (zc : Int32) (SC : Sta Z Z.heap "java/lang/String" "COMPACT_STRINGS" "Z" (.int zc)) (hzc : ¬ zc = 0) (fm : Value) (SF : Sta Z Z.heap "jdk/internal/util/Preconditions" "SIOOBE_FORMATTER" "Ljava/util/function/BiFunction;" fm) (rfm : fm.isRef = true) (a1 : Addr) (x2 : Addr) (t : Addr) (kc : ClassId) (by1 : Int32) (by2 : Int32) (by3 : Int32) (by4 : Int32) (by5 : Int32) (by6 : Int32) (by7 : Int32) (by8 : Int32) (by9 : Int32) (by10 : Int32) (by11 : Int32) (by12 : Int32) (by13 : Int32) (by14 : Int32) (by15 : Int32) (by16 : Int32) (q1 : Int32) (h0 : Heap) {n0 : Nat} (O0 : Old Z n0 h0) (Eb : Exa Z h0 a1 "java/lang/StringBuilder") (Fvp : Fld Z h0 a1 "java/lang/AbstractStringBuilder" "value" "[B" (.ref t)) (Fcp : Fld Z h0 a1 "java/lang/AbstractStringBuilder" "coder" "B" (.int (0 : Int32))) (Fnp : Fld Z h0 a1 "java/lang/AbstractStringBuilder" "count" "I" (.int (7 : Int32))) (Ab : Arv Z h0 t kc .byte (16 : Int32) [(.int by1), (.int by2), (.int by3), (.int by4), (.int by5), (.int by6), (.int by7), (.int by8), (.int by9), (.int by10), (.int by11), (.int by12), (.int by13), (.int by14), (.int by15), (.int by16)] (.int (0 : Int32))) (g1 : n0 ≤ a1) (g2 : n0 ≤ t) (nat : a1 ≠ t) (Sa : Str Z h0 x2 [q1]) (cq1 : ¬ q1 < 0 ∧ ¬ (255 : Int32) < q1) :
    Met l Z EL0 n0 (⟨"java/lang/AbstractStringBuilder", "append", "(Ljava/lang/String;)Ljava/lang/AbstractStringBuilder;"⟩ : MethodName) jdk_68_method_22_code 3 (some (.object "java/lang/AbstractStringBuilder")) [] ({ frames := 3, cells := 0, slots := 0, locals := 47 } : Room) #[(.ref a1), (.ref x2)] h0 [a1, t] [t] (fun v h' S => v = some (.ref a1) ∧ Fld Z h' a1 "java/lang/AbstractStringBuilder" "value" "[B" (.ref t) ∧ Fld Z h' a1 "java/lang/AbstractStringBuilder" "coder" "B" (.int (0 : Int32)) ∧ Fld Z h' a1 "java/lang/AbstractStringBuilder" "count" "I" (.int (8 : Int32)) ∧ Arv Z h' t kc .byte (16 : Int32) [(.int by1), (.int by2), (.int by3), (.int by4), (.int by5), (.int by6), (.int by7), (.int (StrChars.lo8 q1)), (.int by9), (.int by10), (.int by11), (.int by12), (.int by13), (.int by14), (.int by15), (.int by16)] (.int (0 : Int32))) := by
  refine Met.of (plainFor_of_name pn0) O0 ?_
  intro p e s m below meth c T0 hx hby hml hret hlk hnm hs W0
  have W0 : Wk p l e _ s m _ below meth c Z EL0 n0 [a1, t] "java/lang/AbstractStringBuilder" [t] T0 0 0 h0 := W0
  have hSA := fun d hd => hw d (sa_in d hd)
  have hws := fun d hd => hw d (ws_in d hd)
  have hln := fun d hd => hw d (ln_in d hd)
  have heq := fun d hd => hw d (eq_in d hd)
  refine Go.of (fun _ kk => castTop (ef152 m a1 x2) kk) ?_
  show Go p e below _ (T0.setTop (mkF m 0 #[.val (.ref a1), .val (.ref x2), .unset] []))
  refine Go.of (t' := T0.setTop (mkF m 1 #[.val (.ref a1), .val (.ref x2), .unset] [(.ref x2)])) (fun _ kk => XS.aloadN W0.here hx rfl (hb hby d152_0) rfl rfl kk) ?_
  refine Go.of (t' := T0.setTop (mkF m 9 #[.val (.ref a1), .val (.ref x2), .unset] [])) (fun _ kk => XS.ifnonnullYes W0.here hx rfl (pc0 := 1) (pc' := 9) rfl (hb hby d152_1) rfl (by decide +kernel) (by decide +kernel) kk) ?_
  refine Go.of (t' := T0.setTop (mkF m 10 #[.val (.ref a1), .val (.ref x2), .unset] [(.ref x2)])) (fun _ kk => XS.aloadN W0.here hx rfl (hb hby d152_9) rfl rfl kk) ?_
  refine W0.strLen hx hln (hw _ (List.mem_of_getElem? (i := 1) rfl)) SC hzc Sa (hw _ (List.mem_of_getElem? (i := 65) rfl)) (hw _ (List.mem_of_getElem? (i := 66) rfl)) (hw _ (List.mem_of_getElem? (i := 68) rfl)) (hw _ (List.mem_of_getElem? (i := 67) rfl)) (by decide +kernel) (Wd := 0) (by decide +kernel) (by decide +kernel) (by decide +kernel) rfl (by rw [hml]; rfl) rfl (by show 2 * 0 + _ ≤ _; exact Nat.le_of_eq rfl) (hb hby d152_10) (fun T1 W1 => ?_)
  show Go p e below _ (T1.setTop (mkF m 13 #[.val (.ref a1), .val (.ref x2), .unset] [(.int (1 : Int32))]))
  refine Go.of (t' := T1.setTop (mkF m 14 #[.val (.ref a1), .val (.ref x2), .val (.int (1 : Int32))] [])) (fun _ kk => XS.istoreN W1.here hx rfl (hb hby d152_13) rfl (l' := #[.val (.ref a1), .val (.ref x2), .val (.int (1 : Int32))]) rfl kk) ?_
  refine Go.of (t' := T1.setTop (mkF m 15 #[.val (.ref a1), .val (.ref x2), .val (.int (1 : Int32))] [(.ref a1)])) (fun _ kk => XS.aloadN W1.here hx rfl (hb hby d152_14) rfl rfl kk) ?_
  refine Go.of (t' := T1.setTop (mkF m 16 #[.val (.ref a1), .val (.ref x2), .val (.int (1 : Int32))] [(.ref a1), (.ref a1)])) (fun _ kk => XS.aloadN W1.here hx rfl (hb hby d152_15) rfl rfl kk) ?_
  refine W1.getF hx (host := "") (Or.inl (hw _ (List.mem_of_getElem? (i := 75) rfl))) Via.refl Fnp rfl rfl (hb hby d152_16) (fun T2 W2 => ?_)
  show Go p e below _ (T2.setTop (mkF m 19 #[.val (.ref a1), .val (.ref x2), .val (.int (1 : Int32))] [(.int (7 : Int32)), (.ref a1)]))
  refine Go.of (t' := T2.setTop (mkF m 20 #[.val (.ref a1), .val (.ref x2), .val (.int (1 : Int32))] [(.int (1 : Int32)), (.int (7 : Int32)), (.ref a1)])) (fun _ kk => XS.iloadN W2.here hx rfl (hb hby d152_19) rfl kk) ?_
  refine Go.of (t' := T2.setTop (mkF m 21 #[.val (.ref a1), .val (.ref x2), .val (.int (1 : Int32))] [(.int (8 : Int32)), (.ref a1)])) (fun _ kk => XS.iadd W2.here hx rfl (hb hby d152_20) rfl kk) ?_
  refine W2.callW hx hEL (hw _ (List.mem_of_getElem? (i := 77) rfl)) (hw _ (List.mem_of_getElem? (i := 80) rfl)) (hw _ (List.mem_of_getElem? (i := 78) rfl)) (hw _ (List.mem_of_getElem? (i := 44) rfl)) (hw _ (List.mem_of_getElem? (i := 81) rfl)) (by decide +kernel) Eb (a := a1) (argsL := [(.int (8 : Int32))]) (rest := []) (rm22 l Z a0 hw hEL zc SC hzc fm SF rfm a1 t kc by1 by2 by3 by4 by5 by6 by7 by8 by9 by10 by11 by12 by13 by14 by15 by16 h0 W2.old Eb Fvp Fcp Ab) all0 (by decide +kernel) (Wd := 0) (by decide +kernel) (by decide +kernel) (by decide +kernel) all0 rfl (by rw [hml]; rfl) (lenOf pd0 rfl) rfl (by show 2 * 0 + _ ≤ _; exact Nat.le_of_eq rfl) (hb hby d152_21) (fun T3 h3 v3 P3 Ws3 K3 q3 => ?_)
  have W3 := Ws3 [] all0
  obtain ⟨rfl, rfl⟩ := q3
  show Go p e below _ (T3.setTop (mkF m 24 #[.val (.ref a1), .val (.ref x2), .val (.int (1 : Int32))] []))
  refine Go.of (t' := T3.setTop (mkF m 25 #[.val (.ref a1), .val (.ref x2), .val (.int (1 : Int32))] [(.ref a1)])) (fun _ kk => XS.aloadN W3.here hx rfl (hb hby d152_24) rfl rfl kk) ?_
  refine Go.of (t' := T3.setTop (mkF m 26 #[.val (.ref a1), .val (.ref x2), .val (.int (1 : Int32))] [(.ref a1), (.ref a1)])) (fun _ kk => XS.aloadN W3.here hx rfl (hb hby d152_25) rfl rfl kk) ?_
  refine W3.getF hx (host := "") (Or.inl (hw _ (List.mem_of_getElem? (i := 75) rfl))) Via.refl Fnp rfl rfl (hb hby d152_26) (fun T4 W4 => ?_)
  show Go p e below _ (T4.setTop (mkF m 29 #[.val (.ref a1), .val (.ref x2), .val (.int (1 : Int32))] [(.int (7 : Int32)), (.ref a1)]))
  refine Go.of (t' := T4.setTop (mkF m 30 #[.val (.ref a1), .val (.ref x2), .val (.int (1 : Int32))] [(.ref x2), (.int (7 : Int32)), (.ref a1)])) (fun _ kk => XS.aloadN W4.here hx rfl (hb hby d152_29) rfl rfl kk) ?_
  refine W4.callW hx hEL (hw _ (List.mem_of_getElem? (i := 82) rfl)) (hw _ (List.mem_of_getElem? (i := 85) rfl)) (hw _ (List.mem_of_getElem? (i := 83) rfl)) (hw _ (List.mem_of_getElem? (i := 44) rfl)) (hw _ (List.mem_of_getElem? (i := 86) rfl)) (by decide +kernel) Eb (a := a1) (argsL := [(.int (7 : Int32)), (.ref x2)]) (rest := []) (rm151 l Z a0 hw hEL zc SC hzc fm SF rfm a1 x2 t kc by1 by2 by3 by4 by5 by6 by7 by8 by9 by10 by11 by12 by13 by14 by15 by16 q1 h0 W4.old Eb Fvp Fcp Ab g2 Sa cq1) (allS (List.mem_of_getElem? (i := 0) rfl) all0) (by decide +kernel) (Wd := 0) (by decide +kernel) (by decide +kernel) (by decide +kernel) (allS ⟨g2, (Or.inl (List.mem_of_getElem? (i := 1) rfl))⟩ all0) rfl (by rw [hml]; rfl) (lenOf pd5 rfl) rfl (by show 2 * 0 + _ ≤ _; exact Nat.le_of_eq rfl) (hb hby d152_30) (fun T5 h5 v5 P5 Ws5 K5 q5 => ?_)
  have W5 := Ws5 [] all0
  obtain ⟨rfl, A5⟩ := q5
  show Go p e below _ (T5.setTop (mkF m 33 #[.val (.ref a1), .val (.ref x2), .val (.int (1 : Int32))] []))
  refine Go.of (t' := T5.setTop (mkF m 34 #[.val (.ref a1), .val (.ref x2), .val (.int (1 : Int32))] [(.ref a1)])) (fun _ kk => XS.aloadN W5.here hx rfl (hb hby d152_33) rfl rfl kk) ?_
  refine Go.of (t' := T5.setTop (mkF m 35 #[.val (.ref a1), .val (.ref x2), .val (.int (1 : Int32))] [(.ref a1), (.ref a1)])) (fun _ kk => XS.dup W5.here hx rfl (hb hby d152_34) rfl rfl kk) ?_
  have k6 := (Fnp.keep K5 (ninS nat nin0))
  refine W5.getF hx (host := "") (Or.inl (hw _ (List.mem_of_getElem? (i := 75) rfl))) Via.refl k6 rfl rfl (hb hby d152_35) (fun T7 W7 => ?_)
  show Go p e below _ (T7.setTop (mkF m 38 #[.val (.ref a1), .val (.ref x2), .val (.int (1 : Int32))] [(.int (7 : Int32)), (.ref a1)]))
  refine Go.of (t' := T7.setTop (mkF m 39 #[.val (.ref a1), .val (.ref x2), .val (.int (1 : Int32))] [(.int (1 : Int32)), (.int (7 : Int32)), (.ref a1)])) (fun _ kk => XS.iloadN W7.here hx rfl (hb hby d152_38) rfl kk) ?_
  refine Go.of (t' := T7.setTop (mkF m 40 #[.val (.ref a1), .val (.ref x2), .val (.int (1 : Int32))] [(.int (8 : Int32)), (.ref a1)])) (fun _ kk => XS.iadd W7.here hx rfl (hb hby d152_39) rfl kk) ?_
  have k8 := (Eb.keep K5)
  refine W7.putF hx (host := "") (Or.inl (hw _ (List.mem_of_getElem? (i := 75) rfl))) Via.refl k6 k8 (Or.inl (hw _ (List.mem_of_getElem? (i := 76) rfl))) (hw _ (List.mem_of_getElem? (i := 35) rfl)) (ty := .int) (by decide +kernel) rfl rfl g1 (Or.inl (List.mem_of_getElem? (i := 0) rfl)) (Or.inr ⟨by decide, by decide⟩) rfl rfl (hb hby d152_40) (fun T9 h9 W9 w9 => ?_)
  have k10 := (Fvp.keep K5 (ninS nat nin0))
  have k11 := (Fcp.keep K5 (ninS nat nin0))
  have K9 := Keep.of_wr w9
  have k12 := k10.other w9 (Or.inr (slot_ne (Or.inl (hw _ (List.mem_of_getElem? (i := 49) rfl))) (Or.inl (hw _ (List.mem_of_getElem? (i := 76) rfl))) (by decide +kernel) (t := (.array .byte)) (t' := .int) (by decide +kernel) (by decide +kernel)))
  have k13 := k11.other w9 (Or.inr (slot_ne (Or.inl (hw _ (List.mem_of_getElem? (i := 51) rfl))) (Or.inl (hw _ (List.mem_of_getElem? (i := 76) rfl))) (by decide +kernel) (t := .byte) (t' := .int) (by decide +kernel) (by decide +kernel)))
  have k14 := k6.same w9
  show Go p e below _ (T9.setTop (mkF m 43 #[.val (.ref a1), .val (.ref x2), .val (.int (1 : Int32))] []))
  refine Go.of (t' := T9.setTop (mkF m 44 #[.val (.ref a1), .val (.ref x2), .val (.int (1 : Int32))] [(.ref a1)])) (fun _ kk => XS.aloadN W9.here hx rfl (hb hby d152_43) rfl rfl kk) ?_
  have k15 := (A5.keep K9 (ninS (nat).symm nin0))
  exact W9.retA hx hEL hs hlk (by decide +kernel) (by decide +kernel) hret rfl rfl (hb hby d152_44) (fun S hS => ⟨rfl, k12, k13, k14, k15⟩)
theorem d153_0 : decode jdk_67_method_7_code 0 = .ok (.aload_n 0, 1) := by decide +kernel
theorem d153_1 : decode jdk_67_method_7_code 1 = .ok (.aload_n 1, 1) := by decide +kernel
theorem d153_2 : decode jdk_67_method_7_code 2 = .ok (.invokespecial 29, 3) := by decide +kernel
theorem d153_5 : decode jdk_67_method_7_code 5 = .ok (.pop, 1) := by decide +kernel
theorem d153_6 : decode jdk_67_method_7_code 6 = .ok (.aload_n 0, 1) := by decide +kernel
theorem d153_7 : decode jdk_67_method_7_code 7 = .ok (.areturn, 1) := by decide +kernel
theorem ef153 (m : MethodId) (x0 : Addr) (x1 : Addr)  : entryFrame m #[(.ref x0), (.ref x1)] 2 = mkF m 0 #[.val (.ref x0), .val (.ref x1)] [] := by first | (simp [entryFrame, mkF, argsToLocals, Value.category]; done) | rfl | rfl
set_option maxRecDepth 65536 in
set_option maxHeartbeats 40000000 in
theorem rm153 (l : Launch) (Z : State) (a0 : Array Value) (hw : ∀ d ∈ tables_1, d.before a0 Z = true) (hEL : EW Z a0 EL0) (zc : Int32) (SC : Sta Z Z.heap "java/lang/String" "COMPACT_STRINGS" "Z" (.int zc)) (hzc : ¬ zc = 0) (fm : Value) (SF : Sta Z Z.heap "jdk/internal/util/Preconditions" "SIOOBE_FORMATTER" "Ljava/util/function/BiFunction;" fm) (rfm : fm.isRef = true) (a1 : Addr) (x2 : Addr) (t : Addr) (kc : ClassId) (by1 : Int32) (by2 : Int32) (by3 : Int32) (by4 : Int32) (by5 : Int32) (by6 : Int32) (by7 : Int32) (by8 : Int32) (by9 : Int32) (by10 : Int32) (by11 : Int32) (by12 : Int32) (by13 : Int32) (by14 : Int32) (by15 : Int32) (by16 : Int32) (q1 : Int32) (h0 : Heap) {n0 : Nat} (O0 : Old Z n0 h0) (Eb : Exa Z h0 a1 "java/lang/StringBuilder") (Fvp : Fld Z h0 a1 "java/lang/AbstractStringBuilder" "value" "[B" (.ref t)) (Fcp : Fld Z h0 a1 "java/lang/AbstractStringBuilder" "coder" "B" (.int (0 : Int32))) (Fnp : Fld Z h0 a1 "java/lang/AbstractStringBuilder" "count" "I" (.int (7 : Int32))) (Ab : Arv Z h0 t kc .byte (16 : Int32) [(.int by1), (.int by2), (.int by3), (.int by4), (.int by5), (.int by6), (.int by7), (.int by8), (.int by9), (.int by10), (.int by11), (.int by12), (.int by13), (.int by14), (.int by15), (.int by16)] (.int (0 : Int32))) (g1 : n0 ≤ a1) (g2 : n0 ≤ t) (nat : a1 ≠ t) (Sa : Str Z h0 x2 [q1]) (cq1 : ¬ q1 < 0 ∧ ¬ (255 : Int32) < q1) :
    Met l Z EL0 n0 (⟨"java/lang/StringBuilder", "append", "(Ljava/lang/String;)Ljava/lang/StringBuilder;"⟩ : MethodName) jdk_67_method_7_code 2 (some (.object "java/lang/StringBuilder")) [] ({ frames := 4, cells := 0, slots := 0, locals := 61 } : Room) #[(.ref a1), (.ref x2)] h0 [a1, t] [t] (fun v h' S => v = some (.ref a1) ∧ Fld Z h' a1 "java/lang/AbstractStringBuilder" "value" "[B" (.ref t) ∧ Fld Z h' a1 "java/lang/AbstractStringBuilder" "coder" "B" (.int (0 : Int32)) ∧ Fld Z h' a1 "java/lang/AbstractStringBuilder" "count" "I" (.int (8 : Int32)) ∧ Arv Z h' t kc .byte (16 : Int32) [(.int by1), (.int by2), (.int by3), (.int by4), (.int by5), (.int by6), (.int by7), (.int (StrChars.lo8 q1)), (.int by9), (.int by10), (.int by11), (.int by12), (.int by13), (.int by14), (.int by15), (.int by16)] (.int (0 : Int32))) := by
  refine Met.of (plainFor_of_name pn1) O0 ?_
  intro p e s m below meth c T0 hx hby hml hret hlk hnm hs W0
  have W0 : Wk p l e _ s m _ below meth c Z EL0 n0 [a1, t] "java/lang/StringBuilder" [t] T0 0 0 h0 := W0
  have hSA := fun d hd => hw d (sa_in d hd)
  have hws := fun d hd => hw d (ws_in d hd)
  have hln := fun d hd => hw d (ln_in d hd)
  have heq := fun d hd => hw d (eq_in d hd)
  refine Go.of (fun _ kk => castTop (ef153 m a1 x2) kk) ?_
  show Go p e below _ (T0.setTop (mkF m 0 #[.val (.ref a1), .val (.ref x2)] []))
  refine Go.of (t' := T0.setTop (mkF m 1 #[.val (.ref a1), .val (.ref x2)] [(.ref a1)])) (fun _ kk => XS.aloadN W0.here hx rfl (hb hby d153_0) rfl rfl kk) ?_
  refine Go.of (t' := T0.setTop (mkF m 2 #[.val (.ref a1), .val (.ref x2)] [(.ref x2), (.ref a1)])) (fun _ kk => XS.aloadN W0.here hx rfl (hb hby d153_1) rfl rfl kk) ?_
  refine W0.callU hx hEL (hw _ (List.mem_of_getElem? (i := 60) rfl)) (hw _ (List.mem_of_getElem? (i := 62) rfl)) (hw _ (List.mem_of_getElem? (i := 80) rfl)) rfl (by decide +kernel) (hw _ (List.mem_of_getElem? (i := 61) rfl)) (hw _ (List.mem_of_getElem? (i := 44) rfl)) (hw _ (List.mem_of_getElem? (i := 64) rfl)) (by decide +kernel) Eb (a := a1) (argsL := [(.ref x2)]) (rest := []) (rm152 l Z a0 hw hEL zc SC hzc fm SF rfm a1 x2 t kc by1 by2 by3 by4 by5 by6 by7 by8 by9 by10 by11 by12 by13 by14 by15 by16 q1 h0 W0.old Eb Fvp Fcp Fnp Ab g1 g2 nat Sa cq1) (allS (List.mem_of_getElem? (i := 0) rfl) all0) (by decide +kernel) (Wd := 0) (by decide +kernel) (by decide +kernel) (by decide +kernel) (allS ⟨g1, (Or.inl (List.mem_of_getElem? (i := 0) rfl))⟩ (allS ⟨g2, (Or.inl (List.mem_of_getElem? (i := 1) rfl))⟩ all0)) rfl (by rw [hml]; rfl) (lenOf pd6 rfl) rfl (by show 2 * 0 + _ ≤ _; exact Nat.le_of_eq rfl) (hb hby d153_2) (fun T1 h1 v1 P1 Ws1 K1 q1 => ?_)
  have W1 := Ws1 [] all0
  obtain ⟨rfl, Fv1, Fc1, Fn1, A1⟩ := q1
  show Go p e below _ (T1.setTop (mkF m 5 #[.val (.ref a1), .val (.ref x2)] [(.ref a1)]))
  refine Go.of (t' := T1.setTop (mkF m 6 #[.val (.ref a1), .val (.ref x2)] [])) (fun _ kk => XS.pop W1.here hx rfl (hb hby d153_5) rfl rfl kk) ?_
  refine Go.of (t' := T1.setTop (mkF m 7 #[.val (.ref a1), .val (.ref x2)] [(.ref a1)])) (fun _ kk => XS.aloadN W1.here hx rfl (hb hby d153_6) rfl rfl kk) ?_
  exact W1.retA hx hEL hs hlk (by decide +kernel) (by decide +kernel) hret rfl rfl (hb hby d153_7) (fun S hS => ⟨rfl, Fv1, Fc1, Fn1, A1⟩)
theorem d160_0 : decode jdk_42_method_147_code 0 = .ok (.aload_n 0, 1) := by decide +kernel
theorem d160_1 : decode jdk_42_method_147_code 1 = .ok (.invokevirtual 335, 3) := by decide +kernel
theorem d160_4 : decode jdk_42_method_147_code 4 = .ok (.iload_n 3, 1) := by decide +kernel
theorem d160_5 : decode jdk_42_method_147_code 5 = .ok (.if_icmp .ne 23, 3) := by decide +kernel
theorem d160_8 : decode jdk_42_method_147_code 8 = .ok (.aload_n 0, 1) := by decide +kernel
theorem d160_9 : decode jdk_42_method_147_code 9 = .ok (.getfield 9, 3) := by decide +kernel
theorem d160_12 : decode jdk_42_method_147_code 12 = .ok (.iconst 0, 1) := by decide +kernel
theorem d160_13 : decode jdk_42_method_147_code 13 = .ok (.aload_n 1, 1) := by decide +kernel
theorem d160_14 : decode jdk_42_method_147_code 14 = .ok (.iload_n 2, 1) := by decide +kernel
theorem d160_15 : decode jdk_42_method_147_code 15 = .ok (.iload_n 3, 1) := by decide +kernel
theorem d160_16 : decode jdk_42_method_147_code 16 = .ok (.ishl, 1) := by decide +kernel
theorem d160_17 : decode jdk_42_method_147_code 17 = .ok (.aload_n 0, 1) := by decide +kernel
theorem d160_18 : decode jdk_42_method_147_code 18 = .ok (.getfield 9, 3) := by decide +kernel
theorem d160_21 : decode jdk_42_method_147_code 21 = .ok (.arraylength, 1) := by decide +kernel
theorem d160_22 : decode jdk_42_method_147_code 22 = .ok (.invokestatic 212, 3) := by decide +kernel
theorem d160_25 : decode jdk_42_method_147_code 25 = .ok (.goto 18, 3) := by decide +kernel
theorem d160_43 : decode jdk_42_method_147_code 43 = .ok (.return_, 1) := by decide +kernel
theorem ef160 (m : MethodId) (x0 : Addr) (x1 : Addr) (x2 : Int32) (x3 : Int32)  : entryFrame m #[(.ref x0), (.ref x1), (.int x2), (.int x3)] 4 = mkF m 0 #[.val (.ref x0), .val (.ref x1), .val (.int x2), .val (.int x3)] [] := by first | (simp [entryFrame, mkF, argsToLocals, Value.category]; done) | rfl | rfl
set_option maxRecDepth 65536 in
set_option maxHeartbeats 40000000 in
theorem rm160 (l : Launch) (Z : State) (a0 : Array Value) (hw : ∀ d ∈ tables_1, d.before a0 Z = true) (hEL : EW Z a0 EL0) (zc : Int32) (SC : Sta Z Z.heap "java/lang/String" "COMPACT_STRINGS" "Z" (.int zc)) (hzc : ¬ zc = 0) (fm : Value) (SF : Sta Z Z.heap "jdk/internal/util/Preconditions" "SIOOBE_FORMATTER" "Ljava/util/function/BiFunction;" fm) (rfm : fm.isRef = true) (x2 : Addr) (t : Addr) (kc : ClassId) (by1 : Int32) (by2 : Int32) (by3 : Int32) (by4 : Int32) (by5 : Int32) (by6 : Int32) (by7 : Int32) (by8 : Int32) (by9 : Int32) (by10 : Int32) (by11 : Int32) (by12 : Int32) (by13 : Int32) (by14 : Int32) (by15 : Int32) (by16 : Int32) (q1 : Int32) (q2 : Int32) (h0 : Heap) {n0 : Nat} (O0 : Old Z n0 h0) (Sa : Str Z h0 x2 [q1, q2]) (cq1 : ¬ q1 < 0 ∧ ¬ (255 : Int32) < q1) (cq2 : ¬ q2 < 0 ∧ ¬ (255 : Int32) < q2) (Ab : Arv Z h0 t kc .byte (16 : Int32) [(.int by1), (.int by2), (.int by3), (.int by4), (.int by5), (.int by6), (.int by7), (.int by8), (.int by9), (.int by10), (.int by11), (.int by12), (.int by13), (.int by14), (.int by15), (.int by16)] (.int (0 : Int32))) (g2 : n0 ≤ t) :
    Met l Z EL0 n0 (⟨"java/lang/String", "getBytes", "([BIB)V"⟩ : MethodName) jdk_42_method_147_code 4 none [] ({ frames := 1, cells := 0, slots := 0, locals := 18 } : Room) #[(.ref x2), (.ref t), (.int (11 : Int32)), (.int (0 : Int32))] h0 [t] [t] (fun v h' S => v = none ∧ Arv Z h' t kc .byte (16 : Int32) [(.int by1), (.int by2), (.int by3), (.int by4), (.int by5), (.int by6), (.int by7), (.int by8), (.int by9), (.int by10), (.int by11), (.int (StrChars.lo8 q1)), (.int (StrChars.lo8 q2)), (.int by14), (.int by15), (.int by16)] (.int (0 : Int32))) := by
  refine Met.of (plainFor_of_name pn2) O0 ?_
  intro p e s m below meth c T0 hx hby hml hret hlk hnm hs W0
  have W0 : Wk p l e _ s m _ below meth c Z EL0 n0 [t] "java/lang/String" [t] T0 0 0 h0 := W0
  have hSA := fun d hd => hw d (sa_in d hd)
  have hws := fun d hd => hw d (ws_in d hd)
  have hln := fun d hd => hw d (ln_in d hd)
  have heq := fun d hd => hw d (eq_in d hd)
  refine Go.of (fun _ kk => castTop (ef160 m x2 t (11 : Int32) (0 : Int32)) kk) ?_
  show Go p e below _ (T0.setTop (mkF m 0 #[.val (.ref x2), .val (.ref t), .val (.int (11 : Int32)), .val (.int (0 : Int32))] []))
  obtain ⟨t1, kb1, E1, Fv1, Fc1, A1⟩ := Sa.open_ (snd255 (allSi cq1 (allSi cq2 all0i)))
  have V1 : Arv Z h0 t1 kb1 .byte (2 : Int32) [(.int (StrChars.lo8 q1)), (.int (StrChars.lo8 q2))] (.int (0 : Int32)) := A1
  refine Go.of (t' := T0.setTop (mkF m 1 #[.val (.ref x2), .val (.ref t), .val (.int (11 : Int32)), .val (.int (0 : Int32))] [(.ref x2)])) (fun _ kk => XS.aloadN W0.here hx rfl (hb hby d160_0) rfl rfl kk) ?_
  refine W0.callV hx hEL (hw _ (List.mem_of_getElem? (i := 70) rfl)) (hw _ (List.mem_of_getElem? (i := 71) rfl)) (hw _ (List.mem_of_getElem? (i := 73) rfl)) (hw _ (List.mem_of_getElem? (i := 72) rfl)) (hw _ (List.mem_of_getElem? (i := 2) rfl)) (hw _ (List.mem_of_getElem? (i := 74) rfl)) (by decide +kernel) E1 (a := x2) (argsL := []) (rest := []) (rm4 l Z a0 hw hEL zc SC hzc fm SF rfm x2 h0 W0.old Fc1) all0 (by decide +kernel) (Wd := 0) (by decide +kernel) (by decide +kernel) (by decide +kernel) all0 rfl (by rw [hml]; rfl) (lenOf pd2 rfl) rfl (by show 2 * 0 + _ ≤ _; exact Nat.le_of_eq rfl) (hb hby d160_1) (fun T2 h2 v2 P2 Ws2 K2 q2 => ?_)
  have W2 := Ws2 [] all0
  obtain ⟨rfl, rfl⟩ := q2
  show Go p e below _ (T2.setTop (mkF m 4 #[.val (.ref x2), .val (.ref t), .val (.int (11 : Int32)), .val (.int (0 : Int32))] [(.int (0 : Int32))]))
  refine Go.of (t' := T2.setTop (mkF m 5 #[.val (.ref x2), .val (.ref t), .val (.int (11 : Int32)), .val (.int (0 : Int32))] [(.int (0 : Int32)), (.int (0 : Int32))])) (fun _ kk => XS.iloadN W2.here hx rfl (hb hby d160_4) rfl kk) ?_
  refine Go.of (t' := T2.setTop (mkF m 8 #[.val (.ref x2), .val (.ref t), .val (.int (11 : Int32)), .val (.int (0 : Int32))] [])) (fun _ kk => XS.icmpNo W2.here hx rfl (hb hby d160_5) rfl (XT.ii_ne_f (by decide +kernel)) kk) ?_
  refine Go.of (t' := T2.setTop (mkF m 9 #[.val (.ref x2), .val (.ref t), .val (.int (11 : Int32)), .val (.int (0 : Int32))] [(.ref x2)])) (fun _ kk => XS.aloadN W2.here hx rfl (hb hby d160_8) rfl rfl kk) ?_
  refine W2.getF hx (host := "") (Or.inl (hw _ (List.mem_of_getElem? (i := 28) rfl))) Via.refl Fv1 rfl rfl (hb hby d160_9) (fun T3 W3 => ?_)
  show Go p e below _ (T3.setTop (mkF m 12 #[.val (.ref x2), .val (.ref t), .val (.int (11 : Int32)), .val (.int (0 : Int32))] [(.ref t1)]))
  refine Go.of (t' := T3.setTop (mkF m 13 #[.val (.ref x2), .val (.ref t), .val (.int (11 : Int32)), .val (.int (0 : Int32))] [(.int (0 : Int32)), (.ref t1)])) (fun _ kk => XS.iconst W3.here hx rfl (hb hby d160_12) kk) ?_
  refine Go.of (t' := T3.setTop (mkF m 14 #[.val (.ref x2), .val (.ref t), .val (.int (11 : Int32)), .val (.int (0 : Int32))] [(.ref t), (.int (0 : Int32)), (.ref t1)])) (fun _ kk => XS.aloadN W3.here hx rfl (hb hby d160_13) rfl rfl kk) ?_
  refine Go.of (t' := T3.setTop (mkF m 15 #[.val (.ref x2), .val (.ref t), .val (.int (11 : Int32)), .val (.int (0 : Int32))] [(.int (11 : Int32)), (.ref t), (.int (0 : Int32)), (.ref t1)])) (fun _ kk => XS.iloadN W3.here hx rfl (hb hby d160_14) rfl kk) ?_
  refine Go.of (t' := T3.setTop (mkF m 16 #[.val (.ref x2), .val (.ref t), .val (.int (11 : Int32)), .val (.int (0 : Int32))] [(.int (0 : Int32)), (.int (11 : Int32)), (.ref t), (.int (0 : Int32)), (.ref t1)])) (fun _ kk => XS.iloadN W3.here hx rfl (hb hby d160_15) rfl kk) ?_
  refine Go.of (t' := T3.setTop (mkF m 17 #[.val (.ref x2), .val (.ref t), .val (.int (11 : Int32)), .val (.int (0 : Int32))] [(.int (11 : Int32)), (.ref t), (.int (0 : Int32)), (.ref t1)])) (fun _ kk => XS.ishl W3.here hx rfl (hb hby d160_16) rfl kk) ?_
  refine Go.of (t' := T3.setTop (mkF m 18 #[.val (.ref x2), .val (.ref t), .val (.int (11 : Int32)), .val (.int (0 : Int32))] [(.ref x2), (.int (11 : Int32)), (.ref t), (.int (0 : Int32)), (.ref t1)])) (fun _ kk => XS.aloadN W3.here hx rfl (hb hby d160_17) rfl rfl kk) ?_
  refine W3.getF hx (host := "") (Or.inl (hw _ (List.mem_of_getElem? (i := 28) rfl))) Via.refl Fv1 rfl rfl (hb hby d160_18) (fun T4 W4 => ?_)
  show Go p e below _ (T4.setTop (mkF m 21 #[.val (.ref x2), .val (.ref t), .val (.int (11 : Int32)), .val (.int (0 : Int32))] [(.ref t1), (.int (11 : Int32)), (.ref t), (.int (0 : Int32)), (.ref t1)]))
  refine W4.alen hx V1 rfl rfl (hb hby d160_21) ?_
  show Go p e below _ (T4.setTop (mkF m 22 #[.val (.ref x2), .val (.ref t), .val (.int (11 : Int32)), .val (.int (0 : Int32))] [(.int (2 : Int32)), (.int (11 : Int32)), (.ref t), (.int (0 : Int32)), (.ref t1)]))
  refine W4.cp hx (hw _ (List.mem_of_getElem? (i := 98) rfl)) (hw _ (List.mem_of_getElem? (i := 101) rfl)) (hw _ (List.mem_of_getElem? (i := 99) rfl)) (hw _ (List.mem_of_getElem? (i := 100) rfl)) (us := [(.int (StrChars.lo8 q1)), (.int (StrChars.lo8 q2))]) V1 Ab rfl (by decide) (by decide) (by decide) (by decide) (by decide) rfl (Nat.le_of_ble_eq_true rfl) g2 (Or.inl (List.mem_of_getElem? (i := 0) rfl)) (List.mem_of_getElem? (i := 0) rfl) rfl (by rw [hml]; rfl) rfl (hb hby d160_22) (by decide +kernel) (Wd := 0) (by show 2 * 0 + _ ≤ _; exact Nat.le_of_eq rfl) (by decide +kernel) (fun T5 h5 W5 K5 A5 => ?_)
  have V5 : Arv Z h5 t kc .byte (16 : Int32) [(.int by1), (.int by2), (.int by3), (.int by4), (.int by5), (.int by6), (.int by7), (.int by8), (.int by9), (.int by10), (.int by11), (.int (StrChars.lo8 q1)), (.int (StrChars.lo8 q2)), (.int by14), (.int by15), (.int by16)] (.int (0 : Int32)) := A5
  show Go p e below _ (T5.setTop (mkF m 25 #[.val (.ref x2), .val (.ref t), .val (.int (11 : Int32)), .val (.int (0 : Int32))] []))
  refine Go.of (t' := T5.setTop (mkF m 43 #[.val (.ref x2), .val (.ref t), .val (.int (11 : Int32)), .val (.int (0 : Int32))] [])) (fun _ kk => XS.goto W5.here hx rfl (pc0 := 25) (pc' := 43) rfl (hb hby d160_25) (by decide +kernel) (by decide +kernel) kk) ?_
  exact W5.retV hx hEL hs hlk (by decide +kernel) (by decide +kernel) hret (hb hby d160_43) (fun S hS => ⟨rfl, V5⟩)
theorem d161_0 : decode jdk_68_method_73_code 0 = .ok (.aload_n 0, 1) := by decide +kernel
theorem d161_1 : decode jdk_68_method_73_code 1 = .ok (.aload_n 2, 1) := by decide +kernel
theorem d161_2 : decode jdk_68_method_73_code 2 = .ok (.invokevirtual 397, 3) := by decide +kernel
theorem d161_5 : decode jdk_68_method_73_code 5 = .ok (.aload_n 2, 1) := by decide +kernel
theorem d161_6 : decode jdk_68_method_73_code 6 = .ok (.aload_n 0, 1) := by decide +kernel
theorem d161_7 : decode jdk_68_method_73_code 7 = .ok (.getfield 15, 3) := by decide +kernel
theorem d161_10 : decode jdk_68_method_73_code 10 = .ok (.iload_n 1, 1) := by decide +kernel
theorem d161_11 : decode jdk_68_method_73_code 11 = .ok (.aload_n 0, 1) := by decide +kernel
theorem d161_12 : decode jdk_68_method_73_code 12 = .ok (.getfield 22, 3) := by decide +kernel
theorem d161_15 : decode jdk_68_method_73_code 15 = .ok (.invokevirtual 399, 3) := by decide +kernel
theorem d161_18 : decode jdk_68_method_73_code 18 = .ok (.return_, 1) := by decide +kernel
theorem ef161 (m : MethodId) (x0 : Addr) (x1 : Int32) (x2 : Addr)  : entryFrame m #[(.ref x0), (.int x1), (.ref x2)] 3 = mkF m 0 #[.val (.ref x0), .val (.int x1), .val (.ref x2)] [] := by first | (simp [entryFrame, mkF, argsToLocals, Value.category]; done) | rfl | rfl
set_option maxRecDepth 65536 in
set_option maxHeartbeats 40000000 in
theorem rm161 (l : Launch) (Z : State) (a0 : Array Value) (hw : ∀ d ∈ tables_1, d.before a0 Z = true) (hEL : EW Z a0 EL0) (zc : Int32) (SC : Sta Z Z.heap "java/lang/String" "COMPACT_STRINGS" "Z" (.int zc)) (hzc : ¬ zc = 0) (fm : Value) (SF : Sta Z Z.heap "jdk/internal/util/Preconditions" "SIOOBE_FORMATTER" "Ljava/util/function/BiFunction;" fm) (rfm : fm.isRef = true) (a1 : Addr) (x2 : Addr) (t : Addr) (kc : ClassId) (by1 : Int32) (by2 : Int32) (by3 : Int32) (by4 : Int32) (by5 : Int32) (by6 : Int32) (by7 : Int32) (by8 : Int32) (by9 : Int32) (by10 : Int32) (by11 : Int32) (by12 : Int32) (by13 : Int32) (by14 : Int32) (by15 : Int32) (by16 : Int32) (q1 : Int32) (q2 : Int32) (h0 : Heap) {n0 : Nat} (O0 : Old Z n0 h0) (Eb : Exa Z h0 a1 "java/lang/StringBuilder") (Fvp : Fld Z h0 a1 "java/lang/AbstractStringBuilder" "value" "[B" (.ref t)) (Fcp : Fld Z h0 a1 "java/lang/AbstractStringBuilder" "coder" "B" (.int (0 : Int32))) (Ab : Arv Z h0 t kc .byte (16 : Int32) [(.int by1), (.int by2), (.int by3), (.int by4), (.int by5), (.int by6), (.int by7), (.int by8), (.int by9), (.int by10), (.int by11), (.int by12), (.int by13), (.int by14), (.int by15), (.int by16)] (.int (0 : Int32))) (g2 : n0 ≤ t) (Sa : Str Z h0 x2 [q1, q2]) (cq1 : ¬ q1 < 0 ∧ ¬ (255 : Int32) < q1) (cq2 : ¬ q2 < 0 ∧ ¬ (255 : Int32) < q2) :
    Met l Z EL0 n0 (⟨"java/lang/AbstractStringBuilder", "putStringAt", "(ILjava/lang/String;)V"⟩ : MethodName) jdk_68_method_73_code 3 none [] ({ frames := 2, cells := 0, slots := 0, locals := 33 } : Room) #[(.ref a1), (.int (11 : Int32)), (.ref x2)] h0 [t] [t] (fun v h' S => v = none ∧ Arv Z h' t kc .byte (16 : Int32) [(.int by1), (.int by2), (.int by3), (.int by4), (.int by5), (.int by6), (.int by7), (.int by8), (.int by9), (.int by10), (.int by11), (.int (StrChars.lo8 q1)), (.int (StrChars.lo8 q2)), (.int by14), (.int by15), (.int by16)] (.int (0 : Int32))) := by
  refine Met.of (plainFor_of_name pn0) O0 ?_
  intro p e s m below meth c T0 hx hby hml hret hlk hnm hs W0
  have W0 : Wk p l e _ s m _ below meth c Z EL0 n0 [t] "java/lang/AbstractStringBuilder" [t] T0 0 0 h0 := W0
  have hSA := fun d hd => hw d (sa_in d hd)
  have hws := fun d hd => hw d (ws_in d hd)
  have hln := fun d hd => hw d (ln_in d hd)
  have heq := fun d hd => hw d (eq_in d hd)
  refine Go.of (fun _ kk => castTop (ef161 m a1 (11 : Int32) x2) kk) ?_
  show Go p e below _ (T0.setTop (mkF m 0 #[.val (.ref a1), .val (.int (11 : Int32)), .val (.ref x2)] []))
  refine Go.of (t' := T0.setTop (mkF m 1 #[.val (.ref a1), .val (.int (11 : Int32)), .val (.ref x2)] [(.ref a1)])) (fun _ kk => XS.aloadN W0.here hx rfl (hb hby d161_0) rfl rfl kk) ?_
  refine Go.of (t' := T0.setTop (mkF m 2 #[.val (.ref a1), .val (.int (11 : Int32)), .val (.ref x2)] [(.ref x2), (.ref a1)])) (fun _ kk => XS.aloadN W0.here hx rfl (hb hby d161_1) rfl rfl kk) ?_
  refine W0.callW hx hEL (hw _ (List.mem_of_getElem? (i := 87) rfl)) (hw _ (List.mem_of_getElem? (i := 90) rfl)) (hw _ (List.mem_of_getElem? (i := 88) rfl)) (hw _ (List.mem_of_getElem? (i := 44) rfl)) (hw _ (List.mem_of_getElem? (i := 91) rfl)) (by decide +kernel) Eb (a := a1) (argsL := [(.ref x2)]) (rest := []) (rm32 l Z a0 hw hEL zc SC hzc fm SF rfm a1 x2 q1 q2 h0 W0.old Eb Fcp Sa cq1 cq2) all0 (by decide +kernel) (Wd := 0) (by decide +kernel) (by decide +kernel) (by decide +kernel) all0 rfl (by rw [hml]; rfl) (lenOf pd3 rfl) rfl (by show 2 * 0 + _ ≤ _; exact Nat.le_of_eq rfl) (hb hby d161_2) (fun T1 h1 v1 P1 Ws1 K1 q1 => ?_)
  have W1 := Ws1 [] all0
  obtain ⟨rfl, rfl⟩ := q1
  show Go p e below _ (T1.setTop (mkF m 5 #[.val (.ref a1), .val (.int (11 : Int32)), .val (.ref x2)] []))
  refine Go.of (t' := T1.setTop (mkF m 6 #[.val (.ref a1), .val (.int (11 : Int32)), .val (.ref x2)] [(.ref x2)])) (fun _ kk => XS.aloadN W1.here hx rfl (hb hby d161_5) rfl rfl kk) ?_
  refine Go.of (t' := T1.setTop (mkF m 7 #[.val (.ref a1), .val (.int (11 : Int32)), .val (.ref x2)] [(.ref a1), (.ref x2)])) (fun _ kk => XS.aloadN W1.here hx rfl (hb hby d161_6) rfl rfl kk) ?_
  refine W1.getF hx (host := "") (Or.inl (hw _ (List.mem_of_getElem? (i := 48) rfl))) Via.refl Fvp rfl rfl (hb hby d161_7) (fun T2 W2 => ?_)
  show Go p e below _ (T2.setTop (mkF m 10 #[.val (.ref a1), .val (.int (11 : Int32)), .val (.ref x2)] [(.ref t), (.ref x2)]))
  refine Go.of (t' := T2.setTop (mkF m 11 #[.val (.ref a1), .val (.int (11 : Int32)), .val (.ref x2)] [(.int (11 : Int32)), (.ref t), (.ref x2)])) (fun _ kk => XS.iloadN W2.here hx rfl (hb hby d161_10) rfl kk) ?_
  refine Go.of (t' := T2.setTop (mkF m 12 #[.val (.ref a1), .val (.int (11 : Int32)), .val (.ref x2)] [(.ref a1), (.int (11 : Int32)), (.ref t), (.ref x2)])) (fun _ kk => XS.aloadN W2.here hx rfl (hb hby d161_11) rfl rfl kk) ?_
  refine W2.getF hx (host := "") (Or.inl (hw _ (List.mem_of_getElem? (i := 50) rfl))) Via.refl Fcp rfl rfl (hb hby d161_12) (fun T3 W3 => ?_)
  show Go p e below _ (T3.setTop (mkF m 15 #[.val (.ref a1), .val (.int (11 : Int32)), .val (.ref x2)] [(.int (0 : Int32)), (.int (11 : Int32)), (.ref t), (.ref x2)]))
  have k5 := Sa.exa
  refine W3.callV hx hEL (hw _ (List.mem_of_getElem? (i := 93) rfl)) (hw _ (List.mem_of_getElem? (i := 94) rfl)) (hw _ (List.mem_of_getElem? (i := 96) rfl)) (hw _ (List.mem_of_getElem? (i := 95) rfl)) (hw _ (List.mem_of_getElem? (i := 2) rfl)) (hw _ (List.mem_of_getElem? (i := 97) rfl)) (by decide +kernel) k5 (a := x2) (argsL := [(.ref t), (.int (11 : Int32)), (.int (0 : Int32))]) (rest := []) (rm160 l Z a0 hw hEL zc SC hzc fm SF rfm x2 t kc by1 by2 by3 by4 by5 by6 by7 by8 by9 by10 by11 by12 by13 by14 by15 by16 q1 q2 h0 W3.old Sa cq1 cq2 Ab g2) (allS (List.mem_of_getElem? (i := 0) rfl) all0) (by decide +kernel) (Wd := 0) (by decide +kernel) (by decide +kernel) (by decide +kernel) (allS ⟨g2, (Or.inl (List.mem_of_getElem? (i := 0) rfl))⟩ all0) rfl (by rw [hml]; rfl) (lenOf pd4 rfl) rfl (by show 2 * 0 + _ ≤ _; exact Nat.le_of_eq rfl) (hb hby d161_15) (fun T4 h4 v4 P4 Ws4 K4 q4 => ?_)
  have W4 := Ws4 [] all0
  obtain ⟨rfl, A4⟩ := q4
  show Go p e below _ (T4.setTop (mkF m 18 #[.val (.ref a1), .val (.int (11 : Int32)), .val (.ref x2)] []))
  exact W4.retV hx hEL hs hlk (by decide +kernel) (by decide +kernel) hret (hb hby d161_18) (fun S hS => ⟨rfl, A4⟩)
theorem d162_0 : decode jdk_68_method_22_code 0 = .ok (.aload_n 1, 1) := by decide +kernel
theorem d162_1 : decode jdk_68_method_22_code 1 = .ok (.ifnonnull 8, 3) := by decide +kernel
theorem d162_9 : decode jdk_68_method_22_code 9 = .ok (.aload_n 1, 1) := by decide +kernel
theorem d162_10 : decode jdk_68_method_22_code 10 = .ok (.invokevirtual 32, 3) := by decide +kernel
theorem d162_13 : decode jdk_68_method_22_code 13 = .ok (.istore_n 2, 1) := by decide +kernel
theorem d162_14 : decode jdk_68_method_22_code 14 = .ok (.aload_n 0, 1) := by decide +kernel
theorem d162_15 : decode jdk_68_method_22_code 15 = .ok (.aload_n 0, 1) := by decide +kernel
theorem d162_16 : decode jdk_68_method_22_code 16 = .ok (.getfield 79, 3) := by decide +kernel
theorem d162_19 : decode jdk_68_method_22_code 19 = .ok (.iload_n 2, 1) := by decide +kernel
theorem d162_20 : decode jdk_68_method_22_code 20 = .ok (.iadd, 1) := by decide +kernel
theorem d162_21 : decode jdk_68_method_22_code 21 = .ok (.invokevirtual 100, 3) := by decide +kernel
theorem d162_24 : decode jdk_68_method_22_code 24 = .ok (.aload_n 0, 1) := by decide +kernel
theorem d162_25 : decode jdk_68_method_22_code 25 = .ok (.aload_n 0, 1) := by decide +kernel
theorem d162_26 : decode jdk_68_method_22_code 26 = .ok (.getfield 79, 3) := by decide +kernel
theorem d162_29 : decode jdk_68_method_22_code 29 = .ok (.aload_n 1, 1) := by decide +kernel
theorem d162_30 : decode jdk_68_method_22_code 30 = .ok (.invokevirtual 208, 3) := by decide +kernel
theorem d162_33 : decode jdk_68_method_22_code 33 = .ok (.aload_n 0, 1) := by decide +kernel
theorem d162_34 : decode jdk_68_method_22_code 34 = .ok (.dup, 1) := by decide +kernel
theorem d162_35 : decode jdk_68_method_22_code 35 = .ok (.getfield 79, 3) := by decide +kernel
theorem d162_38 : decode jdk_68_method_22_code 38 = .ok (.iload_n 2, 1) := by decide +kernel
theorem d162_39 : decode jdk_68_method_22_code 39 = .ok (.iadd, 1) := by decide +kernel
theorem d162_40 : decode jdk_68_method_22_code 40 = .ok (.putfield 79, 3) := by decide +kernel
theorem d162_43 : decode jdk_68_method_22_code 43 = .ok (.aload_n 0, 1) := by decide +kernel
theorem d162_44 : decode jdk_68_method_22_code 44 = .ok (.areturn, 1) := by decide +kernel
theorem ef162 (m : MethodId) (x0 : Addr) (x1 : Addr)  : entryFrame m #[(.ref x0), (.ref x1)] 3 = mkF m 0 #[.val (.ref x0), .val (.ref x1), .unset] [] := by first | (simp [entryFrame, mkF, argsToLocals, Value.category]; done) | rfl | rfl
set_option maxRecDepth 65536 in
set_option maxHeartbeats 40000000 in
theorem rm162 (l : Launch) (Z : State) (a0 : Array Value) (hw : ∀ d ∈ tables_1, d.before a0 Z = true) (hEL : EW Z a0 EL0) (zc : Int32) (SC : Sta Z Z.heap "java/lang/String" "COMPACT_STRINGS" "Z" (.int zc)) (hzc : ¬ zc = 0) (fm : Value) (SF : Sta Z Z.heap "jdk/internal/util/Preconditions" "SIOOBE_FORMATTER" "Ljava/util/function/BiFunction;" fm) (rfm : fm.isRef = true) (a1 : Addr) (x2 : Addr) (t : Addr) (kc : ClassId) (by1 : Int32) (by2 : Int32) (by3 : Int32) (by4 : Int32) (by5 : Int32) (by6 : Int32) (by7 : Int32) (by8 : Int32) (by9 : Int32) (by10 : Int32) (by11 : Int32) (by12 : Int32) (by13 : Int32) (by14 : Int32) (by15 : Int32) (by16 : Int32) (q1 : Int32) (q2 : Int32) (h0 : Heap) {n0 : Nat} (O0 : Old Z n0 h0) (Eb : Exa Z h0 a1 "java/lang/StringBuilder") (Fvp : Fld Z h0 a1 "java/lang/AbstractStringBuilder" "value" "[B" (.ref t)) (Fcp : Fld Z h0 a1 "java/lang/AbstractStringBuilder" "coder" "B" (.int (0 : Int32))) (Fnp : Fld Z h0 a1 "java/lang/AbstractStringBuilder" "count" "I" (.int (11 : Int32))) (Ab : Arv Z h0 t kc .byte (16 : Int32) [(.int by1), (.int by2), (.int by3), (.int by4), (.int by5), (.int by6), (.int by7), (.int by8), (.int by9), (.int by10), (.int by11), (.int by12), (.int by13), (.int by14), (.int by15), (.int by16)] (.int (0 : Int32))) (g1 : n0 ≤ a1) (g2 : n0 ≤ t) (nat : a1 ≠ t) (Sa : Str Z h0 x2 [q1, q2]) (cq1 : ¬ q1 < 0 ∧ ¬ (255 : Int32) < q1) (cq2 : ¬ q2 < 0 ∧ ¬ (255 : Int32) < q2) :
    Met l Z EL0 n0 (⟨"java/lang/AbstractStringBuilder", "append", "(Ljava/lang/String;)Ljava/lang/AbstractStringBuilder;"⟩ : MethodName) jdk_68_method_22_code 3 (some (.object "java/lang/AbstractStringBuilder")) [] ({ frames := 3, cells := 0, slots := 0, locals := 47 } : Room) #[(.ref a1), (.ref x2)] h0 [a1, t] [t] (fun v h' S => v = some (.ref a1) ∧ Fld Z h' a1 "java/lang/AbstractStringBuilder" "value" "[B" (.ref t) ∧ Fld Z h' a1 "java/lang/AbstractStringBuilder" "coder" "B" (.int (0 : Int32)) ∧ Fld Z h' a1 "java/lang/AbstractStringBuilder" "count" "I" (.int (13 : Int32)) ∧ Arv Z h' t kc .byte (16 : Int32) [(.int by1), (.int by2), (.int by3), (.int by4), (.int by5), (.int by6), (.int by7), (.int by8), (.int by9), (.int by10), (.int by11), (.int (StrChars.lo8 q1)), (.int (StrChars.lo8 q2)), (.int by14), (.int by15), (.int by16)] (.int (0 : Int32))) := by
  refine Met.of (plainFor_of_name pn0) O0 ?_
  intro p e s m below meth c T0 hx hby hml hret hlk hnm hs W0
  have W0 : Wk p l e _ s m _ below meth c Z EL0 n0 [a1, t] "java/lang/AbstractStringBuilder" [t] T0 0 0 h0 := W0
  have hSA := fun d hd => hw d (sa_in d hd)
  have hws := fun d hd => hw d (ws_in d hd)
  have hln := fun d hd => hw d (ln_in d hd)
  have heq := fun d hd => hw d (eq_in d hd)
  refine Go.of (fun _ kk => castTop (ef162 m a1 x2) kk) ?_
  show Go p e below _ (T0.setTop (mkF m 0 #[.val (.ref a1), .val (.ref x2), .unset] []))
  refine Go.of (t' := T0.setTop (mkF m 1 #[.val (.ref a1), .val (.ref x2), .unset] [(.ref x2)])) (fun _ kk => XS.aloadN W0.here hx rfl (hb hby d162_0) rfl rfl kk) ?_
  refine Go.of (t' := T0.setTop (mkF m 9 #[.val (.ref a1), .val (.ref x2), .unset] [])) (fun _ kk => XS.ifnonnullYes W0.here hx rfl (pc0 := 1) (pc' := 9) rfl (hb hby d162_1) rfl (by decide +kernel) (by decide +kernel) kk) ?_
  refine Go.of (t' := T0.setTop (mkF m 10 #[.val (.ref a1), .val (.ref x2), .unset] [(.ref x2)])) (fun _ kk => XS.aloadN W0.here hx rfl (hb hby d162_9) rfl rfl kk) ?_
  refine W0.strLen hx hln (hw _ (List.mem_of_getElem? (i := 1) rfl)) SC hzc Sa (hw _ (List.mem_of_getElem? (i := 65) rfl)) (hw _ (List.mem_of_getElem? (i := 66) rfl)) (hw _ (List.mem_of_getElem? (i := 68) rfl)) (hw _ (List.mem_of_getElem? (i := 67) rfl)) (by decide +kernel) (Wd := 0) (by decide +kernel) (by decide +kernel) (by decide +kernel) rfl (by rw [hml]; rfl) rfl (by show 2 * 0 + _ ≤ _; exact Nat.le_of_eq rfl) (hb hby d162_10) (fun T1 W1 => ?_)
  show Go p e below _ (T1.setTop (mkF m 13 #[.val (.ref a1), .val (.ref x2), .unset] [(.int (2 : Int32))]))
  refine Go.of (t' := T1.setTop (mkF m 14 #[.val (.ref a1), .val (.ref x2), .val (.int (2 : Int32))] [])) (fun _ kk => XS.istoreN W1.here hx rfl (hb hby d162_13) rfl (l' := #[.val (.ref a1), .val (.ref x2), .val (.int (2 : Int32))]) rfl kk) ?_
  refine Go.of (t' := T1.setTop (mkF m 15 #[.val (.ref a1), .val (.ref x2), .val (.int (2 : Int32))] [(.ref a1)])) (fun _ kk => XS.aloadN W1.here hx rfl (hb hby d162_14) rfl rfl kk) ?_
  refine Go.of (t' := T1.setTop (mkF m 16 #[.val (.ref a1), .val (.ref x2), .val (.int (2 : Int32))] [(.ref a1), (.ref a1)])) (fun _ kk => XS.aloadN W1.here hx rfl (hb hby d162_15) rfl rfl kk) ?_
  refine W1.getF hx (host := "") (Or.inl (hw _ (List.mem_of_getElem? (i := 75) rfl))) Via.refl Fnp rfl rfl (hb hby d162_16) (fun T2 W2 => ?_)
  show Go p e below _ (T2.setTop (mkF m 19 #[.val (.ref a1), .val (.ref x2), .val (.int (2 : Int32))] [(.int (11 : Int32)), (.ref a1)]))
  refine Go.of (t' := T2.setTop (mkF m 20 #[.val (.ref a1), .val (.ref x2), .val (.int (2 : Int32))] [(.int (2 : Int32)), (.int (11 : Int32)), (.ref a1)])) (fun _ kk => XS.iloadN W2.here hx rfl (hb hby d162_19) rfl kk) ?_
  refine Go.of (t' := T2.setTop (mkF m 21 #[.val (.ref a1), .val (.ref x2), .val (.int (2 : Int32))] [(.int (13 : Int32)), (.ref a1)])) (fun _ kk => XS.iadd W2.here hx rfl (hb hby d162_20) rfl kk) ?_
  refine W2.callW hx hEL (hw _ (List.mem_of_getElem? (i := 77) rfl)) (hw _ (List.mem_of_getElem? (i := 80) rfl)) (hw _ (List.mem_of_getElem? (i := 78) rfl)) (hw _ (List.mem_of_getElem? (i := 44) rfl)) (hw _ (List.mem_of_getElem? (i := 81) rfl)) (by decide +kernel) Eb (a := a1) (argsL := [(.int (13 : Int32))]) (rest := []) (rm25 l Z a0 hw hEL zc SC hzc fm SF rfm a1 t kc by1 by2 by3 by4 by5 by6 by7 by8 by9 by10 by11 by12 by13 by14 by15 by16 h0 W2.old Eb Fvp Fcp Ab) all0 (by decide +kernel) (Wd := 0) (by decide +kernel) (by decide +kernel) (by decide +kernel) all0 rfl (by rw [hml]; rfl) (lenOf pd0 rfl) rfl (by show 2 * 0 + _ ≤ _; exact Nat.le_of_eq rfl) (hb hby d162_21) (fun T3 h3 v3 P3 Ws3 K3 q3 => ?_)
  have W3 := Ws3 [] all0
  obtain ⟨rfl, rfl⟩ := q3
  show Go p e below _ (T3.setTop (mkF m 24 #[.val (.ref a1), .val (.ref x2), .val (.int (2 : Int32))] []))
  refine Go.of (t' := T3.setTop (mkF m 25 #[.val (.ref a1), .val (.ref x2), .val (.int (2 : Int32))] [(.ref a1)])) (fun _ kk => XS.aloadN W3.here hx rfl (hb hby d162_24) rfl rfl kk) ?_
  refine Go.of (t' := T3.setTop (mkF m 26 #[.val (.ref a1), .val (.ref x2), .val (.int (2 : Int32))] [(.ref a1), (.ref a1)])) (fun _ kk => XS.aloadN W3.here hx rfl (hb hby d162_25) rfl rfl kk) ?_
  refine W3.getF hx (host := "") (Or.inl (hw _ (List.mem_of_getElem? (i := 75) rfl))) Via.refl Fnp rfl rfl (hb hby d162_26) (fun T4 W4 => ?_)
  show Go p e below _ (T4.setTop (mkF m 29 #[.val (.ref a1), .val (.ref x2), .val (.int (2 : Int32))] [(.int (11 : Int32)), (.ref a1)]))
  refine Go.of (t' := T4.setTop (mkF m 30 #[.val (.ref a1), .val (.ref x2), .val (.int (2 : Int32))] [(.ref x2), (.int (11 : Int32)), (.ref a1)])) (fun _ kk => XS.aloadN W4.here hx rfl (hb hby d162_29) rfl rfl kk) ?_
  refine W4.callW hx hEL (hw _ (List.mem_of_getElem? (i := 82) rfl)) (hw _ (List.mem_of_getElem? (i := 85) rfl)) (hw _ (List.mem_of_getElem? (i := 83) rfl)) (hw _ (List.mem_of_getElem? (i := 44) rfl)) (hw _ (List.mem_of_getElem? (i := 86) rfl)) (by decide +kernel) Eb (a := a1) (argsL := [(.int (11 : Int32)), (.ref x2)]) (rest := []) (rm161 l Z a0 hw hEL zc SC hzc fm SF rfm a1 x2 t kc by1 by2 by3 by4 by5 by6 by7 by8 by9 by10 by11 by12 by13 by14 by15 by16 q1 q2 h0 W4.old Eb Fvp Fcp Ab g2 Sa cq1 cq2) (allS (List.mem_of_getElem? (i := 0) rfl) all0) (by decide +kernel) (Wd := 0) (by decide +kernel) (by decide +kernel) (by decide +kernel) (allS ⟨g2, (Or.inl (List.mem_of_getElem? (i := 1) rfl))⟩ all0) rfl (by rw [hml]; rfl) (lenOf pd5 rfl) rfl (by show 2 * 0 + _ ≤ _; exact Nat.le_of_eq rfl) (hb hby d162_30) (fun T5 h5 v5 P5 Ws5 K5 q5 => ?_)
  have W5 := Ws5 [] all0
  obtain ⟨rfl, A5⟩ := q5
  show Go p e below _ (T5.setTop (mkF m 33 #[.val (.ref a1), .val (.ref x2), .val (.int (2 : Int32))] []))
  refine Go.of (t' := T5.setTop (mkF m 34 #[.val (.ref a1), .val (.ref x2), .val (.int (2 : Int32))] [(.ref a1)])) (fun _ kk => XS.aloadN W5.here hx rfl (hb hby d162_33) rfl rfl kk) ?_
  refine Go.of (t' := T5.setTop (mkF m 35 #[.val (.ref a1), .val (.ref x2), .val (.int (2 : Int32))] [(.ref a1), (.ref a1)])) (fun _ kk => XS.dup W5.here hx rfl (hb hby d162_34) rfl rfl kk) ?_
  have k6 := (Fnp.keep K5 (ninS nat nin0))
  refine W5.getF hx (host := "") (Or.inl (hw _ (List.mem_of_getElem? (i := 75) rfl))) Via.refl k6 rfl rfl (hb hby d162_35) (fun T7 W7 => ?_)
  show Go p e below _ (T7.setTop (mkF m 38 #[.val (.ref a1), .val (.ref x2), .val (.int (2 : Int32))] [(.int (11 : Int32)), (.ref a1)]))
  refine Go.of (t' := T7.setTop (mkF m 39 #[.val (.ref a1), .val (.ref x2), .val (.int (2 : Int32))] [(.int (2 : Int32)), (.int (11 : Int32)), (.ref a1)])) (fun _ kk => XS.iloadN W7.here hx rfl (hb hby d162_38) rfl kk) ?_
  refine Go.of (t' := T7.setTop (mkF m 40 #[.val (.ref a1), .val (.ref x2), .val (.int (2 : Int32))] [(.int (13 : Int32)), (.ref a1)])) (fun _ kk => XS.iadd W7.here hx rfl (hb hby d162_39) rfl kk) ?_
  have k8 := (Eb.keep K5)
  refine W7.putF hx (host := "") (Or.inl (hw _ (List.mem_of_getElem? (i := 75) rfl))) Via.refl k6 k8 (Or.inl (hw _ (List.mem_of_getElem? (i := 76) rfl))) (hw _ (List.mem_of_getElem? (i := 35) rfl)) (ty := .int) (by decide +kernel) rfl rfl g1 (Or.inl (List.mem_of_getElem? (i := 0) rfl)) (Or.inr ⟨by decide, by decide⟩) rfl rfl (hb hby d162_40) (fun T9 h9 W9 w9 => ?_)
  have k10 := (Fvp.keep K5 (ninS nat nin0))
  have k11 := (Fcp.keep K5 (ninS nat nin0))
  have K9 := Keep.of_wr w9
  have k12 := k10.other w9 (Or.inr (slot_ne (Or.inl (hw _ (List.mem_of_getElem? (i := 49) rfl))) (Or.inl (hw _ (List.mem_of_getElem? (i := 76) rfl))) (by decide +kernel) (t := (.array .byte)) (t' := .int) (by decide +kernel) (by decide +kernel)))
  have k13 := k11.other w9 (Or.inr (slot_ne (Or.inl (hw _ (List.mem_of_getElem? (i := 51) rfl))) (Or.inl (hw _ (List.mem_of_getElem? (i := 76) rfl))) (by decide +kernel) (t := .byte) (t' := .int) (by decide +kernel) (by decide +kernel)))
  have k14 := k6.same w9
  show Go p e below _ (T9.setTop (mkF m 43 #[.val (.ref a1), .val (.ref x2), .val (.int (2 : Int32))] []))
  refine Go.of (t' := T9.setTop (mkF m 44 #[.val (.ref a1), .val (.ref x2), .val (.int (2 : Int32))] [(.ref a1)])) (fun _ kk => XS.aloadN W9.here hx rfl (hb hby d162_43) rfl rfl kk) ?_
  have k15 := (A5.keep K9 (ninS (nat).symm nin0))
  exact W9.retA hx hEL hs hlk (by decide +kernel) (by decide +kernel) hret rfl rfl (hb hby d162_44) (fun S hS => ⟨rfl, k12, k13, k14, k15⟩)
theorem d163_0 : decode jdk_67_method_7_code 0 = .ok (.aload_n 0, 1) := by decide +kernel
theorem d163_1 : decode jdk_67_method_7_code 1 = .ok (.aload_n 1, 1) := by decide +kernel
theorem d163_2 : decode jdk_67_method_7_code 2 = .ok (.invokespecial 29, 3) := by decide +kernel
theorem d163_5 : decode jdk_67_method_7_code 5 = .ok (.pop, 1) := by decide +kernel
theorem d163_6 : decode jdk_67_method_7_code 6 = .ok (.aload_n 0, 1) := by decide +kernel
theorem d163_7 : decode jdk_67_method_7_code 7 = .ok (.areturn, 1) := by decide +kernel
theorem ef163 (m : MethodId) (x0 : Addr) (x1 : Addr)  : entryFrame m #[(.ref x0), (.ref x1)] 2 = mkF m 0 #[.val (.ref x0), .val (.ref x1)] [] := by first | (simp [entryFrame, mkF, argsToLocals, Value.category]; done) | rfl | rfl
set_option maxRecDepth 65536 in
set_option maxHeartbeats 40000000 in
theorem rm163 (l : Launch) (Z : State) (a0 : Array Value) (hw : ∀ d ∈ tables_1, d.before a0 Z = true) (hEL : EW Z a0 EL0) (zc : Int32) (SC : Sta Z Z.heap "java/lang/String" "COMPACT_STRINGS" "Z" (.int zc)) (hzc : ¬ zc = 0) (fm : Value) (SF : Sta Z Z.heap "jdk/internal/util/Preconditions" "SIOOBE_FORMATTER" "Ljava/util/function/BiFunction;" fm) (rfm : fm.isRef = true) (a1 : Addr) (x2 : Addr) (t : Addr) (kc : ClassId) (by1 : Int32) (by2 : Int32) (by3 : Int32) (by4 : Int32) (by5 : Int32) (by6 : Int32) (by7 : Int32) (by8 : Int32) (by9 : Int32) (by10 : Int32) (by11 : Int32) (by12 : Int32) (by13 : Int32) (by14 : Int32) (by15 : Int32) (by16 : Int32) (q1 : Int32) (q2 : Int32) (h0 : Heap) {n0 : Nat} (O0 : Old Z n0 h0) (Eb : Exa Z h0 a1 "java/lang/StringBuilder") (Fvp : Fld Z h0 a1 "java/lang/AbstractStringBuilder" "value" "[B" (.ref t)) (Fcp : Fld Z h0 a1 "java/lang/AbstractStringBuilder" "coder" "B" (.int (0 : Int32))) (Fnp : Fld Z h0 a1 "java/lang/AbstractStringBuilder" "count" "I" (.int (11 : Int32))) (Ab : Arv Z h0 t kc .byte (16 : Int32) [(.int by1), (.int by2), (.int by3), (.int by4), (.int by5), (.int by6), (.int by7), (.int by8), (.int by9), (.int by10), (.int by11), (.int by12), (.int by13), (.int by14), (.int by15), (.int by16)] (.int (0 : Int32))) (g1 : n0 ≤ a1) (g2 : n0 ≤ t) (nat : a1 ≠ t) (Sa : Str Z h0 x2 [q1, q2]) (cq1 : ¬ q1 < 0 ∧ ¬ (255 : Int32) < q1) (cq2 : ¬ q2 < 0 ∧ ¬ (255 : Int32) < q2) :
    Met l Z EL0 n0 (⟨"java/lang/StringBuilder", "append", "(Ljava/lang/String;)Ljava/lang/StringBuilder;"⟩ : MethodName) jdk_67_method_7_code 2 (some (.object "java/lang/StringBuilder")) [] ({ frames := 4, cells := 0, slots := 0, locals := 61 } : Room) #[(.ref a1), (.ref x2)] h0 [a1, t] [t] (fun v h' S => v = some (.ref a1) ∧ Fld Z h' a1 "java/lang/AbstractStringBuilder" "value" "[B" (.ref t) ∧ Fld Z h' a1 "java/lang/AbstractStringBuilder" "coder" "B" (.int (0 : Int32)) ∧ Fld Z h' a1 "java/lang/AbstractStringBuilder" "count" "I" (.int (13 : Int32)) ∧ Arv Z h' t kc .byte (16 : Int32) [(.int by1), (.int by2), (.int by3), (.int by4), (.int by5), (.int by6), (.int by7), (.int by8), (.int by9), (.int by10), (.int by11), (.int (StrChars.lo8 q1)), (.int (StrChars.lo8 q2)), (.int by14), (.int by15), (.int by16)] (.int (0 : Int32))) := by
  refine Met.of (plainFor_of_name pn1) O0 ?_
  intro p e s m below meth c T0 hx hby hml hret hlk hnm hs W0
  have W0 : Wk p l e _ s m _ below meth c Z EL0 n0 [a1, t] "java/lang/StringBuilder" [t] T0 0 0 h0 := W0
  have hSA := fun d hd => hw d (sa_in d hd)
  have hws := fun d hd => hw d (ws_in d hd)
  have hln := fun d hd => hw d (ln_in d hd)
  have heq := fun d hd => hw d (eq_in d hd)
  refine Go.of (fun _ kk => castTop (ef163 m a1 x2) kk) ?_
  show Go p e below _ (T0.setTop (mkF m 0 #[.val (.ref a1), .val (.ref x2)] []))
  refine Go.of (t' := T0.setTop (mkF m 1 #[.val (.ref a1), .val (.ref x2)] [(.ref a1)])) (fun _ kk => XS.aloadN W0.here hx rfl (hb hby d163_0) rfl rfl kk) ?_
  refine Go.of (t' := T0.setTop (mkF m 2 #[.val (.ref a1), .val (.ref x2)] [(.ref x2), (.ref a1)])) (fun _ kk => XS.aloadN W0.here hx rfl (hb hby d163_1) rfl rfl kk) ?_
  refine W0.callU hx hEL (hw _ (List.mem_of_getElem? (i := 60) rfl)) (hw _ (List.mem_of_getElem? (i := 62) rfl)) (hw _ (List.mem_of_getElem? (i := 80) rfl)) rfl (by decide +kernel) (hw _ (List.mem_of_getElem? (i := 61) rfl)) (hw _ (List.mem_of_getElem? (i := 44) rfl)) (hw _ (List.mem_of_getElem? (i := 64) rfl)) (by decide +kernel) Eb (a := a1) (argsL := [(.ref x2)]) (rest := []) (rm162 l Z a0 hw hEL zc SC hzc fm SF rfm a1 x2 t kc by1 by2 by3 by4 by5 by6 by7 by8 by9 by10 by11 by12 by13 by14 by15 by16 q1 q2 h0 W0.old Eb Fvp Fcp Fnp Ab g1 g2 nat Sa cq1 cq2) (allS (List.mem_of_getElem? (i := 0) rfl) all0) (by decide +kernel) (Wd := 0) (by decide +kernel) (by decide +kernel) (by decide +kernel) (allS ⟨g1, (Or.inl (List.mem_of_getElem? (i := 0) rfl))⟩ (allS ⟨g2, (Or.inl (List.mem_of_getElem? (i := 1) rfl))⟩ all0)) rfl (by rw [hml]; rfl) (lenOf pd6 rfl) rfl (by show 2 * 0 + _ ≤ _; exact Nat.le_of_eq rfl) (hb hby d163_2) (fun T1 h1 v1 P1 Ws1 K1 q1 => ?_)
  have W1 := Ws1 [] all0
  obtain ⟨rfl, Fv1, Fc1, Fn1, A1⟩ := q1
  show Go p e below _ (T1.setTop (mkF m 5 #[.val (.ref a1), .val (.ref x2)] [(.ref a1)]))
  refine Go.of (t' := T1.setTop (mkF m 6 #[.val (.ref a1), .val (.ref x2)] [])) (fun _ kk => XS.pop W1.here hx rfl (hb hby d163_5) rfl rfl kk) ?_
  refine Go.of (t' := T1.setTop (mkF m 7 #[.val (.ref a1), .val (.ref x2)] [(.ref a1)])) (fun _ kk => XS.aloadN W1.here hx rfl (hb hby d163_6) rfl rfl kk) ?_
  exact W1.retA hx hEL hs hlk (by decide +kernel) (by decide +kernel) hret rfl rfl (hb hby d163_7) (fun S hS => ⟨rfl, Fv1, Fc1, Fn1, A1⟩)
theorem d170_0 : decode jdk_42_method_147_code 0 = .ok (.aload_n 0, 1) := by decide +kernel
theorem d170_1 : decode jdk_42_method_147_code 1 = .ok (.invokevirtual 335, 3) := by decide +kernel
theorem d170_4 : decode jdk_42_method_147_code 4 = .ok (.iload_n 3, 1) := by decide +kernel
theorem d170_5 : decode jdk_42_method_147_code 5 = .ok (.if_icmp .ne 23, 3) := by decide +kernel
theorem d170_8 : decode jdk_42_method_147_code 8 = .ok (.aload_n 0, 1) := by decide +kernel
theorem d170_9 : decode jdk_42_method_147_code 9 = .ok (.getfield 9, 3) := by decide +kernel
theorem d170_12 : decode jdk_42_method_147_code 12 = .ok (.iconst 0, 1) := by decide +kernel
theorem d170_13 : decode jdk_42_method_147_code 13 = .ok (.aload_n 1, 1) := by decide +kernel
theorem d170_14 : decode jdk_42_method_147_code 14 = .ok (.iload_n 2, 1) := by decide +kernel
theorem d170_15 : decode jdk_42_method_147_code 15 = .ok (.iload_n 3, 1) := by decide +kernel
theorem d170_16 : decode jdk_42_method_147_code 16 = .ok (.ishl, 1) := by decide +kernel
theorem d170_17 : decode jdk_42_method_147_code 17 = .ok (.aload_n 0, 1) := by decide +kernel
theorem d170_18 : decode jdk_42_method_147_code 18 = .ok (.getfield 9, 3) := by decide +kernel
theorem d170_21 : decode jdk_42_method_147_code 21 = .ok (.arraylength, 1) := by decide +kernel
theorem d170_22 : decode jdk_42_method_147_code 22 = .ok (.invokestatic 212, 3) := by decide +kernel
theorem d170_25 : decode jdk_42_method_147_code 25 = .ok (.goto 18, 3) := by decide +kernel
theorem d170_43 : decode jdk_42_method_147_code 43 = .ok (.return_, 1) := by decide +kernel
theorem ef170 (m : MethodId) (x0 : Addr) (x1 : Addr) (x2 : Int32) (x3 : Int32)  : entryFrame m #[(.ref x0), (.ref x1), (.int x2), (.int x3)] 4 = mkF m 0 #[.val (.ref x0), .val (.ref x1), .val (.int x2), .val (.int x3)] [] := by first | (simp [entryFrame, mkF, argsToLocals, Value.category]; done) | rfl | rfl
set_option maxRecDepth 65536 in
set_option maxHeartbeats 40000000 in
theorem rm170 (l : Launch) (Z : State) (a0 : Array Value) (hw : ∀ d ∈ tables_1, d.before a0 Z = true) (hEL : EW Z a0 EL0) (zc : Int32) (SC : Sta Z Z.heap "java/lang/String" "COMPACT_STRINGS" "Z" (.int zc)) (hzc : ¬ zc = 0) (fm : Value) (SF : Sta Z Z.heap "jdk/internal/util/Preconditions" "SIOOBE_FORMATTER" "Ljava/util/function/BiFunction;" fm) (rfm : fm.isRef = true) (x2 : Addr) (t : Addr) (kc : ClassId) (by1 : Int32) (by2 : Int32) (by3 : Int32) (by4 : Int32) (by5 : Int32) (by6 : Int32) (by7 : Int32) (by8 : Int32) (by9 : Int32) (by10 : Int32) (by11 : Int32) (by12 : Int32) (by13 : Int32) (by14 : Int32) (by15 : Int32) (by16 : Int32) (q1 : Int32) (q2 : Int32) (h0 : Heap) {n0 : Nat} (O0 : Old Z n0 h0) (Sa : Str Z h0 x2 [q1, q2]) (cq1 : ¬ q1 < 0 ∧ ¬ (255 : Int32) < q1) (cq2 : ¬ q2 < 0 ∧ ¬ (255 : Int32) < q2) (Ab : Arv Z h0 t kc .byte (16 : Int32) [(.int by1), (.int by2), (.int by3), (.int by4), (.int by5), (.int by6), (.int by7), (.int by8), (.int by9), (.int by10), (.int by11), (.int by12), (.int by13), (.int by14), (.int by15), (.int by16)] (.int (0 : Int32))) (g2 : n0 ≤ t) :
    Met l Z EL0 n0 (⟨"java/lang/String", "getBytes", "([BIB)V"⟩ : MethodName) jdk_42_method_147_code 4 none [] ({ frames := 1, cells := 0, slots := 0, locals := 18 } : Room) #[(.ref x2), (.ref t), (.int (8 : Int32)), (.int (0 : Int32))] h0 [t] [t] (fun v h' S => v = none ∧ Arv Z h' t kc .byte (16 : Int32) [(.int by1), (.int by2), (.int by3), (.int by4), (.int by5), (.int by6), (.int by7), (.int by8), (.int (StrChars.lo8 q1)), (.int (StrChars.lo8 q2)), (.int by11), (.int by12), (.int by13), (.int by14), (.int by15), (.int by16)] (.int (0 : Int32))) := by
  refine Met.of (plainFor_of_name pn2) O0 ?_
  intro p e s m below meth c T0 hx hby hml hret hlk hnm hs W0
  have W0 : Wk p l e _ s m _ below meth c Z EL0 n0 [t] "java/lang/String" [t] T0 0 0 h0 := W0
  have hSA := fun d hd => hw d (sa_in d hd)
  have hws := fun d hd => hw d (ws_in d hd)
  have hln := fun d hd => hw d (ln_in d hd)
  have heq := fun d hd => hw d (eq_in d hd)
  refine Go.of (fun _ kk => castTop (ef170 m x2 t (8 : Int32) (0 : Int32)) kk) ?_
  show Go p e below _ (T0.setTop (mkF m 0 #[.val (.ref x2), .val (.ref t), .val (.int (8 : Int32)), .val (.int (0 : Int32))] []))
  obtain ⟨t1, kb1, E1, Fv1, Fc1, A1⟩ := Sa.open_ (snd255 (allSi cq1 (allSi cq2 all0i)))
  have V1 : Arv Z h0 t1 kb1 .byte (2 : Int32) [(.int (StrChars.lo8 q1)), (.int (StrChars.lo8 q2))] (.int (0 : Int32)) := A1
  refine Go.of (t' := T0.setTop (mkF m 1 #[.val (.ref x2), .val (.ref t), .val (.int (8 : Int32)), .val (.int (0 : Int32))] [(.ref x2)])) (fun _ kk => XS.aloadN W0.here hx rfl (hb hby d170_0) rfl rfl kk) ?_
  refine W0.callV hx hEL (hw _ (List.mem_of_getElem? (i := 70) rfl)) (hw _ (List.mem_of_getElem? (i := 71) rfl)) (hw _ (List.mem_of_getElem? (i := 73) rfl)) (hw _ (List.mem_of_getElem? (i := 72) rfl)) (hw _ (List.mem_of_getElem? (i := 2) rfl)) (hw _ (List.mem_of_getElem? (i := 74) rfl)) (by decide +kernel) E1 (a := x2) (argsL := []) (rest := []) (rm4 l Z a0 hw hEL zc SC hzc fm SF rfm x2 h0 W0.old Fc1) all0 (by decide +kernel) (Wd := 0) (by decide +kernel) (by decide +kernel) (by decide +kernel) all0 rfl (by rw [hml]; rfl) (lenOf pd2 rfl) rfl (by show 2 * 0 + _ ≤ _; exact Nat.le_of_eq rfl) (hb hby d170_1) (fun T2 h2 v2 P2 Ws2 K2 q2 => ?_)
  have W2 := Ws2 [] all0
  obtain ⟨rfl, rfl⟩ := q2
  show Go p e below _ (T2.setTop (mkF m 4 #[.val (.ref x2), .val (.ref t), .val (.int (8 : Int32)), .val (.int (0 : Int32))] [(.int (0 : Int32))]))
  refine Go.of (t' := T2.setTop (mkF m 5 #[.val (.ref x2), .val (.ref t), .val (.int (8 : Int32)), .val (.int (0 : Int32))] [(.int (0 : Int32)), (.int (0 : Int32))])) (fun _ kk => XS.iloadN W2.here hx rfl (hb hby d170_4) rfl kk) ?_
  refine Go.of (t' := T2.setTop (mkF m 8 #[.val (.ref x2), .val (.ref t), .val (.int (8 : Int32)), .val (.int (0 : Int32))] [])) (fun _ kk => XS.icmpNo W2.here hx rfl (hb hby d170_5) rfl (XT.ii_ne_f (by decide +kernel)) kk) ?_
  refine Go.of (t' := T2.setTop (mkF m 9 #[.val (.ref x2), .val (.ref t), .val (.int (8 : Int32)), .val (.int (0 : Int32))] [(.ref x2)])) (fun _ kk => XS.aloadN W2.here hx rfl (hb hby d170_8) rfl rfl kk) ?_
  refine W2.getF hx (host := "") (Or.inl (hw _ (List.mem_of_getElem? (i := 28) rfl))) Via.refl Fv1 rfl rfl (hb hby d170_9) (fun T3 W3 => ?_)
  show Go p e below _ (T3.setTop (mkF m 12 #[.val (.ref x2), .val (.ref t), .val (.int (8 : Int32)), .val (.int (0 : Int32))] [(.ref t1)]))
  refine Go.of (t' := T3.setTop (mkF m 13 #[.val (.ref x2), .val (.ref t), .val (.int (8 : Int32)), .val (.int (0 : Int32))] [(.int (0 : Int32)), (.ref t1)])) (fun _ kk => XS.iconst W3.here hx rfl (hb hby d170_12) kk) ?_
  refine Go.of (t' := T3.setTop (mkF m 14 #[.val (.ref x2), .val (.ref t), .val (.int (8 : Int32)), .val (.int (0 : Int32))] [(.ref t), (.int (0 : Int32)), (.ref t1)])) (fun _ kk => XS.aloadN W3.here hx rfl (hb hby d170_13) rfl rfl kk) ?_
  refine Go.of (t' := T3.setTop (mkF m 15 #[.val (.ref x2), .val (.ref t), .val (.int (8 : Int32)), .val (.int (0 : Int32))] [(.int (8 : Int32)), (.ref t), (.int (0 : Int32)), (.ref t1)])) (fun _ kk => XS.iloadN W3.here hx rfl (hb hby d170_14) rfl kk) ?_
  refine Go.of (t' := T3.setTop (mkF m 16 #[.val (.ref x2), .val (.ref t), .val (.int (8 : Int32)), .val (.int (0 : Int32))] [(.int (0 : Int32)), (.int (8 : Int32)), (.ref t), (.int (0 : Int32)), (.ref t1)])) (fun _ kk => XS.iloadN W3.here hx rfl (hb hby d170_15) rfl kk) ?_
  refine Go.of (t' := T3.setTop (mkF m 17 #[.val (.ref x2), .val (.ref t), .val (.int (8 : Int32)), .val (.int (0 : Int32))] [(.int (8 : Int32)), (.ref t), (.int (0 : Int32)), (.ref t1)])) (fun _ kk => XS.ishl W3.here hx rfl (hb hby d170_16) rfl kk) ?_
  refine Go.of (t' := T3.setTop (mkF m 18 #[.val (.ref x2), .val (.ref t), .val (.int (8 : Int32)), .val (.int (0 : Int32))] [(.ref x2), (.int (8 : Int32)), (.ref t), (.int (0 : Int32)), (.ref t1)])) (fun _ kk => XS.aloadN W3.here hx rfl (hb hby d170_17) rfl rfl kk) ?_
  refine W3.getF hx (host := "") (Or.inl (hw _ (List.mem_of_getElem? (i := 28) rfl))) Via.refl Fv1 rfl rfl (hb hby d170_18) (fun T4 W4 => ?_)
  show Go p e below _ (T4.setTop (mkF m 21 #[.val (.ref x2), .val (.ref t), .val (.int (8 : Int32)), .val (.int (0 : Int32))] [(.ref t1), (.int (8 : Int32)), (.ref t), (.int (0 : Int32)), (.ref t1)]))
  refine W4.alen hx V1 rfl rfl (hb hby d170_21) ?_
  show Go p e below _ (T4.setTop (mkF m 22 #[.val (.ref x2), .val (.ref t), .val (.int (8 : Int32)), .val (.int (0 : Int32))] [(.int (2 : Int32)), (.int (8 : Int32)), (.ref t), (.int (0 : Int32)), (.ref t1)]))
  refine W4.cp hx (hw _ (List.mem_of_getElem? (i := 98) rfl)) (hw _ (List.mem_of_getElem? (i := 101) rfl)) (hw _ (List.mem_of_getElem? (i := 99) rfl)) (hw _ (List.mem_of_getElem? (i := 100) rfl)) (us := [(.int (StrChars.lo8 q1)), (.int (StrChars.lo8 q2))]) V1 Ab rfl (by decide) (by decide) (by decide) (by decide) (by decide) rfl (Nat.le_of_ble_eq_true rfl) g2 (Or.inl (List.mem_of_getElem? (i := 0) rfl)) (List.mem_of_getElem? (i := 0) rfl) rfl (by rw [hml]; rfl) rfl (hb hby d170_22) (by decide +kernel) (Wd := 0) (by show 2 * 0 + _ ≤ _; exact Nat.le_of_eq rfl) (by decide +kernel) (fun T5 h5 W5 K5 A5 => ?_)
  have V5 : Arv Z h5 t kc .byte (16 : Int32) [(.int by1), (.int by2), (.int by3), (.int by4), (.int by5), (.int by6), (.int by7), (.int by8), (.int (StrChars.lo8 q1)), (.int (StrChars.lo8 q2)), (.int by11), (.int by12), (.int by13), (.int by14), (.int by15), (.int by16)] (.int (0 : Int32)) := A5
  show Go p e below _ (T5.setTop (mkF m 25 #[.val (.ref x2), .val (.ref t), .val (.int (8 : Int32)), .val (.int (0 : Int32))] []))
  refine Go.of (t' := T5.setTop (mkF m 43 #[.val (.ref x2), .val (.ref t), .val (.int (8 : Int32)), .val (.int (0 : Int32))] [])) (fun _ kk => XS.goto W5.here hx rfl (pc0 := 25) (pc' := 43) rfl (hb hby d170_25) (by decide +kernel) (by decide +kernel) kk) ?_
  exact W5.retV hx hEL hs hlk (by decide +kernel) (by decide +kernel) hret (hb hby d170_43) (fun S hS => ⟨rfl, V5⟩)
theorem d171_0 : decode jdk_68_method_73_code 0 = .ok (.aload_n 0, 1) := by decide +kernel
theorem d171_1 : decode jdk_68_method_73_code 1 = .ok (.aload_n 2, 1) := by decide +kernel
theorem d171_2 : decode jdk_68_method_73_code 2 = .ok (.invokevirtual 397, 3) := by decide +kernel
theorem d171_5 : decode jdk_68_method_73_code 5 = .ok (.aload_n 2, 1) := by decide +kernel
theorem d171_6 : decode jdk_68_method_73_code 6 = .ok (.aload_n 0, 1) := by decide +kernel
theorem d171_7 : decode jdk_68_method_73_code 7 = .ok (.getfield 15, 3) := by decide +kernel
theorem d171_10 : decode jdk_68_method_73_code 10 = .ok (.iload_n 1, 1) := by decide +kernel
theorem d171_11 : decode jdk_68_method_73_code 11 = .ok (.aload_n 0, 1) := by decide +kernel
theorem d171_12 : decode jdk_68_method_73_code 12 = .ok (.getfield 22, 3) := by decide +kernel
theorem d171_15 : decode jdk_68_method_73_code 15 = .ok (.invokevirtual 399, 3) := by decide +kernel
theorem d171_18 : decode jdk_68_method_73_code 18 = .ok (.return_, 1) := by decide +kernel
theorem ef171 (m : MethodId) (x0 : Addr) (x1 : Int32) (x2 : Addr)  : entryFrame m #[(.ref x0), (.int x1), (.ref x2)] 3 = mkF m 0 #[.val (.ref x0), .val (.int x1), .val (.ref x2)] [] := by first | (simp [entryFrame, mkF, argsToLocals, Value.category]; done) | rfl | rfl
set_option maxRecDepth 65536 in
set_option maxHeartbeats 40000000 in
theorem rm171 (l : Launch) (Z : State) (a0 : Array Value) (hw : ∀ d ∈ tables_1, d.before a0 Z = true) (hEL : EW Z a0 EL0) (zc : Int32) (SC : Sta Z Z.heap "java/lang/String" "COMPACT_STRINGS" "Z" (.int zc)) (hzc : ¬ zc = 0) (fm : Value) (SF : Sta Z Z.heap "jdk/internal/util/Preconditions" "SIOOBE_FORMATTER" "Ljava/util/function/BiFunction;" fm) (rfm : fm.isRef = true) (a1 : Addr) (x2 : Addr) (t : Addr) (kc : ClassId) (by1 : Int32) (by2 : Int32) (by3 : Int32) (by4 : Int32) (by5 : Int32) (by6 : Int32) (by7 : Int32) (by8 : Int32) (by9 : Int32) (by10 : Int32) (by11 : Int32) (by12 : Int32) (by13 : Int32) (by14 : Int32) (by15 : Int32) (by16 : Int32) (q1 : Int32) (q2 : Int32) (h0 : Heap) {n0 : Nat} (O0 : Old Z n0 h0) (Eb : Exa Z h0 a1 "java/lang/StringBuilder") (Fvp : Fld Z h0 a1 "java/lang/AbstractStringBuilder" "value" "[B" (.ref t)) (Fcp : Fld Z h0 a1 "java/lang/AbstractStringBuilder" "coder" "B" (.int (0 : Int32))) (Ab : Arv Z h0 t kc .byte (16 : Int32) [(.int by1), (.int by2), (.int by3), (.int by4), (.int by5), (.int by6), (.int by7), (.int by8), (.int by9), (.int by10), (.int by11), (.int by12), (.int by13), (.int by14), (.int by15), (.int by16)] (.int (0 : Int32))) (g2 : n0 ≤ t) (Sa : Str Z h0 x2 [q1, q2]) (cq1 : ¬ q1 < 0 ∧ ¬ (255 : Int32) < q1) (cq2 : ¬ q2 < 0 ∧ ¬ (255 : Int32) < q2) :
    Met l Z EL0 n0 (⟨"java/lang/AbstractStringBuilder", "putStringAt", "(ILjava/lang/String;)V"⟩ : MethodName) jdk_68_method_73_code 3 none [] ({ frames := 2, cells := 0, slots := 0, locals := 33 } : Room) #[(.ref a1), (.int (8 : Int32)), (.ref x2)] h0 [t] [t] (fun v h' S => v = none ∧ Arv Z h' t kc .byte (16 : Int32) [(.int by1), (.int by2), (.int by3), (.int by4), (.int by5), (.int by6), (.int by7), (.int by8), (.int (StrChars.lo8 q1)), (.int (StrChars.lo8 q2)), (.int by11), (.int by12), (.int by13), (.int by14), (.int by15), (.int by16)] (.int (0 : Int32))) := by
  refine Met.of (plainFor_of_name pn0) O0 ?_
  intro p e s m below meth c T0 hx hby hml hret hlk hnm hs W0
  have W0 : Wk p l e _ s m _ below meth c Z EL0 n0 [t] "java/lang/AbstractStringBuilder" [t] T0 0 0 h0 := W0
  have hSA := fun d hd => hw d (sa_in d hd)
  have hws := fun d hd => hw d (ws_in d hd)
  have hln := fun d hd => hw d (ln_in d hd)
  have heq := fun d hd => hw d (eq_in d hd)
  refine Go.of (fun _ kk => castTop (ef171 m a1 (8 : Int32) x2) kk) ?_
  show Go p e below _ (T0.setTop (mkF m 0 #[.val (.ref a1), .val (.int (8 : Int32)), .val (.ref x2)] []))
  refine Go.of (t' := T0.setTop (mkF m 1 #[.val (.ref a1), .val (.int (8 : Int32)), .val (.ref x2)] [(.ref a1)])) (fun _ kk => XS.aloadN W0.here hx rfl (hb hby d171_0) rfl rfl kk) ?_
  refine Go.of (t' := T0.setTop (mkF m 2 #[.val (.ref a1), .val (.int (8 : Int32)), .val (.ref x2)] [(.ref x2), (.ref a1)])) (fun _ kk => XS.aloadN W0.here hx rfl (hb hby d171_1) rfl rfl kk) ?_
  refine W0.callW hx hEL (hw _ (List.mem_of_getElem? (i := 87) rfl)) (hw _ (List.mem_of_getElem? (i := 90) rfl)) (hw _ (List.mem_of_getElem? (i := 88) rfl)) (hw _ (List.mem_of_getElem? (i := 44) rfl)) (hw _ (List.mem_of_getElem? (i := 91) rfl)) (by decide +kernel) Eb (a := a1) (argsL := [(.ref x2)]) (rest := []) (rm32 l Z a0 hw hEL zc SC hzc fm SF rfm a1 x2 q1 q2 h0 W0.old Eb Fcp Sa cq1 cq2) all0 (by decide +kernel) (Wd := 0) (by decide +kernel) (by decide +kernel) (by decide +kernel) all0 rfl (by rw [hml]; rfl) (lenOf pd3 rfl) rfl (by show 2 * 0 + _ ≤ _; exact Nat.le_of_eq rfl) (hb hby d171_2) (fun T1 h1 v1 P1 Ws1 K1 q1 => ?_)
  have W1 := Ws1 [] all0
  obtain ⟨rfl, rfl⟩ := q1
  show Go p e below _ (T1.setTop (mkF m 5 #[.val (.ref a1), .val (.int (8 : Int32)), .val (.ref x2)] []))
  refine Go.of (t' := T1.setTop (mkF m 6 #[.val (.ref a1), .val (.int (8 : Int32)), .val (.ref x2)] [(.ref x2)])) (fun _ kk => XS.aloadN W1.here hx rfl (hb hby d171_5) rfl rfl kk) ?_
  refine Go.of (t' := T1.setTop (mkF m 7 #[.val (.ref a1), .val (.int (8 : Int32)), .val (.ref x2)] [(.ref a1), (.ref x2)])) (fun _ kk => XS.aloadN W1.here hx rfl (hb hby d171_6) rfl rfl kk) ?_
  refine W1.getF hx (host := "") (Or.inl (hw _ (List.mem_of_getElem? (i := 48) rfl))) Via.refl Fvp rfl rfl (hb hby d171_7) (fun T2 W2 => ?_)
  show Go p e below _ (T2.setTop (mkF m 10 #[.val (.ref a1), .val (.int (8 : Int32)), .val (.ref x2)] [(.ref t), (.ref x2)]))
  refine Go.of (t' := T2.setTop (mkF m 11 #[.val (.ref a1), .val (.int (8 : Int32)), .val (.ref x2)] [(.int (8 : Int32)), (.ref t), (.ref x2)])) (fun _ kk => XS.iloadN W2.here hx rfl (hb hby d171_10) rfl kk) ?_
  refine Go.of (t' := T2.setTop (mkF m 12 #[.val (.ref a1), .val (.int (8 : Int32)), .val (.ref x2)] [(.ref a1), (.int (8 : Int32)), (.ref t), (.ref x2)])) (fun _ kk => XS.aloadN W2.here hx rfl (hb hby d171_11) rfl rfl kk) ?_
  refine W2.getF hx (host := "") (Or.inl (hw _ (List.mem_of_getElem? (i := 50) rfl))) Via.refl Fcp rfl rfl (hb hby d171_12) (fun T3 W3 => ?_)
  show Go p e below _ (T3.setTop (mkF m 15 #[.val (.ref a1), .val (.int (8 : Int32)), .val (.ref x2)] [(.int (0 : Int32)), (.int (8 : Int32)), (.ref t), (.ref x2)]))
  have k5 := Sa.exa
  refine W3.callV hx hEL (hw _ (List.mem_of_getElem? (i := 93) rfl)) (hw _ (List.mem_of_getElem? (i := 94) rfl)) (hw _ (List.mem_of_getElem? (i := 96) rfl)) (hw _ (List.mem_of_getElem? (i := 95) rfl)) (hw _ (List.mem_of_getElem? (i := 2) rfl)) (hw _ (List.mem_of_getElem? (i := 97) rfl)) (by decide +kernel) k5 (a := x2) (argsL := [(.ref t), (.int (8 : Int32)), (.int (0 : Int32))]) (rest := []) (rm170 l Z a0 hw hEL zc SC hzc fm SF rfm x2 t kc by1 by2 by3 by4 by5 by6 by7 by8 by9 by10 by11 by12 by13 by14 by15 by16 q1 q2 h0 W3.old Sa cq1 cq2 Ab g2) (allS (List.mem_of_getElem? (i := 0) rfl) all0) (by decide +kernel) (Wd := 0) (by decide +kernel) (by decide +kernel) (by decide +kernel) (allS ⟨g2, (Or.inl (List.mem_of_getElem? (i := 0) rfl))⟩ all0) rfl (by rw [hml]; rfl) (lenOf pd4 rfl) rfl (by show 2 * 0 + _ ≤ _; exact Nat.le_of_eq rfl) (hb hby d171_15) (fun T4 h4 v4 P4 Ws4 K4 q4 => ?_)
  have W4 := Ws4 [] all0
  obtain ⟨rfl, A4⟩ := q4
  show Go p e below _ (T4.setTop (mkF m 18 #[.val (.ref a1), .val (.int (8 : Int32)), .val (.ref x2)] []))
  exact W4.retV hx hEL hs hlk (by decide +kernel) (by decide +kernel) hret (hb hby d171_18) (fun S hS => ⟨rfl, A4⟩)
theorem d172_0 : decode jdk_68_method_22_code 0 = .ok (.aload_n 1, 1) := by decide +kernel
theorem d172_1 : decode jdk_68_method_22_code 1 = .ok (.ifnonnull 8, 3) := by decide +kernel
theorem d172_9 : decode jdk_68_method_22_code 9 = .ok (.aload_n 1, 1) := by decide +kernel
theorem d172_10 : decode jdk_68_method_22_code 10 = .ok (.invokevirtual 32, 3) := by decide +kernel
theorem d172_13 : decode jdk_68_method_22_code 13 = .ok (.istore_n 2, 1) := by decide +kernel
theorem d172_14 : decode jdk_68_method_22_code 14 = .ok (.aload_n 0, 1) := by decide +kernel
theorem d172_15 : decode jdk_68_method_22_code 15 = .ok (.aload_n 0, 1) := by decide +kernel
theorem d172_16 : decode jdk_68_method_22_code 16 = .ok (.getfield 79, 3) := by decide +kernel
theorem d172_19 : decode jdk_68_method_22_code 19 = .ok (.iload_n 2, 1) := by decide +kernel
theorem d172_20 : decode jdk_68_method_22_code 20 = .ok (.iadd, 1) := by decide +kernel
theorem d172_21 : decode jdk_68_method_22_code 21 = .ok (.invokevirtual 100, 3) := by decide +kernel
theorem d172_24 : decode jdk_68_method_22_code 24 = .ok (.aload_n 0, 1) := by decide +kernel
theorem d172_25 : decode jdk_68_method_22_code 25 = .ok (.aload_n 0, 1) := by decide +kernel
theorem d172_26 : decode jdk_68_method_22_code 26 = .ok (.getfield 79, 3) := by decide +kernel
theorem d172_29 : decode jdk_68_method_22_code 29 = .ok (.aload_n 1, 1) := by decide +kernel
theorem d172_30 : decode jdk_68_method_22_code 30 = .ok (.invokevirtual 208, 3) := by decide +kernel
theorem d172_33 : decode jdk_68_method_22_code 33 = .ok (.aload_n 0, 1) := by decide +kernel
theorem d172_34 : decode jdk_68_method_22_code 34 = .ok (.dup, 1) := by decide +kernel
theorem d172_35 : decode jdk_68_method_22_code 35 = .ok (.getfield 79, 3) := by decide +kernel
theorem d172_38 : decode jdk_68_method_22_code 38 = .ok (.iload_n 2, 1) := by decide +kernel
theorem d172_39 : decode jdk_68_method_22_code 39 = .ok (.iadd, 1) := by decide +kernel
theorem d172_40 : decode jdk_68_method_22_code 40 = .ok (.putfield 79, 3) := by decide +kernel
theorem d172_43 : decode jdk_68_method_22_code 43 = .ok (.aload_n 0, 1) := by decide +kernel
theorem d172_44 : decode jdk_68_method_22_code 44 = .ok (.areturn, 1) := by decide +kernel
theorem ef172 (m : MethodId) (x0 : Addr) (x1 : Addr)  : entryFrame m #[(.ref x0), (.ref x1)] 3 = mkF m 0 #[.val (.ref x0), .val (.ref x1), .unset] [] := by first | (simp [entryFrame, mkF, argsToLocals, Value.category]; done) | rfl | rfl
set_option maxRecDepth 65536 in
set_option maxHeartbeats 40000000 in
theorem rm172 (l : Launch) (Z : State) (a0 : Array Value) (hw : ∀ d ∈ tables_1, d.before a0 Z = true) (hEL : EW Z a0 EL0) (zc : Int32) (SC : Sta Z Z.heap "java/lang/String" "COMPACT_STRINGS" "Z" (.int zc)) (hzc : ¬ zc = 0) (fm : Value) (SF : Sta Z Z.heap "jdk/internal/util/Preconditions" "SIOOBE_FORMATTER" "Ljava/util/function/BiFunction;" fm) (rfm : fm.isRef = true) (a1 : Addr) (x2 : Addr) (t : Addr) (kc : ClassId) (by1 : Int32) (by2 : Int32) (by3 : Int32) (by4 : Int32) (by5 : Int32) (by6 : Int32) (by7 : Int32) (by8 : Int32) (by9 : Int32) (by10 : Int32) (by11 : Int32) (by12 : Int32) (by13 : Int32) (by14 : Int32) (by15 : Int32) (by16 : Int32) (q1 : Int32) (q2 : Int32) (h0 : Heap) {n0 : Nat} (O0 : Old Z n0 h0) (Eb : Exa Z h0 a1 "java/lang/StringBuilder") (Fvp : Fld Z h0 a1 "java/lang/AbstractStringBuilder" "value" "[B" (.ref t)) (Fcp : Fld Z h0 a1 "java/lang/AbstractStringBuilder" "coder" "B" (.int (0 : Int32))) (Fnp : Fld Z h0 a1 "java/lang/AbstractStringBuilder" "count" "I" (.int (8 : Int32))) (Ab : Arv Z h0 t kc .byte (16 : Int32) [(.int by1), (.int by2), (.int by3), (.int by4), (.int by5), (.int by6), (.int by7), (.int by8), (.int by9), (.int by10), (.int by11), (.int by12), (.int by13), (.int by14), (.int by15), (.int by16)] (.int (0 : Int32))) (g1 : n0 ≤ a1) (g2 : n0 ≤ t) (nat : a1 ≠ t) (Sa : Str Z h0 x2 [q1, q2]) (cq1 : ¬ q1 < 0 ∧ ¬ (255 : Int32) < q1) (cq2 : ¬ q2 < 0 ∧ ¬ (255 : Int32) < q2) :
    Met l Z EL0 n0 (⟨"java/lang/AbstractStringBuilder", "append", "(Ljava/lang/String;)Ljava/lang/AbstractStringBuilder;"⟩ : MethodName) jdk_68_method_22_code 3 (some (.object "java/lang/AbstractStringBuilder")) [] ({ frames := 3, cells := 0, slots := 0, locals := 47 } : Room) #[(.ref a1), (.ref x2)] h0 [a1, t] [t] (fun v h' S => v = some (.ref a1) ∧ Fld Z h' a1 "java/lang/AbstractStringBuilder" "value" "[B" (.ref t) ∧ Fld Z h' a1 "java/lang/AbstractStringBuilder" "coder" "B" (.int (0 : Int32)) ∧ Fld Z h' a1 "java/lang/AbstractStringBuilder" "count" "I" (.int (10 : Int32)) ∧ Arv Z h' t kc .byte (16 : Int32) [(.int by1), (.int by2), (.int by3), (.int by4), (.int by5), (.int by6), (.int by7), (.int by8), (.int (StrChars.lo8 q1)), (.int (StrChars.lo8 q2)), (.int by11), (.int by12), (.int by13), (.int by14), (.int by15), (.int by16)] (.int (0 : Int32))) := by
  refine Met.of (plainFor_of_name pn0) O0 ?_
  intro p e s m below meth c T0 hx hby hml hret hlk hnm hs W0
  have W0 : Wk p l e _ s m _ below meth c Z EL0 n0 [a1, t] "java/lang/AbstractStringBuilder" [t] T0 0 0 h0 := W0
  have hSA := fun d hd => hw d (sa_in d hd)
  have hws := fun d hd => hw d (ws_in d hd)
  have hln := fun d hd => hw d (ln_in d hd)
  have heq := fun d hd => hw d (eq_in d hd)
  refine Go.of (fun _ kk => castTop (ef172 m a1 x2) kk) ?_
  show Go p e below _ (T0.setTop (mkF m 0 #[.val (.ref a1), .val (.ref x2), .unset] []))
  refine Go.of (t' := T0.setTop (mkF m 1 #[.val (.ref a1), .val (.ref x2), .unset] [(.ref x2)])) (fun _ kk => XS.aloadN W0.here hx rfl (hb hby d172_0) rfl rfl kk) ?_
  refine Go.of (t' := T0.setTop (mkF m 9 #[.val (.ref a1), .val (.ref x2), .unset] [])) (fun _ kk => XS.ifnonnullYes W0.here hx rfl (pc0 := 1) (pc' := 9) rfl (hb hby d172_1) rfl (by decide +kernel) (by decide +kernel) kk) ?_
  refine Go.of (t' := T0.setTop (mkF m 10 #[.val (.ref a1), .val (.ref x2), .unset] [(.ref x2)])) (fun _ kk => XS.aloadN W0.here hx rfl (hb hby d172_9) rfl rfl kk) ?_
  refine W0.strLen hx hln (hw _ (List.mem_of_getElem? (i := 1) rfl)) SC hzc Sa (hw _ (List.mem_of_getElem? (i := 65) rfl)) (hw _ (List.mem_of_getElem? (i := 66) rfl)) (hw _ (List.mem_of_getElem? (i := 68) rfl)) (hw _ (List.mem_of_getElem? (i := 67) rfl)) (by decide +kernel) (Wd := 0) (by decide +kernel) (by decide +kernel) (by decide +kernel) rfl (by rw [hml]; rfl) rfl (by show 2 * 0 + _ ≤ _; exact Nat.le_of_eq rfl) (hb hby d172_10) (fun T1 W1 => ?_)
  show Go p e below _ (T1.setTop (mkF m 13 #[.val (.ref a1), .val (.ref x2), .unset] [(.int (2 : Int32))]))
  refine Go.of (t' := T1.setTop (mkF m 14 #[.val (.ref a1), .val (.ref x2), .val (.int (2 : Int32))] [])) (fun _ kk => XS.istoreN W1.here hx rfl (hb hby d172_13) rfl (l' := #[.val (.ref a1), .val (.ref x2), .val (.int (2 : Int32))]) rfl kk) ?_
  refine Go.of (t' := T1.setTop (mkF m 15 #[.val (.ref a1), .val (.ref x2), .val (.int (2 : Int32))] [(.ref a1)])) (fun _ kk => XS.aloadN W1.here hx rfl (hb hby d172_14) rfl rfl kk) ?_
  refine Go.of (t' := T1.setTop (mkF m 16 #[.val (.ref a1), .val (.ref x2), .val (.int (2 : Int32))] [(.ref a1), (.ref a1)])) (fun _ kk => XS.aloadN W1.here hx rfl (hb hby d172_15) rfl rfl kk) ?_
  refine W1.getF hx (host := "") (Or.inl (hw _ (List.mem_of_getElem? (i := 75) rfl))) Via.refl Fnp rfl rfl (hb hby d172_16) (fun T2 W2 => ?_)
  show Go p e below _ (T2.setTop (mkF m 19 #[.val (.ref a1), .val (.ref x2), .val (.int (2 : Int32))] [(.int (8 : Int32)), (.ref a1)]))
  refine Go.of (t' := T2.setTop (mkF m 20 #[.val (.ref a1), .val (.ref x2), .val (.int (2 : Int32))] [(.int (2 : Int32)), (.int (8 : Int32)), (.ref a1)])) (fun _ kk => XS.iloadN W2.here hx rfl (hb hby d172_19) rfl kk) ?_
  refine Go.of (t' := T2.setTop (mkF m 21 #[.val (.ref a1), .val (.ref x2), .val (.int (2 : Int32))] [(.int (10 : Int32)), (.ref a1)])) (fun _ kk => XS.iadd W2.here hx rfl (hb hby d172_20) rfl kk) ?_
  refine W2.callW hx hEL (hw _ (List.mem_of_getElem? (i := 77) rfl)) (hw _ (List.mem_of_getElem? (i := 80) rfl)) (hw _ (List.mem_of_getElem? (i := 78) rfl)) (hw _ (List.mem_of_getElem? (i := 44) rfl)) (hw _ (List.mem_of_getElem? (i := 81) rfl)) (by decide +kernel) Eb (a := a1) (argsL := [(.int (10 : Int32))]) (rest := []) (rm23 l Z a0 hw hEL zc SC hzc fm SF rfm a1 t kc by1 by2 by3 by4 by5 by6 by7 by8 by9 by10 by11 by12 by13 by14 by15 by16 h0 W2.old Eb Fvp Fcp Ab) all0 (by decide +kernel) (Wd := 0) (by decide +kernel) (by decide +kernel) (by decide +kernel) all0 rfl (by rw [hml]; rfl) (lenOf pd0 rfl) rfl (by show 2 * 0 + _ ≤ _; exact Nat.le_of_eq rfl) (hb hby d172_21) (fun T3 h3 v3 P3 Ws3 K3 q3 => ?_)
  have W3 := Ws3 [] all0
  obtain ⟨rfl, rfl⟩ := q3
  show Go p e below _ (T3.setTop (mkF m 24 #[.val (.ref a1), .val (.ref x2), .val (.int (2 : Int32))] []))
  refine Go.of (t' := T3.setTop (mkF m 25 #[.val (.ref a1), .val (.ref x2), .val (.int (2 : Int32))] [(.ref a1)])) (fun _ kk => XS.aloadN W3.here hx rfl (hb hby d172_24) rfl rfl kk) ?_
  refine Go.of (t' := T3.setTop (mkF m 26 #[.val (.ref a1), .val (.ref x2), .val (.int (2 : Int32))] [(.ref a1), (.ref a1)])) (fun _ kk => XS.aloadN W3.here hx rfl (hb hby d172_25) rfl rfl kk) ?_
  refine W3.getF hx (host := "") (Or.inl (hw _ (List.mem_of_getElem? (i := 75) rfl))) Via.refl Fnp rfl rfl (hb hby d172_26) (fun T4 W4 => ?_)
  show Go p e below _ (T4.setTop (mkF m 29 #[.val (.ref a1), .val (.ref x2), .val (.int (2 : Int32))] [(.int (8 : Int32)), (.ref a1)]))
  refine Go.of (t' := T4.setTop (mkF m 30 #[.val (.ref a1), .val (.ref x2), .val (.int (2 : Int32))] [(.ref x2), (.int (8 : Int32)), (.ref a1)])) (fun _ kk => XS.aloadN W4.here hx rfl (hb hby d172_29) rfl rfl kk) ?_
  refine W4.callW hx hEL (hw _ (List.mem_of_getElem? (i := 82) rfl)) (hw _ (List.mem_of_getElem? (i := 85) rfl)) (hw _ (List.mem_of_getElem? (i := 83) rfl)) (hw _ (List.mem_of_getElem? (i := 44) rfl)) (hw _ (List.mem_of_getElem? (i := 86) rfl)) (by decide +kernel) Eb (a := a1) (argsL := [(.int (8 : Int32)), (.ref x2)]) (rest := []) (rm171 l Z a0 hw hEL zc SC hzc fm SF rfm a1 x2 t kc by1 by2 by3 by4 by5 by6 by7 by8 by9 by10 by11 by12 by13 by14 by15 by16 q1 q2 h0 W4.old Eb Fvp Fcp Ab g2 Sa cq1 cq2) (allS (List.mem_of_getElem? (i := 0) rfl) all0) (by decide +kernel) (Wd := 0) (by decide +kernel) (by decide +kernel) (by decide +kernel) (allS ⟨g2, (Or.inl (List.mem_of_getElem? (i := 1) rfl))⟩ all0) rfl (by rw [hml]; rfl) (lenOf pd5 rfl) rfl (by show 2 * 0 + _ ≤ _; exact Nat.le_of_eq rfl) (hb hby d172_30) (fun T5 h5 v5 P5 Ws5 K5 q5 => ?_)
  have W5 := Ws5 [] all0
  obtain ⟨rfl, A5⟩ := q5
  show Go p e below _ (T5.setTop (mkF m 33 #[.val (.ref a1), .val (.ref x2), .val (.int (2 : Int32))] []))
  refine Go.of (t' := T5.setTop (mkF m 34 #[.val (.ref a1), .val (.ref x2), .val (.int (2 : Int32))] [(.ref a1)])) (fun _ kk => XS.aloadN W5.here hx rfl (hb hby d172_33) rfl rfl kk) ?_
  refine Go.of (t' := T5.setTop (mkF m 35 #[.val (.ref a1), .val (.ref x2), .val (.int (2 : Int32))] [(.ref a1), (.ref a1)])) (fun _ kk => XS.dup W5.here hx rfl (hb hby d172_34) rfl rfl kk) ?_
  have k6 := (Fnp.keep K5 (ninS nat nin0))
  refine W5.getF hx (host := "") (Or.inl (hw _ (List.mem_of_getElem? (i := 75) rfl))) Via.refl k6 rfl rfl (hb hby d172_35) (fun T7 W7 => ?_)
  show Go p e below _ (T7.setTop (mkF m 38 #[.val (.ref a1), .val (.ref x2), .val (.int (2 : Int32))] [(.int (8 : Int32)), (.ref a1)]))
  refine Go.of (t' := T7.setTop (mkF m 39 #[.val (.ref a1), .val (.ref x2), .val (.int (2 : Int32))] [(.int (2 : Int32)), (.int (8 : Int32)), (.ref a1)])) (fun _ kk => XS.iloadN W7.here hx rfl (hb hby d172_38) rfl kk) ?_
  refine Go.of (t' := T7.setTop (mkF m 40 #[.val (.ref a1), .val (.ref x2), .val (.int (2 : Int32))] [(.int (10 : Int32)), (.ref a1)])) (fun _ kk => XS.iadd W7.here hx rfl (hb hby d172_39) rfl kk) ?_
  have k8 := (Eb.keep K5)
  refine W7.putF hx (host := "") (Or.inl (hw _ (List.mem_of_getElem? (i := 75) rfl))) Via.refl k6 k8 (Or.inl (hw _ (List.mem_of_getElem? (i := 76) rfl))) (hw _ (List.mem_of_getElem? (i := 35) rfl)) (ty := .int) (by decide +kernel) rfl rfl g1 (Or.inl (List.mem_of_getElem? (i := 0) rfl)) (Or.inr ⟨by decide, by decide⟩) rfl rfl (hb hby d172_40) (fun T9 h9 W9 w9 => ?_)
  have k10 := (Fvp.keep K5 (ninS nat nin0))
  have k11 := (Fcp.keep K5 (ninS nat nin0))
  have K9 := Keep.of_wr w9
  have k12 := k10.other w9 (Or.inr (slot_ne (Or.inl (hw _ (List.mem_of_getElem? (i := 49) rfl))) (Or.inl (hw _ (List.mem_of_getElem? (i := 76) rfl))) (by decide +kernel) (t := (.array .byte)) (t' := .int) (by decide +kernel) (by decide +kernel)))
  have k13 := k11.other w9 (Or.inr (slot_ne (Or.inl (hw _ (List.mem_of_getElem? (i := 51) rfl))) (Or.inl (hw _ (List.mem_of_getElem? (i := 76) rfl))) (by decide +kernel) (t := .byte) (t' := .int) (by decide +kernel) (by decide +kernel)))
  have k14 := k6.same w9
  show Go p e below _ (T9.setTop (mkF m 43 #[.val (.ref a1), .val (.ref x2), .val (.int (2 : Int32))] []))
  refine Go.of (t' := T9.setTop (mkF m 44 #[.val (.ref a1), .val (.ref x2), .val (.int (2 : Int32))] [(.ref a1)])) (fun _ kk => XS.aloadN W9.here hx rfl (hb hby d172_43) rfl rfl kk) ?_
  have k15 := (A5.keep K9 (ninS (nat).symm nin0))
  exact W9.retA hx hEL hs hlk (by decide +kernel) (by decide +kernel) hret rfl rfl (hb hby d172_44) (fun S hS => ⟨rfl, k12, k13, k14, k15⟩)
theorem d173_0 : decode jdk_67_method_7_code 0 = .ok (.aload_n 0, 1) := by decide +kernel
theorem d173_1 : decode jdk_67_method_7_code 1 = .ok (.aload_n 1, 1) := by decide +kernel
theorem d173_2 : decode jdk_67_method_7_code 2 = .ok (.invokespecial 29, 3) := by decide +kernel
theorem d173_5 : decode jdk_67_method_7_code 5 = .ok (.pop, 1) := by decide +kernel
theorem d173_6 : decode jdk_67_method_7_code 6 = .ok (.aload_n 0, 1) := by decide +kernel
theorem d173_7 : decode jdk_67_method_7_code 7 = .ok (.areturn, 1) := by decide +kernel
theorem ef173 (m : MethodId) (x0 : Addr) (x1 : Addr)  : entryFrame m #[(.ref x0), (.ref x1)] 2 = mkF m 0 #[.val (.ref x0), .val (.ref x1)] [] := by first | (simp [entryFrame, mkF, argsToLocals, Value.category]; done) | rfl | rfl
set_option maxRecDepth 65536 in
set_option maxHeartbeats 40000000 in
theorem rm173 (l : Launch) (Z : State) (a0 : Array Value) (hw : ∀ d ∈ tables_1, d.before a0 Z = true) (hEL : EW Z a0 EL0) (zc : Int32) (SC : Sta Z Z.heap "java/lang/String" "COMPACT_STRINGS" "Z" (.int zc)) (hzc : ¬ zc = 0) (fm : Value) (SF : Sta Z Z.heap "jdk/internal/util/Preconditions" "SIOOBE_FORMATTER" "Ljava/util/function/BiFunction;" fm) (rfm : fm.isRef = true) (a1 : Addr) (x2 : Addr) (t : Addr) (kc : ClassId) (by1 : Int32) (by2 : Int32) (by3 : Int32) (by4 : Int32) (by5 : Int32) (by6 : Int32) (by7 : Int32) (by8 : Int32) (by9 : Int32) (by10 : Int32) (by11 : Int32) (by12 : Int32) (by13 : Int32) (by14 : Int32) (by15 : Int32) (by16 : Int32) (q1 : Int32) (q2 : Int32) (h0 : Heap) {n0 : Nat} (O0 : Old Z n0 h0) (Eb : Exa Z h0 a1 "java/lang/StringBuilder") (Fvp : Fld Z h0 a1 "java/lang/AbstractStringBuilder" "value" "[B" (.ref t)) (Fcp : Fld Z h0 a1 "java/lang/AbstractStringBuilder" "coder" "B" (.int (0 : Int32))) (Fnp : Fld Z h0 a1 "java/lang/AbstractStringBuilder" "count" "I" (.int (8 : Int32))) (Ab : Arv Z h0 t kc .byte (16 : Int32) [(.int by1), (.int by2), (.int by3), (.int by4), (.int by5), (.int by6), (.int by7), (.int by8), (.int by9), (.int by10), (.int by11), (.int by12), (.int by13), (.int by14), (.int by15), (.int by16)] (.int (0 : Int32))) (g1 : n0 ≤ a1) (g2 : n0 ≤ t) (nat : a1 ≠ t) (Sa : Str Z h0 x2 [q1, q2]) (cq1 : ¬ q1 < 0 ∧ ¬ (255 : Int32) < q1) (cq2 : ¬ q2 < 0 ∧ ¬ (255 : Int32) < q2) :
    Met l Z EL0 n0 (⟨"java/lang/StringBuilder", "append", "(Ljava/lang/String;)Ljava/lang/StringBuilder;"⟩ : MethodName) jdk_67_method_7_code 2 (some (.object "java/lang/StringBuilder")) [] ({ frames := 4, cells := 0, slots := 0, locals := 61 } : Room) #[(.ref a1), (.ref x2)] h0 [a1, t] [t] (fun v h' S => v = some (.ref a1) ∧ Fld Z h' a1 "java/lang/AbstractStringBuilder" "value" "[B" (.ref t) ∧ Fld Z h' a1 "java/lang/AbstractStringBuilder" "coder" "B" (.int (0 : Int32)) ∧ Fld Z h' a1 "java/lang/AbstractStringBuilder" "count" "I" (.int (10 : Int32)) ∧ Arv Z h' t kc .byte (16 : Int32) [(.int by1), (.int by2), (.int by3), (.int by4), (.int by5), (.int by6), (.int by7), (.int by8), (.int (StrChars.lo8 q1)), (.int (StrChars.lo8 q2)), (.int by11), (.int by12), (.int by13), (.int by14), (.int by15), (.int by16)] (.int (0 : Int32))) := by
  refine Met.of (plainFor_of_name pn1) O0 ?_
  intro p e s m below meth c T0 hx hby hml hret hlk hnm hs W0
  have W0 : Wk p l e _ s m _ below meth c Z EL0 n0 [a1, t] "java/lang/StringBuilder" [t] T0 0 0 h0 := W0
  have hSA := fun d hd => hw d (sa_in d hd)
  have hws := fun d hd => hw d (ws_in d hd)
  have hln := fun d hd => hw d (ln_in d hd)
  have heq := fun d hd => hw d (eq_in d hd)
  refine Go.of (fun _ kk => castTop (ef173 m a1 x2) kk) ?_
  show Go p e below _ (T0.setTop (mkF m 0 #[.val (.ref a1), .val (.ref x2)] []))
  refine Go.of (t' := T0.setTop (mkF m 1 #[.val (.ref a1), .val (.ref x2)] [(.ref a1)])) (fun _ kk => XS.aloadN W0.here hx rfl (hb hby d173_0) rfl rfl kk) ?_
  refine Go.of (t' := T0.setTop (mkF m 2 #[.val (.ref a1), .val (.ref x2)] [(.ref x2), (.ref a1)])) (fun _ kk => XS.aloadN W0.here hx rfl (hb hby d173_1) rfl rfl kk) ?_
  refine W0.callU hx hEL (hw _ (List.mem_of_getElem? (i := 60) rfl)) (hw _ (List.mem_of_getElem? (i := 62) rfl)) (hw _ (List.mem_of_getElem? (i := 80) rfl)) rfl (by decide +kernel) (hw _ (List.mem_of_getElem? (i := 61) rfl)) (hw _ (List.mem_of_getElem? (i := 44) rfl)) (hw _ (List.mem_of_getElem? (i := 64) rfl)) (by decide +kernel) Eb (a := a1) (argsL := [(.ref x2)]) (rest := []) (rm172 l Z a0 hw hEL zc SC hzc fm SF rfm a1 x2 t kc by1 by2 by3 by4 by5 by6 by7 by8 by9 by10 by11 by12 by13 by14 by15 by16 q1 q2 h0 W0.old Eb Fvp Fcp Fnp Ab g1 g2 nat Sa cq1 cq2) (allS (List.mem_of_getElem? (i := 0) rfl) all0) (by decide +kernel) (Wd := 0) (by decide +kernel) (by decide +kernel) (by decide +kernel) (allS ⟨g1, (Or.inl (List.mem_of_getElem? (i := 0) rfl))⟩ (allS ⟨g2, (Or.inl (List.mem_of_getElem? (i := 1) rfl))⟩ all0)) rfl (by rw [hml]; rfl) (lenOf pd6 rfl) rfl (by show 2 * 0 + _ ≤ _; exact Nat.le_of_eq rfl) (hb hby d173_2) (fun T1 h1 v1 P1 Ws1 K1 q1 => ?_)
  have W1 := Ws1 [] all0
  obtain ⟨rfl, Fv1, Fc1, Fn1, A1⟩ := q1
  show Go p e below _ (T1.setTop (mkF m 5 #[.val (.ref a1), .val (.ref x2)] [(.ref a1)]))
  refine Go.of (t' := T1.setTop (mkF m 6 #[.val (.ref a1), .val (.ref x2)] [])) (fun _ kk => XS.pop W1.here hx rfl (hb hby d173_5) rfl rfl kk) ?_
  refine Go.of (t' := T1.setTop (mkF m 7 #[.val (.ref a1), .val (.ref x2)] [(.ref a1)])) (fun _ kk => XS.aloadN W1.here hx rfl (hb hby d173_6) rfl rfl kk) ?_
  exact W1.retA hx hEL hs hlk (by decide +kernel) (by decide +kernel) hret rfl rfl (hb hby d173_7) (fun S hS => ⟨rfl, Fv1, Fc1, Fn1, A1⟩)
theorem d200_0 : decode jdk_65_method_133_code 0 = .ok (.iload_n 1, 1) := by decide +kernel
theorem d200_1 : decode jdk_65_method_133_code 1 = .ok (.iload_n 2, 1) := by decide +kernel
theorem d200_2 : decode jdk_65_method_133_code 2 = .ok (.invokestatic 343, 3) := by decide +kernel
theorem d200_5 : decode jdk_65_method_133_code 5 = .ok (.iload_n 2, 1) := by decide +kernel
theorem d200_6 : decode jdk_65_method_133_code 6 = .ok (.iload_n 1, 1) := by decide +kernel
theorem d200_7 : decode jdk_65_method_133_code 7 = .ok (.isub, 1) := by decide +kernel
theorem d200_8 : decode jdk_65_method_133_code 8 = .ok (.istore_n 3, 1) := by decide +kernel
theorem d200_9 : decode jdk_65_method_133_code 9 = .ok (.iload_n 3, 1) := by decide +kernel
theorem d200_10 : decode jdk_65_method_133_code 10 = .ok (.newarray .byte, 2) := by decide +kernel
theorem d200_12 : decode jdk_65_method_133_code 12 = .ok (.astore 4, 2) := by decide +kernel
theorem d200_14 : decode jdk_65_method_133_code 14 = .ok (.aload_n 0, 1) := by decide +kernel
theorem d200_15 : decode jdk_65_method_133_code 15 = .ok (.iload_n 1, 1) := by decide +kernel
theorem d200_16 : decode jdk_65_method_133_code 16 = .ok (.aload 4, 2) := by decide +kernel
theorem d200_18 : decode jdk_65_method_133_code 18 = .ok (.iconst 0, 1) := by decide +kernel
theorem d200_19 : decode jdk_65_method_133_code 19 = .ok (.aload_n 0, 1) := by decide +kernel
theorem d200_20 : decode jdk_65_method_133_code 20 = .ok (.arraylength, 1) := by decide +kernel
theorem d200_21 : decode jdk_65_method_133_code 21 = .ok (.iload_n 1, 1) := by decide +kernel
theorem d200_22 : decode jdk_65_method_133_code 22 = .ok (.isub, 1) := by decide +kernel
theorem d200_23 : decode jdk_65_method_133_code 23 = .ok (.iload_n 3, 1) := by decide +kernel
theorem d200_24 : decode jdk_65_method_133_code 24 = .ok (.invokestatic 304, 3) := by decide +kernel
theorem d200_27 : decode jdk_65_method_133_code 27 = .ok (.invokestatic 150, 3) := by decide +kernel
theorem d200_30 : decode jdk_65_method_133_code 30 = .ok (.aload 4, 2) := by decide +kernel
theorem d200_32 : decode jdk_65_method_133_code 32 = .ok (.areturn, 1) := by decide +kernel
theorem ef200 (m : MethodId) (x0 : Addr) (x1 : Int32) (x2 : Int32)  : entryFrame m #[(.ref x0), (.int x1), (.int x2)] 5 = mkF m 0 #[.val (.ref x0), .val (.int x1), .val (.int x2), .unset, .unset] [] := by first | (simp [entryFrame, mkF, argsToLocals, Value.category]; done) | rfl | rfl
set_option maxRecDepth 65536 in
set_option maxHeartbeats 40000000 in
theorem rm200 (l : Launch) (Z : State) (a0 : Array Value) (hw : ∀ d ∈ tables_1, d.before a0 Z = true) (hEL : EW Z a0 EL0) (zc : Int32) (SC : Sta Z Z.heap "java/lang/String" "COMPACT_STRINGS" "Z" (.int zc)) (hzc : ¬ zc = 0) (fm : Value) (SF : Sta Z Z.heap "jdk/internal/util/Preconditions" "SIOOBE_FORMATTER" "Ljava/util/function/BiFunction;" fm) (rfm : fm.isRef = true) (t : Addr) (kc : ClassId) (by1 : Int32) (by2 : Int32) (by3 : Int32) (by4 : Int32) (by5 : Int32) (by6 : Int32) (by7 : Int32) (by8 : Int32) (by9 : Int32) (by10 : Int32) (by11 : Int32) (by12 : Int32) (by13 : Int32) (by14 : Int32) (by15 : Int32) (by16 : Int32) (h0 : Heap) {n0 : Nat} (O0 : Old Z n0 h0) (Ab : Arv Z h0 t kc .byte (16 : Int32) [(.int by1), (.int by2), (.int by3), (.int by4), (.int by5), (.int by6), (.int by7), (.int by8), (.int by9), (.int by10), (.int by11), (.int by12), (.int by13), (.int by14), (.int by15), (.int by16)] (.int (0 : Int32))) :
    Met l Z EL0 n0 (⟨"java/util/Arrays", "copyOfRangeByte", "([BII)[B"⟩ : MethodName) jdk_65_method_133_code 5 (some (.array .byte)) [] ({ frames := 1, cells := 1, slots := 13, locals := 18 } : Room) #[(.ref t), (.int (0 : Int32)), (.int (13 : Int32))] h0 [] [] (fun v h' S => ∃ (r : Addr) (kc : ClassId), v = some (.ref r) ∧ h0.size ≤ r ∧ Arv Z h' r kc .byte (13 : Int32) [(.int by1), (.int by2), (.int by3), (.int by4), (.int by5), (.int by6), (.int by7), (.int by8), (.int by9), (.int by10), (.int by11), (.int by12), (.int by13)] (.int (0 : Int32))) := by
  refine Met.of (plainFor_of_name pn3) O0 ?_
  intro p e s m below meth c T0 hx hby hml hret hlk hnm hs W0
  have W0 : Wk p l e _ s m _ below meth c Z EL0 n0 [] "java/util/Arrays" [] T0 0 0 h0 := W0
  have hSA := fun d hd => hw d (sa_in d hd)
  have hws := fun d hd => hw d (ws_in d hd)
  have hln := fun d hd => hw d (ln_in d hd)
  have heq := fun d hd => hw d (eq_in d hd)
  refine Go.of (fun _ kk => castTop (ef200 m t (0 : Int32) (13 : Int32)) kk) ?_
  show Go p e below _ (T0.setTop (mkF m 0 #[.val (.ref t), .val (.int (0 : Int32)), .val (.int (13 : Int32)), .unset, .unset] []))
  refine Go.of (t' := T0.setTop (mkF m 1 #[.val (.ref t), .val (.int (0 : Int32)), .val (.int (13 : Int32)), .unset, .unset] [(.int (0 : Int32))])) (fun _ kk => XS.iloadN W0.here hx rfl (hb hby d200_0) rfl kk) ?_
  refine Go.of (t' := T0.setTop (mkF m 2 #[.val (.ref t), .val (.int (0 : Int32)), .val (.int (13 : Int32)), .unset, .unset] [(.int (13 : Int32)), (.int (0 : Int32))])) (fun _ kk => XS.iloadN W0.here hx rfl (hb hby d200_1) rfl kk) ?_
  refine W0.callS hx hEL (hw _ (List.mem_of_getElem? (i := 141) rfl)) (hw _ (List.mem_of_getElem? (i := 142) rfl)) (hw _ (List.mem_of_getElem? (i := 136) rfl)) (hw _ (List.mem_of_getElem? (i := 143) rfl)) (by decide +kernel) (argsL := [(.int (0 : Int32)), (.int (13 : Int32))]) (rest := []) (rm6 l Z a0 hw hEL zc SC hzc fm SF rfm (0 : Int32) (13 : Int32) h0 W0.old (by decide +kernel)) all0 (by decide +kernel) (Wd := 0) (by decide +kernel) (by decide +kernel) (by decide +kernel) all0 rfl (by rw [hml]; rfl) (lenOf pd7 rfl) rfl (by show 2 * 0 + _ ≤ _; exact Nat.le_of_eq rfl) (hb hby d200_2) (fun T1 h1 v1 P1 Ws1 K1 q1 => ?_)
  have W1 := Ws1 [] all0
  obtain ⟨rfl, rfl⟩ := q1
  show Go p e below _ (T1.setTop (mkF m 5 #[.val (.ref t), .val (.int (0 : Int32)), .val (.int (13 : Int32)), .unset, .unset] []))
  refine Go.of (t' := T1.setTop (mkF m 6 #[.val (.ref t), .val (.int (0 : Int32)), .val (.int (13 : Int32)), .unset, .unset] [(.int (13 : Int32))])) (fun _ kk => XS.iloadN W1.here hx rfl (hb hby d200_5) rfl kk) ?_
  refine Go.of (t' := T1.setTop (mkF m 7 #[.val (.ref t), .val (.int (0 : Int32)), .val (.int (13 : Int32)), .unset, .unset] [(.int (0 : Int32)), (.int (13 : Int32))])) (fun _ kk => XS.iloadN W1.here hx rfl (hb hby d200_6) rfl kk) ?_
  refine Go.of (t' := T1.setTop (mkF m 8 #[.val (.ref t), .val (.int (0 : Int32)), .val (.int (13 : Int32)), .unset, .unset] [(.int (13 : Int32))])) (fun _ kk => XS.isub W1.here hx rfl (hb hby d200_7) rfl kk) ?_
  refine Go.of (t' := T1.setTop (mkF m 9 #[.val (.ref t), .val (.int (0 : Int32)), .val (.int (13 : Int32)), .val (.int (13 : Int32)), .unset] [])) (fun _ kk => XS.istoreN W1.here hx rfl (hb hby d200_8) rfl (l' := #[.val (.ref t), .val (.int (0 : Int32)), .val (.int (13 : Int32)), .val (.int (13 : Int32)), .unset]) rfl kk) ?_
  refine Go.of (t' := T1.setTop (mkF m 10 #[.val (.ref t), .val (.int (0 : Int32)), .val (.int (13 : Int32)), .val (.int (13 : Int32)), .unset] [(.int (13 : Int32))])) (fun _ kk => XS.iloadN W1.here hx rfl (hb hby d200_9) rfl kk) ?_
  refine W1.newP hx (hw _ (List.mem_of_getElem? (i := 19) rfl)) rfl (hb hby d200_10) rfl (by decide +kernel) (cap := 13) (by decide +kernel) (by decide +kernel) (by decide +kernel) (by decide +kernel) (fun T2 h2 b2 c2 eb2 gb2 W2 K2 A2 => ?_)
  have V2 : Arv Z h2 b2 c2 .byte (13 : Int32) [(.int (0 : Int32)), (.int (0 : Int32)), (.int (0 : Int32)), (.int (0 : Int32)), (.int (0 : Int32)), (.int (0 : Int32)), (.int (0 : Int32)), (.int (0 : Int32)), (.int (0 : Int32)), (.int (0 : Int32)), (.int (0 : Int32)), (.int (0 : Int32)), (.int (0 : Int32))] (.int (0 : Int32)) := A2
  show Go p e below _ (T2.setTop (mkF m 12 #[.val (.ref t), .val (.int (0 : Int32)), .val (.int (13 : Int32)), .val (.int (13 : Int32)), .unset] [(.ref b2)]))
  refine Go.of (t' := T2.setTop (mkF m 14 #[.val (.ref t), .val (.int (0 : Int32)), .val (.int (13 : Int32)), .val (.int (13 : Int32)), .val (.ref b2)] [])) (fun _ kk => XS.astore W2.here hx rfl (hb hby d200_12) rfl rfl (l' := #[.val (.ref t), .val (.int (0 : Int32)), .val (.int (13 : Int32)), .val (.int (13 : Int32)), .val (.ref b2)]) rfl kk) ?_
  refine Go.of (t' := T2.setTop (mkF m 15 #[.val (.ref t), .val (.int (0 : Int32)), .val (.int (13 : Int32)), .val (.int (13 : Int32)), .val (.ref b2)] [(.ref t)])) (fun _ kk => XS.aloadN W2.here hx rfl (hb hby d200_14) rfl rfl kk) ?_
  refine Go.of (t' := T2.setTop (mkF m 16 #[.val (.ref t), .val (.int (0 : Int32)), .val (.int (13 : Int32)), .val (.int (13 : Int32)), .val (.ref b2)] [(.int (0 : Int32)), (.ref t)])) (fun _ kk => XS.iloadN W2.here hx rfl (hb hby d200_15) rfl kk) ?_
  refine Go.of (t' := T2.setTop (mkF m 18 #[.val (.ref t), .val (.int (0 : Int32)), .val (.int (13 : Int32)), .val (.int (13 : Int32)), .val (.ref b2)] [(.ref b2), (.int (0 : Int32)), (.ref t)])) (fun _ kk => XS.aload W2.here hx rfl (hb hby d200_16) rfl rfl kk) ?_
  refine Go.of (t' := T2.setTop (mkF m 19 #[.val (.ref t), .val (.int (0 : Int32)), .val (.int (13 : Int32)), .val (.int (13 : Int32)), .val (.ref b2)] [(.int (0 : Int32)), (.ref b2), (.int (0 : Int32)), (.ref t)])) (fun _ kk => XS.iconst W2.here hx rfl (hb hby d200_18) kk) ?_
  refine Go.of (t' := T2.setTop (mkF m 20 #[.val (.ref t), .val (.int (0 : Int32)), .val (.int (13 : Int32)), .val (.int (13 : Int32)), .val (.ref b2)] [(.ref t), (.int (0 : Int32)), (.ref b2), (.int (0 : Int32)), (.ref t)])) (fun _ kk => XS.aloadN W2.here hx rfl (hb hby d200_19) rfl rfl kk) ?_
  have k3 := (Ab.keep K2 nin0)
  refine W2.alen hx k3 rfl rfl (hb hby d200_20) ?_
  show Go p e below _ (T2.setTop (mkF m 21 #[.val (.ref t), .val (.int (0 : Int32)), .val (.int (13 : Int32)), .val (.int (13 : Int32)), .val (.ref b2)] [(.int (16 : Int32)), (.int (0 : Int32)), (.ref b2), (.int (0 : Int32)), (.ref t)]))
  refine Go.of (t' := T2.setTop (mkF m 22 #[.val (.ref t), .val (.int (0 : Int32)), .val (.int (13 : Int32)), .val (.int (13 : Int32)), .val (.ref b2)] [(.int (0 : Int32)), (.int (16 : Int32)), (.int (0 : Int32)), (.ref b2), (.int (0 : Int32)), (.ref t)])) (fun _ kk => XS.iloadN W2.here hx rfl (hb hby d200_21) rfl kk) ?_
  refine Go.of (t' := T2.setTop (mkF m 23 #[.val (.ref t), .val (.int (0 : Int32)), .val (.int (13 : Int32)), .val (.int (13 : Int32)), .val (.ref b2)] [(.int (16 : Int32)), (.int (0 : Int32)), (.ref b2), (.int (0 : Int32)), (.ref t)])) (fun _ kk => XS.isub W2.here hx rfl (hb hby d200_22) rfl kk) ?_
  refine Go.of (t' := T2.setTop (mkF m 24 #[.val (.ref t), .val (.int (0 : Int32)), .val (.int (13 : Int32)), .val (.int (13 : Int32)), .val (.ref b2)] [(.int (13 : Int32)), (.int (16 : Int32)), (.int (0 : Int32)), (.ref b2), (.int (0 : Int32)), (.ref t)])) (fun _ kk => XS.iloadN W2.here hx rfl (hb hby d200_23) rfl kk) ?_
  refine W2.callS hx hEL (hw _ (List.mem_of_getElem? (i := 144) rfl)) (hw _ (List.mem_of_getElem? (i := 145) rfl)) (hw _ (List.mem_of_getElem? (i := 146) rfl)) (hw _ (List.mem_of_getElem? (i := 147) rfl)) (by decide +kernel) (argsL := [(.int (16 : Int32)), (.int (13 : Int32))]) (rest := [(.int (0 : Int32)), (.ref b2), (.int (0 : Int32)), (.ref t)]) (rm5 l Z a0 hw hEL zc SC hzc fm SF rfm (16 : Int32) (13 : Int32) h2 W2.old (by decide +kernel)) all0 (by decide +kernel) (Wd := 4) (by decide +kernel) (by decide +kernel) (by decide +kernel) all0 rfl (by rw [hml]; rfl) (lenOf pd8 rfl) rfl (by show 2 * 0 + _ ≤ _; exact Nat.le_of_eq rfl) (hb hby d200_24) (fun T4 h4 v4 P4 Ws4 K4 q4 => ?_)
  have W4 := Ws4 [] all0
  obtain ⟨rfl, rfl⟩ := q4
  show Go p e below _ (T4.setTop (mkF m 27 #[.val (.ref t), .val (.int (0 : Int32)), .val (.int (13 : Int32)), .val (.int (13 : Int32)), .val (.ref b2)] [(.int (13 : Int32)), (.int (0 : Int32)), (.ref b2), (.int (0 : Int32)), (.ref t)]))
  refine W4.cp hx (hw _ (List.mem_of_getElem? (i := 148) rfl)) (hw _ (List.mem_of_getElem? (i := 101) rfl)) (hw _ (List.mem_of_getElem? (i := 99) rfl)) (hw _ (List.mem_of_getElem? (i := 100) rfl)) (us := [(.int by1), (.int by2), (.int by3), (.int by4), (.int by5), (.int by6), (.int by7), (.int by8), (.int by9), (.int by10), (.int by11), (.int by12), (.int by13)]) k3 V2 rfl (by decide) (by decide) (by decide) (by decide) (by decide) rfl (Nat.le_of_ble_eq_true rfl) gb2.1 (Or.inr gb2.2) (List.mem_of_getElem? (i := 0) rfl) rfl (by rw [hml]; rfl) rfl (hb hby d200_27) (by decide +kernel) (Wd := 0) (by show 2 * 0 + _ ≤ _; exact Nat.le_of_eq rfl) (by decide +kernel) (fun T5 h5 W5 K5 A5 => ?_)
  have V5 : Arv Z h5 b2 c2 .byte (13 : Int32) [(.int by1), (.int by2), (.int by3), (.int by4), (.int by5), (.int by6), (.int by7), (.int by8), (.int by9), (.int by10), (.int by11), (.int by12), (.int by13)] (.int (0 : Int32)) := A5
  show Go p e below _ (T5.setTop (mkF m 30 #[.val (.ref t), .val (.int (0 : Int32)), .val (.int (13 : Int32)), .val (.int (13 : Int32)), .val (.ref b2)] []))
  refine Go.of (t' := T5.setTop (mkF m 32 #[.val (.ref t), .val (.int (0 : Int32)), .val (.int (13 : Int32)), .val (.int (13 : Int32)), .val (.ref b2)] [(.ref b2)])) (fun _ kk => XS.aload W5.here hx rfl (hb hby d200_30) rfl rfl kk) ?_
  exact W5.retA hx hEL hs hlk (by decide +kernel) (by decide +kernel) hret rfl rfl (hb hby d200_32) (fun S hS => ⟨b2, c2, rfl, hs ▸ gb2.2, V5⟩)
theorem d201_0 : decode jdk_65_method_132_code 0 = .ok (.iload_n 1, 1) := by decide +kernel
theorem d201_1 : decode jdk_65_method_132_code 1 = .ok (.ifCond .ne 9, 3) := by decide +kernel
theorem d201_4 : decode jdk_65_method_132_code 4 = .ok (.iload_n 2, 1) := by decide +kernel
theorem d201_5 : decode jdk_65_method_132_code 5 = .ok (.aload_n 0, 1) := by decide +kernel
theorem d201_6 : decode jdk_65_method_132_code 6 = .ok (.arraylength, 1) := by decide +kernel
theorem d201_7 : decode jdk_65_method_132_code 7 = .ok (.if_icmp .eq 10, 3) := by decide +kernel
theorem d201_10 : decode jdk_65_method_132_code 10 = .ok (.aload_n 0, 1) := by decide +kernel
theorem d201_11 : decode jdk_65_method_132_code 11 = .ok (.iload_n 1, 1) := by decide +kernel
theorem d201_12 : decode jdk_65_method_132_code 12 = .ok (.iload_n 2, 1) := by decide +kernel
theorem d201_13 : decode jdk_65_method_132_code 13 = .ok (.invokestatic 339, 3) := by decide +kernel
theorem d201_16 : decode jdk_65_method_132_code 16 = .ok (.areturn, 1) := by decide +kernel
theorem ef201 (m : MethodId) (x0 : Addr) (x1 : Int32) (x2 : Int32)  : entryFrame m #[(.ref x0), (.int x1), (.int x2)] 3 = mkF m 0 #[.val (.ref x0), .val (.int x1), .val (.int x2)] [] := by first | (simp [entryFrame, mkF, argsToLocals, Value.category]; done) | rfl | rfl
set_option maxRecDepth 65536 in
set_option maxHeartbeats 40000000 in
theorem rm201 (l : Launch) (Z : State) (a0 : Array Value) (hw : ∀ d ∈ tables_1, d.before a0 Z = true) (hEL : EW Z a0 EL0) (zc : Int32) (SC : Sta Z Z.heap "java/lang/String" "COMPACT_STRINGS" "Z" (.int zc)) (hzc : ¬ zc = 0) (fm : Value) (SF : Sta Z Z.heap "jdk/internal/util/Preconditions" "SIOOBE_FORMATTER" "Ljava/util/function/BiFunction;" fm) (rfm : fm.isRef = true) (t : Addr) (kc : ClassId) (by1 : Int32) (by2 : Int32) (by3 : Int32) (by4 : Int32) (by5 : Int32) (by6 : Int32) (by7 : Int32) (by8 : Int32) (by9 : Int32) (by10 : Int32) (by11 : Int32) (by12 : Int32) (by13 : Int32) (by14 : Int32) (by15 : Int32) (by16 : Int32) (h0 : Heap) {n0 : Nat} (O0 : Old Z n0 h0) (Ab : Arv Z h0 t kc .byte (16 : Int32) [(.int by1), (.int by2), (.int by3), (.int by4), (.int by5), (.int by6), (.int by7), (.int by8), (.int by9), (.int by10), (.int by11), (.int by12), (.int by13), (.int by14), (.int by15), (.int by16)] (.int (0 : Int32))) :
    Met l Z EL0 n0 (⟨"java/util/Arrays", "copyOfRange", "([BII)[B"⟩ : MethodName) jdk_65_method_132_code 3 (some (.array .byte)) [] ({ frames := 2, cells := 1, slots := 13, locals := 34 } : Room) #[(.ref t), (.int (0 : Int32)), (.int (13 : Int32))] h0 [] [] (fun v h' S => ∃ (r : Addr) (kc : ClassId), v = some (.ref r) ∧ h0.size ≤ r ∧ Arv Z h' r kc .byte (13 : Int32) [(.int by1), (.int by2), (.int by3), (.int by4), (.int by5), (.int by6), (.int by7), (.int by8), (.int by9), (.int by10), (.int by11), (.int by12), (.int by13)] (.int (0 : Int32))) := by
  refine Met.of (plainFor_of_name pn3) O0 ?_
  intro p e s m below meth c T0 hx hby hml hret hlk hnm hs W0
  have W0 : Wk p l e _ s m _ below meth c Z EL0 n0 [] "java/util/Arrays" [] T0 0 0 h0 := W0
  have hSA := fun d hd => hw d (sa_in d hd)
  have hws := fun d hd => hw d (ws_in d hd)
  have hln := fun d hd => hw d (ln_in d hd)
  have heq := fun d hd => hw d (eq_in d hd)
  refine Go.of (fun _ kk => castTop (ef201 m t (0 : Int32) (13 : Int32)) kk) ?_
  show Go p e below _ (T0.setTop (mkF m 0 #[.val (.ref t), .val (.int (0 : Int32)), .val (.int (13 : Int32))] []))
  refine Go.of (t' := T0.setTop (mkF m 1 #[.val (.ref t), .val (.int (0 : Int32)), .val (.int (13 : Int32))] [(.int (0 : Int32))])) (fun _ kk => XS.iloadN W0.here hx rfl (hb hby d201_0) rfl kk) ?_
  refine Go.of (t' := T0.setTop (mkF m 4 #[.val (.ref t), .val (.int (0 : Int32)), .val (.int (13 : Int32))] [])) (fun _ kk => XS.ifNo W0.here hx rfl (hb hby d201_1) rfl (XT.i0_ne_f (by decide +kernel)) kk) ?_
  refine Go.of (t' := T0.setTop (mkF m 5 #[.val (.ref t), .val (.int (0 : Int32)), .val (.int (13 : Int32))] [(.int (13 : Int32))])) (fun _ kk => XS.iloadN W0.here hx rfl (hb hby d201_4) rfl kk) ?_
  refine Go.of (t' := T0.setTop (mkF m 6 #[.val (.ref t), .val (.int (0 : Int32)), .val (.int (13 : Int32))] [(.ref t), (.int (13 : Int32))])) (fun _ kk => XS.aloadN W0.here hx rfl (hb hby d201_5) rfl rfl kk) ?_
  refine W0.alen hx Ab rfl rfl (hb hby d201_6) ?_
  show Go p e below _ (T0.setTop (mkF m 7 #[.val (.ref t), .val (.int (0 : Int32)), .val (.int (13 : Int32))] [(.int (16 : Int32)), (.int (13 : Int32))]))
  refine Go.of (t' := T0.setTop (mkF m 10 #[.val (.ref t), .val (.int (0 : Int32)), .val (.int (13 : Int32))] [])) (fun _ kk => XS.icmpNo W0.here hx rfl (hb hby d201_7) rfl (XT.ii_eq_f (by decide +kernel)) kk) ?_
  refine Go.of (t' := T0.setTop (mkF m 11 #[.val (.ref t), .val (.int (0 : Int32)), .val (.int (13 : Int32))] [(.ref t)])) (fun _ kk => XS.aloadN W0.here hx rfl (hb hby d201_10) rfl rfl kk) ?_
  refine Go.of (t' := T0.setTop (mkF m 12 #[.val (.ref t), .val (.int (0 : Int32)), .val (.int (13 : Int32))] [(.int (0 : Int32)), (.ref t)])) (fun _ kk => XS.iloadN W0.here hx rfl (hb hby d201_11) rfl kk) ?_
  refine Go.of (t' := T0.setTop (mkF m 13 #[.val (.ref t), .val (.int (0 : Int32)), .val (.int (13 : Int32))] [(.int (13 : Int32)), (.int (0 : Int32)), (.ref t)])) (fun _ kk => XS.iloadN W0.here hx rfl (hb hby d201_12) rfl kk) ?_
  refine W0.callS hx hEL (hw _ (List.mem_of_getElem? (i := 138) rfl)) (hw _ (List.mem_of_getElem? (i := 139) rfl)) (hw _ (List.mem_of_getElem? (i := 136) rfl)) (hw _ (List.mem_of_getElem? (i := 140) rfl)) (by decide +kernel) (argsL := [(.ref t), (.int (0 : Int32)), (.int (13 : Int32))]) (rest := []) (rm200 l Z a0 hw hEL zc SC hzc fm SF rfm t kc by1 by2 by3 by4 by5 by6 by7 by8 by9 by10 by11 by12 by13 by14 by15 by16 h0 W0.old Ab) all0 (by decide +kernel) (Wd := 0) (by decide +kernel) (by decide +kernel) (by decide +kernel) all0 rfl (by rw [hml]; rfl) (lenOf pd9 rfl) rfl (by show 2 * 0 + _ ≤ _; exact Nat.le_of_eq rfl) (hb hby d201_13) (fun T1 h1 v1 P1 Ws1 K1 q1 => ?_)
  have W1 := Ws1 [] all0
  obtain ⟨r1, kc1, rfl, lr1, A1⟩ := q1
  have gr1 : n0 ≤ r1 ∧ s.heap.size ≤ r1 := ⟨Nat.le_trans W0.n0le lr1, Nat.le_trans W0.s0le lr1⟩
  show Go p e below _ (T1.setTop (mkF m 16 #[.val (.ref t), .val (.int (0 : Int32)), .val (.int (13 : Int32))] [(.ref r1)]))
  exact W1.retA hx hEL hs hlk (by decide +kernel) (by decide +kernel) hret rfl rfl (hb hby d201_16) (fun S hS => ⟨r1, kc1, rfl, hs ▸ gr1.2, A1⟩)
theorem d203_0 : decode jdk_42_method_150_code 0 = .ok (.aload_n 0, 1) := by decide +kernel
theorem d203_1 : decode jdk_42_method_150_code 1 = .ok (.invokespecial 1, 3) := by decide +kernel
theorem d203_4 : decode jdk_42_method_150_code 4 = .ok (.aload_n 1, 1) := by decide +kernel
theorem d203_5 : decode jdk_42_method_150_code 5 = .ok (.invokevirtual 552, 3) := by decide +kernel
theorem d203_8 : decode jdk_42_method_150_code 8 = .ok (.astore_n 3, 1) := by decide +kernel
theorem d203_9 : decode jdk_42_method_150_code 9 = .ok (.aload_n 1, 1) := by decide +kernel
theorem d203_10 : decode jdk_42_method_150_code 10 = .ok (.invokevirtual 549, 3) := by decide +kernel
theorem d203_13 : decode jdk_42_method_150_code 13 = .ok (.istore 4, 2) := by decide +kernel
theorem d203_15 : decode jdk_42_method_150_code 15 = .ok (.aload_n 1, 1) := by decide +kernel
theorem d203_16 : decode jdk_42_method_150_code 16 = .ok (.invokevirtual 1047, 3) := by decide +kernel
theorem d203_19 : decode jdk_42_method_150_code 19 = .ok (.ifCond .eq 22, 3) := by decide +kernel
theorem d203_22 : decode jdk_42_method_150_code 22 = .ok (.aload_n 0, 1) := by decide +kernel
theorem d203_23 : decode jdk_42_method_150_code 23 = .ok (.iconst 0, 1) := by decide +kernel
theorem d203_24 : decode jdk_42_method_150_code 24 = .ok (.putfield 15, 3) := by decide +kernel
theorem d203_27 : decode jdk_42_method_150_code 27 = .ok (.aload_n 0, 1) := by decide +kernel
theorem d203_28 : decode jdk_42_method_150_code 28 = .ok (.aload_n 3, 1) := by decide +kernel
theorem d203_29 : decode jdk_42_method_150_code 29 = .ok (.iconst 0, 1) := by decide +kernel
theorem d203_30 : decode jdk_42_method_150_code 30 = .ok (.iload 4, 2) := by decide +kernel
theorem d203_32 : decode jdk_42_method_150_code 32 = .ok (.invokestatic 54, 3) := by decide +kernel
theorem d203_35 : decode jdk_42_method_150_code 35 = .ok (.putfield 9, 3) := by decide +kernel
theorem d203_38 : decode jdk_42_method_150_code 38 = .ok (.goto 59, 3) := by decide +kernel
theorem d203_97 : decode jdk_42_method_150_code 97 = .ok (.return_, 1) := by decide +kernel
theorem ef203 (m : MethodId) (x0 : Addr) (x1 : Addr)  : entryFrame m #[(.ref x0), (.ref x1), .null] 5 = mkF m 0 #[.val (.ref x0), .val (.ref x1), .val .null, .unset, .unset] [] := by first | (simp [entryFrame, mkF, argsToLocals, Value.category]; done) | rfl | rfl
set_option maxRecDepth 65536 in
set_option maxHeartbeats 40000000 in
theorem rm203 (l : Launch) (Z : State) (a0 : Array Value) (hw : ∀ d ∈ tables_1, d.before a0 Z = true) (hEL : EW Z a0 EL0) (zc : Int32) (SC : Sta Z Z.heap "java/lang/String" "COMPACT_STRINGS" "Z" (.int zc)) (hzc : ¬ zc = 0) (fm : Value) (SF : Sta Z Z.heap "jdk/internal/util/Preconditions" "SIOOBE_FORMATTER" "Ljava/util/function/BiFunction;" fm) (rfm : fm.isRef = true) (x1 : Addr) (a1 : Addr) (t : Addr) (kc : ClassId) (by14 : Int32) (by15 : Int32) (by16 : Int32) (q1 : Int32) (q2 : Int32) (q3 : Int32) (q4 : Int32) (q5 : Int32) (q6 : Int32) (q7 : Int32) (q8 : Int32) (q9 : Int32) (q10 : Int32) (q11 : Int32) (q12 : Int32) (q13 : Int32) (h0 : Heap) {n0 : Nat} (O0 : Old Z n0 h0) (Eb : Exa Z h0 a1 "java/lang/StringBuilder") (Fvp : Fld Z h0 a1 "java/lang/AbstractStringBuilder" "value" "[B" (.ref t)) (Fcp : Fld Z h0 a1 "java/lang/AbstractStringBuilder" "coder" "B" (.int (0 : Int32))) (Fnp : Fld Z h0 a1 "java/lang/AbstractStringBuilder" "count" "I" (.int (13 : Int32))) (Ab : Arv Z h0 t kc .byte (16 : Int32) [(.int (StrChars.lo8 q1)), (.int (StrChars.lo8 q2)), (.int (StrChars.lo8 q3)), (.int (StrChars.lo8 q4)), (.int (StrChars.lo8 q5)), (.int (StrChars.lo8 q6)), (.int (StrChars.lo8 q7)), (.int (StrChars.lo8 q8)), (.int (StrChars.lo8 q9)), (.int (StrChars.lo8 q10)), (.int (StrChars.lo8 q11)), (.int (StrChars.lo8 q12)), (.int (StrChars.lo8 q13)), (.int by14), (.int by15), (.int by16)] (.int (0 : Int32))) (cq1 : ¬ q1 < 0 ∧ ¬ (255 : Int32) < q1) (cq2 : ¬ q2 < 0 ∧ ¬ (255 : Int32) < q2) (cq3 : ¬ q3 < 0 ∧ ¬ (255 : Int32) < q3) (cq4 : ¬ q4 < 0 ∧ ¬ (255 : Int32) < q4) (cq5 : ¬ q5 < 0 ∧ ¬ (255 : Int32) < q5) (cq6 : ¬ q6 < 0 ∧ ¬ (255 : Int32) < q6) (cq7 : ¬ q7 < 0 ∧ ¬ (255 : Int32) < q7) (cq8 : ¬ q8 < 0 ∧ ¬ (255 : Int32) < q8) (cq9 : ¬ q9 < 0 ∧ ¬ (255 : Int32) < q9) (cq10 : ¬ q10 < 0 ∧ ¬ (255 : Int32) < q10) (cq11 : ¬ q11 < 0 ∧ ¬ (255 : Int32) < q11) (cq12 : ¬ q12 < 0 ∧ ¬ (255 : Int32) < q12) (cq13 : ¬ q13 < 0 ∧ ¬ (255 : Int32) < q13) (Exx : Exa Z h0 x1 "java/lang/String") (Fxv : Fld Z h0 x1 "java/lang/String" "value" "[B" .null) (Fxc : Fld Z h0 x1 "java/lang/String" "coder" "B" (.int (0 : Int32))) (gxx : n0 ≤ x1) (nx1 : x1 ≠ a1) (nx2 : x1 ≠ t) :
    Met l Z EL0 n0 (⟨"java/lang/String", "<init>", "(Ljava/lang/AbstractStringBuilder;Ljava/lang/Void;)V"⟩ : MethodName) jdk_42_method_150_code 5 none [] ({ frames := 3, cells := 1, slots := 13, locals := 49 } : Room) #[(.ref x1), (.ref a1), .null] h0 [x1] [x1] (fun v h' S => v = none ∧ Str Z h' x1 [q1, q2, q3, q4, q5, q6, q7, q8, q9, q10, q11, q12, q13]) := by
  refine Met.of (plainFor_of_name pn2) O0 ?_
  intro p e s m below meth c T0 hx hby hml hret hlk hnm hs W0
  have W0 : Wk p l e _ s m _ below meth c Z EL0 n0 [x1] "java/lang/String" [x1] T0 0 0 h0 := W0
  have hSA := fun d hd => hw d (sa_in d hd)
  have hws := fun d hd => hw d (ws_in d hd)
  have hln := fun d hd => hw d (ln_in d hd)
  have heq := fun d hd => hw d (eq_in d hd)
  refine Go.of (fun _ kk => castTop (ef203 m x1 a1) kk) ?_
  show Go p e below _ (T0.setTop (mkF m 0 #[.val (.ref x1), .val (.ref a1), .val .null, .unset, .unset] []))
  refine Go.of (t' := T0.setTop (mkF m 1 #[.val (.ref x1), .val (.ref a1), .val .null, .unset, .unset] [(.ref x1)])) (fun _ kk => XS.aloadN W0.here hx rfl (hb hby d203_0) rfl rfl kk) ?_
  refine W0.initO hx (hw _ (List.mem_of_getElem? (i := 11) rfl)) (hw _ (List.mem_of_getElem? (i := 12) rfl)) (hw _ (List.mem_of_getElem? (i := 13) rfl)) rfl (by rw [hml]; rfl) rfl (hb hby d203_1) (by decide +kernel) (Wd := 0) (by show 2 * 0 + _ ≤ _; exact Nat.le_of_eq rfl) (by decide +kernel) (fun T1 W1 => ?_)
  show Go p e below _ (T1.setTop (mkF m 4 #[.val (.ref x1), .val (.ref a1), .val .null, .unset, .unset] []))
  refine Go.of (t' := T1.setTop (mkF m 5 #[.val (.ref x1), .val (.ref a1), .val .null, .unset, .unset] [(.ref a1)])) (fun _ kk => XS.aloadN W1.here hx rfl (hb hby d203_4) rfl rfl kk) ?_
  refine W1.callV hx hEL (hw _ (List.mem_of_getElem? (i := 116) rfl)) (hw _ (List.mem_of_getElem? (i := 117) rfl)) (hw _ (List.mem_of_getElem? (i := 119) rfl)) (hw _ (List.mem_of_getElem? (i := 118) rfl)) (hw _ (List.mem_of_getElem? (i := 44) rfl)) (hw _ (List.mem_of_getElem? (i := 120) rfl)) (by decide +kernel) Eb (a := a1) (argsL := []) (rest := []) (rm7 l Z a0 hw hEL zc SC hzc fm SF rfm a1 t h0 W1.old Fvp) all0 (by decide +kernel) (Wd := 0) (by decide +kernel) (by decide +kernel) (by decide +kernel) all0 rfl (by rw [hml]; rfl) (lenOf pd10 rfl) rfl (by show 2 * 0 + _ ≤ _; exact Nat.le_of_eq rfl) (hb hby d203_5) (fun T2 h2 v2 P2 Ws2 K2 q2 => ?_)
  have W2 := Ws2 [] all0
  obtain ⟨rfl, rfl⟩ := q2
  show Go p e below _ (T2.setTop (mkF m 8 #[.val (.ref x1), .val (.ref a1), .val .null, .unset, .unset] [(.ref t)]))
  refine Go.of (t' := T2.setTop (mkF m 9 #[.val (.ref x1), .val (.ref a1), .val .null, .val (.ref t), .unset] [])) (fun _ kk => XS.astoreN W2.here hx rfl (hb hby d203_8) rfl rfl (l' := #[.val (.ref x1), .val (.ref a1), .val .null, .val (.ref t), .unset]) rfl kk) ?_
  refine Go.of (t' := T2.setTop (mkF m 10 #[.val (.ref x1), .val (.ref a1), .val .null, .val (.ref t), .unset] [(.ref a1)])) (fun _ kk => XS.aloadN W2.here hx rfl (hb hby d203_9) rfl rfl kk) ?_
  refine W2.callL hx hEL (hw _ (List.mem_of_getElem? (i := 121) rfl)) (hw _ (List.mem_of_getElem? (i := 122) rfl)) (hw _ (List.mem_of_getElem? (i := 124) rfl)) (hw _ (List.mem_of_getElem? (i := 125) rfl)) (hw _ (List.mem_of_getElem? (i := 36) rfl)) (hw _ (List.mem_of_getElem? (i := 126) rfl)) (hw _ (List.mem_of_getElem? (i := 80) rfl)) rfl (by decide +kernel) Eb (a := a1) (argsL := []) (rest := []) (rm10 l Z a0 hw hEL zc SC hzc fm SF rfm a1 (13 : Int32) h0 W2.old Eb Fnp) all0 (by decide +kernel) (Wd := 0) (by decide +kernel) (by decide +kernel) (by decide +kernel) all0 rfl (by rw [hml]; rfl) (lenOf pd1 rfl) rfl (by show 2 * 0 + _ ≤ _; exact Nat.le_of_eq rfl) (hb hby d203_10) (fun T3 h3 v3 P3 Ws3 K3 q3 => ?_)
  have W3 := Ws3 [] all0
  obtain ⟨rfl, rfl⟩ := q3
  show Go p e below _ (T3.setTop (mkF m 13 #[.val (.ref x1), .val (.ref a1), .val .null, .val (.ref t), .unset] [(.int (13 : Int32))]))
  refine Go.of (t' := T3.setTop (mkF m 15 #[.val (.ref x1), .val (.ref a1), .val .null, .val (.ref t), .val (.int (13 : Int32))] [])) (fun _ kk => XS.istore W3.here hx rfl (hb hby d203_13) rfl (l' := #[.val (.ref x1), .val (.ref a1), .val .null, .val (.ref t), .val (.int (13 : Int32))]) rfl kk) ?_
  refine Go.of (t' := T3.setTop (mkF m 16 #[.val (.ref x1), .val (.ref a1), .val .null, .val (.ref t), .val (.int (13 : Int32))] [(.ref a1)])) (fun _ kk => XS.aloadN W3.here hx rfl (hb hby d203_15) rfl rfl kk) ?_
  refine W3.callV hx hEL (hw _ (List.mem_of_getElem? (i := 129) rfl)) (hw _ (List.mem_of_getElem? (i := 130) rfl)) (hw _ (List.mem_of_getElem? (i := 132) rfl)) (hw _ (List.mem_of_getElem? (i := 131) rfl)) (hw _ (List.mem_of_getElem? (i := 44) rfl)) (hw _ (List.mem_of_getElem? (i := 133) rfl)) (by decide +kernel) Eb (a := a1) (argsL := []) (rest := []) (rm8 l Z a0 hw hEL zc SC hzc fm SF rfm a1 h0 W3.old Fcp) all0 (by decide +kernel) (Wd := 0) (by decide +kernel) (by decide +kernel) (by decide +kernel) all0 rfl (by rw [hml]; rfl) (lenOf pd11 rfl) rfl (by show 2 * 0 + _ ≤ _; exact Nat.le_of_eq rfl) (hb hby d203_16) (fun T4 h4 v4 P4 Ws4 K4 q4 => ?_)
  have W4 := Ws4 [] all0
  obtain ⟨rfl, rfl⟩ := q4
  show Go p e below _ (T4.setTop (mkF m 19 #[.val (.ref x1), .val (.ref a1), .val .null, .val (.ref t), .val (.int (13 : Int32))] [(.int (1 : Int32))]))
  refine Go.of (t' := T4.setTop (mkF m 22 #[.val (.ref x1), .val (.ref a1), .val .null, .val (.ref t), .val (.int (13 : Int32))] [])) (fun _ kk => XS.ifNo W4.here hx rfl (hb hby d203_19) rfl (XT.i0_eq_f (by decide +kernel)) kk) ?_
  refine Go.of (t' := T4.setTop (mkF m 23 #[.val (.ref x1), .val (.ref a1), .val .null, .val (.ref t), .val (.int (13 : Int32))] [(.ref x1)])) (fun _ kk => XS.aloadN W4.here hx rfl (hb hby d203_22) rfl rfl kk) ?_
  refine Go.of (t' := T4.setTop (mkF m 24 #[.val (.ref x1), .val (.ref a1), .val .null, .val (.ref t), .val (.int (13 : Int32))] [(.int (0 : Int32)), (.ref x1)])) (fun _ kk => XS.iconst W4.here hx rfl (hb hby d203_23) kk) ?_
  refine W4.putF hx (host := "") (Or.inl (hw _ (List.mem_of_getElem? (i := 26) rfl))) Via.refl Fxc Exx (Or.inr ⟨(hw _ (List.mem_of_getElem? (i := 27) rfl)), rfl, hnm⟩) (hw _ (List.mem_of_getElem? (i := 1) rfl)) (ty := .byte) (by decide +kernel) rfl rfl gxx (Or.inl (List.mem_of_getElem? (i := 0) rfl)) (Or.inl (List.mem_of_getElem? (i := 0) rfl)) rfl rfl (hb hby d203_24) (fun T5 h5 W5 w5 => ?_)
  have K5 := Keep.of_wr w5
  have k6 := Fxv.other w5 (Or.inr (slot_ne (Or.inr (hw _ (List.mem_of_getElem? (i := 29) rfl))) (Or.inr (hw _ (List.mem_of_getElem? (i := 27) rfl))) (by decide +kernel) (t := (.array .byte)) (t' := .byte) (by decide +kernel) (by decide +kernel)))
  have k7 := Fxc.same w5
  show Go p e below _ (T5.setTop (mkF m 27 #[.val (.ref x1), .val (.ref a1), .val .null, .val (.ref t), .val (.int (13 : Int32))] []))
  refine Go.of (t' := T5.setTop (mkF m 28 #[.val (.ref x1), .val (.ref a1), .val .null, .val (.ref t), .val (.int (13 : Int32))] [(.ref x1)])) (fun _ kk => XS.aloadN W5.here hx rfl (hb hby d203_27) rfl rfl kk) ?_
  refine Go.of (t' := T5.setTop (mkF m 29 #[.val (.ref x1), .val (.ref a1), .val .null, .val (.ref t), .val (.int (13 : Int32))] [(.ref t), (.ref x1)])) (fun _ kk => XS.aloadN W5.here hx rfl (hb hby d203_28) rfl rfl kk) ?_
  refine Go.of (t' := T5.setTop (mkF m 30 #[.val (.ref x1), .val (.ref a1), .val .null, .val (.ref t), .val (.int (13 : Int32))] [(.int (0 : Int32)), (.ref t), (.ref x1)])) (fun _ kk => XS.iconst W5.here hx rfl (hb hby d203_29) kk) ?_
  refine Go.of (t' := T5.setTop (mkF m 32 #[.val (.ref x1), .val (.ref a1), .val .null, .val (.ref t), .val (.int (13 : Int32))] [(.int (13 : Int32)), (.int (0 : Int32)), (.ref t), (.ref x1)])) (fun _ kk => XS.iload W5.here hx rfl (hb hby d203_30) rfl kk) ?_
  have k9 := (Ab.keep K5 (ninS (nx2).symm nin0))
  refine W5.callS hx hEL (hw _ (List.mem_of_getElem? (i := 134) rfl)) (hw _ (List.mem_of_getElem? (i := 135) rfl)) (hw _ (List.mem_of_getElem? (i := 136) rfl)) (hw _ (List.mem_of_getElem? (i := 137) rfl)) (by decide +kernel) (argsL := [(.ref t), (.int (0 : Int32)), (.int (13 : Int32))]) (rest := [(.ref x1)]) (rm201 l Z a0 hw hEL zc SC hzc fm SF rfm t kc (StrChars.lo8 q1) (StrChars.lo8 q2) (StrChars.lo8 q3) (StrChars.lo8 q4) (StrChars.lo8 q5) (StrChars.lo8 q6) (StrChars.lo8 q7) (StrChars.lo8 q8) (StrChars.lo8 q9) (StrChars.lo8 q10) (StrChars.lo8 q11) (StrChars.lo8 q12) (StrChars.lo8 q13) by14 by15 by16 h5 W5.old k9) all0 (by decide +kernel) (Wd := 1) (by decide +kernel) (by decide +kernel) (by decide +kernel) all0 rfl (by rw [hml]; rfl) (lenOf pd9 rfl) rfl (by show 2 * 0 + _ ≤ _; exact Nat.le_of_eq rfl) (hb hby d203_32) (fun T8 h8 v8 P8 Ws8 K8 q8 => ?_)
  have W8 := Ws8 [] all0
  obtain ⟨r8, kc8, rfl, lr8, A8⟩ := q8
  have gr8 : n0 ≤ r8 ∧ s.heap.size ≤ r8 := ⟨Nat.le_trans W5.n0le lr8, Nat.le_trans W5.s0le lr8⟩
  show Go p e below _ (T8.setTop (mkF m 35 #[.val (.ref x1), .val (.ref a1), .val .null, .val (.ref t), .val (.int (13 : Int32))] [(.ref r8), (.ref x1)]))
  have k10 := (k6.keep K8 nin0)
  have k11 := ((Exx.keep K5).keep K8)
  refine W8.putF hx (host := "") (Or.inl (hw _ (List.mem_of_getElem? (i := 28) rfl))) Via.refl k10 k11 (Or.inr ⟨(hw _ (List.mem_of_getElem? (i := 29) rfl)), rfl, hnm⟩) (hw _ (List.mem_of_getElem? (i := 1) rfl)) (ty := (.array .byte)) (by decide +kernel) rfl rfl gxx (Or.inl (List.mem_of_getElem? (i := 0) rfl)) (Or.inl (List.mem_of_getElem? (i := 0) rfl)) rfl rfl (hb hby d203_35) (fun T12 h12 W12 w12 => ?_)
  have k13 := (k7.keep K8 nin0)
  have K12 := Keep.of_wr w12
  have k14 := k13.other w12 (Or.inr (slot_ne (Or.inr (hw _ (List.mem_of_getElem? (i := 27) rfl))) (Or.inr (hw _ (List.mem_of_getElem? (i := 29) rfl))) (by decide +kernel) (t := .byte) (t' := (.array .byte)) (by decide +kernel) (by decide +kernel)))
  have k15 := k10.same w12
  show Go p e below _ (T12.setTop (mkF m 38 #[.val (.ref x1), .val (.ref a1), .val .null, .val (.ref t), .val (.int (13 : Int32))] []))
  refine Go.of (t' := T12.setTop (mkF m 97 #[.val (.ref x1), .val (.ref a1), .val .null, .val (.ref t), .val (.int (13 : Int32))] [])) (fun _ kk => XS.goto W12.here hx rfl (pc0 := 38) (pc' := 97) rfl (hb hby d203_38) (by decide +kernel) (by decide +kernel) kk) ?_
  have k16 := (k11.keep K12)
  have k17 := (A8.keep K12 (ninS (ne_of_born lr8 Exx.lt K5.1).symm nin0))
  exact W12.retV hx hEL hs hlk (by decide +kernel) (by decide +kernel) hret (hb hby d203_97) (fun S hS => ⟨rfl, ⟨r8, kc8, _, _, _, k16, k15, k14, k17, StrChars.Road.codOf (cs := [q1, q2, q3, q4, q5, q6, q7, q8, q9, q10, q11, q12, q13]) (n := 13) rfl (allSi cq1.2 (allSi cq2.2 (allSi cq3.2 (allSi cq4.2 (allSi cq5.2 (allSi cq6.2 (allSi cq7.2 (allSi cq8.2 (allSi cq9.2 (allSi cq10.2 (allSi cq11.2 (allSi cq12.2 (allSi cq13.2 all0i))))))))))))), up255 (allSi cq1 (allSi cq2 (allSi cq3 (allSi cq4 (allSi cq5 (allSi cq6 (allSi cq7 (allSi cq8 (allSi cq9 (allSi cq10 (allSi cq11 (allSi cq12 (allSi cq13 all0i))))))))))))), Nat.le_of_ble_eq_true rfl⟩⟩)
theorem d204_0 : decode jdk_42_method_53_code 0 = .ok (.aload_n 0, 1) := by decide +kernel
theorem d204_1 : decode jdk_42_method_53_code 1 = .ok (.aload_n 1, 1) := by decide +kernel
theorem d204_2 : decode jdk_42_method_53_code 2 = .ok (.aconst_null, 1) := by decide +kernel
theorem d204_3 : decode jdk_42_method_53_code 3 = .ok (.invokespecial 489, 3) := by decide +kernel
theorem d204_6 : decode jdk_42_method_53_code 6 = .ok (.return_, 1) := by decide +kernel
theorem ef204 (m : MethodId) (x0 : Addr) (x1 : Addr)  : entryFrame m #[(.ref x0), (.ref x1)] 2 = mkF m 0 #[.val (.ref x0), .val (.ref x1)] [] := by first | (simp [entryFrame, mkF, argsToLocals, Value.category]; done) | rfl | rfl
set_option maxRecDepth 65536 in
set_option maxHeartbeats 40000000 in
theorem rm204 (l : Launch) (Z : State) (a0 : Array Value) (hw : ∀ d ∈ tables_1, d.before a0 Z = true) (hEL : EW Z a0 EL0) (zc : Int32) (SC : Sta Z Z.heap "java/lang/String" "COMPACT_STRINGS" "Z" (.int zc)) (hzc : ¬ zc = 0) (fm : Value) (SF : Sta Z Z.heap "jdk/internal/util/Preconditions" "SIOOBE_FORMATTER" "Ljava/util/function/BiFunction;" fm) (rfm : fm.isRef = true) (x1 : Addr) (a1 : Addr) (t : Addr) (kc : ClassId) (by14 : Int32) (by15 : Int32) (by16 : Int32) (q1 : Int32) (q2 : Int32) (q3 : Int32) (q4 : Int32) (q5 : Int32) (q6 : Int32) (q7 : Int32) (q8 : Int32) (q9 : Int32) (q10 : Int32) (q11 : Int32) (q12 : Int32) (q13 : Int32) (h0 : Heap) {n0 : Nat} (O0 : Old Z n0 h0) (Eb : Exa Z h0 a1 "java/lang/StringBuilder") (Fvp : Fld Z h0 a1 "java/lang/AbstractStringBuilder" "value" "[B" (.ref t)) (Fcp : Fld Z h0 a1 "java/lang/AbstractStringBuilder" "coder" "B" (.int (0 : Int32))) (Fnp : Fld Z h0 a1 "java/lang/AbstractStringBuilder" "count" "I" (.int (13 : Int32))) (Ab : Arv Z h0 t kc .byte (16 : Int32) [(.int (StrChars.lo8 q1)), (.int (StrChars.lo8 q2)), (.int (StrChars.lo8 q3)), (.int (StrChars.lo8 q4)), (.int (StrChars.lo8 q5)), (.int (StrChars.lo8 q6)), (.int (StrChars.lo8 q7)), (.int (StrChars.lo8 q8)), (.int (StrChars.lo8 q9)), (.int (StrChars.lo8 q10)), (.int (StrChars.lo8 q11)), (.int (StrChars.lo8 q12)), (.int (StrChars.lo8 q13)), (.int by14), (.int by15), (.int by16)] (.int (0 : Int32))) (cq1 : ¬ q1 < 0 ∧ ¬ (255 : Int32) < q1) (cq2 : ¬ q2 < 0 ∧ ¬ (255 : Int32) < q2) (cq3 : ¬ q3 < 0 ∧ ¬ (255 : Int32) < q3) (cq4 : ¬ q4 < 0 ∧ ¬ (255 : Int32) < q4) (cq5 : ¬ q5 < 0 ∧ ¬ (255 : Int32) < q5) (cq6 : ¬ q6 < 0 ∧ ¬ (255 : Int32) < q6) (cq7 : ¬ q7 < 0 ∧ ¬ (255 : Int32) < q7) (cq8 : ¬ q8 < 0 ∧ ¬ (255 : Int32) < q8) (cq9 : ¬ q9 < 0 ∧ ¬ (255 : Int32) < q9) (cq10 : ¬ q10 < 0 ∧ ¬ (255 : Int32) < q10) (cq11 : ¬ q11 < 0 ∧ ¬ (255 : Int32) < q11) (cq12 : ¬ q12 < 0 ∧ ¬ (255 : Int32) < q12) (cq13 : ¬ q13 < 0 ∧ ¬ (255 : Int32) < q13) (Exx : Exa Z h0 x1 "java/lang/String") (Fxv : Fld Z h0 x1 "java/lang/String" "value" "[B" .null) (Fxc : Fld Z h0 x1 "java/lang/String" "coder" "B" (.int (0 : Int32))) (gxx : n0 ≤ x1) (nx1 : x1 ≠ a1) (nx2 : x1 ≠ t) :
    Met l Z EL0 n0 (⟨"java/lang/String", "<init>", "(Ljava/lang/StringBuilder;)V"⟩ : MethodName) jdk_42_method_53_code 2 none [] ({ frames := 4, cells := 1, slots := 13, locals := 65 } : Room) #[(.ref x1), (.ref a1)] h0 [x1] [x1] (fun v h' S => v = none ∧ Str Z h' x1 [q1, q2, q3, q4, q5, q6, q7, q8, q9, q10, q11, q12, q13]) := by
  refine Met.of (plainFor_of_name pn2) O0 ?_
  intro p e s m below meth c T0 hx hby hml hret hlk hnm hs W0
  have W0 : Wk p l e _ s m _ below meth c Z EL0 n0 [x1] "java/lang/String" [x1] T0 0 0 h0 := W0
  have hSA := fun d hd => hw d (sa_in d hd)
  have hws := fun d hd => hw d (ws_in d hd)
  have hln := fun d hd => hw d (ln_in d hd)
  have heq := fun d hd => hw d (eq_in d hd)
  refine Go.of (fun _ kk => castTop (ef204 m x1 a1) kk) ?_
  show Go p e below _ (T0.setTop (mkF m 0 #[.val (.ref x1), .val (.ref a1)] []))
  refine Go.of (t' := T0.setTop (mkF m 1 #[.val (.ref x1), .val (.ref a1)] [(.ref x1)])) (fun _ kk => XS.aloadN W0.here hx rfl (hb hby d204_0) rfl rfl kk) ?_
  refine Go.of (t' := T0.setTop (mkF m 2 #[.val (.ref x1), .val (.ref a1)] [(.ref a1), (.ref x1)])) (fun _ kk => XS.aloadN W0.here hx rfl (hb hby d204_1) rfl rfl kk) ?_
  refine Go.of (t' := T0.setTop (mkF m 3 #[.val (.ref x1), .val (.ref a1)] [.null, (.ref a1), (.ref x1)])) (fun _ kk => XS.aconstNull W0.here hx rfl (hb hby d204_2) kk) ?_
  refine W0.callP hx hEL rfl (hw _ (List.mem_of_getElem? (i := 113) rfl)) (hw _ (List.mem_of_getElem? (i := 114) rfl)) (hw _ (List.mem_of_getElem? (i := 2) rfl)) (hw _ (List.mem_of_getElem? (i := 115) rfl)) (by decide +kernel) (a := x1) (argsL := [(.ref a1), .null]) (rest := []) (rm203 l Z a0 hw hEL zc SC hzc fm SF rfm x1 a1 t kc by14 by15 by16 q1 q2 q3 q4 q5 q6 q7 q8 q9 q10 q11 q12 q13 h0 W0.old Eb Fvp Fcp Fnp Ab cq1 cq2 cq3 cq4 cq5 cq6 cq7 cq8 cq9 cq10 cq11 cq12 cq13 Exx Fxv Fxc gxx nx1 nx2) (allS (List.mem_of_getElem? (i := 0) rfl) all0) (by decide +kernel) (Wd := 0) (by decide +kernel) (by decide +kernel) (by decide +kernel) (allS ⟨gxx, (Or.inl (List.mem_of_getElem? (i := 0) rfl))⟩ all0) rfl (by rw [hml]; rfl) (lenOf pd12 rfl) rfl (by show 2 * 0 + _ ≤ _; exact Nat.le_of_eq rfl) (hb hby d204_3) (fun T1 h1 v1 P1 Ws1 K1 q1 => ?_)
  have W1 := Ws1 [] all0
  obtain ⟨rfl, S1⟩ := q1
  show Go p e below _ (T1.setTop (mkF m 6 #[.val (.ref x1), .val (.ref a1)] []))
  exact W1.retV hx hEL hs hlk (by decide +kernel) (by decide +kernel) hret (hb hby d204_6) (fun S hS => ⟨rfl, S1⟩)
theorem d205_0 : decode jdk_67_method_42_code 0 = .ok (.new 18, 3) := by decide +kernel
theorem d205_3 : decode jdk_67_method_42_code 3 = .ok (.dup, 1) := by decide +kernel
theorem d205_4 : decode jdk_67_method_42_code 4 = .ok (.aload_n 0, 1) := by decide +kernel
theorem d205_5 : decode jdk_67_method_42_code 5 = .ok (.invokespecial 137, 3) := by decide +kernel
theorem d205_8 : decode jdk_67_method_42_code 8 = .ok (.areturn, 1) := by decide +kernel
theorem ef205 (m : MethodId) (x0 : Addr)  : entryFrame m #[(.ref x0)] 1 = mkF m 0 #[.val (.ref x0)] [] := by first | (simp [entryFrame, mkF, argsToLocals, Value.category]; done) | rfl | rfl
set_option maxRecDepth 65536 in
set_option maxHeartbeats 40000000 in
theorem rm205 (l : Launch) (Z : State) (a0 : Array Value) (hw : ∀ d ∈ tables_1, d.before a0 Z = true) (hEL : EW Z a0 EL0) (zc : Int32) (SC : Sta Z Z.heap "java/lang/String" "COMPACT_STRINGS" "Z" (.int zc)) (hzc : ¬ zc = 0) (fm : Value) (SF : Sta Z Z.heap "jdk/internal/util/Preconditions" "SIOOBE_FORMATTER" "Ljava/util/function/BiFunction;" fm) (rfm : fm.isRef = true) (a1 : Addr) (t : Addr) (kc : ClassId) (by14 : Int32) (by15 : Int32) (by16 : Int32) (q1 : Int32) (q2 : Int32) (q3 : Int32) (q4 : Int32) (q5 : Int32) (q6 : Int32) (q7 : Int32) (q8 : Int32) (q9 : Int32) (q10 : Int32) (q11 : Int32) (q12 : Int32) (q13 : Int32) (h0 : Heap) {n0 : Nat} (O0 : Old Z n0 h0) (Eb : Exa Z h0 a1 "java/lang/StringBuilder") (Fvp : Fld Z h0 a1 "java/lang/AbstractStringBuilder" "value" "[B" (.ref t)) (Fcp : Fld Z h0 a1 "java/lang/AbstractStringBuilder" "coder" "B" (.int (0 : Int32))) (Fnp : Fld Z h0 a1 "java/lang/AbstractStringBuilder" "count" "I" (.int (13 : Int32))) (Ab : Arv Z h0 t kc .byte (16 : Int32) [(.int (StrChars.lo8 q1)), (.int (StrChars.lo8 q2)), (.int (StrChars.lo8 q3)), (.int (StrChars.lo8 q4)), (.int (StrChars.lo8 q5)), (.int (StrChars.lo8 q6)), (.int (StrChars.lo8 q7)), (.int (StrChars.lo8 q8)), (.int (StrChars.lo8 q9)), (.int (StrChars.lo8 q10)), (.int (StrChars.lo8 q11)), (.int (StrChars.lo8 q12)), (.int (StrChars.lo8 q13)), (.int by14), (.int by15), (.int by16)] (.int (0 : Int32))) (cq1 : ¬ q1 < 0 ∧ ¬ (255 : Int32) < q1) (cq2 : ¬ q2 < 0 ∧ ¬ (255 : Int32) < q2) (cq3 : ¬ q3 < 0 ∧ ¬ (255 : Int32) < q3) (cq4 : ¬ q4 < 0 ∧ ¬ (255 : Int32) < q4) (cq5 : ¬ q5 < 0 ∧ ¬ (255 : Int32) < q5) (cq6 : ¬ q6 < 0 ∧ ¬ (255 : Int32) < q6) (cq7 : ¬ q7 < 0 ∧ ¬ (255 : Int32) < q7) (cq8 : ¬ q8 < 0 ∧ ¬ (255 : Int32) < q8) (cq9 : ¬ q9 < 0 ∧ ¬ (255 : Int32) < q9) (cq10 : ¬ q10 < 0 ∧ ¬ (255 : Int32) < q10) (cq11 : ¬ q11 < 0 ∧ ¬ (255 : Int32) < q11) (cq12 : ¬ q12 < 0 ∧ ¬ (255 : Int32) < q12) (cq13 : ¬ q13 < 0 ∧ ¬ (255 : Int32) < q13) :
    Met l Z EL0 n0 (⟨"java/lang/StringBuilder", "toString", "()Ljava/lang/String;"⟩ : MethodName) jdk_67_method_42_code 1 (some (.object "java/lang/String")) [] ({ frames := 5, cells := 2, slots := 17, locals := 79 } : Room) #[(.ref a1)] h0 [] [] (fun v h' S => ∃ r : Addr, v = some (.ref r) ∧ h0.size ≤ r ∧ Str Z h' r [q1, q2, q3, q4, q5, q6, q7, q8, q9, q10, q11, q12, q13]) := by
  refine Met.of (plainFor_of_name pn1) O0 ?_
  intro p e s m below meth c T0 hx hby hml hret hlk hnm hs W0
  have W0 : Wk p l e _ s m _ below meth c Z EL0 n0 [] "java/lang/StringBuilder" [] T0 0 0 h0 := W0
  have hSA := fun d hd => hw d (sa_in d hd)
  have hws := fun d hd => hw d (ws_in d hd)
  have hln := fun d hd => hw d (ln_in d hd)
  have heq := fun d hd => hw d (eq_in d hd)
  refine Go.of (fun _ kk => castTop (ef205 m a1) kk) ?_
  show Go p e below _ (T0.setTop (mkF m 0 #[.val (.ref a1)] []))
  refine W0.newO hx (hw _ (List.mem_of_getElem? (i := 109) rfl)) (hw _ (List.mem_of_getElem? (i := 1) rfl)) (hw _ (List.mem_of_getElem? (i := 2) rfl)) rfl (hb hby d205_0) (by decide +kernel) (by decide +kernel) (fun T1 h1 b1 eb1 gb1 W1 K1 E1 D1 => ?_)
  have k2 : Fld Z h1 b1 "java/lang/String" "coder" "B" (.int (0 : Int32)) := D1 (Or.inr (hw _ (List.mem_of_getElem? (i := 27) rfl))) (ty := .byte) (by decide +kernel)
  have k3 : Fld Z h1 b1 "java/lang/String" "value" "[B" .null := D1 (Or.inr (hw _ (List.mem_of_getElem? (i := 29) rfl))) (ty := (.array .byte)) (by decide +kernel)
  show Go p e below _ (T1.setTop (mkF m 3 #[.val (.ref a1)] [(.ref b1)]))
  refine Go.of (t' := T1.setTop (mkF m 4 #[.val (.ref a1)] [(.ref b1), (.ref b1)])) (fun _ kk => XS.dup W1.here hx rfl (hb hby d205_3) rfl rfl kk) ?_
  refine Go.of (t' := T1.setTop (mkF m 5 #[.val (.ref a1)] [(.ref a1), (.ref b1), (.ref b1)])) (fun _ kk => XS.aloadN W1.here hx rfl (hb hby d205_4) rfl rfl kk) ?_
  have k5 := (Eb.keep K1)
  have k6 := (Fvp.keep K1 nin0)
  have k7 := (Fcp.keep K1 nin0)
  have k8 := (Fnp.keep K1 nin0)
  have k9 := (Ab.keep K1 nin0)
  refine W1.callP hx hEL rfl (hw _ (List.mem_of_getElem? (i := 110) rfl)) (hw _ (List.mem_of_getElem? (i := 111) rfl)) (hw _ (List.mem_of_getElem? (i := 2) rfl)) (hw _ (List.mem_of_getElem? (i := 112) rfl)) (by decide +kernel) (a := b1) (argsL := [(.ref a1)]) (rest := [(.ref b1)]) (rm204 l Z a0 hw hEL zc SC hzc fm SF rfm b1 a1 t kc by14 by15 by16 q1 q2 q3 q4 q5 q6 q7 q8 q9 q10 q11 q12 q13 h1 W1.old k5 k6 k7 k8 k9 cq1 cq2 cq3 cq4 cq5 cq6 cq7 cq8 cq9 cq10 cq11 cq12 cq13 E1 k3 k2 gb1.1 (ne_of_born (Nat.le_of_eq eb1.symm) Eb.lt (Nat.le_refl _)).symm (ne_of_born (Nat.le_of_eq eb1.symm) Ab.lt (Nat.le_refl _)).symm) (allS (List.mem_of_getElem? (i := 0) rfl) all0) (by decide +kernel) (Wd := 1) (by decide +kernel) (by decide +kernel) (by decide +kernel) (allS ⟨gb1.1, (Or.inr gb1.2)⟩ all0) rfl (by rw [hml]; rfl) (lenOf pd13 rfl) rfl (by show 2 * 0 + _ ≤ _; exact Nat.le_of_eq rfl) (hb hby d205_5) (fun T4 h4 v4 P4 Ws4 K4 q4 => ?_)
  have W4 := Ws4 [] all0
  obtain ⟨rfl, S4⟩ := q4
  show Go p e below _ (T4.setTop (mkF m 8 #[.val (.ref a1)] [(.ref b1)]))
  exact W4.retA hx hEL hs hlk (by decide +kernel) (by decide +kernel) hret rfl rfl (hb hby d205_8) (fun S hS => ⟨b1, rfl, hs ▸ gb1.2, S4⟩)
theorem d210_0 : decode jdk_65_method_133_code 0 = .ok (.iload_n 1, 1) := by decide +kernel
theorem d210_1 : decode jdk_65_method_133_code 1 = .ok (.iload_n 2, 1) := by decide +kernel
theorem d210_2 : decode jdk_65_method_133_code 2 = .ok (.invokestatic 343, 3) := by decide +kernel
theorem d210_5 : decode jdk_65_method_133_code 5 = .ok (.iload_n 2, 1) := by decide +kernel
theorem d210_6 : decode jdk_65_method_133_code 6 = .ok (.iload_n 1, 1) := by decide +kernel
theorem d210_7 : decode jdk_65_method_133_code 7 = .ok (.isub, 1) := by decide +kernel
theorem d210_8 : decode jdk_65_method_133_code 8 = .ok (.istore_n 3, 1) := by decide +kernel
theorem d210_9 : decode jdk_65_method_133_code 9 = .ok (.iload_n 3, 1) := by decide +kernel
theorem d210_10 : decode jdk_65_method_133_code 10 = .ok (.newarray .byte, 2) := by decide +kernel
theorem d210_12 : decode jdk_65_method_133_code 12 = .ok (.astore 4, 2) := by decide +kernel
theorem d210_14 : decode jdk_65_method_133_code 14 = .ok (.aload_n 0, 1) := by decide +kernel
theorem d210_15 : decode jdk_65_method_133_code 15 = .ok (.iload_n 1, 1) := by decide +kernel
theorem d210_16 : decode jdk_65_method_133_code 16 = .ok (.aload 4, 2) := by decide +kernel
theorem d210_18 : decode jdk_65_method_133_code 18 = .ok (.iconst 0, 1) := by decide +kernel
theorem d210_19 : decode jdk_65_method_133_code 19 = .ok (.aload_n 0, 1) := by decide +kernel
theorem d210_20 : decode jdk_65_method_133_code 20 = .ok (.arraylength, 1) := by decide +kernel
theorem d210_21 : decode jdk_65_method_133_code 21 = .ok (.iload_n 1, 1) := by decide +kernel
theorem d210_22 : decode jdk_65_method_133_code 22 = .ok (.isub, 1) := by decide +kernel
theorem d210_23 : decode jdk_65_method_133_code 23 = .ok (.iload_n 3, 1) := by decide +kernel
theorem d210_24 : decode jdk_65_method_133_code 24 = .ok (.invokestatic 304, 3) := by decide +kernel
theorem d210_27 : decode jdk_65_method_133_code 27 = .ok (.invokestatic 150, 3) := by decide +kernel
theorem d210_30 : decode jdk_65_method_133_code 30 = .ok (.aload 4, 2) := by decide +kernel
theorem d210_32 : decode jdk_65_method_133_code 32 = .ok (.areturn, 1) := by decide +kernel
theorem ef210 (m : MethodId) (x0 : Addr) (x1 : Int32) (x2 : Int32)  : entryFrame m #[(.ref x0), (.int x1), (.int x2)] 5 = mkF m 0 #[.val (.ref x0), .val (.int x1), .val (.int x2), .unset, .unset] [] := by first | (simp [entryFrame, mkF, argsToLocals, Value.category]; done) | rfl | rfl
set_option maxRecDepth 65536 in
set_option maxHeartbeats 40000000 in
theorem rm210 (l : Launch) (Z : State) (a0 : Array Value) (hw : ∀ d ∈ tables_1, d.before a0 Z = true) (hEL : EW Z a0 EL0) (zc : Int32) (SC : Sta Z Z.heap "java/lang/String" "COMPACT_STRINGS" "Z" (.int zc)) (hzc : ¬ zc = 0) (fm : Value) (SF : Sta Z Z.heap "jdk/internal/util/Preconditions" "SIOOBE_FORMATTER" "Ljava/util/function/BiFunction;" fm) (rfm : fm.isRef = true) (t : Addr) (kc : ClassId) (by1 : Int32) (by2 : Int32) (by3 : Int32) (by4 : Int32) (by5 : Int32) (by6 : Int32) (by7 : Int32) (by8 : Int32) (by9 : Int32) (by10 : Int32) (by11 : Int32) (by12 : Int32) (by13 : Int32) (by14 : Int32) (by15 : Int32) (by16 : Int32) (h0 : Heap) {n0 : Nat} (O0 : Old Z n0 h0) (Ab : Arv Z h0 t kc .byte (16 : Int32) [(.int by1), (.int by2), (.int by3), (.int by4), (.int by5), (.int by6), (.int by7), (.int by8), (.int by9), (.int by10), (.int by11), (.int by12), (.int by13), (.int by14), (.int by15), (.int by16)] (.int (0 : Int32))) :
    Met l Z EL0 n0 (⟨"java/util/Arrays", "copyOfRangeByte", "([BII)[B"⟩ : MethodName) jdk_65_method_133_code 5 (some (.array .byte)) [] ({ frames := 1, cells := 1, slots := 10, locals := 18 } : Room) #[(.ref t), (.int (0 : Int32)), (.int (10 : Int32))] h0 [] [] (fun v h' S => ∃ (r : Addr) (kc : ClassId), v = some (.ref r) ∧ h0.size ≤ r ∧ Arv Z h' r kc .byte (10 : Int32) [(.int by1), (.int by2), (.int by3), (.int by4), (.int by5), (.int by6), (.int by7), (.int by8), (.int by9), (.int by10)] (.int (0 : Int32))) := by
  refine Met.of (plainFor_of_name pn3) O0 ?_
  intro p e s m below meth c T0 hx hby hml hret hlk hnm hs W0
  have W0 : Wk p l e _ s m _ below meth c Z EL0 n0 [] "java/util/Arrays" [] T0 0 0 h0 := W0
  have hSA := fun d hd => hw d (sa_in d hd)
  have hws := fun d hd => hw d (ws_in d hd)
  have hln := fun d hd => hw d (ln_in d hd)
  have heq := fun d hd => hw d (eq_in d hd)
  refine Go.of (fun _ kk => castTop (ef210 m t (0 : Int32) (10 : Int32)) kk) ?_
  show Go p e below _ (T0.setTop (mkF m 0 #[.val (.ref t), .val (.int (0 : Int32)), .val (.int (10 : Int32)), .unset, .unset] []))
  refine Go.of (t' := T0.setTop (mkF m 1 #[.val (.ref t), .val (.int (0 : Int32)), .val (.int (10 : Int32)), .unset, .unset] [(.int (0 : Int32))])) (fun _ kk => XS.iloadN W0.here hx rfl (hb hby d210_0) rfl kk) ?_
  refine Go.of (t' := T0.setTop (mkF m 2 #[.val (.ref t), .val (.int (0 : Int32)), .val (.int (10 : Int32)), .unset, .unset] [(.int (10 : Int32)), (.int (0 : Int32))])) (fun _ kk => XS.iloadN W0.here hx rfl (hb hby d210_1) rfl kk) ?_
  refine W0.callS hx hEL (hw _ (List.mem_of_getElem? (i := 141) rfl)) (hw _ (List.mem_of_getElem? (i := 142) rfl)) (hw _ (List.mem_of_getElem? (i := 136) rfl)) (hw _ (List.mem_of_getElem? (i := 143) rfl)) (by decide +kernel) (argsL := [(.int (0 : Int32)), (.int (10 : Int32))]) (rest := []) (rm6 l Z a0 hw hEL zc SC hzc fm SF rfm (0 : Int32) (10 : Int32) h0 W0.old (by decide +kernel)) all0 (by decide +kernel) (Wd := 0) (by decide +kernel) (by decide +kernel) (by decide +kernel) all0 rfl (by rw [hml]; rfl) (lenOf pd7 rfl) rfl (by show 2 * 0 + _ ≤ _; exact Nat.le_of_eq rfl) (hb hby d210_2) (fun T1 h1 v1 P1 Ws1 K1 q1 => ?_)
  have W1 := Ws1 [] all0
  obtain ⟨rfl, rfl⟩ := q1
  show Go p e below _ (T1.setTop (mkF m 5 #[.val (.ref t), .val (.int (0 : Int32)), .val (.int (10 : Int32)), .unset, .unset] []))
  refine Go.of (t' := T1.setTop (mkF m 6 #[.val (.ref t), .val (.int (0 : Int32)), .val (.int (10 : Int32)), .unset, .unset] [(.int (10 : Int32))])) (fun _ kk => XS.iloadN W1.here hx rfl (hb hby d210_5) rfl kk) ?_
  refine Go.of (t' := T1.setTop (mkF m 7 #[.val (.ref t), .val (.int (0 : Int32)), .val (.int (10 : Int32)), .unset, .unset] [(.int (0 : Int32)), (.int (10 : Int32))])) (fun _ kk => XS.iloadN W1.here hx rfl (hb hby d210_6) rfl kk) ?_
  refine Go.of (t' := T1.setTop (mkF m 8 #[.val (.ref t), .val (.int (0 : Int32)), .val (.int (10 : Int32)), .unset, .unset] [(.int (10 : Int32))])) (fun _ kk => XS.isub W1.here hx rfl (hb hby d210_7) rfl kk) ?_
  refine Go.of (t' := T1.setTop (mkF m 9 #[.val (.ref t), .val (.int (0 : Int32)), .val (.int (10 : Int32)), .val (.int (10 : Int32)), .unset] [])) (fun _ kk => XS.istoreN W1.here hx rfl (hb hby d210_8) rfl (l' := #[.val (.ref t), .val (.int (0 : Int32)), .val (.int (10 : Int32)), .val (.int (10 : Int32)), .unset]) rfl kk) ?_
  refine Go.of (t' := T1.setTop (mkF m 10 #[.val (.ref t), .val (.int (0 : Int32)), .val (.int (10 : Int32)), .val (.int (10 : Int32)), .unset] [(.int (10 : Int32))])) (fun _ kk => XS.iloadN W1.here hx rfl (hb hby d210_9) rfl kk) ?_
  refine W1.newP hx (hw _ (List.mem_of_getElem? (i := 19) rfl)) rfl (hb hby d210_10) rfl (by decide +kernel) (cap := 10) (by decide +kernel) (by decide +kernel) (by decide +kernel) (by decide +kernel) (fun T2 h2 b2 c2 eb2 gb2 W2 K2 A2 => ?_)
  have V2 : Arv Z h2 b2 c2 .byte (10 : Int32) [(.int (0 : Int32)), (.int (0 : Int32)), (.int (0 : Int32)), (.int (0 : Int32)), (.int (0 : Int32)), (.int (0 : Int32)), (.int (0 : Int32)), (.int (0 : Int32)), (.int (0 : Int32)), (.int (0 : Int32))] (.int (0 : Int32)) := A2
  show Go p e below _ (T2.setTop (mkF m 12 #[.val (.ref t), .val (.int (0 : Int32)), .val (.int (10 : Int32)), .val (.int (10 : Int32)), .unset] [(.ref b2)]))
  refine Go.of (t' := T2.setTop (mkF m 14 #[.val (.ref t), .val (.int (0 : Int32)), .val (.int (10 : Int32)), .val (.int (10 : Int32)), .val (.ref b2)] [])) (fun _ kk => XS.astore W2.here hx rfl (hb hby d210_12) rfl rfl (l' := #[.val (.ref t), .val (.int (0 : Int32)), .val (.int (10 : Int32)), .val (.int (10 : Int32)), .val (.ref b2)]) rfl kk) ?_
  refine Go.of (t' := T2.setTop (mkF m 15 #[.val (.ref t), .val (.int (0 : Int32)), .val (.int (10 : Int32)), .val (.int (10 : Int32)), .val (.ref b2)] [(.ref t)])) (fun _ kk => XS.aloadN W2.here hx rfl (hb hby d210_14) rfl rfl kk) ?_
  refine Go.of (t' := T2.setTop (mkF m 16 #[.val (.ref t), .val (.int (0 : Int32)), .val (.int (10 : Int32)), .val (.int (10 : Int32)), .val (.ref b2)] [(.int (0 : Int32)), (.ref t)])) (fun _ kk => XS.iloadN W2.here hx rfl (hb hby d210_15) rfl kk) ?_
  refine Go.of (t' := T2.setTop (mkF m 18 #[.val (.ref t), .val (.int (0 : Int32)), .val (.int (10 : Int32)), .val (.int (10 : Int32)), .val (.ref b2)] [(.ref b2), (.int (0 : Int32)), (.ref t)])) (fun _ kk => XS.aload W2.here hx rfl (hb hby d210_16) rfl rfl kk) ?_
  refine Go.of (t' := T2.setTop (mkF m 19 #[.val (.ref t), .val (.int (0 : Int32)), .val (.int (10 : Int32)), .val (.int (10 : Int32)), .val (.ref b2)] [(.int (0 : Int32)), (.ref b2), (.int (0 : Int32)), (.ref t)])) (fun _ kk => XS.iconst W2.here hx rfl (hb hby d210_18) kk) ?_
  refine Go.of (t' := T2.setTop (mkF m 20 #[.val (.ref t), .val (.int (0 : Int32)), .val (.int (10 : Int32)), .val (.int (10 : Int32)), .val (.ref b2)] [(.ref t), (.int (0 : Int32)), (.ref b2), (.int (0 : Int32)), (.ref t)])) (fun _ kk => XS.aloadN W2.here hx rfl (hb hby d210_19) rfl rfl kk) ?_
  have k3 := (Ab.keep K2 nin0)
  refine W2.alen hx k3 rfl rfl (hb hby d210_20) ?_
  show Go p e below _ (T2.setTop (mkF m 21 #[.val (.ref t), .val (.int (0 : Int32)), .val (.int (10 : Int32)), .val (.int (10 : Int32)), .val (.ref b2)] [(.int (16 : Int32)), (.int (0 : Int32)), (.ref b2), (.int (0 : Int32)), (.ref t)]))
  refine Go.of (t' := T2.setTop (mkF m 22 #[.val (.ref t), .val (.int (0 : Int32)), .val (.int (10 : Int32)), .val (.int (10 : Int32)), .val (.ref b2)] [(.int (0 : Int32)), (.int (16 : Int32)), (.int (0 : Int32)), (.ref b2), (.int (0 : Int32)), (.ref t)])) (fun _ kk => XS.iloadN W2.here hx rfl (hb hby d210_21) rfl kk) ?_
  refine Go.of (t' := T2.setTop (mkF m 23 #[.val (.ref t), .val (.int (0 : Int32)), .val (.int (10 : Int32)), .val (.int (10 : Int32)), .val (.ref b2)] [(.int (16 : Int32)), (.int (0 : Int32)), (.ref b2), (.int (0 : Int32)), (.ref t)])) (fun _ kk => XS.isub W2.here hx rfl (hb hby d210_22) rfl kk) ?_
  refine Go.of (t' := T2.setTop (mkF m 24 #[.val (.ref t), .val (.int (0 : Int32)), .val (.int (10 : Int32)), .val (.int (10 : Int32)), .val (.ref b2)] [(.int (10 : Int32)), (.int (16 : Int32)), (.int (0 : Int32)), (.ref b2), (.int (0 : Int32)), (.ref t)])) (fun _ kk => XS.iloadN W2.here hx rfl (hb hby d210_23) rfl kk) ?_
  refine W2.callS hx hEL (hw _ (List.mem_of_getElem? (i := 144) rfl)) (hw _ (List.mem_of_getElem? (i := 145) rfl)) (hw _ (List.mem_of_getElem? (i := 146) rfl)) (hw _ (List.mem_of_getElem? (i := 147) rfl)) (by decide +kernel) (argsL := [(.int (16 : Int32)), (.int (10 : Int32))]) (rest := [(.int (0 : Int32)), (.ref b2), (.int (0 : Int32)), (.ref t)]) (rm5 l Z a0 hw hEL zc SC hzc fm SF rfm (16 : Int32) (10 : Int32) h2 W2.old (by decide +kernel)) all0 (by decide +kernel) (Wd := 4) (by decide +kernel) (by decide +kernel) (by decide +kernel) all0 rfl (by rw [hml]; rfl) (lenOf pd8 rfl) rfl (by show 2 * 0 + _ ≤ _; exact Nat.le_of_eq rfl) (hb hby d210_24) (fun T4 h4 v4 P4 Ws4 K4 q4 => ?_)
  have W4 := Ws4 [] all0
  obtain ⟨rfl, rfl⟩ := q4
  show Go p e below _ (T4.setTop (mkF m 27 #[.val (.ref t), .val (.int (0 : Int32)), .val (.int (10 : Int32)), .val (.int (10 : Int32)), .val (.ref b2)] [(.int (10 : Int32)), (.int (0 : Int32)), (.ref b2), (.int (0 : Int32)), (.ref t)]))
  refine W4.cp hx (hw _ (List.mem_of_getElem? (i := 148) rfl)) (hw _ (List.mem_of_getElem? (i := 101) rfl)) (hw _ (List.mem_of_getElem? (i := 99) rfl)) (hw _ (List.mem_of_getElem? (i := 100) rfl)) (us := [(.int by1), (.int by2), (.int by3), (.int by4), (.int by5), (.int by6), (.int by7), (.int by8), (.int by9), (.int by10)]) k3 V2 rfl (by decide) (by decide) (by decide) (by decide) (by decide) rfl (Nat.le_of_ble_eq_true rfl) gb2.1 (Or.inr gb2.2) (List.mem_of_getElem? (i := 0) rfl) rfl (by rw [hml]; rfl) rfl (hb hby d210_27) (by decide +kernel) (Wd := 0) (by show 2 * 0 + _ ≤ _; exact Nat.le_of_eq rfl) (by decide +kernel) (fun T5 h5 W5 K5 A5 => ?_)
  have V5 : Arv Z h5 b2 c2 .byte (10 : Int32) [(.int by1), (.int by2), (.int by3), (.int by4), (.int by5), (.int by6), (.int by7), (.int by8), (.int by9), (.int by10)] (.int (0 : Int32)) := A5
  show Go p e below _ (T5.setTop (mkF m 30 #[.val (.ref t), .val (.int (0 : Int32)), .val (.int (10 : Int32)), .val (.int (10 : Int32)), .val (.ref b2)] []))
  refine Go.of (t' := T5.setTop (mkF m 32 #[.val (.ref t), .val (.int (0 : Int32)), .val (.int (10 : Int32)), .val (.int (10 : Int32)), .val (.ref b2)] [(.ref b2)])) (fun _ kk => XS.aload W5.here hx rfl (hb hby d210_30) rfl rfl kk) ?_
  exact W5.retA hx hEL hs hlk (by decide +kernel) (by decide +kernel) hret rfl rfl (hb hby d210_32) (fun S hS => ⟨b2, c2, rfl, hs ▸ gb2.2, V5⟩)
theorem d211_0 : decode jdk_65_method_132_code 0 = .ok (.iload_n 1, 1) := by decide +kernel
theorem d211_1 : decode jdk_65_method_132_code 1 = .ok (.ifCond .ne 9, 3) := by decide +kernel
theorem d211_4 : decode jdk_65_method_132_code 4 = .ok (.iload_n 2, 1) := by decide +kernel
theorem d211_5 : decode jdk_65_method_132_code 5 = .ok (.aload_n 0, 1) := by decide +kernel
theorem d211_6 : decode jdk_65_method_132_code 6 = .ok (.arraylength, 1) := by decide +kernel
theorem d211_7 : decode jdk_65_method_132_code 7 = .ok (.if_icmp .eq 10, 3) := by decide +kernel
theorem d211_10 : decode jdk_65_method_132_code 10 = .ok (.aload_n 0, 1) := by decide +kernel
theorem d211_11 : decode jdk_65_method_132_code 11 = .ok (.iload_n 1, 1) := by decide +kernel
theorem d211_12 : decode jdk_65_method_132_code 12 = .ok (.iload_n 2, 1) := by decide +kernel
theorem d211_13 : decode jdk_65_method_132_code 13 = .ok (.invokestatic 339, 3) := by decide +kernel
theorem d211_16 : decode jdk_65_method_132_code 16 = .ok (.areturn, 1) := by decide +kernel
theorem ef211 (m : MethodId) (x0 : Addr) (x1 : Int32) (x2 : Int32)  : entryFrame m #[(.ref x0), (.int x1), (.int x2)] 3 = mkF m 0 #[.val (.ref x0), .val (.int x1), .val (.int x2)] [] := by first | (simp [entryFrame, mkF, argsToLocals, Value.category]; done) | rfl | rfl
set_option maxRecDepth 65536 in
set_option maxHeartbeats 40000000 in
theorem rm211 (l : Launch) (Z : State) (a0 : Array Value) (hw : ∀ d ∈ tables_1, d.before a0 Z = true) (hEL : EW Z a0 EL0) (zc : Int32) (SC : Sta Z Z.heap "java/lang/String" "COMPACT_STRINGS" "Z" (.int zc)) (hzc : ¬ zc = 0) (fm : Value) (SF : Sta Z Z.heap "jdk/internal/util/Preconditions" "SIOOBE_FORMATTER" "Ljava/util/function/BiFunction;" fm) (rfm : fm.isRef = true) (t : Addr) (kc : ClassId) (by1 : Int32) (by2 : Int32) (by3 : Int32) (by4 : Int32) (by5 : Int32) (by6 : Int32) (by7 : Int32) (by8 : Int32) (by9 : Int32) (by10 : Int32) (by11 : Int32) (by12 : Int32) (by13 : Int32) (by14 : Int32) (by15 : Int32) (by16 : Int32) (h0 : Heap) {n0 : Nat} (O0 : Old Z n0 h0) (Ab : Arv Z h0 t kc .byte (16 : Int32) [(.int by1), (.int by2), (.int by3), (.int by4), (.int by5), (.int by6), (.int by7), (.int by8), (.int by9), (.int by10), (.int by11), (.int by12), (.int by13), (.int by14), (.int by15), (.int by16)] (.int (0 : Int32))) :
    Met l Z EL0 n0 (⟨"java/util/Arrays", "copyOfRange", "([BII)[B"⟩ : MethodName) jdk_65_method_132_code 3 (some (.array .byte)) [] ({ frames := 2, cells := 1, slots := 10, locals := 34 } : Room) #[(.ref t), (.int (0 : Int32)), (.int (10 : Int32))] h0 [] [] (fun v h' S => ∃ (r : Addr) (kc : ClassId), v = some (.ref r) ∧ h0.size ≤ r ∧ Arv Z h' r kc .byte (10 : Int32) [(.int by1), (.int by2), (.int by3), (.int by4), (.int by5), (.int by6), (.int by7), (.int by8), (.int by9), (.int by10)] (.int (0 : Int32))) := by
  refine Met.of (plainFor_of_name pn3) O0 ?_
  intro p e s m below meth c T0 hx hby hml hret hlk hnm hs W0
  have W0 : Wk p l e _ s m _ below meth c Z EL0 n0 [] "java/util/Arrays" [] T0 0 0 h0 := W0
  have hSA := fun d hd => hw d (sa_in d hd)
  have hws := fun d hd => hw d (ws_in d hd)
  have hln := fun d hd => hw d (ln_in d hd)
  have heq := fun d hd => hw d (eq_in d hd)
  refine Go.of (fun _ kk => castTop (ef211 m t (0 : Int32) (10 : Int32)) kk) ?_
  show Go p e below _ (T0.setTop (mkF m 0 #[.val (.ref t), .val (.int (0 : Int32)), .val (.int (10 : Int32))] []))
  refine Go.of (t' := T0.setTop (mkF m 1 #[.val (.ref t), .val (.int (0 : Int32)), .val (.int (10 : Int32))] [(.int (0 : Int32))])) (fun _ kk => XS.iloadN W0.here hx rfl (hb hby d211_0) rfl kk) ?_
  refine Go.of (t' := T0.setTop (mkF m 4 #[.val (.ref t), .val (.int (0 : Int32)), .val (.int (10 : Int32))] [])) (fun _ kk => XS.ifNo W0.here hx rfl (hb hby d211_1) rfl (XT.i0_ne_f (by decide +kernel)) kk) ?_
  refine Go.of (t' := T0.setTop (mkF m 5 #[.val (.ref t), .val (.int (0 : Int32)), .val (.int (10 : Int32))] [(.int (10 : Int32))])) (fun _ kk => XS.iloadN W0.here hx rfl (hb hby d211_4) rfl kk) ?_
  refine Go.of (t' := T0.setTop (mkF m 6 #[.val (.ref t), .val (.int (0 : Int32)), .val (.int (10 : Int32))] [(.ref t), (.int (10 : Int32))])) (fun _ kk => XS.aloadN W0.here hx rfl (hb hby d211_5) rfl rfl kk) ?_
  refine W0.alen hx Ab rfl rfl (hb hby d211_6) ?_
  show Go p e below _ (T0.setTop (mkF m 7 #[.val (.ref t), .val (.int (0 : Int32)), .val (.int (10 : Int32))] [(.int (16 : Int32)), (.int (10 : Int32))]))
  refine Go.of (t' := T0.setTop (mkF m 10 #[.val (.ref t), .val (.int (0 : Int32)), .val (.int (10 : Int32))] [])) (fun _ kk => XS.icmpNo W0.here hx rfl (hb hby d211_7) rfl (XT.ii_eq_f (by decide +kernel)) kk) ?_
  refine Go.of (t' := T0.setTop (mkF m 11 #[.val (.ref t), .val (.int (0 : Int32)), .val (.int (10 : Int32))] [(.ref t)])) (fun _ kk => XS.aloadN W0.here hx rfl (hb hby d211_10) rfl rfl kk) ?_
  refine Go.of (t' := T0.setTop (mkF m 12 #[.val (.ref t), .val (.int (0 : Int32)), .val (.int (10 : Int32))] [(.int (0 : Int32)), (.ref t)])) (fun _ kk => XS.iloadN W0.here hx rfl (hb hby d211_11) rfl kk) ?_
  refine Go.of (t' := T0.setTop (mkF m 13 #[.val (.ref t), .val (.int (0 : Int32)), .val (.int (10 : Int32))] [(.int (10 : Int32)), (.int (0 : Int32)), (.ref t)])) (fun _ kk => XS.iloadN W0.here hx rfl (hb hby d211_12) rfl kk) ?_
  refine W0.callS hx hEL (hw _ (List.mem_of_getElem? (i := 138) rfl)) (hw _ (List.mem_of_getElem? (i := 139) rfl)) (hw _ (List.mem_of_getElem? (i := 136) rfl)) (hw _ (List.mem_of_getElem? (i := 140) rfl)) (by decide +kernel) (argsL := [(.ref t), (.int (0 : Int32)), (.int (10 : Int32))]) (rest := []) (rm210 l Z a0 hw hEL zc SC hzc fm SF rfm t kc by1 by2 by3 by4 by5 by6 by7 by8 by9 by10 by11 by12 by13 by14 by15 by16 h0 W0.old Ab) all0 (by decide +kernel) (Wd := 0) (by decide +kernel) (by decide +kernel) (by decide +kernel) all0 rfl (by rw [hml]; rfl) (lenOf pd9 rfl) rfl (by show 2 * 0 + _ ≤ _; exact Nat.le_of_eq rfl) (hb hby d211_13) (fun T1 h1 v1 P1 Ws1 K1 q1 => ?_)
  have W1 := Ws1 [] all0
  obtain ⟨r1, kc1, rfl, lr1, A1⟩ := q1
  have gr1 : n0 ≤ r1 ∧ s.heap.size ≤ r1 := ⟨Nat.le_trans W0.n0le lr1, Nat.le_trans W0.s0le lr1⟩
  show Go p e below _ (T1.setTop (mkF m 16 #[.val (.ref t), .val (.int (0 : Int32)), .val (.int (10 : Int32))] [(.ref r1)]))
  exact W1.retA hx hEL hs hlk (by decide +kernel) (by decide +kernel) hret rfl rfl (hb hby d211_16) (fun S hS => ⟨r1, kc1, rfl, hs ▸ gr1.2, A1⟩)
theorem d213_0 : decode jdk_42_method_150_code 0 = .ok (.aload_n 0, 1) := by decide +kernel
theorem d213_1 : decode jdk_42_method_150_code 1 = .ok (.invokespecial 1, 3) := by decide +kernel
theorem d213_4 : decode jdk_42_method_150_code 4 = .ok (.aload_n 1, 1) := by decide +kernel
theorem d213_5 : decode jdk_42_method_150_code 5 = .ok (.invokevirtual 552, 3) := by decide +kernel
theorem d213_8 : decode jdk_42_method_150_code 8 = .ok (.astore_n 3, 1) := by decide +kernel
theorem d213_9 : decode jdk_42_method_150_code 9 = .ok (.aload_n 1, 1) := by decide +kernel
theorem d213_10 : decode jdk_42_method_150_code 10 = .ok (.invokevirtual 549, 3) := by decide +kernel
theorem d213_13 : decode jdk_42_method_150_code 13 = .ok (.istore 4, 2) := by decide +kernel
theorem d213_15 : decode jdk_42_method_150_code 15 = .ok (.aload_n 1, 1) := by decide +kernel
theorem d213_16 : decode jdk_42_method_150_code 16 = .ok (.invokevirtual 1047, 3) := by decide +kernel
theorem d213_19 : decode jdk_42_method_150_code 19 = .ok (.ifCond .eq 22, 3) := by decide +kernel
theorem d213_22 : decode jdk_42_method_150_code 22 = .ok (.aload_n 0, 1) := by decide +kernel
theorem d213_23 : decode jdk_42_method_150_code 23 = .ok (.iconst 0, 1) := by decide +kernel
theorem d213_24 : decode jdk_42_method_150_code 24 = .ok (.putfield 15, 3) := by decide +kernel
theorem d213_27 : decode jdk_42_method_150_code 27 = .ok (.aload_n 0, 1) := by decide +kernel
theorem d213_28 : decode jdk_42_method_150_code 28 = .ok (.aload_n 3, 1) := by decide +kernel
theorem d213_29 : decode jdk_42_method_150_code 29 = .ok (.iconst 0, 1) := by decide +kernel
theorem d213_30 : decode jdk_42_method_150_code 30 = .ok (.iload 4, 2) := by decide +kernel
theorem d213_32 : decode jdk_42_method_150_code 32 = .ok (.invokestatic 54, 3) := by decide +kernel
theorem d213_35 : decode jdk_42_method_150_code 35 = .ok (.putfield 9, 3) := by decide +kernel
theorem d213_38 : decode jdk_42_method_150_code 38 = .ok (.goto 59, 3) := by decide +kernel
theorem d213_97 : decode jdk_42_method_150_code 97 = .ok (.return_, 1) := by decide +kernel
theorem ef213 (m : MethodId) (x0 : Addr) (x1 : Addr)  : entryFrame m #[(.ref x0), (.ref x1), .null] 5 = mkF m 0 #[.val (.ref x0), .val (.ref x1), .val .null, .unset, .unset] [] := by first | (simp [entryFrame, mkF, argsToLocals, Value.category]; done) | rfl | rfl
set_option maxRecDepth 65536 in
set_option maxHeartbeats 40000000 in
theorem rm213 (l : Launch) (Z : State) (a0 : Array Value) (hw : ∀ d ∈ tables_1, d.before a0 Z = true) (hEL : EW Z a0 EL0) (zc : Int32) (SC : Sta Z Z.heap "java/lang/String" "COMPACT_STRINGS" "Z" (.int zc)) (hzc : ¬ zc = 0) (fm : Value) (SF : Sta Z Z.heap "jdk/internal/util/Preconditions" "SIOOBE_FORMATTER" "Ljava/util/function/BiFunction;" fm) (rfm : fm.isRef = true) (x1 : Addr) (a1 : Addr) (t : Addr) (kc : ClassId) (by11 : Int32) (by12 : Int32) (by13 : Int32) (by14 : Int32) (by15 : Int32) (by16 : Int32) (q1 : Int32) (q2 : Int32) (q3 : Int32) (q4 : Int32) (q5 : Int32) (q6 : Int32) (q7 : Int32) (q8 : Int32) (q9 : Int32) (q10 : Int32) (h0 : Heap) {n0 : Nat} (O0 : Old Z n0 h0) (Eb : Exa Z h0 a1 "java/lang/StringBuilder") (Fvp : Fld Z h0 a1 "java/lang/AbstractStringBuilder" "value" "[B" (.ref t)) (Fcp : Fld Z h0 a1 "java/lang/AbstractStringBuilder" "coder" "B" (.int (0 : Int32))) (Fnp : Fld Z h0 a1 "java/lang/AbstractStringBuilder" "count" "I" (.int (10 : Int32))) (Ab : Arv Z h0 t kc .byte (16 : Int32) [(.int (StrChars.lo8 q1)), (.int (StrChars.lo8 q2)), (.int (StrChars.lo8 q3)), (.int (StrChars.lo8 q4)), (.int (StrChars.lo8 q5)), (.int (StrChars.lo8 q6)), (.int (StrChars.lo8 q7)), (.int (StrChars.lo8 q8)), (.int (StrChars.lo8 q9)), (.int (StrChars.lo8 q10)), (.int by11), (.int by12), (.int by13), (.int by14), (.int by15), (.int by16)] (.int (0 : Int32))) (cq1 : ¬ q1 < 0 ∧ ¬ (255 : Int32) < q1) (cq2 : ¬ q2 < 0 ∧ ¬ (255 : Int32) < q2) (cq3 : ¬ q3 < 0 ∧ ¬ (255 : Int32) < q3) (cq4 : ¬ q4 < 0 ∧ ¬ (255 : Int32) < q4) (cq5 : ¬ q5 < 0 ∧ ¬ (255 : Int32) < q5) (cq6 : ¬ q6 < 0 ∧ ¬ (255 : Int32) < q6) (cq7 : ¬ q7 < 0 ∧ ¬ (255 : Int32) < q7) (cq8 : ¬ q8 < 0 ∧ ¬ (255 : Int32) < q8) (cq9 : ¬ q9 < 0 ∧ ¬ (255 : Int32) < q9) (cq10 : ¬ q10 < 0 ∧ ¬ (255 : Int32) < q10) (Exx : Exa Z h0 x1 "java/lang/String") (Fxv : Fld Z h0 x1 "java/lang/String" "value" "[B" .null) (Fxc : Fld Z h0 x1 "java/lang/String" "coder" "B" (.int (0 : Int32))) (gxx : n0 ≤ x1) (nx1 : x1 ≠ a1) (nx2 : x1 ≠ t) :
    Met l Z EL0 n0 (⟨"java/lang/String", "<init>", "(Ljava/lang/AbstractStringBuilder;Ljava/lang/Void;)V"⟩ : MethodName) jdk_42_method_150_code 5 none [] ({ frames := 3, cells := 1, slots := 10, locals := 49 } : Room) #[(.ref x1), (.ref a1), .null] h0 [x1] [x1] (fun v h' S => v = none ∧ Str Z h' x1 [q1, q2, q3, q4, q5, q6, q7, q8, q9, q10]) := by
  refine Met.of (plainFor_of_name pn2) O0 ?_
  intro p e s m below meth c T0 hx hby hml hret hlk hnm hs W0
  have W0 : Wk p l e _ s m _ below meth c Z EL0 n0 [x1] "java/lang/String" [x1] T0 0 0 h0 := W0
  have hSA := fun d hd => hw d (sa_in d hd)
  have hws := fun d hd => hw d (ws_in d hd)
  have hln := fun d hd => hw d (ln_in d hd)
  have heq := fun d hd => hw d (eq_in d hd)
  refine Go.of (fun _ kk => castTop (ef213 m x1 a1) kk) ?_
  show Go p e below _ (T0.setTop (mkF m 0 #[.val (.ref x1), .val (.ref a1), .val .null, .unset, .unset] []))
  refine Go.of (t' := T0.setTop (mkF m 1 #[.val (.ref x1), .val (.ref a1), .val .null, .unset, .unset] [(.ref x1)])) (fun _ kk => XS.aloadN W0.here hx rfl (hb hby d213_0) rfl rfl kk) ?_
  refine W0.initO hx (hw _ (List.mem_of_getElem? (i := 11) rfl)) (hw _ (List.mem_of_getElem? (i := 12) rfl)) (hw _ (List.mem_of_getElem? (i := 13) rfl)) rfl (by rw [hml]; rfl) rfl (hb hby d213_1) (by decide +kernel) (Wd := 0) (by show 2 * 0 + _ ≤ _; exact Nat.le_of_eq rfl) (by decide +kernel) (fun T1 W1 => ?_)
  show Go p e below _ (T1.setTop (mkF m 4 #[.val (.ref x1), .val (.ref a1), .val .null, .unset, .unset] []))
  refine Go.of (t' := T1.setTop (mkF m 5 #[.val (.ref x1), .val (.ref a1), .val .null, .unset, .unset] [(.ref a1)])) (fun _ kk => XS.aloadN W1.here hx rfl (hb hby d213_4) rfl rfl kk) ?_
  refine W1.callV hx hEL (hw _ (List.mem_of_getElem? (i := 116) rfl)) (hw _ (List.mem_of_getElem? (i := 117) rfl)) (hw _ (List.mem_of_getElem? (i := 119) rfl)) (hw _ (List.mem_of_getElem? (i := 118) rfl)) (hw _ (List.mem_of_getElem? (i := 44) rfl)) (hw _ (List.mem_of_getElem? (i := 120) rfl)) (by decide +kernel) Eb (a := a1) (argsL := []) (rest := []) (rm7 l Z a0 hw hEL zc SC hzc fm SF rfm a1 t h0 W1.old Fvp) all0 (by decide +kernel) (Wd := 0) (by decide +kernel) (by decide +kernel) (by decide +kernel) all0 rfl (by rw [hml]; rfl) (lenOf pd10 rfl) rfl (by show 2 * 0 + _ ≤ _; exact Nat.le_of_eq rfl) (hb hby d213_5) (fun T2 h2 v2 P2 Ws2 K2 q2 => ?_)
  have W2 := Ws2 [] all0
  obtain ⟨rfl, rfl⟩ := q2
  show Go p e below _ (T2.setTop (mkF m 8 #[.val (.ref x1), .val (.ref a1), .val .null, .unset, .unset] [(.ref t)]))
  refine Go.of (t' := T2.setTop (mkF m 9 #[.val (.ref x1), .val (.ref a1), .val .null, .val (.ref t), .unset] [])) (fun _ kk => XS.astoreN W2.here hx rfl (hb hby d213_8) rfl rfl (l' := #[.val (.ref x1), .val (.ref a1), .val .null, .val (.ref t), .unset]) rfl kk) ?_
  refine Go.of (t' := T2.setTop (mkF m 10 #[.val (.ref x1), .val (.ref a1), .val .null, .val (.ref t), .unset] [(.ref a1)])) (fun _ kk => XS.aloadN W2.here hx rfl (hb hby d213_9) rfl rfl kk) ?_
  refine W2.callL hx hEL (hw _ (List.mem_of_getElem? (i := 121) rfl)) (hw _ (List.mem_of_getElem? (i := 122) rfl)) (hw _ (List.mem_of_getElem? (i := 124) rfl)) (hw _ (List.mem_of_getElem? (i := 125) rfl)) (hw _ (List.mem_of_getElem? (i := 36) rfl)) (hw _ (List.mem_of_getElem? (i := 126) rfl)) (hw _ (List.mem_of_getElem? (i := 80) rfl)) rfl (by decide +kernel) Eb (a := a1) (argsL := []) (rest := []) (rm10 l Z a0 hw hEL zc SC hzc fm SF rfm a1 (10 : Int32) h0 W2.old Eb Fnp) all0 (by decide +kernel) (Wd := 0) (by decide +kernel) (by decide +kernel) (by decide +kernel) all0 rfl (by rw [hml]; rfl) (lenOf pd1 rfl) rfl (by show 2 * 0 + _ ≤ _; exact Nat.le_of_eq rfl) (hb hby d213_10) (fun T3 h3 v3 P3 Ws3 K3 q3 => ?_)
  have W3 := Ws3 [] all0
  obtain ⟨rfl, rfl⟩ := q3
  show Go p e below _ (T3.setTop (mkF m 13 #[.val (.ref x1), .val (.ref a1), .val .null, .val (.ref t), .unset] [(.int (10 : Int32))]))
  refine Go.of (t' := T3.setTop (mkF m 15 #[.val (.ref x1), .val (.ref a1), .val .null, .val (.ref t), .val (.int (10 : Int32))] [])) (fun _ kk => XS.istore W3.here hx rfl (hb hby d213_13) rfl (l' := #[.val (.ref x1), .val (.ref a1), .val .null, .val (.ref t), .val (.int (10 : Int32))]) rfl kk) ?_
  refine Go.of (t' := T3.setTop (mkF m 16 #[.val (.ref x1), .val (.ref a1), .val .null, .val (.ref t), .val (.int (10 : Int32))] [(.ref a1)])) (fun _ kk => XS.aloadN W3.here hx rfl (hb hby d213_15) rfl rfl kk) ?_
  refine W3.callV hx hEL (hw _ (List.mem_of_getElem? (i := 129) rfl)) (hw _ (List.mem_of_getElem? (i := 130) rfl)) (hw _ (List.mem_of_getElem? (i := 132) rfl)) (hw _ (List.mem_of_getElem? (i := 131) rfl)) (hw _ (List.mem_of_getElem? (i := 44) rfl)) (hw _ (List.mem_of_getElem? (i := 133) rfl)) (by decide +kernel) Eb (a := a1) (argsL := []) (rest := []) (rm8 l Z a0 hw hEL zc SC hzc fm SF rfm a1 h0 W3.old Fcp) all0 (by decide +kernel) (Wd := 0) (by decide +kernel) (by decide +kernel) (by decide +kernel) all0 rfl (by rw [hml]; rfl) (lenOf pd11 rfl) rfl (by show 2 * 0 + _ ≤ _; exact Nat.le_of_eq rfl) (hb hby d213_16) (fun T4 h4 v4 P4 Ws4 K4 q4 => ?_)
  have W4 := Ws4 [] all0
  obtain ⟨rfl, rfl⟩ := q4
  show Go p e below _ (T4.setTop (mkF m 19 #[.val (.ref x1), .val (.ref a1), .val .null, .val (.ref t), .val (.int (10 : Int32))] [(.int (1 : Int32))]))
  refine Go.of (t' := T4.setTop (mkF m 22 #[.val (.ref x1), .val (.ref a1), .val .null, .val (.ref t), .val (.int (10 : Int32))] [])) (fun _ kk => XS.ifNo W4.here hx rfl (hb hby d213_19) rfl (XT.i0_eq_f (by decide +kernel)) kk) ?_
  refine Go.of (t' := T4.setTop (mkF m 23 #[.val (.ref x1), .val (.ref a1), .val .null, .val (.ref t), .val (.int (10 : Int32))] [(.ref x1)])) (fun _ kk => XS.aloadN W4.here hx rfl (hb hby d213_22) rfl rfl kk) ?_
  refine Go.of (t' := T4.setTop (mkF m 24 #[.val (.ref x1), .val (.ref a1), .val .null, .val (.ref t), .val (.int (10 : Int32))] [(.int (0 : Int32)), (.ref x1)])) (fun _ kk => XS.iconst W4.here hx rfl (hb hby d213_23) kk) ?_
  refine W4.putF hx (host := "") (Or.inl (hw _ (List.mem_of_getElem? (i := 26) rfl))) Via.refl Fxc Exx (Or.inr ⟨(hw _ (List.mem_of_getElem? (i := 27) rfl)), rfl, hnm⟩) (hw _ (List.mem_of_getElem? (i := 1) rfl)) (ty := .byte) (by decide +kernel) rfl rfl gxx (Or.inl (List.mem_of_getElem? (i := 0) rfl)) (Or.inl (List.mem_of_getElem? (i := 0) rfl)) rfl rfl (hb hby d213_24) (fun T5 h5 W5 w5 => ?_)
  have K5 := Keep.of_wr w5
  have k6 := Fxv.other w5 (Or.inr (slot_ne (Or.inr (hw _ (List.mem_of_getElem? (i := 29) rfl))) (Or.inr (hw _ (List.mem_of_getElem? (i := 27) rfl))) (by decide +kernel) (t := (.array .byte)) (t' := .byte) (by decide +kernel) (by decide +kernel)))
  have k7 := Fxc.same w5
  show Go p e below _ (T5.setTop (mkF m 27 #[.val (.ref x1), .val (.ref a1), .val .null, .val (.ref t), .val (.int (10 : Int32))] []))
  refine Go.of (t' := T5.setTop (mkF m 28 #[.val (.ref x1), .val (.ref a1), .val .null, .val (.ref t), .val (.int (10 : Int32))] [(.ref x1)])) (fun _ kk => XS.aloadN W5.here hx rfl (hb hby d213_27) rfl rfl kk) ?_
  refine Go.of (t' := T5.setTop (mkF m 29 #[.val (.ref x1), .val (.ref a1), .val .null, .val (.ref t), .val (.int (10 : Int32))] [(.ref t), (.ref x1)])) (fun _ kk => XS.aloadN W5.here hx rfl (hb hby d213_28) rfl rfl kk) ?_
  refine Go.of (t' := T5.setTop (mkF m 30 #[.val (.ref x1), .val (.ref a1), .val .null, .val (.ref t), .val (.int (10 : Int32))] [(.int (0 : Int32)), (.ref t), (.ref x1)])) (fun _ kk => XS.iconst W5.here hx rfl (hb hby d213_29) kk) ?_
  refine Go.of (t' := T5.setTop (mkF m 32 #[.val (.ref x1), .val (.ref a1), .val .null, .val (.ref t), .val (.int (10 : Int32))] [(.int (10 : Int32)), (.int (0 : Int32)), (.ref t), (.ref x1)])) (fun _ kk => XS.iload W5.here hx rfl (hb hby d213_30) rfl kk) ?_
  have k9 := (Ab.keep K5 (ninS (nx2).symm nin0))
  refine W5.callS hx hEL (hw _ (List.mem_of_getElem? (i := 134) rfl)) (hw _ (List.mem_of_getElem? (i := 135) rfl)) (hw _ (List.mem_of_getElem? (i := 136) rfl)) (hw _ (List.mem_of_getElem? (i := 137) rfl)) (by decide +kernel) (argsL := [(.ref t), (.int (0 : Int32)), (.int (10 : Int32))]) (rest := [(.ref x1)]) (rm211 l Z a0 hw hEL zc SC hzc fm SF rfm t kc (StrChars.lo8 q1) (StrChars.lo8 q2) (StrChars.lo8 q3) (StrChars.lo8 q4) (StrChars.lo8 q5) (StrChars.lo8 q6) (StrChars.lo8 q7) (StrChars.lo8 q8) (StrChars.lo8 q9) (StrChars.lo8 q10) by11 by12 by13 by14 by15 by16 h5 W5.old k9) all0 (by decide +kernel) (Wd := 1) (by decide +kernel) (by decide +kernel) (by decide +kernel) all0 rfl (by rw [hml]; rfl) (lenOf pd9 rfl) rfl (by show 2 * 0 + _ ≤ _; exact Nat.le_of_eq rfl) (hb hby d213_32) (fun T8 h8 v8 P8 Ws8 K8 q8 => ?_)
  have W8 := Ws8 [] all0
  obtain ⟨r8, kc8, rfl, lr8, A8⟩ := q8
  have gr8 : n0 ≤ r8 ∧ s.heap.size ≤ r8 := ⟨Nat.le_trans W5.n0le lr8, Nat.le_trans W5.s0le lr8⟩
  show Go p e below _ (T8.setTop (mkF m 35 #[.val (.ref x1), .val (.ref a1), .val .null, .val (.ref t), .val (.int (10 : Int32))] [(.ref r8), (.ref x1)]))
  have k10 := (k6.keep K8 nin0)
  have k11 := ((Exx.keep K5).keep K8)
  refine W8.putF hx (host := "") (Or.inl (hw _ (List.mem_of_getElem? (i := 28) rfl))) Via.refl k10 k11 (Or.inr ⟨(hw _ (List.mem_of_getElem? (i := 29) rfl)), rfl, hnm⟩) (hw _ (List.mem_of_getElem? (i := 1) rfl)) (ty := (.array .byte)) (by decide +kernel) rfl rfl gxx (Or.inl (List.mem_of_getElem? (i := 0) rfl)) (Or.inl (List.mem_of_getElem? (i := 0) rfl)) rfl rfl (hb hby d213_35) (fun T12 h12 W12 w12 => ?_)
  have k13 := (k7.keep K8 nin0)
  have K12 := Keep.of_wr w12
  have k14 := k13.other w12 (Or.inr (slot_ne (Or.inr (hw _ (List.mem_of_getElem? (i := 27) rfl))) (Or.inr (hw _ (List.mem_of_getElem? (i := 29) rfl))) (by decide +kernel) (t := .byte) (t' := (.array .byte)) (by decide +kernel) (by decide +kernel)))
  have k15 := k10.same w12
  show Go p e below _ (T12.setTop (mkF m 38 #[.val (.ref x1), .val (.ref a1), .val .null, .val (.ref t), .val (.int (10 : Int32))] []))
  refine Go.of (t' := T12.setTop (mkF m 97 #[.val (.ref x1), .val (.ref a1), .val .null, .val (.ref t), .val (.int (10 : Int32))] [])) (fun _ kk => XS.goto W12.here hx rfl (pc0 := 38) (pc' := 97) rfl (hb hby d213_38) (by decide +kernel) (by decide +kernel) kk) ?_
  have k16 := (k11.keep K12)
  have k17 := (A8.keep K12 (ninS (ne_of_born lr8 Exx.lt K5.1).symm nin0))
  exact W12.retV hx hEL hs hlk (by decide +kernel) (by decide +kernel) hret (hb hby d213_97) (fun S hS => ⟨rfl, ⟨r8, kc8, _, _, _, k16, k15, k14, k17, StrChars.Road.codOf (cs := [q1, q2, q3, q4, q5, q6, q7, q8, q9, q10]) (n := 10) rfl (allSi cq1.2 (allSi cq2.2 (allSi cq3.2 (allSi cq4.2 (allSi cq5.2 (allSi cq6.2 (allSi cq7.2 (allSi cq8.2 (allSi cq9.2 (allSi cq10.2 all0i)))))))))), up255 (allSi cq1 (allSi cq2 (allSi cq3 (allSi cq4 (allSi cq5 (allSi cq6 (allSi cq7 (allSi cq8 (allSi cq9 (allSi cq10 all0i)))))))))), Nat.le_of_ble_eq_true rfl⟩⟩)
theorem d214_0 : decode jdk_42_method_53_code 0 = .ok (.aload_n 0, 1) := by decide +kernel
theorem d214_1 : decode jdk_42_method_53_code 1 = .ok (.aload_n 1, 1) := by decide +kernel
theorem d214_2 : decode jdk_42_method_53_code 2 = .ok (.aconst_null, 1) := by decide +kernel
theorem d214_3 : decode jdk_42_method_53_code 3 = .ok (.invokespecial 489, 3) := by decide +kernel
theorem d214_6 : decode jdk_42_method_53_code 6 = .ok (.return_, 1) := by decide +kernel
theorem ef214 (m : MethodId) (x0 : Addr) (x1 : Addr)  : entryFrame m #[(.ref x0), (.ref x1)] 2 = mkF m 0 #[.val (.ref x0), .val (.ref x1)] [] := by first | (simp [entryFrame, mkF, argsToLocals, Value.category]; done) | rfl | rfl
set_option maxRecDepth 65536 in
set_option maxHeartbeats 40000000 in
theorem rm214 (l : Launch) (Z : State) (a0 : Array Value) (hw : ∀ d ∈ tables_1, d.before a0 Z = true) (hEL : EW Z a0 EL0) (zc : Int32) (SC : Sta Z Z.heap "java/lang/String" "COMPACT_STRINGS" "Z" (.int zc)) (hzc : ¬ zc = 0) (fm : Value) (SF : Sta Z Z.heap "jdk/internal/util/Preconditions" "SIOOBE_FORMATTER" "Ljava/util/function/BiFunction;" fm) (rfm : fm.isRef = true) (x1 : Addr) (a1 : Addr) (t : Addr) (kc : ClassId) (by11 : Int32) (by12 : Int32) (by13 : Int32) (by14 : Int32) (by15 : Int32) (by16 : Int32) (q1 : Int32) (q2 : Int32) (q3 : Int32) (q4 : Int32) (q5 : Int32) (q6 : Int32) (q7 : Int32) (q8 : Int32) (q9 : Int32) (q10 : Int32) (h0 : Heap) {n0 : Nat} (O0 : Old Z n0 h0) (Eb : Exa Z h0 a1 "java/lang/StringBuilder") (Fvp : Fld Z h0 a1 "java/lang/AbstractStringBuilder" "value" "[B" (.ref t)) (Fcp : Fld Z h0 a1 "java/lang/AbstractStringBuilder" "coder" "B" (.int (0 : Int32))) (Fnp : Fld Z h0 a1 "java/lang/AbstractStringBuilder" "count" "I" (.int (10 : Int32))) (Ab : Arv Z h0 t kc .byte (16 : Int32) [(.int (StrChars.lo8 q1)), (.int (StrChars.lo8 q2)), (.int (StrChars.lo8 q3)), (.int (StrChars.lo8 q4)), (.int (StrChars.lo8 q5)), (.int (StrChars.lo8 q6)), (.int (StrChars.lo8 q7)), (.int (StrChars.lo8 q8)), (.int (StrChars.lo8 q9)), (.int (StrChars.lo8 q10)), (.int by11), (.int by12), (.int by13), (.int by14), (.int by15), (.int by16)] (.int (0 : Int32))) (cq1 : ¬ q1 < 0 ∧ ¬ (255 : Int32) < q1) (cq2 : ¬ q2 < 0 ∧ ¬ (255 : Int32) < q2) (cq3 : ¬ q3 < 0 ∧ ¬ (255 : Int32) < q3) (cq4 : ¬ q4 < 0 ∧ ¬ (255 : Int32) < q4) (cq5 : ¬ q5 < 0 ∧ ¬ (255 : Int32) < q5) (cq6 : ¬ q6 < 0 ∧ ¬ (255 : Int32) < q6) (cq7 : ¬ q7 < 0 ∧ ¬ (255 : Int32) < q7) (cq8 : ¬ q8 < 0 ∧ ¬ (255 : Int32) < q8) (cq9 : ¬ q9 < 0 ∧ ¬ (255 : Int32) < q9) (cq10 : ¬ q10 < 0 ∧ ¬ (255 : Int32) < q10) (Exx : Exa Z h0 x1 "java/lang/String") (Fxv : Fld Z h0 x1 "java/lang/String" "value" "[B" .null) (Fxc : Fld Z h0 x1 "java/lang/String" "coder" "B" (.int (0 : Int32))) (gxx : n0 ≤ x1) (nx1 : x1 ≠ a1) (nx2 : x1 ≠ t) :
    Met l Z EL0 n0 (⟨"java/lang/String", "<init>", "(Ljava/lang/StringBuilder;)V"⟩ : MethodName) jdk_42_method_53_code 2 none [] ({ frames := 4, cells := 1, slots := 10, locals := 65 } : Room) #[(.ref x1), (.ref a1)] h0 [x1] [x1] (fun v h' S => v = none ∧ Str Z h' x1 [q1, q2, q3, q4, q5, q6, q7, q8, q9, q10]) := by
  refine Met.of (plainFor_of_name pn2) O0 ?_
  intro p e s m below meth c T0 hx hby hml hret hlk hnm hs W0
  have W0 : Wk p l e _ s m _ below meth c Z EL0 n0 [x1] "java/lang/String" [x1] T0 0 0 h0 := W0
  have hSA := fun d hd => hw d (sa_in d hd)
  have hws := fun d hd => hw d (ws_in d hd)
  have hln := fun d hd => hw d (ln_in d hd)
  have heq := fun d hd => hw d (eq_in d hd)
  refine Go.of (fun _ kk => castTop (ef214 m x1 a1) kk) ?_
  show Go p e below _ (T0.setTop (mkF m 0 #[.val (.ref x1), .val (.ref a1)] []))
  refine Go.of (t' := T0.setTop (mkF m 1 #[.val (.ref x1), .val (.ref a1)] [(.ref x1)])) (fun _ kk => XS.aloadN W0.here hx rfl (hb hby d214_0) rfl rfl kk) ?_
  refine Go.of (t' := T0.setTop (mkF m 2 #[.val (.ref x1), .val (.ref a1)] [(.ref a1), (.ref x1)])) (fun _ kk => XS.aloadN W0.here hx rfl (hb hby d214_1) rfl rfl kk) ?_
  refine Go.of (t' := T0.setTop (mkF m 3 #[.val (.ref x1), .val (.ref a1)] [.null, (.ref a1), (.ref x1)])) (fun _ kk => XS.aconstNull W0.here hx rfl (hb hby d214_2) kk) ?_
  refine W0.callP hx hEL rfl (hw _ (List.mem_of_getElem? (i := 113) rfl)) (hw _ (List.mem_of_getElem? (i := 114) rfl)) (hw _ (List.mem_of_getElem? (i := 2) rfl)) (hw _ (List.mem_of_getElem? (i := 115) rfl)) (by decide +kernel) (a := x1) (argsL := [(.ref a1), .null]) (rest := []) (rm213 l Z a0 hw hEL zc SC hzc fm SF rfm x1 a1 t kc by11 by12 by13 by14 by15 by16 q1 q2 q3 q4 q5 q6 q7 q8 q9 q10 h0 W0.old Eb Fvp Fcp Fnp Ab cq1 cq2 cq3 cq4 cq5 cq6 cq7 cq8 cq9 cq10 Exx Fxv Fxc gxx nx1 nx2) (allS (List.mem_of_getElem? (i := 0) rfl) all0) (by decide +kernel) (Wd := 0) (by decide +kernel) (by decide +kernel) (by decide +kernel) (allS ⟨gxx, (Or.inl (List.mem_of_getElem? (i := 0) rfl))⟩ all0) rfl (by rw [hml]; rfl) (lenOf pd12 rfl) rfl (by show 2 * 0 + _ ≤ _; exact Nat.le_of_eq rfl) (hb hby d214_3) (fun T1 h1 v1 P1 Ws1 K1 q1 => ?_)
  have W1 := Ws1 [] all0
  obtain ⟨rfl, S1⟩ := q1
  show Go p e below _ (T1.setTop (mkF m 6 #[.val (.ref x1), .val (.ref a1)] []))
  exact W1.retV hx hEL hs hlk (by decide +kernel) (by decide +kernel) hret (hb hby d214_6) (fun S hS => ⟨rfl, S1⟩)
theorem d215_0 : decode jdk_67_method_42_code 0 = .ok (.new 18, 3) := by decide +kernel
theorem d215_3 : decode jdk_67_method_42_code 3 = .ok (.dup, 1) := by decide +kernel
theorem d215_4 : decode jdk_67_method_42_code 4 = .ok (.aload_n 0, 1) := by decide +kernel
theorem d215_5 : decode jdk_67_method_42_code 5 = .ok (.invokespecial 137, 3) := by decide +kernel
theorem d215_8 : decode jdk_67_method_42_code 8 = .ok (.areturn, 1) := by decide +kernel
theorem ef215 (m : MethodId) (x0 : Addr)  : entryFrame m #[(.ref x0)] 1 = mkF m 0 #[.val (.ref x0)] [] := by first | (simp [entryFrame, mkF, argsToLocals, Value.category]; done) | rfl | rfl
set_option maxRecDepth 65536 in
set_option maxHeartbeats 40000000 in
theorem rm215 (l : Launch) (Z : State) (a0 : Array Value) (hw : ∀ d ∈ tables_1, d.before a0 Z = true) (hEL : EW Z a0 EL0) (zc : Int32) (SC : Sta Z Z.heap "java/lang/String" "COMPACT_STRINGS" "Z" (.int zc)) (hzc : ¬ zc = 0) (fm : Value) (SF : Sta Z Z.heap "jdk/internal/util/Preconditions" "SIOOBE_FORMATTER" "Ljava/util/function/BiFunction;" fm) (rfm : fm.isRef = true) (a1 : Addr) (t : Addr) (kc : ClassId) (by11 : Int32) (by12 : Int32) (by13 : Int32) (by14 : Int32) (by15 : Int32) (by16 : Int32) (q1 : Int32) (q2 : Int32) (q3 : Int32) (q4 : Int32) (q5 : Int32) (q6 : Int32) (q7 : Int32) (q8 : Int32) (q9 : Int32) (q10 : Int32) (h0 : Heap) {n0 : Nat} (O0 : Old Z n0 h0) (Eb : Exa Z h0 a1 "java/lang/StringBuilder") (Fvp : Fld Z h0 a1 "java/lang/AbstractStringBuilder" "value" "[B" (.ref t)) (Fcp : Fld Z h0 a1 "java/lang/AbstractStringBuilder" "coder" "B" (.int (0 : Int32))) (Fnp : Fld Z h0 a1 "java/lang/AbstractStringBuilder" "count" "I" (.int (10 : Int32))) (Ab : Arv Z h0 t kc .byte (16 : Int32) [(.int (StrChars.lo8 q1)), (.int (StrChars.lo8 q2)), (.int (StrChars.lo8 q3)), (.int (StrChars.lo8 q4)), (.int (StrChars.lo8 q5)), (.int (StrChars.lo8 q6)), (.int (StrChars.lo8 q7)), (.int (StrChars.lo8 q8)), (.int (StrChars.lo8 q9)), (.int (StrChars.lo8 q10)), (.int by11), (.int by12), (.int by13), (.int by14), (.int by15), (.int by16)] (.int (0 : Int32))) (cq1 : ¬ q1 < 0 ∧ ¬ (255 : Int32) < q1) (cq2 : ¬ q2 < 0 ∧ ¬ (255 : Int32) < q2) (cq3 : ¬ q3 < 0 ∧ ¬ (255 : Int32) < q3) (cq4 : ¬ q4 < 0 ∧ ¬ (255 : Int32) < q4) (cq5 : ¬ q5 < 0 ∧ ¬ (255 : Int32) < q5) (cq6 : ¬ q6 < 0 ∧ ¬ (255 : Int32) < q6) (cq7 : ¬ q7 < 0 ∧ ¬ (255 : Int32) < q7) (cq8 : ¬ q8 < 0 ∧ ¬ (255 : Int32) < q8) (cq9 : ¬ q9 < 0 ∧ ¬ (255 : Int32) < q9) (cq10 : ¬ q10 < 0 ∧ ¬ (255 : Int32) < q10) :
    Met l Z EL0 n0 (⟨"java/lang/StringBuilder", "toString", "()Ljava/lang/String;"⟩ : MethodName) jdk_67_method_42_code 1 (some (.object "java/lang/String")) [] ({ frames := 5, cells := 2, slots := 14, locals := 79 } : Room) #[(.ref a1)] h0 [] [] (fun v h' S => ∃ r : Addr, v = some (.ref r) ∧ h0.size ≤ r ∧ Str Z h' r [q1, q2, q3, q4, q5, q6, q7, q8, q9, q10]) := by
  refine Met.of (plainFor_of_name pn1) O0 ?_
  intro p e s m below meth c T0 hx hby hml hret hlk hnm hs W0
  have W0 : Wk p l e _ s m _ below meth c Z EL0 n0 [] "java/lang/StringBuilder" [] T0 0 0 h0 := W0
  have hSA := fun d hd => hw d (sa_in d hd)
  have hws := fun d hd => hw d (ws_in d hd)
  have hln := fun d hd => hw d (ln_in d hd)
  have heq := fun d hd => hw d (eq_in d hd)
  refine Go.of (fun _ kk => castTop (ef215 m a1) kk) ?_
  show Go p e below _ (T0.setTop (mkF m 0 #[.val (.ref a1)] []))
  refine W0.newO hx (hw _ (List.mem_of_getElem? (i := 109) rfl)) (hw _ (List.mem_of_getElem? (i := 1) rfl)) (hw _ (List.mem_of_getElem? (i := 2) rfl)) rfl (hb hby d215_0) (by decide +kernel) (by decide +kernel) (fun T1 h1 b1 eb1 gb1 W1 K1 E1 D1 => ?_)
  have k2 : Fld Z h1 b1 "java/lang/String" "coder" "B" (.int (0 : Int32)) := D1 (Or.inr (hw _ (List.mem_of_getElem? (i := 27) rfl))) (ty := .byte) (by decide +kernel)
  have k3 : Fld Z h1 b1 "java/lang/String" "value" "[B" .null := D1 (Or.inr (hw _ (List.mem_of_getElem? (i := 29) rfl))) (ty := (.array .byte)) (by decide +kernel)
  show Go p e below _ (T1.setTop (mkF m 3 #[.val (.ref a1)] [(.ref b1)]))
  refine Go.of (t' := T1.setTop (mkF m 4 #[.val (.ref a1)] [(.ref b1), (.ref b1)])) (fun _ kk => XS.dup W1.here hx rfl (hb hby d215_3) rfl rfl kk) ?_
  refine Go.of (t' := T1.setTop (mkF m 5 #[.val (.ref a1)] [(.ref a1), (.ref b1), (.ref b1)])) (fun _ kk => XS.aloadN W1.here hx rfl (hb hby d215_4) rfl rfl kk) ?_
  have k5 := (Eb.keep K1)
  have k6 := (Fvp.keep K1 nin0)
  have k7 := (Fcp.keep K1 nin0)
  have k8 := (Fnp.keep K1 nin0)
  have k9 := (Ab.keep K1 nin0)
  refine W1.callP hx hEL rfl (hw _ (List.mem_of_getElem? (i := 110) rfl)) (hw _ (List.mem_of_getElem? (i := 111) rfl)) (hw _ (List.mem_of_getElem? (i := 2) rfl)) (hw _ (List.mem_of_getElem? (i := 112) rfl)) (by decide +kernel) (a := b1) (argsL := [(.ref a1)]) (rest := [(.ref b1)]) (rm214 l Z a0 hw hEL zc SC hzc fm SF rfm b1 a1 t kc by11 by12 by13 by14 by15 by16 q1 q2 q3 q4 q5 q6 q7 q8 q9 q10 h1 W1.old k5 k6 k7 k8 k9 cq1 cq2 cq3 cq4 cq5 cq6 cq7 cq8 cq9 cq10 E1 k3 k2 gb1.1 (ne_of_born (Nat.le_of_eq eb1.symm) Eb.lt (Nat.le_refl _)).symm (ne_of_born (Nat.le_of_eq eb1.symm) Ab.lt (Nat.le_refl _)).symm) (allS (List.mem_of_getElem? (i := 0) rfl) all0) (by decide +kernel) (Wd := 1) (by decide +kernel) (by decide +kernel) (by decide +kernel) (allS ⟨gb1.1, (Or.inr gb1.2)⟩ all0) rfl (by rw [hml]; rfl) (lenOf pd13 rfl) rfl (by show 2 * 0 + _ ≤ _; exact Nat.le_of_eq rfl) (hb hby d215_5) (fun T4 h4 v4 P4 Ws4 K4 q4 => ?_)
  have W4 := Ws4 [] all0
  obtain ⟨rfl, S4⟩ := q4
  show Go p e below _ (T4.setTop (mkF m 8 #[.val (.ref a1)] [(.ref b1)]))
  exact W4.retA hx hEL hs hlk (by decide +kernel) (by decide +kernel) hret rfl rfl (hb hby d215_8) (fun S hS => ⟨b1, rfl, hs ▸ gb1.2, S4⟩)
theorem d301_0 : decode prog_34_method_3_code 0 = .ok (.new 51, 3) := by decide +kernel
theorem d301_3 : decode prog_34_method_3_code 3 = .ok (.dup, 1) := by decide +kernel
theorem d301_4 : decode prog_34_method_3_code 4 = .ok (.invokespecial 53, 3) := by decide +kernel
theorem d301_7 : decode prog_34_method_3_code 7 = .ok (.ldc 74, 2) := by decide +kernel
theorem d301_9 : decode prog_34_method_3_code 9 = .ok (.invokevirtual 54, 3) := by decide +kernel
theorem d301_12 : decode prog_34_method_3_code 12 = .ok (.aload_n 0, 1) := by decide +kernel
theorem d301_13 : decode prog_34_method_3_code 13 = .ok (.invokevirtual 54, 3) := by decide +kernel
theorem d301_16 : decode prog_34_method_3_code 16 = .ok (.iload_n 1, 1) := by decide +kernel
theorem d301_17 : decode prog_34_method_3_code 17 = .ok (.ifCond .eq 8, 3) := by decide +kernel
theorem d301_20 : decode prog_34_method_3_code 20 = .ok (.ldc 76, 2) := by decide +kernel
theorem d301_22 : decode prog_34_method_3_code 22 = .ok (.goto 5, 3) := by decide +kernel
theorem d301_27 : decode prog_34_method_3_code 27 = .ok (.invokevirtual 54, 3) := by decide +kernel
theorem d301_30 : decode prog_34_method_3_code 30 = .ok (.ldc 80, 2) := by decide +kernel
theorem d301_32 : decode prog_34_method_3_code 32 = .ok (.invokevirtual 54, 3) := by decide +kernel
theorem d301_35 : decode prog_34_method_3_code 35 = .ok (.aload_n 2, 1) := by decide +kernel
theorem d301_36 : decode prog_34_method_3_code 36 = .ok (.invokevirtual 54, 3) := by decide +kernel
theorem d301_39 : decode prog_34_method_3_code 39 = .ok (.invokevirtual 60, 3) := by decide +kernel
theorem d301_42 : decode prog_34_method_3_code 42 = .ok (.areturn, 1) := by decide +kernel
theorem ef301 (m : MethodId) (x0 : Addr) (x1 : Int32) (x2 : Addr)  : entryFrame m #[(.ref x0), (.int x1), (.ref x2)] 3 = mkF m 0 #[.val (.ref x0), .val (.int x1), .val (.ref x2)] [] := by first | (simp [entryFrame, mkF, argsToLocals, Value.category]; done) | rfl | rfl
set_option maxRecDepth 65536 in
set_option maxHeartbeats 40000000 in
theorem rm301 (l : Launch) (Z : State) (a0 : Array Value) (hw : ∀ d ∈ tables_1, d.before a0 Z = true) (hEL : EW Z a0 EL0) (zc : Int32) (SC : Sta Z Z.heap "java/lang/String" "COMPACT_STRINGS" "Z" (.int zc)) (hzc : ¬ zc = 0) (fm : Value) (SF : Sta Z Z.heap "jdk/internal/util/Preconditions" "SIOOBE_FORMATTER" "Ljava/util/function/BiFunction;" fm) (rfm : fm.isRef = true) (x1 : Addr) (x3 : Addr) (q1 : Int32) (q2 : Int32) (q3 : Int32) (q4 : Int32) (h0 : Heap) {n0 : Nat} (O0 : Old Z n0 h0) (Sx1 : Str Z h0 x1 [q1, q2]) (Sx3 : Str Z h0 x3 [q3, q4]) (cq1 : ¬ q1 < 0 ∧ ¬ (255 : Int32) < q1) (cq2 : ¬ q2 < 0 ∧ ¬ (255 : Int32) < q2) (cq3 : ¬ q3 < 0 ∧ ¬ (255 : Int32) < q3) (cq4 : ¬ q4 < 0 ∧ ¬ (255 : Int32) < q4) :
    Met l Z EL0 n0 (⟨"com/example/frontier/frontier/replay/ReplayPath", "of", "(Ljava/lang/String;ZLjava/lang/String;)Ljava/lang/String;"⟩ : MethodName) prog_34_method_3_code 3 (some (.object "java/lang/String")) [] ({ frames := 6, cells := 10, slots := 85, locals := 91 } : Room) #[(.ref x1), (.int (1 : Int32)), (.ref x3)] h0 [] [] (fun v h' S => ∃ r : Addr, v = some (.ref r) ∧ h0.size ≤ r ∧ Str Z h' r [(47 : Int32), (119 : Int32), (101 : Int32), (98 : Int32), (47 : Int32), q1, q2, (105 : Int32), (100 : Int32), (95 : Int32), (47 : Int32), q3, q4]) := by
  refine Met.of (plainFor_of_name pn4) O0 ?_
  intro p e s m below meth c T0 hx hby hml hret hlk hnm hs W0
  have W0 : Wk p l e _ s m _ below meth c Z EL0 n0 [] "com/example/frontier/frontier/replay/ReplayPath" [] T0 0 0 h0 := W0
  have hSA := fun d hd => hw d (sa_in d hd)
  have hws := fun d hd => hw d (ws_in d hd)
  have hln := fun d hd => hw d (ln_in d hd)
  have heq := fun d hd => hw d (eq_in d hd)
  refine Go.of (fun _ kk => castTop (ef301 m x1 (1 : Int32) x3) kk) ?_
  show Go p e below _ (T0.setTop (mkF m 0 #[.val (.ref x1), .val (.int (1 : Int32)), .val (.ref x3)] []))
  refine W0.newO hx (hw _ (List.mem_of_getElem? (i := 34) rfl)) (hw _ (List.mem_of_getElem? (i := 35) rfl)) (hw _ (List.mem_of_getElem? (i := 36) rfl)) rfl (hb hby d301_0) (by decide +kernel) (by decide +kernel) (fun T1 h1 b1 eb1 gb1 W1 K1 E1 D1 => ?_)
  have k2 : Fld Z h1 b1 "java/lang/AbstractStringBuilder" "value" "[B" .null := D1 (Or.inl (hw _ (List.mem_of_getElem? (i := 49) rfl))) (ty := (.array .byte)) (by decide +kernel)
  have k3 : Fld Z h1 b1 "java/lang/AbstractStringBuilder" "coder" "B" (.int (0 : Int32)) := D1 (Or.inl (hw _ (List.mem_of_getElem? (i := 51) rfl))) (ty := .byte) (by decide +kernel)
  have k4 : Fld Z h1 b1 "java/lang/AbstractStringBuilder" "count" "I" (.int (0 : Int32)) := D1 (Or.inl (hw _ (List.mem_of_getElem? (i := 76) rfl))) (ty := .int) (by decide +kernel)
  show Go p e below _ (T1.setTop (mkF m 3 #[.val (.ref x1), .val (.int (1 : Int32)), .val (.ref x3)] [(.ref b1)]))
  refine Go.of (t' := T1.setTop (mkF m 4 #[.val (.ref x1), .val (.int (1 : Int32)), .val (.ref x3)] [(.ref b1), (.ref b1)])) (fun _ kk => XS.dup W1.here hx rfl (hb hby d301_3) rfl rfl kk) ?_
  refine W1.callP hx hEL rfl (hw _ (List.mem_of_getElem? (i := 37) rfl)) (hw _ (List.mem_of_getElem? (i := 38) rfl)) (hw _ (List.mem_of_getElem? (i := 36) rfl)) (hw _ (List.mem_of_getElem? (i := 39) rfl)) (by decide +kernel) (a := b1) (argsL := []) (rest := [(.ref b1)]) (rm3 l Z a0 hw hEL zc SC hzc fm SF rfm b1 h1 W1.old E1 k2 k3 k4 gb1.1) all0 (by decide +kernel) (Wd := 1) (by decide +kernel) (by decide +kernel) (by decide +kernel) (allS ⟨gb1.1, (Or.inr gb1.2)⟩ all0) rfl (by rw [hml]; rfl) (lenOf pd14 rfl) rfl (by show 2 * 0 + _ ≤ _; exact Nat.le_of_eq rfl) (hb hby d301_4) (fun T5 h5 v5 P5 Ws5 K5 q5 => ?_)
  obtain ⟨t5, kt5, rfl, lt5, Fv5, Fc5, Fn5, A5, st5⟩ := q5
  have W5 := Ws5 [t5] (allS st5 all0)
  have gt5 : n0 ≤ t5 ∧ s.heap.size ≤ t5 := ⟨Nat.le_trans W1.n0le lt5, Nat.le_trans W1.s0le lt5⟩
  show Go p e below _ (T5.setTop (mkF m 7 #[.val (.ref x1), .val (.int (1 : Int32)), .val (.ref x3)] [(.ref b1)]))
  refine W5.ldcC hx hEL (by decide +kernel) (hw _ (List.mem_of_getElem? (i := 52) rfl)) hSA [(.int (47 : Int32)), (.int (119 : Int32)), (.int (101 : Int32)), (.int (98 : Int32)), (.int (47 : Int32))] (5 : Int32) (by decide +kernel) (by decide +kernel) (by decide +kernel) rfl (hb hby d301_7) (n := 20) (by decide +kernel) (by decide +kernel) (by decide +kernel) (by decide +kernel) (fun T6 h6 b6 t6 kb6 W6 K6 E6 Fv6 Fc6 A6 N6 => ?_)
  have S6 : Str Z h6 b6 [(47 : Int32), (119 : Int32), (101 : Int32), (98 : Int32), (47 : Int32)] := ⟨t6, kb6, 0, (5 : Int32), _, E6, Fv6, Fc6, A6, Or.inl ⟨rfl, by decide +kernel, by decide +kernel, by decide +kernel⟩, by decide +kernel, by decide⟩
  show Go p e below _ (T6.setTop (mkF m 9 #[.val (.ref x1), .val (.int (1 : Int32)), .val (.ref x3)] [(.ref b6), (.ref b1)]))
  have k8 := ((E1.keep K5).keep K6)
  have k9 := (Fv5.keep K6 nin0)
  have k10 := (Fc5.keep K6 nin0)
  have k11 := (Fn5.keep K6 nin0)
  have k12 := (A5.keep K6 nin0)
  refine W6.callV hx hEL (hw _ (List.mem_of_getElem? (i := 55) rfl)) (hw _ (List.mem_of_getElem? (i := 56) rfl)) (hw _ (List.mem_of_getElem? (i := 58) rfl)) (hw _ (List.mem_of_getElem? (i := 57) rfl)) (hw _ (List.mem_of_getElem? (i := 36) rfl)) (hw _ (List.mem_of_getElem? (i := 59) rfl)) (by decide +kernel) k8 (a := b1) (argsL := [(.ref b6)]) (rest := []) (rm103 l Z a0 hw hEL zc SC hzc fm SF rfm b1 b6 t5 kt5 (0 : Int32) (0 : Int32) (0 : Int32) (0 : Int32) (0 : Int32) (0 : Int32) (0 : Int32) (0 : Int32) (0 : Int32) (0 : Int32) (0 : Int32) (0 : Int32) (0 : Int32) (0 : Int32) (0 : Int32) (0 : Int32) (47 : Int32) (119 : Int32) (101 : Int32) (98 : Int32) (47 : Int32) h6 W6.old k8 k9 k10 k11 k12 gb1.1 gt5.1 (ne_of_born lt5 E1.lt (Nat.le_refl _)) S6 ⟨by decide, by decide⟩ ⟨by decide, by decide⟩ ⟨by decide, by decide⟩ ⟨by decide, by decide⟩ ⟨by decide, by decide⟩) (allS (List.mem_of_getElem? (i := 0) rfl) all0) (by decide +kernel) (Wd := 0) (by decide +kernel) (by decide +kernel) (by decide +kernel) (allS ⟨gb1.1, (Or.inr gb1.2)⟩ (allS ⟨gt5.1, (Or.inr gt5.2)⟩ all0)) rfl (by rw [hml]; rfl) (lenOf pd15 rfl) rfl (by show 2 * 0 + _ ≤ _; exact Nat.le_of_eq rfl) (hb hby d301_9) (fun T7 h7 v7 P7 Ws7 K7 q7 => ?_)
  have W7 := Ws7 [] all0
  obtain ⟨rfl, Fv7, Fc7, Fn7, A7⟩ := q7
  show Go p e below _ (T7.setTop (mkF m 12 #[.val (.ref x1), .val (.int (1 : Int32)), .val (.ref x3)] [(.ref b1)]))
  refine Go.of (t' := T7.setTop (mkF m 13 #[.val (.ref x1), .val (.int (1 : Int32)), .val (.ref x3)] [(.ref x1), (.ref b1)])) (fun _ kk => XS.aloadN W7.here hx rfl (hb hby d301_12) rfl rfl kk) ?_
  have k14 := (k8.keep K7)
  obtain ⟨t15, kb15, cd15, N15, vs15, E15, V15, C15, A15, R15⟩ := id Sx1
  have S15 : Str Z h7 x1 [q1, q2] := ⟨t15, kb15, cd15, N15, vs15, ((((E15.keep K1).keep K5).keep K6).keep K7), ((((V15.keep K1 nin0).keep K5 (ninS (ne_of_born (Nat.le_of_eq eb1.symm) Sx1.exa.lt (Nat.le_refl _)) nin0)).keep K6 nin0).keep K7 (ninS (ne_of_born (Nat.le_of_eq eb1.symm) Sx1.exa.lt (Nat.le_refl _)) (ninS (ne_of_born lt5 Sx1.exa.lt K1.1) nin0))), ((((C15.keep K1 nin0).keep K5 (ninS (ne_of_born (Nat.le_of_eq eb1.symm) Sx1.exa.lt (Nat.le_refl _)) nin0)).keep K6 nin0).keep K7 (ninS (ne_of_born (Nat.le_of_eq eb1.symm) Sx1.exa.lt (Nat.le_refl _)) (ninS (ne_of_born lt5 Sx1.exa.lt K1.1) nin0))), ((((A15.keep K1 nin0).keep K5 (ninS (ne_of_born (Nat.le_of_eq eb1.symm) A15.lt (Nat.le_refl _)) nin0)).keep K6 nin0).keep K7 (ninS (ne_of_born (Nat.le_of_eq eb1.symm) A15.lt (Nat.le_refl _)) (ninS (ne_of_born lt5 A15.lt K1.1) nin0))), R15⟩
  refine W7.callV hx hEL (hw _ (List.mem_of_getElem? (i := 55) rfl)) (hw _ (List.mem_of_getElem? (i := 56) rfl)) (hw _ (List.mem_of_getElem? (i := 58) rfl)) (hw _ (List.mem_of_getElem? (i := 57) rfl)) (hw _ (List.mem_of_getElem? (i := 36) rfl)) (hw _ (List.mem_of_getElem? (i := 59) rfl)) (by decide +kernel) k14 (a := b1) (argsL := [(.ref x1)]) (rest := []) (rm113 l Z a0 hw hEL zc SC hzc fm SF rfm b1 x1 t5 kt5 (StrChars.lo8 (47 : Int32)) (StrChars.lo8 (119 : Int32)) (StrChars.lo8 (101 : Int32)) (StrChars.lo8 (98 : Int32)) (StrChars.lo8 (47 : Int32)) (0 : Int32) (0 : Int32) (0 : Int32) (0 : Int32) (0 : Int32) (0 : Int32) (0 : Int32) (0 : Int32) (0 : Int32) (0 : Int32) (0 : Int32) q1 q2 h7 W7.old k14 Fv7 Fc7 Fn7 A7 gb1.1 gt5.1 (ne_of_born lt5 E1.lt (Nat.le_refl _)) S15 cq1 cq2) (allS (List.mem_of_getElem? (i := 0) rfl) all0) (by decide +kernel) (Wd := 0) (by decide +kernel) (by decide +kernel) (by decide +kernel) (allS ⟨gb1.1, (Or.inr gb1.2)⟩ (allS ⟨gt5.1, (Or.inr gt5.2)⟩ all0)) rfl (by rw [hml]; rfl) (lenOf pd15 rfl) rfl (by show 2 * 0 + _ ≤ _; exact Nat.le_of_eq rfl) (hb hby d301_13) (fun T13 h13 v13 P13 Ws13 K13 q13 => ?_)
  have W13 := Ws13 [] all0
  obtain ⟨rfl, Fv13, Fc13, Fn13, A13⟩ := q13
  show Go p e below _ (T13.setTop (mkF m 16 #[.val (.ref x1), .val (.int (1 : Int32)), .val (.ref x3)] [(.ref b1)]))
  refine Go.of (t' := T13.setTop (mkF m 17 #[.val (.ref x1), .val (.int (1 : Int32)), .val (.ref x3)] [(.int (1 : Int32)), (.ref b1)])) (fun _ kk => XS.iloadN W13.here hx rfl (hb hby d301_16) rfl kk) ?_
  refine Go.of (t' := T13.setTop (mkF m 20 #[.val (.ref x1), .val (.int (1 : Int32)), .val (.ref x3)] [(.ref b1)])) (fun _ kk => XS.ifNo W13.here hx rfl (hb hby d301_17) rfl (XT.i0_eq_f (by decide +kernel)) kk) ?_
  refine W13.ldcC hx hEL (by decide +kernel) (hw _ (List.mem_of_getElem? (i := 159) rfl)) hSA [(.int (105 : Int32)), (.int (100 : Int32)), (.int (95 : Int32))] (3 : Int32) (by decide +kernel) (by decide +kernel) (by decide +kernel) rfl (hb hby d301_20) (n := 12) (by decide +kernel) (by decide +kernel) (by decide +kernel) (by decide +kernel) (fun T16 h16 b16 t16 kb16 W16 K16 E16 Fv16 Fc16 A16 N16 => ?_)
  have S16 : Str Z h16 b16 [(105 : Int32), (100 : Int32), (95 : Int32)] := ⟨t16, kb16, 0, (3 : Int32), _, E16, Fv16, Fc16, A16, Or.inl ⟨rfl, by decide +kernel, by decide +kernel, by decide +kernel⟩, by decide +kernel, by decide⟩
  show Go p e below _ (T16.setTop (mkF m 22 #[.val (.ref x1), .val (.int (1 : Int32)), .val (.ref x3)] [(.ref b16), (.ref b1)]))
  refine Go.of (t' := T16.setTop (mkF m 27 #[.val (.ref x1), .val (.int (1 : Int32)), .val (.ref x3)] [(.ref b16), (.ref b1)])) (fun _ kk => XS.goto W16.here hx rfl (pc0 := 22) (pc' := 27) rfl (hb hby d301_22) (by decide +kernel) (by decide +kernel) kk) ?_
  have k18 := ((k14.keep K13).keep K16)
  have k19 := (Fv13.keep K16 nin0)
  have k20 := (Fc13.keep K16 nin0)
  have k21 := (Fn13.keep K16 nin0)
  have k22 := (A13.keep K16 nin0)
  refine W16.callV hx hEL (hw _ (List.mem_of_getElem? (i := 55) rfl)) (hw _ (List.mem_of_getElem? (i := 56) rfl)) (hw _ (List.mem_of_getElem? (i := 58) rfl)) (hw _ (List.mem_of_getElem? (i := 57) rfl)) (hw _ (List.mem_of_getElem? (i := 36) rfl)) (hw _ (List.mem_of_getElem? (i := 59) rfl)) (by decide +kernel) k18 (a := b1) (argsL := [(.ref b16)]) (rest := []) (rm123 l Z a0 hw hEL zc SC hzc fm SF rfm b1 b16 t5 kt5 (StrChars.lo8 (47 : Int32)) (StrChars.lo8 (119 : Int32)) (StrChars.lo8 (101 : Int32)) (StrChars.lo8 (98 : Int32)) (StrChars.lo8 (47 : Int32)) (StrChars.lo8 q1) (StrChars.lo8 q2) (0 : Int32) (0 : Int32) (0 : Int32) (0 : Int32) (0 : Int32) (0 : Int32) (0 : Int32) (0 : Int32) (0 : Int32) (105 : Int32) (100 : Int32) (95 : Int32) h16 W16.old k18 k19 k20 k21 k22 gb1.1 gt5.1 (ne_of_born lt5 E1.lt (Nat.le_refl _)) S16 ⟨by decide, by decide⟩ ⟨by decide, by decide⟩ ⟨by decide, by decide⟩) (allS (List.mem_of_getElem? (i := 0) rfl) all0) (by decide +kernel) (Wd := 0) (by decide +kernel) (by decide +kernel) (by decide +kernel) (allS ⟨gb1.1, (Or.inr gb1.2)⟩ (allS ⟨gt5.1, (Or.inr gt5.2)⟩ all0)) rfl (by rw [hml]; rfl) (lenOf pd15 rfl) rfl (by show 2 * 0 + _ ≤ _; exact Nat.le_of_eq rfl) (hb hby d301_27) (fun T17 h17 v17 P17 Ws17 K17 q17 => ?_)
  have W17 := Ws17 [] all0
  obtain ⟨rfl, Fv17, Fc17, Fn17, A17⟩ := q17
  show Go p e below _ (T17.setTop (mkF m 30 #[.val (.ref x1), .val (.int (1 : Int32)), .val (.ref x3)] [(.ref b1)]))
  refine W17.ldcC hx hEL (by decide +kernel) (hw _ (List.mem_of_getElem? (i := 103) rfl)) hSA [(.int (47 : Int32))] (1 : Int32) (by decide +kernel) (by decide +kernel) (by decide +kernel) rfl (hb hby d301_30) (n := 4) (by decide +kernel) (by decide +kernel) (by decide +kernel) (by decide +kernel) (fun T23 h23 b23 t23 kb23 W23 K23 E23 Fv23 Fc23 A23 N23 => ?_)
  have S23 : Str Z h23 b23 [(47 : Int32)] := ⟨t23, kb23, 0, (1 : Int32), _, E23, Fv23, Fc23, A23, Or.inl ⟨rfl, by decide +kernel, by decide +kernel, by decide +kernel⟩, by decide +kernel, by decide⟩
  show Go p e below _ (T23.setTop (mkF m 32 #[.val (.ref x1), .val (.int (1 : Int32)), .val (.ref x3)] [(.ref b23), (.ref b1)]))
  have k25 := ((k18.keep K17).keep K23)
  have k26 := (Fv17.keep K23 nin0)
  have k27 := (Fc17.keep K23 nin0)
  have k28 := (Fn17.keep K23 nin0)
  have k29 := (A17.keep K23 nin0)
  refine W23.callV hx hEL (hw _ (List.mem_of_getElem? (i := 55) rfl)) (hw _ (List.mem_of_getElem? (i := 56) rfl)) (hw _ (List.mem_of_getElem? (i := 58) rfl)) (hw _ (List.mem_of_getElem? (i := 57) rfl)) (hw _ (List.mem_of_getElem? (i := 36) rfl)) (hw _ (List.mem_of_getElem? (i := 59) rfl)) (by decide +kernel) k25 (a := b1) (argsL := [(.ref b23)]) (rest := []) (rm143 l Z a0 hw hEL zc SC hzc fm SF rfm b1 b23 t5 kt5 (StrChars.lo8 (47 : Int32)) (StrChars.lo8 (119 : Int32)) (StrChars.lo8 (101 : Int32)) (StrChars.lo8 (98 : Int32)) (StrChars.lo8 (47 : Int32)) (StrChars.lo8 q1) (StrChars.lo8 q2) (StrChars.lo8 (105 : Int32)) (StrChars.lo8 (100 : Int32)) (StrChars.lo8 (95 : Int32)) (0 : Int32) (0 : Int32) (0 : Int32) (0 : Int32) (0 : Int32) (0 : Int32) (47 : Int32) h23 W23.old k25 k26 k27 k28 k29 gb1.1 gt5.1 (ne_of_born lt5 E1.lt (Nat.le_refl _)) S23 ⟨by decide, by decide⟩) (allS (List.mem_of_getElem? (i := 0) rfl) all0) (by decide +kernel) (Wd := 0) (by decide +kernel) (by decide +kernel) (by decide +kernel) (allS ⟨gb1.1, (Or.inr gb1.2)⟩ (allS ⟨gt5.1, (Or.inr gt5.2)⟩ all0)) rfl (by rw [hml]; rfl) (lenOf pd15 rfl) rfl (by show 2 * 0 + _ ≤ _; exact Nat.le_of_eq rfl) (hb hby d301_32) (fun T24 h24 v24 P24 Ws24 K24 q24 => ?_)
  have W24 := Ws24 [] all0
  obtain ⟨rfl, Fv24, Fc24, Fn24, A24⟩ := q24
  show Go p e below _ (T24.setTop (mkF m 35 #[.val (.ref x1), .val (.int (1 : Int32)), .val (.ref x3)] [(.ref b1)]))
  refine Go.of (t' := T24.setTop (mkF m 36 #[.val (.ref x1), .val (.int (1 : Int32)), .val (.ref x3)] [(.ref x3), (.ref b1)])) (fun _ kk => XS.aloadN W24.here hx rfl (hb hby d301_35) rfl rfl kk) ?_
  have k31 := (k25.keep K24)
  obtain ⟨t32, kb32, cd32, N32, vs32, E32, V32, C32, A32, R32⟩ := id Sx3
  have S32 : Str Z h24 x3 [q3, q4] := ⟨t32, kb32, cd32, N32, vs32, (((((((((E32.keep K1).keep K5).keep K6).keep K7).keep K13).keep K16).keep K17).keep K23).keep K24), (((((((((V32.keep K1 nin0).keep K5 (ninS (ne_of_born (Nat.le_of_eq eb1.symm) Sx3.exa.lt (Nat.le_refl _)) nin0)).keep K6 nin0).keep K7 (ninS (ne_of_born (Nat.le_of_eq eb1.symm) Sx3.exa.lt (Nat.le_refl _)) (ninS (ne_of_born lt5 Sx3.exa.lt K1.1) nin0))).keep K13 (ninS (ne_of_born (Nat.le_of_eq eb1.symm) Sx3.exa.lt (Nat.le_refl _)) (ninS (ne_of_born lt5 Sx3.exa.lt K1.1) nin0))).keep K16 nin0).keep K17 (ninS (ne_of_born (Nat.le_of_eq eb1.symm) Sx3.exa.lt (Nat.le_refl _)) (ninS (ne_of_born lt5 Sx3.exa.lt K1.1) nin0))).keep K23 nin0).keep K24 (ninS (ne_of_born (Nat.le_of_eq eb1.symm) Sx3.exa.lt (Nat.le_refl _)) (ninS (ne_of_born lt5 Sx3.exa.lt K1.1) nin0))), (((((((((C32.keep K1 nin0).keep K5 (ninS (ne_of_born (Nat.le_of_eq eb1.symm) Sx3.exa.lt (Nat.le_refl _)) nin0)).keep K6 nin0).keep K7 (ninS (ne_of_born (Nat.le_of_eq eb1.symm) Sx3.exa.lt (Nat.le_refl _)) (ninS (ne_of_born lt5 Sx3.exa.lt K1.1) nin0))).keep K13 (ninS (ne_of_born (Nat.le_of_eq eb1.symm) Sx3.exa.lt (Nat.le_refl _)) (ninS (ne_of_born lt5 Sx3.exa.lt K1.1) nin0))).keep K16 nin0).keep K17 (ninS (ne_of_born (Nat.le_of_eq eb1.symm) Sx3.exa.lt (Nat.le_refl _)) (ninS (ne_of_born lt5 Sx3.exa.lt K1.1) nin0))).keep K23 nin0).keep K24 (ninS (ne_of_born (Nat.le_of_eq eb1.symm) Sx3.exa.lt (Nat.le_refl _)) (ninS (ne_of_born lt5 Sx3.exa.lt K1.1) nin0))), (((((((((A32.keep K1 nin0).keep K5 (ninS (ne_of_born (Nat.le_of_eq eb1.symm) A32.lt (Nat.le_refl _)) nin0)).keep K6 nin0).keep K7 (ninS (ne_of_born (Nat.le_of_eq eb1.symm) A32.lt (Nat.le_refl _)) (ninS (ne_of_born lt5 A32.lt K1.1) nin0))).keep K13 (ninS (ne_of_born (Nat.le_of_eq eb1.symm) A32.lt (Nat.le_refl _)) (ninS (ne_of_born lt5 A32.lt K1.1) nin0))).keep K16 nin0).keep K17 (ninS (ne_of_born (Nat.le_of_eq eb1.symm) A32.lt (Nat.le_refl _)) (ninS (ne_of_born lt5 A32.lt K1.1) nin0))).keep K23 nin0).keep K24 (ninS (ne_of_born (Nat.le_of_eq eb1.symm) A32.lt (Nat.le_refl _)) (ninS (ne_of_born lt5 A32.lt K1.1) nin0))), R32⟩
  refine W24.callV hx hEL (hw _ (List.mem_of_getElem? (i := 55) rfl)) (hw _ (List.mem_of_getElem? (i := 56) rfl)) (hw _ (List.mem_of_getElem? (i := 58) rfl)) (hw _ (List.mem_of_getElem? (i := 57) rfl)) (hw _ (List.mem_of_getElem? (i := 36) rfl)) (hw _ (List.mem_of_getElem? (i := 59) rfl)) (by decide +kernel) k31 (a := b1) (argsL := [(.ref x3)]) (rest := []) (rm163 l Z a0 hw hEL zc SC hzc fm SF rfm b1 x3 t5 kt5 (StrChars.lo8 (47 : Int32)) (StrChars.lo8 (119 : Int32)) (StrChars.lo8 (101 : Int32)) (StrChars.lo8 (98 : Int32)) (StrChars.lo8 (47 : Int32)) (StrChars.lo8 q1) (StrChars.lo8 q2) (StrChars.lo8 (105 : Int32)) (StrChars.lo8 (100 : Int32)) (StrChars.lo8 (95 : Int32)) (StrChars.lo8 (47 : Int32)) (0 : Int32) (0 : Int32) (0 : Int32) (0 : Int32) (0 : Int32) q3 q4 h24 W24.old k31 Fv24 Fc24 Fn24 A24 gb1.1 gt5.1 (ne_of_born lt5 E1.lt (Nat.le_refl _)) S32 cq3 cq4) (allS (List.mem_of_getElem? (i := 0) rfl) all0) (by decide +kernel) (Wd := 0) (by decide +kernel) (by decide +kernel) (by decide +kernel) (allS ⟨gb1.1, (Or.inr gb1.2)⟩ (allS ⟨gt5.1, (Or.inr gt5.2)⟩ all0)) rfl (by rw [hml]; rfl) (lenOf pd15 rfl) rfl (by show 2 * 0 + _ ≤ _; exact Nat.le_of_eq rfl) (hb hby d301_36) (fun T30 h30 v30 P30 Ws30 K30 q30 => ?_)
  have W30 := Ws30 [] all0
  obtain ⟨rfl, Fv30, Fc30, Fn30, A30⟩ := q30
  show Go p e below _ (T30.setTop (mkF m 39 #[.val (.ref x1), .val (.int (1 : Int32)), .val (.ref x3)] [(.ref b1)]))
  have k34 := (k31.keep K30)
  refine W30.callV hx hEL (hw _ (List.mem_of_getElem? (i := 104) rfl)) (hw _ (List.mem_of_getElem? (i := 105) rfl)) (hw _ (List.mem_of_getElem? (i := 107) rfl)) (hw _ (List.mem_of_getElem? (i := 106) rfl)) (hw _ (List.mem_of_getElem? (i := 36) rfl)) (hw _ (List.mem_of_getElem? (i := 108) rfl)) (by decide +kernel) k34 (a := b1) (argsL := []) (rest := []) (rm205 l Z a0 hw hEL zc SC hzc fm SF rfm b1 t5 kt5 (0 : Int32) (0 : Int32) (0 : Int32) (47 : Int32) (119 : Int32) (101 : Int32) (98 : Int32) (47 : Int32) q1 q2 (105 : Int32) (100 : Int32) (95 : Int32) (47 : Int32) q3 q4 h30 W30.old k34 Fv30 Fc30 Fn30 A30 ⟨by decide, by decide⟩ ⟨by decide, by decide⟩ ⟨by decide, by decide⟩ ⟨by decide, by decide⟩ ⟨by decide, by decide⟩ cq1 cq2 ⟨by decide, by decide⟩ ⟨by decide, by decide⟩ ⟨by decide, by decide⟩ ⟨by decide, by decide⟩ cq3 cq4) all0 (by decide +kernel) (Wd := 0) (by decide +kernel) (by decide +kernel) (by decide +kernel) all0 rfl (by rw [hml]; rfl) (lenOf pd16 rfl) rfl (by show 2 * 0 + _ ≤ _; exact Nat.le_of_eq rfl) (hb hby d301_39) (fun T33 h33 v33 P33 Ws33 K33 q33 => ?_)
  have W33 := Ws33 [] all0
  obtain ⟨r33, rfl, lr33, S33⟩ := q33
  have gr33 : n0 ≤ r33 ∧ s.heap.size ≤ r33 := ⟨Nat.le_trans W30.n0le lr33, Nat.le_trans W30.s0le lr33⟩
  have E33 := S33.exa
  show Go p e below _ (T33.setTop (mkF m 42 #[.val (.ref x1), .val (.int (1 : Int32)), .val (.ref x3)] [(.ref r33)]))
  exact W33.retA hx hEL hs hlk (by decide +kernel) (by decide +kernel) hret rfl rfl (hb hby d301_42) (fun S hS => ⟨r33, rfl, hs ▸ gr33.2, S33⟩)
theorem d300_0 : decode prog_34_method_3_code 0 = .ok (.new 51, 3) := by decide +kernel
theorem d300_3 : decode prog_34_method_3_code 3 = .ok (.dup, 1) := by decide +kernel
theorem d300_4 : decode prog_34_method_3_code 4 = .ok (.invokespecial 53, 3) := by decide +kernel
theorem d300_7 : decode prog_34_method_3_code 7 = .ok (.ldc 74, 2) := by decide +kernel
theorem d300_9 : decode prog_34_method_3_code 9 = .ok (.invokevirtual 54, 3) := by decide +kernel
theorem d300_12 : decode prog_34_method_3_code 12 = .ok (.aload_n 0, 1) := by decide +kernel
theorem d300_13 : decode prog_34_method_3_code 13 = .ok (.invokevirtual 54, 3) := by decide +kernel
theorem d300_16 : decode prog_34_method_3_code 16 = .ok (.iload_n 1, 1) := by decide +kernel
theorem d300_17 : decode prog_34_method_3_code 17 = .ok (.ifCond .eq 8, 3) := by decide +kernel
theorem d300_25 : decode prog_34_method_3_code 25 = .ok (.ldc 78, 2) := by decide +kernel
theorem d300_27 : decode prog_34_method_3_code 27 = .ok (.invokevirtual 54, 3) := by decide +kernel
theorem d300_30 : decode prog_34_method_3_code 30 = .ok (.ldc 80, 2) := by decide +kernel
theorem d300_32 : decode prog_34_method_3_code 32 = .ok (.invokevirtual 54, 3) := by decide +kernel
theorem d300_35 : decode prog_34_method_3_code 35 = .ok (.aload_n 2, 1) := by decide +kernel
theorem d300_36 : decode prog_34_method_3_code 36 = .ok (.invokevirtual 54, 3) := by decide +kernel
theorem d300_39 : decode prog_34_method_3_code 39 = .ok (.invokevirtual 60, 3) := by decide +kernel
theorem d300_42 : decode prog_34_method_3_code 42 = .ok (.areturn, 1) := by decide +kernel
theorem ef300 (m : MethodId) (x0 : Addr) (x1 : Int32) (x2 : Addr)  : entryFrame m #[(.ref x0), (.int x1), (.ref x2)] 3 = mkF m 0 #[.val (.ref x0), .val (.int x1), .val (.ref x2)] [] := by first | (simp [entryFrame, mkF, argsToLocals, Value.category]; done) | rfl | rfl
set_option maxRecDepth 65536 in
set_option maxHeartbeats 40000000 in
theorem rm300 (l : Launch) (Z : State) (a0 : Array Value) (hw : ∀ d ∈ tables_1, d.before a0 Z = true) (hEL : EW Z a0 EL0) (zc : Int32) (SC : Sta Z Z.heap "java/lang/String" "COMPACT_STRINGS" "Z" (.int zc)) (hzc : ¬ zc = 0) (fm : Value) (SF : Sta Z Z.heap "jdk/internal/util/Preconditions" "SIOOBE_FORMATTER" "Ljava/util/function/BiFunction;" fm) (rfm : fm.isRef = true) (x1 : Addr) (x3 : Addr) (q1 : Int32) (q2 : Int32) (q3 : Int32) (q4 : Int32) (h0 : Heap) {n0 : Nat} (O0 : Old Z n0 h0) (Sx1 : Str Z h0 x1 [q1, q2]) (Sx3 : Str Z h0 x3 [q3, q4]) (cq1 : ¬ q1 < 0 ∧ ¬ (255 : Int32) < q1) (cq2 : ¬ q2 < 0 ∧ ¬ (255 : Int32) < q2) (cq3 : ¬ q3 < 0 ∧ ¬ (255 : Int32) < q3) (cq4 : ¬ q4 < 0 ∧ ¬ (255 : Int32) < q4) :
    Met l Z EL0 n0 (⟨"com/example/frontier/frontier/replay/ReplayPath", "of", "(Ljava/lang/String;ZLjava/lang/String;)Ljava/lang/String;"⟩ : MethodName) prog_34_method_3_code 3 (some (.object "java/lang/String")) [] ({ frames := 6, cells := 10, slots := 70, locals := 91 } : Room) #[(.ref x1), (.int (0 : Int32)), (.ref x3)] h0 [] [] (fun v h' S => ∃ r : Addr, v = some (.ref r) ∧ h0.size ≤ r ∧ Str Z h' r [(47 : Int32), (119 : Int32), (101 : Int32), (98 : Int32), (47 : Int32), q1, q2, (47 : Int32), q3, q4]) := by
  refine Met.of (plainFor_of_name pn4) O0 ?_
  intro p e s m below meth c T0 hx hby hml hret hlk hnm hs W0
  have W0 : Wk p l e _ s m _ below meth c Z EL0 n0 [] "com/example/frontier/frontier/replay/ReplayPath" [] T0 0 0 h0 := W0
  have hSA := fun d hd => hw d (sa_in d hd)
  have hws := fun d hd => hw d (ws_in d hd)
  have hln := fun d hd => hw d (ln_in d hd)
  have heq := fun d hd => hw d (eq_in d hd)
  refine Go.of (fun _ kk => castTop (ef300 m x1 (0 : Int32) x3) kk) ?_
  show Go p e below _ (T0.setTop (mkF m 0 #[.val (.ref x1), .val (.int (0 : Int32)), .val (.ref x3)] []))
  refine W0.newO hx (hw _ (List.mem_of_getElem? (i := 34) rfl)) (hw _ (List.mem_of_getElem? (i := 35) rfl)) (hw _ (List.mem_of_getElem? (i := 36) rfl)) rfl (hb hby d300_0) (by decide +kernel) (by decide +kernel) (fun T1 h1 b1 eb1 gb1 W1 K1 E1 D1 => ?_)
  have k2 : Fld Z h1 b1 "java/lang/AbstractStringBuilder" "value" "[B" .null := D1 (Or.inl (hw _ (List.mem_of_getElem? (i := 49) rfl))) (ty := (.array .byte)) (by decide +kernel)
  have k3 : Fld Z h1 b1 "java/lang/AbstractStringBuilder" "coder" "B" (.int (0 : Int32)) := D1 (Or.inl (hw _ (List.mem_of_getElem? (i := 51) rfl))) (ty := .byte) (by decide +kernel)
  have k4 : Fld Z h1 b1 "java/lang/AbstractStringBuilder" "count" "I" (.int (0 : Int32)) := D1 (Or.inl (hw _ (List.mem_of_getElem? (i := 76) rfl))) (ty := .int) (by decide +kernel)
  show Go p e below _ (T1.setTop (mkF m 3 #[.val (.ref x1), .val (.int (0 : Int32)), .val (.ref x3)] [(.ref b1)]))
  refine Go.of (t' := T1.setTop (mkF m 4 #[.val (.ref x1), .val (.int (0 : Int32)), .val (.ref x3)] [(.ref b1), (.ref b1)])) (fun _ kk => XS.dup W1.here hx rfl (hb hby d300_3) rfl rfl kk) ?_
  refine W1.callP hx hEL rfl (hw _ (List.mem_of_getElem? (i := 37) rfl)) (hw _ (List.mem_of_getElem? (i := 38) rfl)) (hw _ (List.mem_of_getElem? (i := 36) rfl)) (hw _ (List.mem_of_getElem? (i := 39) rfl)) (by decide +kernel) (a := b1) (argsL := []) (rest := [(.ref b1)]) (rm3 l Z a0 hw hEL zc SC hzc fm SF rfm b1 h1 W1.old E1 k2 k3 k4 gb1.1) all0 (by decide +kernel) (Wd := 1) (by decide +kernel) (by decide +kernel) (by decide +kernel) (allS ⟨gb1.1, (Or.inr gb1.2)⟩ all0) rfl (by rw [hml]; rfl) (lenOf pd14 rfl) rfl (by show 2 * 0 + _ ≤ _; exact Nat.le_of_eq rfl) (hb hby d300_4) (fun T5 h5 v5 P5 Ws5 K5 q5 => ?_)
  obtain ⟨t5, kt5, rfl, lt5, Fv5, Fc5, Fn5, A5, st5⟩ := q5
  have W5 := Ws5 [t5] (allS st5 all0)
  have gt5 : n0 ≤ t5 ∧ s.heap.size ≤ t5 := ⟨Nat.le_trans W1.n0le lt5, Nat.le_trans W1.s0le lt5⟩
  show Go p e below _ (T5.setTop (mkF m 7 #[.val (.ref x1), .val (.int (0 : Int32)), .val (.ref x3)] [(.ref b1)]))
  refine W5.ldcC hx hEL (by decide +kernel) (hw _ (List.mem_of_getElem? (i := 52) rfl)) hSA [(.int (47 : Int32)), (.int (119 : Int32)), (.int (101 : Int32)), (.int (98 : Int32)), (.int (47 : Int32))] (5 : Int32) (by decide +kernel) (by decide +kernel) (by decide +kernel) rfl (hb hby d300_7) (n := 20) (by decide +kernel) (by decide +kernel) (by decide +kernel) (by decide +kernel) (fun T6 h6 b6 t6 kb6 W6 K6 E6 Fv6 Fc6 A6 N6 => ?_)
  have S6 : Str Z h6 b6 [(47 : Int32), (119 : Int32), (101 : Int32), (98 : Int32), (47 : Int32)] := ⟨t6, kb6, 0, (5 : Int32), _, E6, Fv6, Fc6, A6, Or.inl ⟨rfl, by decide +kernel, by decide +kernel, by decide +kernel⟩, by decide +kernel, by decide⟩
  show Go p e below _ (T6.setTop (mkF m 9 #[.val (.ref x1), .val (.int (0 : Int32)), .val (.ref x3)] [(.ref b6), (.ref b1)]))
  have k8 := ((E1.keep K5).keep K6)
  have k9 := (Fv5.keep K6 nin0)
  have k10 := (Fc5.keep K6 nin0)
  have k11 := (Fn5.keep K6 nin0)
  have k12 := (A5.keep K6 nin0)
  refine W6.callV hx hEL (hw _ (List.mem_of_getElem? (i := 55) rfl)) (hw _ (List.mem_of_getElem? (i := 56) rfl)) (hw _ (List.mem_of_getElem? (i := 58) rfl)) (hw _ (List.mem_of_getElem? (i := 57) rfl)) (hw _ (List.mem_of_getElem? (i := 36) rfl)) (hw _ (List.mem_of_getElem? (i := 59) rfl)) (by decide +kernel) k8 (a := b1) (argsL := [(.ref b6)]) (rest := []) (rm103 l Z a0 hw hEL zc SC hzc fm SF rfm b1 b6 t5 kt5 (0 : Int32) (0 : Int32) (0 : Int32) (0 : Int32) (0 : Int32) (0 : Int32) (0 : Int32) (0 : Int32) (0 : Int32) (0 : Int32) (0 : Int32) (0 : Int32) (0 : Int32) (0 : Int32) (0 : Int32) (0 : Int32) (47 : Int32) (119 : Int32) (101 : Int32) (98 : Int32) (47 : Int32) h6 W6.old k8 k9 k10 k11 k12 gb1.1 gt5.1 (ne_of_born lt5 E1.lt (Nat.le_refl _)) S6 ⟨by decide, by decide⟩ ⟨by decide, by decide⟩ ⟨by decide, by decide⟩ ⟨by decide, by decide⟩ ⟨by decide, by decide⟩) (allS (List.mem_of_getElem? (i := 0) rfl) all0) (by decide +kernel) (Wd := 0) (by decide +kernel) (by decide +kernel) (by decide +kernel) (allS ⟨gb1.1, (Or.inr gb1.2)⟩ (allS ⟨gt5.1, (Or.inr gt5.2)⟩ all0)) rfl (by rw [hml]; rfl) (lenOf pd15 rfl) rfl (by show 2 * 0 + _ ≤ _; exact Nat.le_of_eq rfl) (hb hby d300_9) (fun T7 h7 v7 P7 Ws7 K7 q7 => ?_)
  have W7 := Ws7 [] all0
  obtain ⟨rfl, Fv7, Fc7, Fn7, A7⟩ := q7
  show Go p e below _ (T7.setTop (mkF m 12 #[.val (.ref x1), .val (.int (0 : Int32)), .val (.ref x3)] [(.ref b1)]))
  refine Go.of (t' := T7.setTop (mkF m 13 #[.val (.ref x1), .val (.int (0 : Int32)), .val (.ref x3)] [(.ref x1), (.ref b1)])) (fun _ kk => XS.aloadN W7.here hx rfl (hb hby d300_12) rfl rfl kk) ?_
  have k14 := (k8.keep K7)
  obtain ⟨t15, kb15, cd15, N15, vs15, E15, V15, C15, A15, R15⟩ := id Sx1
  have S15 : Str Z h7 x1 [q1, q2] := ⟨t15, kb15, cd15, N15, vs15, ((((E15.keep K1).keep K5).keep K6).keep K7), ((((V15.keep K1 nin0).keep K5 (ninS (ne_of_born (Nat.le_of_eq eb1.symm) Sx1.exa.lt (Nat.le_refl _)) nin0)).keep K6 nin0).keep K7 (ninS (ne_of_born (Nat.le_of_eq eb1.symm) Sx1.exa.lt (Nat.le_refl _)) (ninS (ne_of_born lt5 Sx1.exa.lt K1.1) nin0))), ((((C15.keep K1 nin0).keep K5 (ninS (ne_of_born (Nat.le_of_eq eb1.symm) Sx1.exa.lt (Nat.le_refl _)) nin0)).keep K6 nin0).keep K7 (ninS (ne_of_born (Nat.le_of_eq eb1.symm) Sx1.exa.lt (Nat.le_refl _)) (ninS (ne_of_born lt5 Sx1.exa.lt K1.1) nin0))), ((((A15.keep K1 nin0).keep K5 (ninS (ne_of_born (Nat.le_of_eq eb1.symm) A15.lt (Nat.le_refl _)) nin0)).keep K6 nin0).keep K7 (ninS (ne_of_born (Nat.le_of_eq eb1.symm) A15.lt (Nat.le_refl _)) (ninS (ne_of_born lt5 A15.lt K1.1) nin0))), R15⟩
  refine W7.callV hx hEL (hw _ (List.mem_of_getElem? (i := 55) rfl)) (hw _ (List.mem_of_getElem? (i := 56) rfl)) (hw _ (List.mem_of_getElem? (i := 58) rfl)) (hw _ (List.mem_of_getElem? (i := 57) rfl)) (hw _ (List.mem_of_getElem? (i := 36) rfl)) (hw _ (List.mem_of_getElem? (i := 59) rfl)) (by decide +kernel) k14 (a := b1) (argsL := [(.ref x1)]) (rest := []) (rm113 l Z a0 hw hEL zc SC hzc fm SF rfm b1 x1 t5 kt5 (StrChars.lo8 (47 : Int32)) (StrChars.lo8 (119 : Int32)) (StrChars.lo8 (101 : Int32)) (StrChars.lo8 (98 : Int32)) (StrChars.lo8 (47 : Int32)) (0 : Int32) (0 : Int32) (0 : Int32) (0 : Int32) (0 : Int32) (0 : Int32) (0 : Int32) (0 : Int32) (0 : Int32) (0 : Int32) (0 : Int32) q1 q2 h7 W7.old k14 Fv7 Fc7 Fn7 A7 gb1.1 gt5.1 (ne_of_born lt5 E1.lt (Nat.le_refl _)) S15 cq1 cq2) (allS (List.mem_of_getElem? (i := 0) rfl) all0) (by decide +kernel) (Wd := 0) (by decide +kernel) (by decide +kernel) (by decide +kernel) (allS ⟨gb1.1, (Or.inr gb1.2)⟩ (allS ⟨gt5.1, (Or.inr gt5.2)⟩ all0)) rfl (by rw [hml]; rfl) (lenOf pd15 rfl) rfl (by show 2 * 0 + _ ≤ _; exact Nat.le_of_eq rfl) (hb hby d300_13) (fun T13 h13 v13 P13 Ws13 K13 q13 => ?_)
  have W13 := Ws13 [] all0
  obtain ⟨rfl, Fv13, Fc13, Fn13, A13⟩ := q13
  show Go p e below _ (T13.setTop (mkF m 16 #[.val (.ref x1), .val (.int (0 : Int32)), .val (.ref x3)] [(.ref b1)]))
  refine Go.of (t' := T13.setTop (mkF m 17 #[.val (.ref x1), .val (.int (0 : Int32)), .val (.ref x3)] [(.int (0 : Int32)), (.ref b1)])) (fun _ kk => XS.iloadN W13.here hx rfl (hb hby d300_16) rfl kk) ?_
  refine Go.of (t' := T13.setTop (mkF m 25 #[.val (.ref x1), .val (.int (0 : Int32)), .val (.ref x3)] [(.ref b1)])) (fun _ kk => XS.ifYes W13.here hx rfl (pc0 := 17) (pc' := 25) rfl (hb hby d300_17) rfl (XT.i0_eq_t (by decide +kernel)) (by decide +kernel) (by decide +kernel) kk) ?_
  refine W13.ldcC hx hEL (by decide +kernel) (hw _ (List.mem_of_getElem? (i := 102) rfl)) hSA [] (0 : Int32) (by decide +kernel) (by decide +kernel) (by decide +kernel) rfl (hb hby d300_25) (n := 0) (by decide +kernel) (by decide +kernel) (by decide +kernel) (by decide +kernel) (fun T16 h16 b16 t16 kb16 W16 K16 E16 Fv16 Fc16 A16 N16 => ?_)
  have S16 : Str Z h16 b16 [] := ⟨t16, kb16, 0, (0 : Int32), _, E16, Fv16, Fc16, A16, Or.inl ⟨rfl, by decide +kernel, by decide +kernel, by decide +kernel⟩, by decide +kernel, by decide⟩
  show Go p e below _ (T16.setTop (mkF m 27 #[.val (.ref x1), .val (.int (0 : Int32)), .val (.ref x3)] [(.ref b16), (.ref b1)]))
  have k18 := ((k14.keep K13).keep K16)
  have k19 := (Fv13.keep K16 nin0)
  have k20 := (Fc13.keep K16 nin0)
  have k21 := (Fn13.keep K16 nin0)
  have k22 := (A13.keep K16 nin0)
  refine W16.callV hx hEL (hw _ (List.mem_of_getElem? (i := 55) rfl)) (hw _ (List.mem_of_getElem? (i := 56) rfl)) (hw _ (List.mem_of_getElem? (i := 58) rfl)) (hw _ (List.mem_of_getElem? (i := 57) rfl)) (hw _ (List.mem_of_getElem? (i := 36) rfl)) (hw _ (List.mem_of_getElem? (i := 59) rfl)) (by decide +kernel) k18 (a := b1) (argsL := [(.ref b16)]) (rest := []) (rm133 l Z a0 hw hEL zc SC hzc fm SF rfm b1 b16 t5 kt5 (StrChars.lo8 (47 : Int32)) (StrChars.lo8 (119 : Int32)) (StrChars.lo8 (101 : Int32)) (StrChars.lo8 (98 : Int32)) (StrChars.lo8 (47 : Int32)) (StrChars.lo8 q1) (StrChars.lo8 q2) (0 : Int32) (0 : Int32) (0 : Int32) (0 : Int32) (0 : Int32) (0 : Int32) (0 : Int32) (0 : Int32) (0 : Int32) h16 W16.old k18 k19 k20 k21 k22 gb1.1 gt5.1 (ne_of_born lt5 E1.lt (Nat.le_refl _)) S16) (allS (List.mem_of_getElem? (i := 0) rfl) all0) (by decide +kernel) (Wd := 0) (by decide +kernel) (by decide +kernel) (by decide +kernel) (allS ⟨gb1.1, (Or.inr gb1.2)⟩ (allS ⟨gt5.1, (Or.inr gt5.2)⟩ all0)) rfl (by rw [hml]; rfl) (lenOf pd15 rfl) rfl (by show 2 * 0 + _ ≤ _; exact Nat.le_of_eq rfl) (hb hby d300_27) (fun T17 h17 v17 P17 Ws17 K17 q17 => ?_)
  have W17 := Ws17 [] all0
  obtain ⟨rfl, Fv17, Fc17, Fn17, A17⟩ := q17
  show Go p e below _ (T17.setTop (mkF m 30 #[.val (.ref x1), .val (.int (0 : Int32)), .val (.ref x3)] [(.ref b1)]))
  refine W17.ldcC hx hEL (by decide +kernel) (hw _ (List.mem_of_getElem? (i := 103) rfl)) hSA [(.int (47 : Int32))] (1 : Int32) (by decide +kernel) (by decide +kernel) (by decide +kernel) rfl (hb hby d300_30) (n := 4) (by decide +kernel) (by decide +kernel) (by decide +kernel) (by decide +kernel) (fun T23 h23 b23 t23 kb23 W23 K23 E23 Fv23 Fc23 A23 N23 => ?_)
  have S23 : Str Z h23 b23 [(47 : Int32)] := ⟨t23, kb23, 0, (1 : Int32), _, E23, Fv23, Fc23, A23, Or.inl ⟨rfl, by decide +kernel, by decide +kernel, by decide +kernel⟩, by decide +kernel, by decide⟩
  show Go p e below _ (T23.setTop (mkF m 32 #[.val (.ref x1), .val (.int (0 : Int32)), .val (.ref x3)] [(.ref b23), (.ref b1)]))
  have k25 := ((k18.keep K17).keep K23)
  have k26 := (Fv17.keep K23 nin0)
  have k27 := (Fc17.keep K23 nin0)
  have k28 := (Fn17.keep K23 nin0)
  have k29 := (A17.keep K23 nin0)
  refine W23.callV hx hEL (hw _ (List.mem_of_getElem? (i := 55) rfl)) (hw _ (List.mem_of_getElem? (i := 56) rfl)) (hw _ (List.mem_of_getElem? (i := 58) rfl)) (hw _ (List.mem_of_getElem? (i := 57) rfl)) (hw _ (List.mem_of_getElem? (i := 36) rfl)) (hw _ (List.mem_of_getElem? (i := 59) rfl)) (by decide +kernel) k25 (a := b1) (argsL := [(.ref b23)]) (rest := []) (rm153 l Z a0 hw hEL zc SC hzc fm SF rfm b1 b23 t5 kt5 (StrChars.lo8 (47 : Int32)) (StrChars.lo8 (119 : Int32)) (StrChars.lo8 (101 : Int32)) (StrChars.lo8 (98 : Int32)) (StrChars.lo8 (47 : Int32)) (StrChars.lo8 q1) (StrChars.lo8 q2) (0 : Int32) (0 : Int32) (0 : Int32) (0 : Int32) (0 : Int32) (0 : Int32) (0 : Int32) (0 : Int32) (0 : Int32) (47 : Int32) h23 W23.old k25 k26 k27 k28 k29 gb1.1 gt5.1 (ne_of_born lt5 E1.lt (Nat.le_refl _)) S23 ⟨by decide, by decide⟩) (allS (List.mem_of_getElem? (i := 0) rfl) all0) (by decide +kernel) (Wd := 0) (by decide +kernel) (by decide +kernel) (by decide +kernel) (allS ⟨gb1.1, (Or.inr gb1.2)⟩ (allS ⟨gt5.1, (Or.inr gt5.2)⟩ all0)) rfl (by rw [hml]; rfl) (lenOf pd15 rfl) rfl (by show 2 * 0 + _ ≤ _; exact Nat.le_of_eq rfl) (hb hby d300_32) (fun T24 h24 v24 P24 Ws24 K24 q24 => ?_)
  have W24 := Ws24 [] all0
  obtain ⟨rfl, Fv24, Fc24, Fn24, A24⟩ := q24
  show Go p e below _ (T24.setTop (mkF m 35 #[.val (.ref x1), .val (.int (0 : Int32)), .val (.ref x3)] [(.ref b1)]))
  refine Go.of (t' := T24.setTop (mkF m 36 #[.val (.ref x1), .val (.int (0 : Int32)), .val (.ref x3)] [(.ref x3), (.ref b1)])) (fun _ kk => XS.aloadN W24.here hx rfl (hb hby d300_35) rfl rfl kk) ?_
  have k31 := (k25.keep K24)
  obtain ⟨t32, kb32, cd32, N32, vs32, E32, V32, C32, A32, R32⟩ := id Sx3
  have S32 : Str Z h24 x3 [q3, q4] := ⟨t32, kb32, cd32, N32, vs32, (((((((((E32.keep K1).keep K5).keep K6).keep K7).keep K13).keep K16).keep K17).keep K23).keep K24), (((((((((V32.keep K1 nin0).keep K5 (ninS (ne_of_born (Nat.le_of_eq eb1.symm) Sx3.exa.lt (Nat.le_refl _)) nin0)).keep K6 nin0).keep K7 (ninS (ne_of_born (Nat.le_of_eq eb1.symm) Sx3.exa.lt (Nat.le_refl _)) (ninS (ne_of_born lt5 Sx3.exa.lt K1.1) nin0))).keep K13 (ninS (ne_of_born (Nat.le_of_eq eb1.symm) Sx3.exa.lt (Nat.le_refl _)) (ninS (ne_of_born lt5 Sx3.exa.lt K1.1) nin0))).keep K16 nin0).keep K17 (ninS (ne_of_born (Nat.le_of_eq eb1.symm) Sx3.exa.lt (Nat.le_refl _)) (ninS (ne_of_born lt5 Sx3.exa.lt K1.1) nin0))).keep K23 nin0).keep K24 (ninS (ne_of_born (Nat.le_of_eq eb1.symm) Sx3.exa.lt (Nat.le_refl _)) (ninS (ne_of_born lt5 Sx3.exa.lt K1.1) nin0))), (((((((((C32.keep K1 nin0).keep K5 (ninS (ne_of_born (Nat.le_of_eq eb1.symm) Sx3.exa.lt (Nat.le_refl _)) nin0)).keep K6 nin0).keep K7 (ninS (ne_of_born (Nat.le_of_eq eb1.symm) Sx3.exa.lt (Nat.le_refl _)) (ninS (ne_of_born lt5 Sx3.exa.lt K1.1) nin0))).keep K13 (ninS (ne_of_born (Nat.le_of_eq eb1.symm) Sx3.exa.lt (Nat.le_refl _)) (ninS (ne_of_born lt5 Sx3.exa.lt K1.1) nin0))).keep K16 nin0).keep K17 (ninS (ne_of_born (Nat.le_of_eq eb1.symm) Sx3.exa.lt (Nat.le_refl _)) (ninS (ne_of_born lt5 Sx3.exa.lt K1.1) nin0))).keep K23 nin0).keep K24 (ninS (ne_of_born (Nat.le_of_eq eb1.symm) Sx3.exa.lt (Nat.le_refl _)) (ninS (ne_of_born lt5 Sx3.exa.lt K1.1) nin0))), (((((((((A32.keep K1 nin0).keep K5 (ninS (ne_of_born (Nat.le_of_eq eb1.symm) A32.lt (Nat.le_refl _)) nin0)).keep K6 nin0).keep K7 (ninS (ne_of_born (Nat.le_of_eq eb1.symm) A32.lt (Nat.le_refl _)) (ninS (ne_of_born lt5 A32.lt K1.1) nin0))).keep K13 (ninS (ne_of_born (Nat.le_of_eq eb1.symm) A32.lt (Nat.le_refl _)) (ninS (ne_of_born lt5 A32.lt K1.1) nin0))).keep K16 nin0).keep K17 (ninS (ne_of_born (Nat.le_of_eq eb1.symm) A32.lt (Nat.le_refl _)) (ninS (ne_of_born lt5 A32.lt K1.1) nin0))).keep K23 nin0).keep K24 (ninS (ne_of_born (Nat.le_of_eq eb1.symm) A32.lt (Nat.le_refl _)) (ninS (ne_of_born lt5 A32.lt K1.1) nin0))), R32⟩
  refine W24.callV hx hEL (hw _ (List.mem_of_getElem? (i := 55) rfl)) (hw _ (List.mem_of_getElem? (i := 56) rfl)) (hw _ (List.mem_of_getElem? (i := 58) rfl)) (hw _ (List.mem_of_getElem? (i := 57) rfl)) (hw _ (List.mem_of_getElem? (i := 36) rfl)) (hw _ (List.mem_of_getElem? (i := 59) rfl)) (by decide +kernel) k31 (a := b1) (argsL := [(.ref x3)]) (rest := []) (rm173 l Z a0 hw hEL zc SC hzc fm SF rfm b1 x3 t5 kt5 (StrChars.lo8 (47 : Int32)) (StrChars.lo8 (119 : Int32)) (StrChars.lo8 (101 : Int32)) (StrChars.lo8 (98 : Int32)) (StrChars.lo8 (47 : Int32)) (StrChars.lo8 q1) (StrChars.lo8 q2) (StrChars.lo8 (47 : Int32)) (0 : Int32) (0 : Int32) (0 : Int32) (0 : Int32) (0 : Int32) (0 : Int32) (0 : Int32) (0 : Int32) q3 q4 h24 W24.old k31 Fv24 Fc24 Fn24 A24 gb1.1 gt5.1 (ne_of_born lt5 E1.lt (Nat.le_refl _)) S32 cq3 cq4) (allS (List.mem_of_getElem? (i := 0) rfl) all0) (by decide +kernel) (Wd := 0) (by decide +kernel) (by decide +kernel) (by decide +kernel) (allS ⟨gb1.1, (Or.inr gb1.2)⟩ (allS ⟨gt5.1, (Or.inr gt5.2)⟩ all0)) rfl (by rw [hml]; rfl) (lenOf pd15 rfl) rfl (by show 2 * 0 + _ ≤ _; exact Nat.le_of_eq rfl) (hb hby d300_36) (fun T30 h30 v30 P30 Ws30 K30 q30 => ?_)
  have W30 := Ws30 [] all0
  obtain ⟨rfl, Fv30, Fc30, Fn30, A30⟩ := q30
  show Go p e below _ (T30.setTop (mkF m 39 #[.val (.ref x1), .val (.int (0 : Int32)), .val (.ref x3)] [(.ref b1)]))
  have k34 := (k31.keep K30)
  refine W30.callV hx hEL (hw _ (List.mem_of_getElem? (i := 104) rfl)) (hw _ (List.mem_of_getElem? (i := 105) rfl)) (hw _ (List.mem_of_getElem? (i := 107) rfl)) (hw _ (List.mem_of_getElem? (i := 106) rfl)) (hw _ (List.mem_of_getElem? (i := 36) rfl)) (hw _ (List.mem_of_getElem? (i := 108) rfl)) (by decide +kernel) k34 (a := b1) (argsL := []) (rest := []) (rm215 l Z a0 hw hEL zc SC hzc fm SF rfm b1 t5 kt5 (0 : Int32) (0 : Int32) (0 : Int32) (0 : Int32) (0 : Int32) (0 : Int32) (47 : Int32) (119 : Int32) (101 : Int32) (98 : Int32) (47 : Int32) q1 q2 (47 : Int32) q3 q4 h30 W30.old k34 Fv30 Fc30 Fn30 A30 ⟨by decide, by decide⟩ ⟨by decide, by decide⟩ ⟨by decide, by decide⟩ ⟨by decide, by decide⟩ ⟨by decide, by decide⟩ cq1 cq2 ⟨by decide, by decide⟩ cq3 cq4) all0 (by decide +kernel) (Wd := 0) (by decide +kernel) (by decide +kernel) (by decide +kernel) all0 rfl (by rw [hml]; rfl) (lenOf pd16 rfl) rfl (by show 2 * 0 + _ ≤ _; exact Nat.le_of_eq rfl) (hb hby d300_39) (fun T33 h33 v33 P33 Ws33 K33 q33 => ?_)
  have W33 := Ws33 [] all0
  obtain ⟨r33, rfl, lr33, S33⟩ := q33
  have gr33 : n0 ≤ r33 ∧ s.heap.size ≤ r33 := ⟨Nat.le_trans W30.n0le lr33, Nat.le_trans W30.s0le lr33⟩
  have E33 := S33.exa
  show Go p e below _ (T33.setTop (mkF m 42 #[.val (.ref x1), .val (.int (0 : Int32)), .val (.ref x3)] [(.ref r33)]))
  exact W33.retA hx hEL hs hlk (by decide +kernel) (by decide +kernel) hret rfl rfl (hb hby d300_42) (fun S hS => ⟨r33, rfl, hs ▸ gr33.2, S33⟩)
theorem ef0 (m : MethodId) (x0 : Int32) (x1 : Int32) (x2 : Int32)  : entryFrame m #[(.int x0), (.int x1), (.int x2)] maxLocals = mkF m 0 #[.val (.int x0), .val (.int x1), .val (.int x2), .unset, .unset, .unset, .unset, .unset, .unset, .unset, .unset, .unset] [] := by first | (simp [entryFrame, mkF, argsToLocals, Value.category, maxLocals]; done) | rfl | rfl
set_option maxRecDepth 65536 in
set_option maxHeartbeats 40000000 in
theorem rm0 (l : Launch) (Z : State) (a0 : Array Value) (hw : ∀ d ∈ tables_1, d.before a0 Z = true) (hEL : EW Z a0 EL0) (zc : Int32) (SC : Sta Z Z.heap "java/lang/String" "COMPACT_STRINGS" "Z" (.int zc)) (hzc : ¬ zc = 0) (fm : Value) (SF : Sta Z Z.heap "jdk/internal/util/Preconditions" "SIOOBE_FORMATTER" "Ljava/util/function/BiFunction;" fm) (rfm : fm.isRef = true) (i0 : Int32) (i1 : Int32) (i2 : Int32) (h0 : Heap) {n0 : Nat} (O0 : Old Z n0 h0)  :
    Met l Z EL0 n0 x code maxLocals ret tables_1 room_1 #[(.int i0), (.int i1), (.int i2)] h0 [] [] (fun v h' S => v = some (.int 1)) := by
  refine Met.of (plainFor_of_name pn5) O0 ?_
  intro p e s m below meth c T0 hx hby hml hret hlk hnm hs W0
  have W0 : Wk p l e _ s m _ below meth c Z EL0 n0 [] "com/example/frontier/frontier/replay/ReplayPathOfPinLaw" [] T0 0 0 h0 := W0
  have hSA := fun d hd => hw d (sa_in d hd)
  have hws := fun d hd => hw d (ws_in d hd)
  have hln := fun d hd => hw d (ln_in d hd)
  have heq := fun d hd => hw d (eq_in d hd)
  refine Go.of (fun _ kk => castTop (ef0 m i0 i1 i2) kk) ?_
  show Go p e below _ (T0.setTop (mkF m 0 #[.val (.int i0), .val (.int i1), .val (.int i2), .unset, .unset, .unset, .unset, .unset, .unset, .unset, .unset, .unset] []))
  refine Go.of (t' := T0.setTop (mkF m 1 #[.val (.int i0), .val (.int i1), .val (.int i2), .unset, .unset, .unset, .unset, .unset, .unset, .unset, .unset, .unset] [(.int i2)])) (fun _ kk => XS.iloadN W0.here hx rfl (hb hby at_0) rfl kk) ?_
  refine Go.of (t' := T0.setTop (mkF m 2 #[.val (.int i0), .val (.int i1), .val (.int i2), .unset, .unset, .unset, .unset, .unset, .unset, .unset, .unset, .unset] [(.int (1 : Int32)), (.int i2)])) (fun _ kk => XS.iconst W0.here hx rfl (hb hby at_1) kk) ?_
  refine Go.of (t' := T0.setTop (mkF m 3 #[.val (.int i0), .val (.int i1), .val (.int i2), .unset, .unset, .unset, .unset, .unset, .unset, .unset, .unset, .unset] [(.int (i2 &&& (1 : Int32)))])) (fun _ kk => XS.iand W0.here hx rfl (hb hby at_2) rfl kk) ?_
  by_cases c1 : (i2 &&& (1 : Int32)) = (0 : Int32)
  · refine Go.of (t' := T0.setTop (mkF m 10 #[.val (.int i0), .val (.int i1), .val (.int i2), .unset, .unset, .unset, .unset, .unset, .unset, .unset, .unset, .unset] [])) (fun _ kk => XS.ifYes W0.here hx rfl (pc0 := 3) (pc' := 10) rfl (hb hby at_3) rfl (XT.i0_eq_t c1) (by decide +kernel) (by decide +kernel) kk) ?_
    refine Go.of (t' := T0.setTop (mkF m 11 #[.val (.int i0), .val (.int i1), .val (.int i2), .unset, .unset, .unset, .unset, .unset, .unset, .unset, .unset, .unset] [(.int (0 : Int32))])) (fun _ kk => XS.iconst W0.here hx rfl (hb hby at_10) kk) ?_
    refine Go.of (t' := T0.setTop (mkF m 12 #[.val (.int i0), .val (.int i1), .val (.int i2), .val (.int (0 : Int32)), .unset, .unset, .unset, .unset, .unset, .unset, .unset, .unset] [])) (fun _ kk => XS.istoreN W0.here hx rfl (hb hby at_11) rfl (l' := #[.val (.int i0), .val (.int i1), .val (.int i2), .val (.int (0 : Int32)), .unset, .unset, .unset, .unset, .unset, .unset, .unset, .unset]) rfl kk) ?_
    refine Go.of (t' := T0.setTop (mkF m 13 #[.val (.int i0), .val (.int i1), .val (.int i2), .val (.int (0 : Int32)), .unset, .unset, .unset, .unset, .unset, .unset, .unset, .unset] [(.int i0)])) (fun _ kk => XS.iloadN W0.here hx rfl (hb hby at_12) rfl kk) ?_
    refine Go.of (t' := T0.setTop (mkF m 16 #[.val (.int i0), .val (.int i1), .val (.int i2), .val (.int (0 : Int32)), .unset, .unset, .unset, .unset, .unset, .unset, .unset, .unset] [(.int (255 : Int32)), (.int i0)])) (fun _ kk => XS.sipush W0.here hx rfl (hb hby at_13) kk) ?_
    refine Go.of (t' := T0.setTop (mkF m 17 #[.val (.int i0), .val (.int i1), .val (.int i2), .val (.int (0 : Int32)), .unset, .unset, .unset, .unset, .unset, .unset, .unset, .unset] [(.int (i0 &&& (255 : Int32)))])) (fun _ kk => XS.iand W0.here hx rfl (hb hby at_16) rfl kk) ?_
    refine Go.of (t' := T0.setTop (mkF m 18 #[.val (.int i0), .val (.int i1), .val (.int i2), .val (.int (0 : Int32)), .unset, .unset, .unset, .unset, .unset, .unset, .unset, .unset] [(.int ((i0 &&& (255 : Int32)).toUInt32.toUInt16.toUInt32.toInt32))])) (fun _ kk => XS.i2c W0.here hx rfl (hb hby at_17) rfl kk) ?_
    obtain ⟨q2, hq2, cq2, zq2⟩ := char255 i0
    rw [hq2]
    show Go p e below _ (T0.setTop (mkF m 18 #[.val (.int i0), .val (.int i1), .val (.int i2), .val (.int (0 : Int32)), .unset, .unset, .unset, .unset, .unset, .unset, .unset, .unset] [(.int q2)]))
    refine Go.of (t' := T0.setTop (mkF m 20 #[.val (.int i0), .val (.int i1), .val (.int i2), .val (.int (0 : Int32)), .val (.int q2), .unset, .unset, .unset, .unset, .unset, .unset, .unset] [])) (fun _ kk => XS.istore W0.here hx rfl (hb hby at_18) rfl (l' := #[.val (.int i0), .val (.int i1), .val (.int i2), .val (.int (0 : Int32)), .val (.int q2), .unset, .unset, .unset, .unset, .unset, .unset, .unset]) rfl kk) ?_
    refine Go.of (t' := T0.setTop (mkF m 21 #[.val (.int i0), .val (.int i1), .val (.int i2), .val (.int (0 : Int32)), .val (.int q2), .unset, .unset, .unset, .unset, .unset, .unset, .unset] [(.int i0)])) (fun _ kk => XS.iloadN W0.here hx rfl (hb hby at_20) rfl kk) ?_
    refine Go.of (t' := T0.setTop (mkF m 23 #[.val (.int i0), .val (.int i1), .val (.int i2), .val (.int (0 : Int32)), .val (.int q2), .unset, .unset, .unset, .unset, .unset, .unset, .unset] [(.int (8 : Int32)), (.int i0)])) (fun _ kk => XS.bipush W0.here hx rfl (hb hby at_21) kk) ?_
    refine Go.of (t' := T0.setTop (mkF m 24 #[.val (.int i0), .val (.int i1), .val (.int i2), .val (.int (0 : Int32)), .val (.int q2), .unset, .unset, .unset, .unset, .unset, .unset, .unset] [(.int ((i0.toUInt32 >>> ((8 : Int32) &&& 31).toUInt32).toInt32))])) (fun _ kk => XS.iushr W0.here hx rfl (hb hby at_23) rfl kk) ?_
    refine Go.of (t' := T0.setTop (mkF m 27 #[.val (.int i0), .val (.int i1), .val (.int i2), .val (.int (0 : Int32)), .val (.int q2), .unset, .unset, .unset, .unset, .unset, .unset, .unset] [(.int (255 : Int32)), (.int ((i0.toUInt32 >>> ((8 : Int32) &&& 31).toUInt32).toInt32))])) (fun _ kk => XS.sipush W0.here hx rfl (hb hby at_24) kk) ?_
    refine Go.of (t' := T0.setTop (mkF m 28 #[.val (.int i0), .val (.int i1), .val (.int i2), .val (.int (0 : Int32)), .val (.int q2), .unset, .unset, .unset, .unset, .unset, .unset, .unset] [(.int (((i0.toUInt32 >>> ((8 : Int32) &&& 31).toUInt32).toInt32) &&& (255 : Int32)))])) (fun _ kk => XS.iand W0.here hx rfl (hb hby at_27) rfl kk) ?_
    refine Go.of (t' := T0.setTop (mkF m 29 #[.val (.int i0), .val (.int i1), .val (.int i2), .val (.int (0 : Int32)), .val (.int q2), .unset, .unset, .unset, .unset, .unset, .unset, .unset] [(.int ((((i0.toUInt32 >>> ((8 : Int32) &&& 31).toUInt32).toInt32) &&& (255 : Int32)).toUInt32.toUInt16.toUInt32.toInt32))])) (fun _ kk => XS.i2c W0.here hx rfl (hb hby at_28) rfl kk) ?_
    obtain ⟨q3, hq3, cq3, zq3⟩ := char255 ((i0.toUInt32 >>> ((8 : Int32) &&& 31).toUInt32).toInt32)
    rw [hq3]
    show Go p e below _ (T0.setTop (mkF m 29 #[.val (.int i0), .val (.int i1), .val (.int i2), .val (.int (0 : Int32)), .val (.int q2), .unset, .unset, .unset, .unset, .unset, .unset, .unset] [(.int q3)]))
    refine Go.of (t' := T0.setTop (mkF m 31 #[.val (.int i0), .val (.int i1), .val (.int i2), .val (.int (0 : Int32)), .val (.int q2), .val (.int q3), .unset, .unset, .unset, .unset, .unset, .unset] [])) (fun _ kk => XS.istore W0.here hx rfl (hb hby at_29) rfl (l' := #[.val (.int i0), .val (.int i1), .val (.int i2), .val (.int (0 : Int32)), .val (.int q2), .val (.int q3), .unset, .unset, .unset, .unset, .unset, .unset]) rfl kk) ?_
    refine Go.of (t' := T0.setTop (mkF m 32 #[.val (.int i0), .val (.int i1), .val (.int i2), .val (.int (0 : Int32)), .val (.int q2), .val (.int q3), .unset, .unset, .unset, .unset, .unset, .unset] [(.int i1)])) (fun _ kk => XS.iloadN W0.here hx rfl (hb hby at_31) rfl kk) ?_
    refine Go.of (t' := T0.setTop (mkF m 35 #[.val (.int i0), .val (.int i1), .val (.int i2), .val (.int (0 : Int32)), .val (.int q2), .val (.int q3), .unset, .unset, .unset, .unset, .unset, .unset] [(.int (255 : Int32)), (.int i1)])) (fun _ kk => XS.sipush W0.here hx rfl (hb hby at_32) kk) ?_
    refine Go.of (t' := T0.setTop (mkF m 36 #[.val (.int i0), .val (.int i1), .val (.int i2), .val (.int (0 : Int32)), .val (.int q2), .val (.int q3), .unset, .unset, .unset, .unset, .unset, .unset] [(.int (i1 &&& (255 : Int32)))])) (fun _ kk => XS.iand W0.here hx rfl (hb hby at_35) rfl kk) ?_
    refine Go.of (t' := T0.setTop (mkF m 37 #[.val (.int i0), .val (.int i1), .val (.int i2), .val (.int (0 : Int32)), .val (.int q2), .val (.int q3), .unset, .unset, .unset, .unset, .unset, .unset] [(.int ((i1 &&& (255 : Int32)).toUInt32.toUInt16.toUInt32.toInt32))])) (fun _ kk => XS.i2c W0.here hx rfl (hb hby at_36) rfl kk) ?_
    obtain ⟨q4, hq4, cq4, zq4⟩ := char255 i1
    rw [hq4]
    show Go p e below _ (T0.setTop (mkF m 37 #[.val (.int i0), .val (.int i1), .val (.int i2), .val (.int (0 : Int32)), .val (.int q2), .val (.int q3), .unset, .unset, .unset, .unset, .unset, .unset] [(.int q4)]))
    refine Go.of (t' := T0.setTop (mkF m 39 #[.val (.int i0), .val (.int i1), .val (.int i2), .val (.int (0 : Int32)), .val (.int q2), .val (.int q3), .val (.int q4), .unset, .unset, .unset, .unset, .unset] [])) (fun _ kk => XS.istore W0.here hx rfl (hb hby at_37) rfl (l' := #[.val (.int i0), .val (.int i1), .val (.int i2), .val (.int (0 : Int32)), .val (.int q2), .val (.int q3), .val (.int q4), .unset, .unset, .unset, .unset, .unset]) rfl kk) ?_
    refine Go.of (t' := T0.setTop (mkF m 40 #[.val (.int i0), .val (.int i1), .val (.int i2), .val (.int (0 : Int32)), .val (.int q2), .val (.int q3), .val (.int q4), .unset, .unset, .unset, .unset, .unset] [(.int i1)])) (fun _ kk => XS.iloadN W0.here hx rfl (hb hby at_39) rfl kk) ?_
    refine Go.of (t' := T0.setTop (mkF m 42 #[.val (.int i0), .val (.int i1), .val (.int i2), .val (.int (0 : Int32)), .val (.int q2), .val (.int q3), .val (.int q4), .unset, .unset, .unset, .unset, .unset] [(.int (8 : Int32)), (.int i1)])) (fun _ kk => XS.bipush W0.here hx rfl (hb hby at_40) kk) ?_
    refine Go.of (t' := T0.setTop (mkF m 43 #[.val (.int i0), .val (.int i1), .val (.int i2), .val (.int (0 : Int32)), .val (.int q2), .val (.int q3), .val (.int q4), .unset, .unset, .unset, .unset, .unset] [(.int ((i1.toUInt32 >>> ((8 : Int32) &&& 31).toUInt32).toInt32))])) (fun _ kk => XS.iushr W0.here hx rfl (hb hby at_42) rfl kk) ?_
    refine Go.of (t' := T0.setTop (mkF m 46 #[.val (.int i0), .val (.int i1), .val (.int i2), .val (.int (0 : Int32)), .val (.int q2), .val (.int q3), .val (.int q4), .unset, .unset, .unset, .unset, .unset] [(.int (255 : Int32)), (.int ((i1.toUInt32 >>> ((8 : Int32) &&& 31).toUInt32).toInt32))])) (fun _ kk => XS.sipush W0.here hx rfl (hb hby at_43) kk) ?_
    refine Go.of (t' := T0.setTop (mkF m 47 #[.val (.int i0), .val (.int i1), .val (.int i2), .val (.int (0 : Int32)), .val (.int q2), .val (.int q3), .val (.int q4), .unset, .unset, .unset, .unset, .unset] [(.int (((i1.toUInt32 >>> ((8 : Int32) &&& 31).toUInt32).toInt32) &&& (255 : Int32)))])) (fun _ kk => XS.iand W0.here hx rfl (hb hby at_46) rfl kk) ?_
    refine Go.of (t' := T0.setTop (mkF m 48 #[.val (.int i0), .val (.int i1), .val (.int i2), .val (.int (0 : Int32)), .val (.int q2), .val (.int q3), .val (.int q4), .unset, .unset, .unset, .unset, .unset] [(.int ((((i1.toUInt32 >>> ((8 : Int32) &&& 31).toUInt32).toInt32) &&& (255 : Int32)).toUInt32.toUInt16.toUInt32.toInt32))])) (fun _ kk => XS.i2c W0.here hx rfl (hb hby at_47) rfl kk) ?_
    obtain ⟨q5, hq5, cq5, zq5⟩ := char255 ((i1.toUInt32 >>> ((8 : Int32) &&& 31).toUInt32).toInt32)
    rw [hq5]
    show Go p e below _ (T0.setTop (mkF m 48 #[.val (.int i0), .val (.int i1), .val (.int i2), .val (.int (0 : Int32)), .val (.int q2), .val (.int q3), .val (.int q4), .unset, .unset, .unset, .unset, .unset] [(.int q5)]))
    refine Go.of (t' := T0.setTop (mkF m 50 #[.val (.int i0), .val (.int i1), .val (.int i2), .val (.int (0 : Int32)), .val (.int q2), .val (.int q3), .val (.int q4), .val (.int q5), .unset, .unset, .unset, .unset] [])) (fun _ kk => XS.istore W0.here hx rfl (hb hby at_48) rfl (l' := #[.val (.int i0), .val (.int i1), .val (.int i2), .val (.int (0 : Int32)), .val (.int q2), .val (.int q3), .val (.int q4), .val (.int q5), .unset, .unset, .unset, .unset]) rfl kk) ?_
    refine W0.newO hx (hw _ (List.mem_of_getElem? (i := 0) rfl)) (hw _ (List.mem_of_getElem? (i := 1) rfl)) (hw _ (List.mem_of_getElem? (i := 2) rfl)) rfl (hb hby at_50) (by decide +kernel) (by decide +kernel) (fun T6 h6 b6 eb6 gb6 W6 K6 E6 D6 => ?_)
    have k7 : Fld Z h6 b6 "java/lang/String" "coder" "B" (.int (0 : Int32)) := D6 (Or.inr (hw _ (List.mem_of_getElem? (i := 27) rfl))) (ty := .byte) (by decide +kernel)
    have k8 : Fld Z h6 b6 "java/lang/String" "value" "[B" .null := D6 (Or.inr (hw _ (List.mem_of_getElem? (i := 29) rfl))) (ty := (.array .byte)) (by decide +kernel)
    show Go p e below _ (T6.setTop (mkF m 53 #[.val (.int i0), .val (.int i1), .val (.int i2), .val (.int (0 : Int32)), .val (.int q2), .val (.int q3), .val (.int q4), .val (.int q5), .unset, .unset, .unset, .unset] [(.ref b6)]))
    refine Go.of (t' := T6.setTop (mkF m 54 #[.val (.int i0), .val (.int i1), .val (.int i2), .val (.int (0 : Int32)), .val (.int q2), .val (.int q3), .val (.int q4), .val (.int q5), .unset, .unset, .unset, .unset] [(.ref b6), (.ref b6)])) (fun _ kk => XS.dup W6.here hx rfl (hb hby at_53) rfl rfl kk) ?_
    refine Go.of (t' := T6.setTop (mkF m 55 #[.val (.int i0), .val (.int i1), .val (.int i2), .val (.int (0 : Int32)), .val (.int q2), .val (.int q3), .val (.int q4), .val (.int q5), .unset, .unset, .unset, .unset] [(.int (2 : Int32)), (.ref b6), (.ref b6)])) (fun _ kk => XS.iconst W6.here hx rfl (hb hby at_54) kk) ?_
    refine W6.newP hx (hw _ (List.mem_of_getElem? (i := 3) rfl)) rfl (hb hby at_55) rfl (by decide +kernel) (cap := 2) (by decide +kernel) (by decide +kernel) (by decide +kernel) (by decide +kernel) (fun T9 h9 b9 c9 eb9 gb9 W9 K9 A9 => ?_)
    have V9 : Arv Z h9 b9 c9 .char (2 : Int32) [(.int (0 : Int32)), (.int (0 : Int32))] (.int (0 : Int32)) := A9
    show Go p e below _ (T9.setTop (mkF m 57 #[.val (.int i0), .val (.int i1), .val (.int i2), .val (.int (0 : Int32)), .val (.int q2), .val (.int q3), .val (.int q4), .val (.int q5), .unset, .unset, .unset, .unset] [(.ref b9), (.ref b6), (.ref b6)]))
    refine Go.of (t' := T9.setTop (mkF m 58 #[.val (.int i0), .val (.int i1), .val (.int i2), .val (.int (0 : Int32)), .val (.int q2), .val (.int q3), .val (.int q4), .val (.int q5), .unset, .unset, .unset, .unset] [(.ref b9), (.ref b9), (.ref b6), (.ref b6)])) (fun _ kk => XS.dup W9.here hx rfl (hb hby at_57) rfl rfl kk) ?_
    refine Go.of (t' := T9.setTop (mkF m 59 #[.val (.int i0), .val (.int i1), .val (.int i2), .val (.int (0 : Int32)), .val (.int q2), .val (.int q3), .val (.int q4), .val (.int q5), .unset, .unset, .unset, .unset] [(.int (0 : Int32)), (.ref b9), (.ref b9), (.ref b6), (.ref b6)])) (fun _ kk => XS.iconst W9.here hx rfl (hb hby at_58) kk) ?_
    refine Go.of (t' := T9.setTop (mkF m 61 #[.val (.int i0), .val (.int i1), .val (.int i2), .val (.int (0 : Int32)), .val (.int q2), .val (.int q3), .val (.int q4), .val (.int q5), .unset, .unset, .unset, .unset] [(.int q2), (.int (0 : Int32)), (.ref b9), (.ref b9), (.ref b6), (.ref b6)])) (fun _ kk => XS.iload W9.here hx rfl (hb hby at_59) rfl kk) ?_
    refine W9.stC hx V9 ⟨by decide, by decide⟩ 0 rfl (Nat.le_of_ble_eq_true rfl) gb9.1 (Or.inr gb9.2) rfl rfl (hb hby at_61) (fun T10 h10 W10 K10 A10 => ?_)
    have V10 : Arv Z h10 b9 c9 .char (2 : Int32) [(.int q2), (.int (0 : Int32))] (.int (0 : Int32)) := (by rw [(nar_char cq2)] at A10; exact A10)
    show Go p e below _ (T10.setTop (mkF m 62 #[.val (.int i0), .val (.int i1), .val (.int i2), .val (.int (0 : Int32)), .val (.int q2), .val (.int q3), .val (.int q4), .val (.int q5), .unset, .unset, .unset, .unset] [(.ref b9), (.ref b6), (.ref b6)]))
    refine Go.of (t' := T10.setTop (mkF m 63 #[.val (.int i0), .val (.int i1), .val (.int i2), .val (.int (0 : Int32)), .val (.int q2), .val (.int q3), .val (.int q4), .val (.int q5), .unset, .unset, .unset, .unset] [(.ref b9), (.ref b9), (.ref b6), (.ref b6)])) (fun _ kk => XS.dup W10.here hx rfl (hb hby at_62) rfl rfl kk) ?_
    refine Go.of (t' := T10.setTop (mkF m 64 #[.val (.int i0), .val (.int i1), .val (.int i2), .val (.int (0 : Int32)), .val (.int q2), .val (.int q3), .val (.int q4), .val (.int q5), .unset, .unset, .unset, .unset] [(.int (1 : Int32)), (.ref b9), (.ref b9), (.ref b6), (.ref b6)])) (fun _ kk => XS.iconst W10.here hx rfl (hb hby at_63) kk) ?_
    refine Go.of (t' := T10.setTop (mkF m 66 #[.val (.int i0), .val (.int i1), .val (.int i2), .val (.int (0 : Int32)), .val (.int q2), .val (.int q3), .val (.int q4), .val (.int q5), .unset, .unset, .unset, .unset] [(.int q3), (.int (1 : Int32)), (.ref b9), (.ref b9), (.ref b6), (.ref b6)])) (fun _ kk => XS.iload W10.here hx rfl (hb hby at_64) rfl kk) ?_
    refine W10.stC hx V10 ⟨by decide, by decide⟩ 1 rfl (Nat.le_of_ble_eq_true rfl) gb9.1 (Or.inr gb9.2) rfl rfl (hb hby at_66) (fun T11 h11 W11 K11 A11 => ?_)
    have V11 : Arv Z h11 b9 c9 .char (2 : Int32) [(.int q2), (.int q3)] (.int (0 : Int32)) := (by rw [(nar_char cq3)] at A11; exact A11)
    show Go p e below _ (T11.setTop (mkF m 67 #[.val (.int i0), .val (.int i1), .val (.int i2), .val (.int (0 : Int32)), .val (.int q2), .val (.int q3), .val (.int q4), .val (.int q5), .unset, .unset, .unset, .unset] [(.ref b9), (.ref b6), (.ref b6)]))
    have k13 := (((E6.keep K9).keep K10).keep K11)
    have k14 := (((k8.keep K9 nin0).keep K10 (ninS (ne_of_born (Nat.le_of_eq eb9.symm) E6.lt (Nat.le_refl _)) nin0)).keep K11 (ninS (ne_of_born (Nat.le_of_eq eb9.symm) E6.lt (Nat.le_refl _)) nin0))
    have k15 := (((k7.keep K9 nin0).keep K10 (ninS (ne_of_born (Nat.le_of_eq eb9.symm) E6.lt (Nat.le_refl _)) nin0)).keep K11 (ninS (ne_of_born (Nat.le_of_eq eb9.symm) E6.lt (Nat.le_refl _)) nin0))
    refine W11.newStr hx hws (hw _ (List.mem_of_getElem? (i := 1) rfl)) SC hzc (hw _ (List.mem_of_getElem? (i := 4) rfl)) (hw _ (List.mem_of_getElem? (i := 5) rfl)) (hw _ (List.mem_of_getElem? (i := 6) rfl)) k13 k14 k15 (cs := [q2, q3]) (n := 2) V11 rfl rfl (by decide +kernel) (by decide +kernel) (allSi cq2 (allSi cq3 all0i)) gb6.1 (Or.inr gb6.2) (List.mem_of_getElem? (i := 1) rfl) (by decide +kernel) (Wd := 1) (by decide +kernel) (by decide +kernel) (by decide +kernel) rfl (by rw [hml]; rfl) rfl (by show 2 * 0 + _ ≤ _; exact Nat.le_of_eq rfl) (hb hby at_67) (fun T12 h12 W12 K12 S12 => ?_)
    show Go p e below _ (T12.setTop (mkF m 70 #[.val (.int i0), .val (.int i1), .val (.int i2), .val (.int (0 : Int32)), .val (.int q2), .val (.int q3), .val (.int q4), .val (.int q5), .unset, .unset, .unset, .unset] [(.ref b6)]))
    refine Go.of (t' := T12.setTop (mkF m 72 #[.val (.int i0), .val (.int i1), .val (.int i2), .val (.int (0 : Int32)), .val (.int q2), .val (.int q3), .val (.int q4), .val (.int q5), .val (.ref b6), .unset, .unset, .unset] [])) (fun _ kk => XS.astore W12.here hx rfl (hb hby at_70) rfl rfl (l' := #[.val (.int i0), .val (.int i1), .val (.int i2), .val (.int (0 : Int32)), .val (.int q2), .val (.int q3), .val (.int q4), .val (.int q5), .val (.ref b6), .unset, .unset, .unset]) rfl kk) ?_
    refine W12.newO hx (hw _ (List.mem_of_getElem? (i := 0) rfl)) (hw _ (List.mem_of_getElem? (i := 1) rfl)) (hw _ (List.mem_of_getElem? (i := 2) rfl)) rfl (hb hby at_72) (by decide +kernel) (by decide +kernel) (fun T16 h16 b16 eb16 gb16 W16 K16 E16 D16 => ?_)
    have k17 : Fld Z h16 b16 "java/lang/String" "coder" "B" (.int (0 : Int32)) := D16 (Or.inr (hw _ (List.mem_of_getElem? (i := 27) rfl))) (ty := .byte) (by decide +kernel)
    have k18 : Fld Z h16 b16 "java/lang/String" "value" "[B" .null := D16 (Or.inr (hw _ (List.mem_of_getElem? (i := 29) rfl))) (ty := (.array .byte)) (by decide +kernel)
    show Go p e below _ (T16.setTop (mkF m 75 #[.val (.int i0), .val (.int i1), .val (.int i2), .val (.int (0 : Int32)), .val (.int q2), .val (.int q3), .val (.int q4), .val (.int q5), .val (.ref b6), .unset, .unset, .unset] [(.ref b16)]))
    refine Go.of (t' := T16.setTop (mkF m 76 #[.val (.int i0), .val (.int i1), .val (.int i2), .val (.int (0 : Int32)), .val (.int q2), .val (.int q3), .val (.int q4), .val (.int q5), .val (.ref b6), .unset, .unset, .unset] [(.ref b16), (.ref b16)])) (fun _ kk => XS.dup W16.here hx rfl (hb hby at_75) rfl rfl kk) ?_
    refine Go.of (t' := T16.setTop (mkF m 77 #[.val (.int i0), .val (.int i1), .val (.int i2), .val (.int (0 : Int32)), .val (.int q2), .val (.int q3), .val (.int q4), .val (.int q5), .val (.ref b6), .unset, .unset, .unset] [(.int (2 : Int32)), (.ref b16), (.ref b16)])) (fun _ kk => XS.iconst W16.here hx rfl (hb hby at_76) kk) ?_
    refine W16.newP hx (hw _ (List.mem_of_getElem? (i := 3) rfl)) rfl (hb hby at_77) rfl (by decide +kernel) (cap := 2) (by decide +kernel) (by decide +kernel) (by decide +kernel) (by decide +kernel) (fun T19 h19 b19 c19 eb19 gb19 W19 K19 A19 => ?_)
    have V19 : Arv Z h19 b19 c19 .char (2 : Int32) [(.int (0 : Int32)), (.int (0 : Int32))] (.int (0 : Int32)) := A19
    show Go p e below _ (T19.setTop (mkF m 79 #[.val (.int i0), .val (.int i1), .val (.int i2), .val (.int (0 : Int32)), .val (.int q2), .val (.int q3), .val (.int q4), .val (.int q5), .val (.ref b6), .unset, .unset, .unset] [(.ref b19), (.ref b16), (.ref b16)]))
    refine Go.of (t' := T19.setTop (mkF m 80 #[.val (.int i0), .val (.int i1), .val (.int i2), .val (.int (0 : Int32)), .val (.int q2), .val (.int q3), .val (.int q4), .val (.int q5), .val (.ref b6), .unset, .unset, .unset] [(.ref b19), (.ref b19), (.ref b16), (.ref b16)])) (fun _ kk => XS.dup W19.here hx rfl (hb hby at_79) rfl rfl kk) ?_
    refine Go.of (t' := T19.setTop (mkF m 81 #[.val (.int i0), .val (.int i1), .val (.int i2), .val (.int (0 : Int32)), .val (.int q2), .val (.int q3), .val (.int q4), .val (.int q5), .val (.ref b6), .unset, .unset, .unset] [(.int (0 : Int32)), (.ref b19), (.ref b19), (.ref b16), (.ref b16)])) (fun _ kk => XS.iconst W19.here hx rfl (hb hby at_80) kk) ?_
    refine Go.of (t' := T19.setTop (mkF m 83 #[.val (.int i0), .val (.int i1), .val (.int i2), .val (.int (0 : Int32)), .val (.int q2), .val (.int q3), .val (.int q4), .val (.int q5), .val (.ref b6), .unset, .unset, .unset] [(.int q4), (.int (0 : Int32)), (.ref b19), (.ref b19), (.ref b16), (.ref b16)])) (fun _ kk => XS.iload W19.here hx rfl (hb hby at_81) rfl kk) ?_
    refine W19.stC hx V19 ⟨by decide, by decide⟩ 0 rfl (Nat.le_of_ble_eq_true rfl) gb19.1 (Or.inr gb19.2) rfl rfl (hb hby at_83) (fun T20 h20 W20 K20 A20 => ?_)
    have V20 : Arv Z h20 b19 c19 .char (2 : Int32) [(.int q4), (.int (0 : Int32))] (.int (0 : Int32)) := (by rw [(nar_char cq4)] at A20; exact A20)
    show Go p e below _ (T20.setTop (mkF m 84 #[.val (.int i0), .val (.int i1), .val (.int i2), .val (.int (0 : Int32)), .val (.int q2), .val (.int q3), .val (.int q4), .val (.int q5), .val (.ref b6), .unset, .unset, .unset] [(.ref b19), (.ref b16), (.ref b16)]))
    refine Go.of (t' := T20.setTop (mkF m 85 #[.val (.int i0), .val (.int i1), .val (.int i2), .val (.int (0 : Int32)), .val (.int q2), .val (.int q3), .val (.int q4), .val (.int q5), .val (.ref b6), .unset, .unset, .unset] [(.ref b19), (.ref b19), (.ref b16), (.ref b16)])) (fun _ kk => XS.dup W20.here hx rfl (hb hby at_84) rfl rfl kk) ?_
    refine Go.of (t' := T20.setTop (mkF m 86 #[.val (.int i0), .val (.int i1), .val (.int i2), .val (.int (0 : Int32)), .val (.int q2), .val (.int q3), .val (.int q4), .val (.int q5), .val (.ref b6), .unset, .unset, .unset] [(.int (1 : Int32)), (.ref b19), (.ref b19), (.ref b16), (.ref b16)])) (fun _ kk => XS.iconst W20.here hx rfl (hb hby at_85) kk) ?_
    refine Go.of (t' := T20.setTop (mkF m 88 #[.val (.int i0), .val (.int i1), .val (.int i2), .val (.int (0 : Int32)), .val (.int q2), .val (.int q3), .val (.int q4), .val (.int q5), .val (.ref b6), .unset, .unset, .unset] [(.int q5), (.int (1 : Int32)), (.ref b19), (.ref b19), (.ref b16), (.ref b16)])) (fun _ kk => XS.iload W20.here hx rfl (hb hby at_86) rfl kk) ?_
    refine W20.stC hx V20 ⟨by decide, by decide⟩ 1 rfl (Nat.le_of_ble_eq_true rfl) gb19.1 (Or.inr gb19.2) rfl rfl (hb hby at_88) (fun T21 h21 W21 K21 A21 => ?_)
    have V21 : Arv Z h21 b19 c19 .char (2 : Int32) [(.int q4), (.int q5)] (.int (0 : Int32)) := (by rw [(nar_char cq5)] at A21; exact A21)
    show Go p e below _ (T21.setTop (mkF m 89 #[.val (.int i0), .val (.int i1), .val (.int i2), .val (.int (0 : Int32)), .val (.int q2), .val (.int q3), .val (.int q4), .val (.int q5), .val (.ref b6), .unset, .unset, .unset] [(.ref b19), (.ref b16), (.ref b16)]))
    have k23 := (((E16.keep K19).keep K20).keep K21)
    have k24 := (((k18.keep K19 nin0).keep K20 (ninS (ne_of_born (Nat.le_of_eq eb19.symm) E16.lt (Nat.le_refl _)) nin0)).keep K21 (ninS (ne_of_born (Nat.le_of_eq eb19.symm) E16.lt (Nat.le_refl _)) nin0))
    have k25 := (((k17.keep K19 nin0).keep K20 (ninS (ne_of_born (Nat.le_of_eq eb19.symm) E16.lt (Nat.le_refl _)) nin0)).keep K21 (ninS (ne_of_born (Nat.le_of_eq eb19.symm) E16.lt (Nat.le_refl _)) nin0))
    refine W21.newStr hx hws (hw _ (List.mem_of_getElem? (i := 1) rfl)) SC hzc (hw _ (List.mem_of_getElem? (i := 4) rfl)) (hw _ (List.mem_of_getElem? (i := 5) rfl)) (hw _ (List.mem_of_getElem? (i := 6) rfl)) k23 k24 k25 (cs := [q4, q5]) (n := 2) V21 rfl rfl (by decide +kernel) (by decide +kernel) (allSi cq4 (allSi cq5 all0i)) gb16.1 (Or.inr gb16.2) (List.mem_of_getElem? (i := 1) rfl) (by decide +kernel) (Wd := 1) (by decide +kernel) (by decide +kernel) (by decide +kernel) rfl (by rw [hml]; rfl) rfl (by show 2 * 0 + _ ≤ _; exact Nat.le_of_eq rfl) (hb hby at_89) (fun T22 h22 W22 K22 S22 => ?_)
    show Go p e below _ (T22.setTop (mkF m 92 #[.val (.int i0), .val (.int i1), .val (.int i2), .val (.int (0 : Int32)), .val (.int q2), .val (.int q3), .val (.int q4), .val (.int q5), .val (.ref b6), .unset, .unset, .unset] [(.ref b16)]))
    refine Go.of (t' := T22.setTop (mkF m 94 #[.val (.int i0), .val (.int i1), .val (.int i2), .val (.int (0 : Int32)), .val (.int q2), .val (.int q3), .val (.int q4), .val (.int q5), .val (.ref b6), .val (.ref b16), .unset, .unset] [])) (fun _ kk => XS.astore W22.here hx rfl (hb hby at_92) rfl rfl (l' := #[.val (.int i0), .val (.int i1), .val (.int i2), .val (.int (0 : Int32)), .val (.int q2), .val (.int q3), .val (.int q4), .val (.int q5), .val (.ref b6), .val (.ref b16), .unset, .unset]) rfl kk) ?_
    refine Go.of (t' := T22.setTop (mkF m 96 #[.val (.int i0), .val (.int i1), .val (.int i2), .val (.int (0 : Int32)), .val (.int q2), .val (.int q3), .val (.int q4), .val (.int q5), .val (.ref b6), .val (.ref b16), .unset, .unset] [(.ref b6)])) (fun _ kk => XS.aload W22.here hx rfl (hb hby at_94) rfl rfl kk) ?_
    refine Go.of (t' := T22.setTop (mkF m 97 #[.val (.int i0), .val (.int i1), .val (.int i2), .val (.int (0 : Int32)), .val (.int q2), .val (.int q3), .val (.int q4), .val (.int q5), .val (.ref b6), .val (.ref b16), .unset, .unset] [(.int (0 : Int32)), (.ref b6)])) (fun _ kk => XS.iloadN W22.here hx rfl (hb hby at_96) rfl kk) ?_
    refine Go.of (t' := T22.setTop (mkF m 99 #[.val (.int i0), .val (.int i1), .val (.int i2), .val (.int (0 : Int32)), .val (.int q2), .val (.int q3), .val (.int q4), .val (.int q5), .val (.ref b6), .val (.ref b16), .unset, .unset] [(.ref b16), (.int (0 : Int32)), (.ref b6)])) (fun _ kk => XS.aload W22.here hx rfl (hb hby at_97) rfl rfl kk) ?_
    obtain ⟨t27, kb27, cd27, N27, vs27, E27, V27, C27, A27, R27⟩ := id S12
    have S27 : Str Z h22 b6 [q2, q3] := ⟨t27, kb27, cd27, N27, vs27, (((((E27.keep K16).keep K19).keep K20).keep K21).keep K22), (((((V27.keep K16 nin0).keep K19 nin0).keep K20 (ninS (ne_of_born (Nat.le_of_eq eb19.symm) E6.lt (Nat.le_trans (Nat.le_trans (Nat.le_trans (Nat.le_trans K9.1 K10.1) K11.1) K12.1) K16.1)) nin0)).keep K21 (ninS (ne_of_born (Nat.le_of_eq eb19.symm) E6.lt (Nat.le_trans (Nat.le_trans (Nat.le_trans (Nat.le_trans K9.1 K10.1) K11.1) K12.1) K16.1)) nin0)).keep K22 (ninS (ne_of_born (Nat.le_of_eq eb16.symm) E6.lt (Nat.le_trans (Nat.le_trans (Nat.le_trans K9.1 K10.1) K11.1) K12.1)) nin0)), (((((C27.keep K16 nin0).keep K19 nin0).keep K20 (ninS (ne_of_born (Nat.le_of_eq eb19.symm) E6.lt (Nat.le_trans (Nat.le_trans (Nat.le_trans (Nat.le_trans K9.1 K10.1) K11.1) K12.1) K16.1)) nin0)).keep K21 (ninS (ne_of_born (Nat.le_of_eq eb19.symm) E6.lt (Nat.le_trans (Nat.le_trans (Nat.le_trans (Nat.le_trans K9.1 K10.1) K11.1) K12.1) K16.1)) nin0)).keep K22 (ninS (ne_of_born (Nat.le_of_eq eb16.symm) E6.lt (Nat.le_trans (Nat.le_trans (Nat.le_trans K9.1 K10.1) K11.1) K12.1)) nin0)), (((((A27.keep K16 nin0).keep K19 nin0).keep K20 (ninS (ne_of_born (Nat.le_of_eq eb19.symm) A27.lt K16.1) nin0)).keep K21 (ninS (ne_of_born (Nat.le_of_eq eb19.symm) A27.lt K16.1) nin0)).keep K22 (ninS (ne_of_born (Nat.le_of_eq eb16.symm) A27.lt (Nat.le_refl _)) nin0)), R27⟩
    refine W22.callS hx hEL (hw _ (List.mem_of_getElem? (i := 30) rfl)) (hw _ (List.mem_of_getElem? (i := 31) rfl)) (hw _ (List.mem_of_getElem? (i := 32) rfl)) (hw _ (List.mem_of_getElem? (i := 33) rfl)) (by decide +kernel) (argsL := [(.ref b6), (.int (0 : Int32)), (.ref b16)]) (rest := []) (rm300 l Z a0 hw hEL zc SC hzc fm SF rfm b6 b16 q2 q3 q4 q5 h22 W22.old S27 S22 cq2 cq3 cq4 cq5) all0 (by decide +kernel) (Wd := 0) (by decide +kernel) (by decide +kernel) (by decide +kernel) all0 rfl (by rw [hml]; rfl) (lenOf pd17 rfl) rfl (by show 2 * 0 + _ ≤ _; exact Nat.le_of_eq rfl) (hb hby at_99) (fun T26 h26 v26 P26 Ws26 K26 q26 => ?_)
    have W26 := Ws26 [] all0
    obtain ⟨r26, rfl, lr26, S26⟩ := q26
    have gr26 : n0 ≤ r26 ∧ s.heap.size ≤ r26 := ⟨Nat.le_trans W22.n0le lr26, Nat.le_trans W22.s0le lr26⟩
    have E26 := S26.exa
    show Go p e below _ (T26.setTop (mkF m 102 #[.val (.int i0), .val (.int i1), .val (.int i2), .val (.int (0 : Int32)), .val (.int q2), .val (.int q3), .val (.int q4), .val (.int q5), .val (.ref b6), .val (.ref b16), .unset, .unset] [(.ref r26)]))
    refine Go.of (t' := T26.setTop (mkF m 104 #[.val (.int i0), .val (.int i1), .val (.int i2), .val (.int (0 : Int32)), .val (.int q2), .val (.int q3), .val (.int q4), .val (.int q5), .val (.ref b6), .val (.ref b16), .val (.ref r26), .unset] [])) (fun _ kk => XS.astore W26.here hx rfl (hb hby at_102) rfl rfl (l' := #[.val (.int i0), .val (.int i1), .val (.int i2), .val (.int (0 : Int32)), .val (.int q2), .val (.int q3), .val (.int q4), .val (.int q5), .val (.ref b6), .val (.ref b16), .val (.ref r26), .unset]) rfl kk) ?_
    refine Go.of (t' := T26.setTop (mkF m 105 #[.val (.int i0), .val (.int i1), .val (.int i2), .val (.int (0 : Int32)), .val (.int q2), .val (.int q3), .val (.int q4), .val (.int q5), .val (.ref b6), .val (.ref b16), .val (.ref r26), .unset] [(.int (0 : Int32))])) (fun _ kk => XS.iloadN W26.here hx rfl (hb hby at_104) rfl kk) ?_
    refine Go.of (t' := T26.setTop (mkF m 189 #[.val (.int i0), .val (.int i1), .val (.int i2), .val (.int (0 : Int32)), .val (.int q2), .val (.int q3), .val (.int q4), .val (.int q5), .val (.ref b6), .val (.ref b16), .val (.ref r26), .unset] [])) (fun _ kk => XS.ifYes W26.here hx rfl (pc0 := 105) (pc' := 189) rfl (hb hby at_105) rfl (XT.i0_eq_t (by decide +kernel)) (by decide +kernel) (by decide +kernel) kk) ?_
    refine Go.of (t' := T26.setTop (mkF m 191 #[.val (.int i0), .val (.int i1), .val (.int i2), .val (.int (0 : Int32)), .val (.int q2), .val (.int q3), .val (.int q4), .val (.int q5), .val (.ref b6), .val (.ref b16), .val (.ref r26), .unset] [(.int (10 : Int32))])) (fun _ kk => XS.bipush W26.here hx rfl (hb hby at_189) kk) ?_
    refine W26.newP hx (hw _ (List.mem_of_getElem? (i := 3) rfl)) rfl (hb hby at_191) rfl (by decide +kernel) (cap := 10) (by decide +kernel) (by decide +kernel) (by decide +kernel) (by decide +kernel) (fun T28 h28 b28 c28 eb28 gb28 W28 K28 A28 => ?_)
    have V28 : Arv Z h28 b28 c28 .char (10 : Int32) [(.int (0 : Int32)), (.int (0 : Int32)), (.int (0 : Int32)), (.int (0 : Int32)), (.int (0 : Int32)), (.int (0 : Int32)), (.int (0 : Int32)), (.int (0 : Int32)), (.int (0 : Int32)), (.int (0 : Int32))] (.int (0 : Int32)) := A28
    show Go p e below _ (T28.setTop (mkF m 193 #[.val (.int i0), .val (.int i1), .val (.int i2), .val (.int (0 : Int32)), .val (.int q2), .val (.int q3), .val (.int q4), .val (.int q5), .val (.ref b6), .val (.ref b16), .val (.ref r26), .unset] [(.ref b28)]))
    refine Go.of (t' := T28.setTop (mkF m 194 #[.val (.int i0), .val (.int i1), .val (.int i2), .val (.int (0 : Int32)), .val (.int q2), .val (.int q3), .val (.int q4), .val (.int q5), .val (.ref b6), .val (.ref b16), .val (.ref r26), .unset] [(.ref b28), (.ref b28)])) (fun _ kk => XS.dup W28.here hx rfl (hb hby at_193) rfl rfl kk) ?_
    refine Go.of (t' := T28.setTop (mkF m 195 #[.val (.int i0), .val (.int i1), .val (.int i2), .val (.int (0 : Int32)), .val (.int q2), .val (.int q3), .val (.int q4), .val (.int q5), .val (.ref b6), .val (.ref b16), .val (.ref r26), .unset] [(.int (0 : Int32)), (.ref b28), (.ref b28)])) (fun _ kk => XS.iconst W28.here hx rfl (hb hby at_194) kk) ?_
    refine Go.of (t' := T28.setTop (mkF m 197 #[.val (.int i0), .val (.int i1), .val (.int i2), .val (.int (0 : Int32)), .val (.int q2), .val (.int q3), .val (.int q4), .val (.int q5), .val (.ref b6), .val (.ref b16), .val (.ref r26), .unset] [(.int (47 : Int32)), (.int (0 : Int32)), (.ref b28), (.ref b28)])) (fun _ kk => XS.bipush W28.here hx rfl (hb hby at_195) kk) ?_
    refine W28.stC hx V28 ⟨by decide, by decide⟩ 0 rfl (Nat.le_of_ble_eq_true rfl) gb28.1 (Or.inr gb28.2) rfl rfl (hb hby at_197) (fun T29 h29 W29 K29 A29 => ?_)
    have V29 : Arv Z h29 b28 c28 .char (10 : Int32) [(.int (47 : Int32)), (.int (0 : Int32)), (.int (0 : Int32)), (.int (0 : Int32)), (.int (0 : Int32)), (.int (0 : Int32)), (.int (0 : Int32)), (.int (0 : Int32)), (.int (0 : Int32)), (.int (0 : Int32))] (.int (0 : Int32)) := A29
    show Go p e below _ (T29.setTop (mkF m 198 #[.val (.int i0), .val (.int i1), .val (.int i2), .val (.int (0 : Int32)), .val (.int q2), .val (.int q3), .val (.int q4), .val (.int q5), .val (.ref b6), .val (.ref b16), .val (.ref r26), .unset] [(.ref b28)]))
    refine Go.of (t' := T29.setTop (mkF m 199 #[.val (.int i0), .val (.int i1), .val (.int i2), .val (.int (0 : Int32)), .val (.int q2), .val (.int q3), .val (.int q4), .val (.int q5), .val (.ref b6), .val (.ref b16), .val (.ref r26), .unset] [(.ref b28), (.ref b28)])) (fun _ kk => XS.dup W29.here hx rfl (hb hby at_198) rfl rfl kk) ?_
    refine Go.of (t' := T29.setTop (mkF m 200 #[.val (.int i0), .val (.int i1), .val (.int i2), .val (.int (0 : Int32)), .val (.int q2), .val (.int q3), .val (.int q4), .val (.int q5), .val (.ref b6), .val (.ref b16), .val (.ref r26), .unset] [(.int (1 : Int32)), (.ref b28), (.ref b28)])) (fun _ kk => XS.iconst W29.here hx rfl (hb hby at_199) kk) ?_
    refine Go.of (t' := T29.setTop (mkF m 202 #[.val (.int i0), .val (.int i1), .val (.int i2), .val (.int (0 : Int32)), .val (.int q2), .val (.int q3), .val (.int q4), .val (.int q5), .val (.ref b6), .val (.ref b16), .val (.ref r26), .unset] [(.int (119 : Int32)), (.int (1 : Int32)), (.ref b28), (.ref b28)])) (fun _ kk => XS.bipush W29.here hx rfl (hb hby at_200) kk) ?_
    refine W29.stC hx V29 ⟨by decide, by decide⟩ 1 rfl (Nat.le_of_ble_eq_true rfl) gb28.1 (Or.inr gb28.2) rfl rfl (hb hby at_202) (fun T30 h30 W30 K30 A30 => ?_)
    have V30 : Arv Z h30 b28 c28 .char (10 : Int32) [(.int (47 : Int32)), (.int (119 : Int32)), (.int (0 : Int32)), (.int (0 : Int32)), (.int (0 : Int32)), (.int (0 : Int32)), (.int (0 : Int32)), (.int (0 : Int32)), (.int (0 : Int32)), (.int (0 : Int32))] (.int (0 : Int32)) := A30
    show Go p e below _ (T30.setTop (mkF m 203 #[.val (.int i0), .val (.int i1), .val (.int i2), .val (.int (0 : Int32)), .val (.int q2), .val (.int q3), .val (.int q4), .val (.int q5), .val (.ref b6), .val (.ref b16), .val (.ref r26), .unset] [(.ref b28)]))
    refine Go.of (t' := T30.setTop (mkF m 204 #[.val (.int i0), .val (.int i1), .val (.int i2), .val (.int (0 : Int32)), .val (.int q2), .val (.int q3), .val (.int q4), .val (.int q5), .val (.ref b6), .val (.ref b16), .val (.ref r26), .unset] [(.ref b28), (.ref b28)])) (fun _ kk => XS.dup W30.here hx rfl (hb hby at_203) rfl rfl kk) ?_
    refine Go.of (t' := T30.setTop (mkF m 205 #[.val (.int i0), .val (.int i1), .val (.int i2), .val (.int (0 : Int32)), .val (.int q2), .val (.int q3), .val (.int q4), .val (.int q5), .val (.ref b6), .val (.ref b16), .val (.ref r26), .unset] [(.int (2 : Int32)), (.ref b28), (.ref b28)])) (fun _ kk => XS.iconst W30.here hx rfl (hb hby at_204) kk) ?_
    refine Go.of (t' := T30.setTop (mkF m 207 #[.val (.int i0), .val (.int i1), .val (.int i2), .val (.int (0 : Int32)), .val (.int q2), .val (.int q3), .val (.int q4), .val (.int q5), .val (.ref b6), .val (.ref b16), .val (.ref r26), .unset] [(.int (101 : Int32)), (.int (2 : Int32)), (.ref b28), (.ref b28)])) (fun _ kk => XS.bipush W30.here hx rfl (hb hby at_205) kk) ?_
    refine W30.stC hx V30 ⟨by decide, by decide⟩ 2 rfl (Nat.le_of_ble_eq_true rfl) gb28.1 (Or.inr gb28.2) rfl rfl (hb hby at_207) (fun T31 h31 W31 K31 A31 => ?_)
    have V31 : Arv Z h31 b28 c28 .char (10 : Int32) [(.int (47 : Int32)), (.int (119 : Int32)), (.int (101 : Int32)), (.int (0 : Int32)), (.int (0 : Int32)), (.int (0 : Int32)), (.int (0 : Int32)), (.int (0 : Int32)), (.int (0 : Int32)), (.int (0 : Int32))] (.int (0 : Int32)) := A31
    show Go p e below _ (T31.setTop (mkF m 208 #[.val (.int i0), .val (.int i1), .val (.int i2), .val (.int (0 : Int32)), .val (.int q2), .val (.int q3), .val (.int q4), .val (.int q5), .val (.ref b6), .val (.ref b16), .val (.ref r26), .unset] [(.ref b28)]))
    refine Go.of (t' := T31.setTop (mkF m 209 #[.val (.int i0), .val (.int i1), .val (.int i2), .val (.int (0 : Int32)), .val (.int q2), .val (.int q3), .val (.int q4), .val (.int q5), .val (.ref b6), .val (.ref b16), .val (.ref r26), .unset] [(.ref b28), (.ref b28)])) (fun _ kk => XS.dup W31.here hx rfl (hb hby at_208) rfl rfl kk) ?_
    refine Go.of (t' := T31.setTop (mkF m 210 #[.val (.int i0), .val (.int i1), .val (.int i2), .val (.int (0 : Int32)), .val (.int q2), .val (.int q3), .val (.int q4), .val (.int q5), .val (.ref b6), .val (.ref b16), .val (.ref r26), .unset] [(.int (3 : Int32)), (.ref b28), (.ref b28)])) (fun _ kk => XS.iconst W31.here hx rfl (hb hby at_209) kk) ?_
    refine Go.of (t' := T31.setTop (mkF m 212 #[.val (.int i0), .val (.int i1), .val (.int i2), .val (.int (0 : Int32)), .val (.int q2), .val (.int q3), .val (.int q4), .val (.int q5), .val (.ref b6), .val (.ref b16), .val (.ref r26), .unset] [(.int (98 : Int32)), (.int (3 : Int32)), (.ref b28), (.ref b28)])) (fun _ kk => XS.bipush W31.here hx rfl (hb hby at_210) kk) ?_
    refine W31.stC hx V31 ⟨by decide, by decide⟩ 3 rfl (Nat.le_of_ble_eq_true rfl) gb28.1 (Or.inr gb28.2) rfl rfl (hb hby at_212) (fun T32 h32 W32 K32 A32 => ?_)
    have V32 : Arv Z h32 b28 c28 .char (10 : Int32) [(.int (47 : Int32)), (.int (119 : Int32)), (.int (101 : Int32)), (.int (98 : Int32)), (.int (0 : Int32)), (.int (0 : Int32)), (.int (0 : Int32)), (.int (0 : Int32)), (.int (0 : Int32)), (.int (0 : Int32))] (.int (0 : Int32)) := A32
    show Go p e below _ (T32.setTop (mkF m 213 #[.val (.int i0), .val (.int i1), .val (.int i2), .val (.int (0 : Int32)), .val (.int q2), .val (.int q3), .val (.int q4), .val (.int q5), .val (.ref b6), .val (.ref b16), .val (.ref r26), .unset] [(.ref b28)]))
    refine Go.of (t' := T32.setTop (mkF m 214 #[.val (.int i0), .val (.int i1), .val (.int i2), .val (.int (0 : Int32)), .val (.int q2), .val (.int q3), .val (.int q4), .val (.int q5), .val (.ref b6), .val (.ref b16), .val (.ref r26), .unset] [(.ref b28), (.ref b28)])) (fun _ kk => XS.dup W32.here hx rfl (hb hby at_213) rfl rfl kk) ?_
    refine Go.of (t' := T32.setTop (mkF m 215 #[.val (.int i0), .val (.int i1), .val (.int i2), .val (.int (0 : Int32)), .val (.int q2), .val (.int q3), .val (.int q4), .val (.int q5), .val (.ref b6), .val (.ref b16), .val (.ref r26), .unset] [(.int (4 : Int32)), (.ref b28), (.ref b28)])) (fun _ kk => XS.iconst W32.here hx rfl (hb hby at_214) kk) ?_
    refine Go.of (t' := T32.setTop (mkF m 217 #[.val (.int i0), .val (.int i1), .val (.int i2), .val (.int (0 : Int32)), .val (.int q2), .val (.int q3), .val (.int q4), .val (.int q5), .val (.ref b6), .val (.ref b16), .val (.ref r26), .unset] [(.int (47 : Int32)), (.int (4 : Int32)), (.ref b28), (.ref b28)])) (fun _ kk => XS.bipush W32.here hx rfl (hb hby at_215) kk) ?_
    refine W32.stC hx V32 ⟨by decide, by decide⟩ 4 rfl (Nat.le_of_ble_eq_true rfl) gb28.1 (Or.inr gb28.2) rfl rfl (hb hby at_217) (fun T33 h33 W33 K33 A33 => ?_)
    have V33 : Arv Z h33 b28 c28 .char (10 : Int32) [(.int (47 : Int32)), (.int (119 : Int32)), (.int (101 : Int32)), (.int (98 : Int32)), (.int (47 : Int32)), (.int (0 : Int32)), (.int (0 : Int32)), (.int (0 : Int32)), (.int (0 : Int32)), (.int (0 : Int32))] (.int (0 : Int32)) := A33
    show Go p e below _ (T33.setTop (mkF m 218 #[.val (.int i0), .val (.int i1), .val (.int i2), .val (.int (0 : Int32)), .val (.int q2), .val (.int q3), .val (.int q4), .val (.int q5), .val (.ref b6), .val (.ref b16), .val (.ref r26), .unset] [(.ref b28)]))
    refine Go.of (t' := T33.setTop (mkF m 219 #[.val (.int i0), .val (.int i1), .val (.int i2), .val (.int (0 : Int32)), .val (.int q2), .val (.int q3), .val (.int q4), .val (.int q5), .val (.ref b6), .val (.ref b16), .val (.ref r26), .unset] [(.ref b28), (.ref b28)])) (fun _ kk => XS.dup W33.here hx rfl (hb hby at_218) rfl rfl kk) ?_
    refine Go.of (t' := T33.setTop (mkF m 220 #[.val (.int i0), .val (.int i1), .val (.int i2), .val (.int (0 : Int32)), .val (.int q2), .val (.int q3), .val (.int q4), .val (.int q5), .val (.ref b6), .val (.ref b16), .val (.ref r26), .unset] [(.int (5 : Int32)), (.ref b28), (.ref b28)])) (fun _ kk => XS.iconst W33.here hx rfl (hb hby at_219) kk) ?_
    refine Go.of (t' := T33.setTop (mkF m 222 #[.val (.int i0), .val (.int i1), .val (.int i2), .val (.int (0 : Int32)), .val (.int q2), .val (.int q3), .val (.int q4), .val (.int q5), .val (.ref b6), .val (.ref b16), .val (.ref r26), .unset] [(.int q2), (.int (5 : Int32)), (.ref b28), (.ref b28)])) (fun _ kk => XS.iload W33.here hx rfl (hb hby at_220) rfl kk) ?_
    refine W33.stC hx V33 ⟨by decide, by decide⟩ 5 rfl (Nat.le_of_ble_eq_true rfl) gb28.1 (Or.inr gb28.2) rfl rfl (hb hby at_222) (fun T34 h34 W34 K34 A34 => ?_)
    have V34 : Arv Z h34 b28 c28 .char (10 : Int32) [(.int (47 : Int32)), (.int (119 : Int32)), (.int (101 : Int32)), (.int (98 : Int32)), (.int (47 : Int32)), (.int q2), (.int (0 : Int32)), (.int (0 : Int32)), (.int (0 : Int32)), (.int (0 : Int32))] (.int (0 : Int32)) := (by rw [(nar_char cq2)] at A34; exact A34)
    show Go p e below _ (T34.setTop (mkF m 223 #[.val (.int i0), .val (.int i1), .val (.int i2), .val (.int (0 : Int32)), .val (.int q2), .val (.int q3), .val (.int q4), .val (.int q5), .val (.ref b6), .val (.ref b16), .val (.ref r26), .unset] [(.ref b28)]))
    refine Go.of (t' := T34.setTop (mkF m 224 #[.val (.int i0), .val (.int i1), .val (.int i2), .val (.int (0 : Int32)), .val (.int q2), .val (.int q3), .val (.int q4), .val (.int q5), .val (.ref b6), .val (.ref b16), .val (.ref r26), .unset] [(.ref b28), (.ref b28)])) (fun _ kk => XS.dup W34.here hx rfl (hb hby at_223) rfl rfl kk) ?_
    refine Go.of (t' := T34.setTop (mkF m 226 #[.val (.int i0), .val (.int i1), .val (.int i2), .val (.int (0 : Int32)), .val (.int q2), .val (.int q3), .val (.int q4), .val (.int q5), .val (.ref b6), .val (.ref b16), .val (.ref r26), .unset] [(.int (6 : Int32)), (.ref b28), (.ref b28)])) (fun _ kk => XS.bipush W34.here hx rfl (hb hby at_224) kk) ?_
    refine Go.of (t' := T34.setTop (mkF m 228 #[.val (.int i0), .val (.int i1), .val (.int i2), .val (.int (0 : Int32)), .val (.int q2), .val (.int q3), .val (.int q4), .val (.int q5), .val (.ref b6), .val (.ref b16), .val (.ref r26), .unset] [(.int q3), (.int (6 : Int32)), (.ref b28), (.ref b28)])) (fun _ kk => XS.iload W34.here hx rfl (hb hby at_226) rfl kk) ?_
    refine W34.stC hx V34 ⟨by decide, by decide⟩ 6 rfl (Nat.le_of_ble_eq_true rfl) gb28.1 (Or.inr gb28.2) rfl rfl (hb hby at_228) (fun T35 h35 W35 K35 A35 => ?_)
    have V35 : Arv Z h35 b28 c28 .char (10 : Int32) [(.int (47 : Int32)), (.int (119 : Int32)), (.int (101 : Int32)), (.int (98 : Int32)), (.int (47 : Int32)), (.int q2), (.int q3), (.int (0 : Int32)), (.int (0 : Int32)), (.int (0 : Int32))] (.int (0 : Int32)) := (by rw [(nar_char cq3)] at A35; exact A35)
    show Go p e below _ (T35.setTop (mkF m 229 #[.val (.int i0), .val (.int i1), .val (.int i2), .val (.int (0 : Int32)), .val (.int q2), .val (.int q3), .val (.int q4), .val (.int q5), .val (.ref b6), .val (.ref b16), .val (.ref r26), .unset] [(.ref b28)]))
    refine Go.of (t' := T35.setTop (mkF m 230 #[.val (.int i0), .val (.int i1), .val (.int i2), .val (.int (0 : Int32)), .val (.int q2), .val (.int q3), .val (.int q4), .val (.int q5), .val (.ref b6), .val (.ref b16), .val (.ref r26), .unset] [(.ref b28), (.ref b28)])) (fun _ kk => XS.dup W35.here hx rfl (hb hby at_229) rfl rfl kk) ?_
    refine Go.of (t' := T35.setTop (mkF m 232 #[.val (.int i0), .val (.int i1), .val (.int i2), .val (.int (0 : Int32)), .val (.int q2), .val (.int q3), .val (.int q4), .val (.int q5), .val (.ref b6), .val (.ref b16), .val (.ref r26), .unset] [(.int (7 : Int32)), (.ref b28), (.ref b28)])) (fun _ kk => XS.bipush W35.here hx rfl (hb hby at_230) kk) ?_
    refine Go.of (t' := T35.setTop (mkF m 234 #[.val (.int i0), .val (.int i1), .val (.int i2), .val (.int (0 : Int32)), .val (.int q2), .val (.int q3), .val (.int q4), .val (.int q5), .val (.ref b6), .val (.ref b16), .val (.ref r26), .unset] [(.int (47 : Int32)), (.int (7 : Int32)), (.ref b28), (.ref b28)])) (fun _ kk => XS.bipush W35.here hx rfl (hb hby at_232) kk) ?_
    refine W35.stC hx V35 ⟨by decide, by decide⟩ 7 rfl (Nat.le_of_ble_eq_true rfl) gb28.1 (Or.inr gb28.2) rfl rfl (hb hby at_234) (fun T36 h36 W36 K36 A36 => ?_)
    have V36 : Arv Z h36 b28 c28 .char (10 : Int32) [(.int (47 : Int32)), (.int (119 : Int32)), (.int (101 : Int32)), (.int (98 : Int32)), (.int (47 : Int32)), (.int q2), (.int q3), (.int (47 : Int32)), (.int (0 : Int32)), (.int (0 : Int32))] (.int (0 : Int32)) := A36
    show Go p e below _ (T36.setTop (mkF m 235 #[.val (.int i0), .val (.int i1), .val (.int i2), .val (.int (0 : Int32)), .val (.int q2), .val (.int q3), .val (.int q4), .val (.int q5), .val (.ref b6), .val (.ref b16), .val (.ref r26), .unset] [(.ref b28)]))
    refine Go.of (t' := T36.setTop (mkF m 236 #[.val (.int i0), .val (.int i1), .val (.int i2), .val (.int (0 : Int32)), .val (.int q2), .val (.int q3), .val (.int q4), .val (.int q5), .val (.ref b6), .val (.ref b16), .val (.ref r26), .unset] [(.ref b28), (.ref b28)])) (fun _ kk => XS.dup W36.here hx rfl (hb hby at_235) rfl rfl kk) ?_
    refine Go.of (t' := T36.setTop (mkF m 238 #[.val (.int i0), .val (.int i1), .val (.int i2), .val (.int (0 : Int32)), .val (.int q2), .val (.int q3), .val (.int q4), .val (.int q5), .val (.ref b6), .val (.ref b16), .val (.ref r26), .unset] [(.int (8 : Int32)), (.ref b28), (.ref b28)])) (fun _ kk => XS.bipush W36.here hx rfl (hb hby at_236) kk) ?_
    refine Go.of (t' := T36.setTop (mkF m 240 #[.val (.int i0), .val (.int i1), .val (.int i2), .val (.int (0 : Int32)), .val (.int q2), .val (.int q3), .val (.int q4), .val (.int q5), .val (.ref b6), .val (.ref b16), .val (.ref r26), .unset] [(.int q4), (.int (8 : Int32)), (.ref b28), (.ref b28)])) (fun _ kk => XS.iload W36.here hx rfl (hb hby at_238) rfl kk) ?_
    refine W36.stC hx V36 ⟨by decide, by decide⟩ 8 rfl (Nat.le_of_ble_eq_true rfl) gb28.1 (Or.inr gb28.2) rfl rfl (hb hby at_240) (fun T37 h37 W37 K37 A37 => ?_)
    have V37 : Arv Z h37 b28 c28 .char (10 : Int32) [(.int (47 : Int32)), (.int (119 : Int32)), (.int (101 : Int32)), (.int (98 : Int32)), (.int (47 : Int32)), (.int q2), (.int q3), (.int (47 : Int32)), (.int q4), (.int (0 : Int32))] (.int (0 : Int32)) := (by rw [(nar_char cq4)] at A37; exact A37)
    show Go p e below _ (T37.setTop (mkF m 241 #[.val (.int i0), .val (.int i1), .val (.int i2), .val (.int (0 : Int32)), .val (.int q2), .val (.int q3), .val (.int q4), .val (.int q5), .val (.ref b6), .val (.ref b16), .val (.ref r26), .unset] [(.ref b28)]))
    refine Go.of (t' := T37.setTop (mkF m 242 #[.val (.int i0), .val (.int i1), .val (.int i2), .val (.int (0 : Int32)), .val (.int q2), .val (.int q3), .val (.int q4), .val (.int q5), .val (.ref b6), .val (.ref b16), .val (.ref r26), .unset] [(.ref b28), (.ref b28)])) (fun _ kk => XS.dup W37.here hx rfl (hb hby at_241) rfl rfl kk) ?_
    refine Go.of (t' := T37.setTop (mkF m 244 #[.val (.int i0), .val (.int i1), .val (.int i2), .val (.int (0 : Int32)), .val (.int q2), .val (.int q3), .val (.int q4), .val (.int q5), .val (.ref b6), .val (.ref b16), .val (.ref r26), .unset] [(.int (9 : Int32)), (.ref b28), (.ref b28)])) (fun _ kk => XS.bipush W37.here hx rfl (hb hby at_242) kk) ?_
    refine Go.of (t' := T37.setTop (mkF m 246 #[.val (.int i0), .val (.int i1), .val (.int i2), .val (.int (0 : Int32)), .val (.int q2), .val (.int q3), .val (.int q4), .val (.int q5), .val (.ref b6), .val (.ref b16), .val (.ref r26), .unset] [(.int q5), (.int (9 : Int32)), (.ref b28), (.ref b28)])) (fun _ kk => XS.iload W37.here hx rfl (hb hby at_244) rfl kk) ?_
    refine W37.stC hx V37 ⟨by decide, by decide⟩ 9 rfl (Nat.le_of_ble_eq_true rfl) gb28.1 (Or.inr gb28.2) rfl rfl (hb hby at_246) (fun T38 h38 W38 K38 A38 => ?_)
    have V38 : Arv Z h38 b28 c28 .char (10 : Int32) [(.int (47 : Int32)), (.int (119 : Int32)), (.int (101 : Int32)), (.int (98 : Int32)), (.int (47 : Int32)), (.int q2), (.int q3), (.int (47 : Int32)), (.int q4), (.int q5)] (.int (0 : Int32)) := (by rw [(nar_char cq5)] at A38; exact A38)
    show Go p e below _ (T38.setTop (mkF m 247 #[.val (.int i0), .val (.int i1), .val (.int i2), .val (.int (0 : Int32)), .val (.int q2), .val (.int q3), .val (.int q4), .val (.int q5), .val (.ref b6), .val (.ref b16), .val (.ref r26), .unset] [(.ref b28)]))
    refine Go.of (t' := T38.setTop (mkF m 249 #[.val (.int i0), .val (.int i1), .val (.int i2), .val (.int (0 : Int32)), .val (.int q2), .val (.int q3), .val (.int q4), .val (.int q5), .val (.ref b6), .val (.ref b16), .val (.ref r26), .val (.ref b28)] [])) (fun _ kk => XS.astore W38.here hx rfl (hb hby at_247) rfl rfl (l' := #[.val (.int i0), .val (.int i1), .val (.int i2), .val (.int (0 : Int32)), .val (.int q2), .val (.int q3), .val (.int q4), .val (.int q5), .val (.ref b6), .val (.ref b16), .val (.ref r26), .val (.ref b28)]) rfl kk) ?_
    refine Go.of (t' := T38.setTop (mkF m 251 #[.val (.int i0), .val (.int i1), .val (.int i2), .val (.int (0 : Int32)), .val (.int q2), .val (.int q3), .val (.int q4), .val (.int q5), .val (.ref b6), .val (.ref b16), .val (.ref r26), .val (.ref b28)] [(.ref r26)])) (fun _ kk => XS.aload W38.here hx rfl (hb hby at_249) rfl rfl kk) ?_
    refine W38.newO hx (hw _ (List.mem_of_getElem? (i := 0) rfl)) (hw _ (List.mem_of_getElem? (i := 1) rfl)) (hw _ (List.mem_of_getElem? (i := 2) rfl)) rfl (hb hby at_251) (by decide +kernel) (by decide +kernel) (fun T39 h39 b39 eb39 gb39 W39 K39 E39 D39 => ?_)
    have k40 : Fld Z h39 b39 "java/lang/String" "coder" "B" (.int (0 : Int32)) := D39 (Or.inr (hw _ (List.mem_of_getElem? (i := 27) rfl))) (ty := .byte) (by decide +kernel)
    have k41 : Fld Z h39 b39 "java/lang/String" "value" "[B" .null := D39 (Or.inr (hw _ (List.mem_of_getElem? (i := 29) rfl))) (ty := (.array .byte)) (by decide +kernel)
    show Go p e below _ (T39.setTop (mkF m 254 #[.val (.int i0), .val (.int i1), .val (.int i2), .val (.int (0 : Int32)), .val (.int q2), .val (.int q3), .val (.int q4), .val (.int q5), .val (.ref b6), .val (.ref b16), .val (.ref r26), .val (.ref b28)] [(.ref b39), (.ref r26)]))
    refine Go.of (t' := T39.setTop (mkF m 255 #[.val (.int i0), .val (.int i1), .val (.int i2), .val (.int (0 : Int32)), .val (.int q2), .val (.int q3), .val (.int q4), .val (.int q5), .val (.ref b6), .val (.ref b16), .val (.ref r26), .val (.ref b28)] [(.ref b39), (.ref b39), (.ref r26)])) (fun _ kk => XS.dup W39.here hx rfl (hb hby at_254) rfl rfl kk) ?_
    refine Go.of (t' := T39.setTop (mkF m 257 #[.val (.int i0), .val (.int i1), .val (.int i2), .val (.int (0 : Int32)), .val (.int q2), .val (.int q3), .val (.int q4), .val (.int q5), .val (.ref b6), .val (.ref b16), .val (.ref r26), .val (.ref b28)] [(.ref b28), (.ref b39), (.ref b39), (.ref r26)])) (fun _ kk => XS.aload W39.here hx rfl (hb hby at_255) rfl rfl kk) ?_
    have k43 := (V38.keep K39 nin0)
    refine W39.newStr hx hws (hw _ (List.mem_of_getElem? (i := 1) rfl)) SC hzc (hw _ (List.mem_of_getElem? (i := 4) rfl)) (hw _ (List.mem_of_getElem? (i := 5) rfl)) (hw _ (List.mem_of_getElem? (i := 6) rfl)) E39 k41 k40 (cs := [(47 : Int32), (119 : Int32), (101 : Int32), (98 : Int32), (47 : Int32), q2, q3, (47 : Int32), q4, q5]) (n := 10) k43 rfl rfl (by decide +kernel) (by decide +kernel) (allSi ⟨by decide, by decide⟩ (allSi ⟨by decide, by decide⟩ (allSi ⟨by decide, by decide⟩ (allSi ⟨by decide, by decide⟩ (allSi ⟨by decide, by decide⟩ (allSi cq2 (allSi cq3 (allSi ⟨by decide, by decide⟩ (allSi cq4 (allSi cq5 all0i)))))))))) gb39.1 (Or.inr gb39.2) (List.mem_of_getElem? (i := 0) rfl) (by decide +kernel) (Wd := 2) (by decide +kernel) (by decide +kernel) (by decide +kernel) rfl (by rw [hml]; rfl) rfl (by show 2 * 0 + _ ≤ _; exact Nat.le_of_eq rfl) (hb hby at_257) (fun T42 h42 W42 K42 S42 => ?_)
    show Go p e below _ (T42.setTop (mkF m 260 #[.val (.int i0), .val (.int i1), .val (.int i2), .val (.int (0 : Int32)), .val (.int q2), .val (.int q3), .val (.int q4), .val (.int q5), .val (.ref b6), .val (.ref b16), .val (.ref r26), .val (.ref b28)] [(.ref b39), (.ref r26)]))
    obtain ⟨t45, kb45, cd45, N45, vs45, E45, V45, C45, A45, R45⟩ := id S26
    have S45 : Str Z h42 r26 [(47 : Int32), (119 : Int32), (101 : Int32), (98 : Int32), (47 : Int32), q2, q3, (47 : Int32), q4, q5] := ⟨t45, kb45, cd45, N45, vs45, (((((((((((((E45.keep K28).keep K29).keep K30).keep K31).keep K32).keep K33).keep K34).keep K35).keep K36).keep K37).keep K38).keep K39).keep K42), (((((((((((((V45.keep K28 nin0).keep K29 (ninS (ne_of_born (Nat.le_of_eq eb28.symm) E26.lt (Nat.le_refl _)) nin0)).keep K30 (ninS (ne_of_born (Nat.le_of_eq eb28.symm) E26.lt (Nat.le_refl _)) nin0)).keep K31 (ninS (ne_of_born (Nat.le_of_eq eb28.symm) E26.lt (Nat.le_refl _)) nin0)).keep K32 (ninS (ne_of_born (Nat.le_of_eq eb28.symm) E26.lt (Nat.le_refl _)) nin0)).keep K33 (ninS (ne_of_born (Nat.le_of_eq eb28.symm) E26.lt (Nat.le_refl _)) nin0)).keep K34 (ninS (ne_of_born (Nat.le_of_eq eb28.symm) E26.lt (Nat.le_refl _)) nin0)).keep K35 (ninS (ne_of_born (Nat.le_of_eq eb28.symm) E26.lt (Nat.le_refl _)) nin0)).keep K36 (ninS (ne_of_born (Nat.le_of_eq eb28.symm) E26.lt (Nat.le_refl _)) nin0)).keep K37 (ninS (ne_of_born (Nat.le_of_eq eb28.symm) E26.lt (Nat.le_refl _)) nin0)).keep K38 (ninS (ne_of_born (Nat.le_of_eq eb28.symm) E26.lt (Nat.le_refl _)) nin0)).keep K39 nin0).keep K42 (ninS (ne_of_born (Nat.le_of_eq eb39.symm) E26.lt (Nat.le_trans (Nat.le_trans (Nat.le_trans (Nat.le_trans (Nat.le_trans (Nat.le_trans (Nat.le_trans (Nat.le_trans (Nat.le_trans (Nat.le_trans K28.1 K29.1) K30.1) K31.1) K32.1) K33.1) K34.1) K35.1) K36.1) K37.1) K38.1)) nin0)), (((((((((((((C45.keep K28 nin0).keep K29 (ninS (ne_of_born (Nat.le_of_eq eb28.symm) E26.lt (Nat.le_refl _)) nin0)).keep K30 (ninS (ne_of_born (Nat.le_of_eq eb28.symm) E26.lt (Nat.le_refl _)) nin0)).keep K31 (ninS (ne_of_born (Nat.le_of_eq eb28.symm) E26.lt (Nat.le_refl _)) nin0)).keep K32 (ninS (ne_of_born (Nat.le_of_eq eb28.symm) E26.lt (Nat.le_refl _)) nin0)).keep K33 (ninS (ne_of_born (Nat.le_of_eq eb28.symm) E26.lt (Nat.le_refl _)) nin0)).keep K34 (ninS (ne_of_born (Nat.le_of_eq eb28.symm) E26.lt (Nat.le_refl _)) nin0)).keep K35 (ninS (ne_of_born (Nat.le_of_eq eb28.symm) E26.lt (Nat.le_refl _)) nin0)).keep K36 (ninS (ne_of_born (Nat.le_of_eq eb28.symm) E26.lt (Nat.le_refl _)) nin0)).keep K37 (ninS (ne_of_born (Nat.le_of_eq eb28.symm) E26.lt (Nat.le_refl _)) nin0)).keep K38 (ninS (ne_of_born (Nat.le_of_eq eb28.symm) E26.lt (Nat.le_refl _)) nin0)).keep K39 nin0).keep K42 (ninS (ne_of_born (Nat.le_of_eq eb39.symm) E26.lt (Nat.le_trans (Nat.le_trans (Nat.le_trans (Nat.le_trans (Nat.le_trans (Nat.le_trans (Nat.le_trans (Nat.le_trans (Nat.le_trans (Nat.le_trans K28.1 K29.1) K30.1) K31.1) K32.1) K33.1) K34.1) K35.1) K36.1) K37.1) K38.1)) nin0)), (((((((((((((A45.keep K28 nin0).keep K29 (ninS (ne_of_born (Nat.le_of_eq eb28.symm) A45.lt (Nat.le_refl _)) nin0)).keep K30 (ninS (ne_of_born (Nat.le_of_eq eb28.symm) A45.lt (Nat.le_refl _)) nin0)).keep K31 (ninS (ne_of_born (Nat.le_of_eq eb28.symm) A45.lt (Nat.le_refl _)) nin0)).keep K32 (ninS (ne_of_born (Nat.le_of_eq eb28.symm) A45.lt (Nat.le_refl _)) nin0)).keep K33 (ninS (ne_of_born (Nat.le_of_eq eb28.symm) A45.lt (Nat.le_refl _)) nin0)).keep K34 (ninS (ne_of_born (Nat.le_of_eq eb28.symm) A45.lt (Nat.le_refl _)) nin0)).keep K35 (ninS (ne_of_born (Nat.le_of_eq eb28.symm) A45.lt (Nat.le_refl _)) nin0)).keep K36 (ninS (ne_of_born (Nat.le_of_eq eb28.symm) A45.lt (Nat.le_refl _)) nin0)).keep K37 (ninS (ne_of_born (Nat.le_of_eq eb28.symm) A45.lt (Nat.le_refl _)) nin0)).keep K38 (ninS (ne_of_born (Nat.le_of_eq eb28.symm) A45.lt (Nat.le_refl _)) nin0)).keep K39 nin0).keep K42 (ninS (ne_of_born (Nat.le_of_eq eb39.symm) A45.lt (Nat.le_trans (Nat.le_trans (Nat.le_trans (Nat.le_trans (Nat.le_trans (Nat.le_trans (Nat.le_trans (Nat.le_trans (Nat.le_trans (Nat.le_trans K28.1 K29.1) K30.1) K31.1) K32.1) K33.1) K34.1) K35.1) K36.1) K37.1) K38.1)) nin0)), R45⟩
    refine W42.strEq hx heq (hw _ (List.mem_of_getElem? (i := 1) rfl)) SC hzc S45 S42 (hw _ (List.mem_of_getElem? (i := 149) rfl)) (hw _ (List.mem_of_getElem? (i := 150) rfl)) (hw _ (List.mem_of_getElem? (i := 152) rfl)) (hw _ (List.mem_of_getElem? (i := 151) rfl)) (by decide +kernel) (Wd := 0) (by decide +kernel) (by decide +kernel) (by decide +kernel) rfl (by rw [hml]; rfl) rfl (by show 2 * 0 + _ ≤ _; exact Nat.le_of_eq rfl) (hb hby at_260) (fun T44 z44 hz44 W44 => ?_)
    obtain ⟨rfl, -⟩ | ⟨-, hn44⟩ := hz44
    case inr => exact absurd rfl hn44
    show Go p e below _ (T44.setTop (mkF m 263 #[.val (.int i0), .val (.int i1), .val (.int i2), .val (.int (0 : Int32)), .val (.int q2), .val (.int q3), .val (.int q4), .val (.int q5), .val (.ref b6), .val (.ref b16), .val (.ref r26), .val (.ref b28)] [(.int (1 : Int32))]))
    exact W44.retI hx hEL hs hlk (by decide +kernel) (by decide +kernel) hret (by simp) rfl (hb hby at_263) (fun S hS => rfl)
  · refine Go.of (t' := T0.setTop (mkF m 6 #[.val (.int i0), .val (.int i1), .val (.int i2), .unset, .unset, .unset, .unset, .unset, .unset, .unset, .unset, .unset] [])) (fun _ kk => XS.ifNo W0.here hx rfl (hb hby at_3) rfl (XT.i0_eq_f c1) kk) ?_
    refine Go.of (t' := T0.setTop (mkF m 7 #[.val (.int i0), .val (.int i1), .val (.int i2), .unset, .unset, .unset, .unset, .unset, .unset, .unset, .unset, .unset] [(.int (1 : Int32))])) (fun _ kk => XS.iconst W0.here hx rfl (hb hby at_6) kk) ?_
    refine Go.of (t' := T0.setTop (mkF m 11 #[.val (.int i0), .val (.int i1), .val (.int i2), .unset, .unset, .unset, .unset, .unset, .unset, .unset, .unset, .unset] [(.int (1 : Int32))])) (fun _ kk => XS.goto W0.here hx rfl (pc0 := 7) (pc' := 11) rfl (hb hby at_7) (by decide +kernel) (by decide +kernel) kk) ?_
    refine Go.of (t' := T0.setTop (mkF m 12 #[.val (.int i0), .val (.int i1), .val (.int i2), .val (.int (1 : Int32)), .unset, .unset, .unset, .unset, .unset, .unset, .unset, .unset] [])) (fun _ kk => XS.istoreN W0.here hx rfl (hb hby at_11) rfl (l' := #[.val (.int i0), .val (.int i1), .val (.int i2), .val (.int (1 : Int32)), .unset, .unset, .unset, .unset, .unset, .unset, .unset, .unset]) rfl kk) ?_
    refine Go.of (t' := T0.setTop (mkF m 13 #[.val (.int i0), .val (.int i1), .val (.int i2), .val (.int (1 : Int32)), .unset, .unset, .unset, .unset, .unset, .unset, .unset, .unset] [(.int i0)])) (fun _ kk => XS.iloadN W0.here hx rfl (hb hby at_12) rfl kk) ?_
    refine Go.of (t' := T0.setTop (mkF m 16 #[.val (.int i0), .val (.int i1), .val (.int i2), .val (.int (1 : Int32)), .unset, .unset, .unset, .unset, .unset, .unset, .unset, .unset] [(.int (255 : Int32)), (.int i0)])) (fun _ kk => XS.sipush W0.here hx rfl (hb hby at_13) kk) ?_
    refine Go.of (t' := T0.setTop (mkF m 17 #[.val (.int i0), .val (.int i1), .val (.int i2), .val (.int (1 : Int32)), .unset, .unset, .unset, .unset, .unset, .unset, .unset, .unset] [(.int (i0 &&& (255 : Int32)))])) (fun _ kk => XS.iand W0.here hx rfl (hb hby at_16) rfl kk) ?_
    refine Go.of (t' := T0.setTop (mkF m 18 #[.val (.int i0), .val (.int i1), .val (.int i2), .val (.int (1 : Int32)), .unset, .unset, .unset, .unset, .unset, .unset, .unset, .unset] [(.int ((i0 &&& (255 : Int32)).toUInt32.toUInt16.toUInt32.toInt32))])) (fun _ kk => XS.i2c W0.here hx rfl (hb hby at_17) rfl kk) ?_
    obtain ⟨q46, hq46, cq46, zq46⟩ := char255 i0
    rw [hq46]
    show Go p e below _ (T0.setTop (mkF m 18 #[.val (.int i0), .val (.int i1), .val (.int i2), .val (.int (1 : Int32)), .unset, .unset, .unset, .unset, .unset, .unset, .unset, .unset] [(.int q46)]))
    refine Go.of (t' := T0.setTop (mkF m 20 #[.val (.int i0), .val (.int i1), .val (.int i2), .val (.int (1 : Int32)), .val (.int q46), .unset, .unset, .unset, .unset, .unset, .unset, .unset] [])) (fun _ kk => XS.istore W0.here hx rfl (hb hby at_18) rfl (l' := #[.val (.int i0), .val (.int i1), .val (.int i2), .val (.int (1 : Int32)), .val (.int q46), .unset, .unset, .unset, .unset, .unset, .unset, .unset]) rfl kk) ?_
    refine Go.of (t' := T0.setTop (mkF m 21 #[.val (.int i0), .val (.int i1), .val (.int i2), .val (.int (1 : Int32)), .val (.int q46), .unset, .unset, .unset, .unset, .unset, .unset, .unset] [(.int i0)])) (fun _ kk => XS.iloadN W0.here hx rfl (hb hby at_20) rfl kk) ?_
    refine Go.of (t' := T0.setTop (mkF m 23 #[.val (.int i0), .val (.int i1), .val (.int i2), .val (.int (1 : Int32)), .val (.int q46), .unset, .unset, .unset, .unset, .unset, .unset, .unset] [(.int (8 : Int32)), (.int i0)])) (fun _ kk => XS.bipush W0.here hx rfl (hb hby at_21) kk) ?_
    refine Go.of (t' := T0.setTop (mkF m 24 #[.val (.int i0), .val (.int i1), .val (.int i2), .val (.int (1 : Int32)), .val (.int q46), .unset, .unset, .unset, .unset, .unset, .unset, .unset] [(.int ((i0.toUInt32 >>> ((8 : Int32) &&& 31).toUInt32).toInt32))])) (fun _ kk => XS.iushr W0.here hx rfl (hb hby at_23) rfl kk) ?_
    refine Go.of (t' := T0.setTop (mkF m 27 #[.val (.int i0), .val (.int i1), .val (.int i2), .val (.int (1 : Int32)), .val (.int q46), .unset, .unset, .unset, .unset, .unset, .unset, .unset] [(.int (255 : Int32)), (.int ((i0.toUInt32 >>> ((8 : Int32) &&& 31).toUInt32).toInt32))])) (fun _ kk => XS.sipush W0.here hx rfl (hb hby at_24) kk) ?_
    refine Go.of (t' := T0.setTop (mkF m 28 #[.val (.int i0), .val (.int i1), .val (.int i2), .val (.int (1 : Int32)), .val (.int q46), .unset, .unset, .unset, .unset, .unset, .unset, .unset] [(.int (((i0.toUInt32 >>> ((8 : Int32) &&& 31).toUInt32).toInt32) &&& (255 : Int32)))])) (fun _ kk => XS.iand W0.here hx rfl (hb hby at_27) rfl kk) ?_
    refine Go.of (t' := T0.setTop (mkF m 29 #[.val (.int i0), .val (.int i1), .val (.int i2), .val (.int (1 : Int32)), .val (.int q46), .unset, .unset, .unset, .unset, .unset, .unset, .unset] [(.int ((((i0.toUInt32 >>> ((8 : Int32) &&& 31).toUInt32).toInt32) &&& (255 : Int32)).toUInt32.toUInt16.toUInt32.toInt32))])) (fun _ kk => XS.i2c W0.here hx rfl (hb hby at_28) rfl kk) ?_
    obtain ⟨q47, hq47, cq47, zq47⟩ := char255 ((i0.toUInt32 >>> ((8 : Int32) &&& 31).toUInt32).toInt32)
    rw [hq47]
    show Go p e below _ (T0.setTop (mkF m 29 #[.val (.int i0), .val (.int i1), .val (.int i2), .val (.int (1 : Int32)), .val (.int q46), .unset, .unset, .unset, .unset, .unset, .unset, .unset] [(.int q47)]))
    refine Go.of (t' := T0.setTop (mkF m 31 #[.val (.int i0), .val (.int i1), .val (.int i2), .val (.int (1 : Int32)), .val (.int q46), .val (.int q47), .unset, .unset, .unset, .unset, .unset, .unset] [])) (fun _ kk => XS.istore W0.here hx rfl (hb hby at_29) rfl (l' := #[.val (.int i0), .val (.int i1), .val (.int i2), .val (.int (1 : Int32)), .val (.int q46), .val (.int q47), .unset, .unset, .unset, .unset, .unset, .unset]) rfl kk) ?_
    refine Go.of (t' := T0.setTop (mkF m 32 #[.val (.int i0), .val (.int i1), .val (.int i2), .val (.int (1 : Int32)), .val (.int q46), .val (.int q47), .unset, .unset, .unset, .unset, .unset, .unset] [(.int i1)])) (fun _ kk => XS.iloadN W0.here hx rfl (hb hby at_31) rfl kk) ?_
    refine Go.of (t' := T0.setTop (mkF m 35 #[.val (.int i0), .val (.int i1), .val (.int i2), .val (.int (1 : Int32)), .val (.int q46), .val (.int q47), .unset, .unset, .unset, .unset, .unset, .unset] [(.int (255 : Int32)), (.int i1)])) (fun _ kk => XS.sipush W0.here hx rfl (hb hby at_32) kk) ?_
    refine Go.of (t' := T0.setTop (mkF m 36 #[.val (.int i0), .val (.int i1), .val (.int i2), .val (.int (1 : Int32)), .val (.int q46), .val (.int q47), .unset, .unset, .unset, .unset, .unset, .unset] [(.int (i1 &&& (255 : Int32)))])) (fun _ kk => XS.iand W0.here hx rfl (hb hby at_35) rfl kk) ?_
    refine Go.of (t' := T0.setTop (mkF m 37 #[.val (.int i0), .val (.int i1), .val (.int i2), .val (.int (1 : Int32)), .val (.int q46), .val (.int q47), .unset, .unset, .unset, .unset, .unset, .unset] [(.int ((i1 &&& (255 : Int32)).toUInt32.toUInt16.toUInt32.toInt32))])) (fun _ kk => XS.i2c W0.here hx rfl (hb hby at_36) rfl kk) ?_
    obtain ⟨q48, hq48, cq48, zq48⟩ := char255 i1
    rw [hq48]
    show Go p e below _ (T0.setTop (mkF m 37 #[.val (.int i0), .val (.int i1), .val (.int i2), .val (.int (1 : Int32)), .val (.int q46), .val (.int q47), .unset, .unset, .unset, .unset, .unset, .unset] [(.int q48)]))
    refine Go.of (t' := T0.setTop (mkF m 39 #[.val (.int i0), .val (.int i1), .val (.int i2), .val (.int (1 : Int32)), .val (.int q46), .val (.int q47), .val (.int q48), .unset, .unset, .unset, .unset, .unset] [])) (fun _ kk => XS.istore W0.here hx rfl (hb hby at_37) rfl (l' := #[.val (.int i0), .val (.int i1), .val (.int i2), .val (.int (1 : Int32)), .val (.int q46), .val (.int q47), .val (.int q48), .unset, .unset, .unset, .unset, .unset]) rfl kk) ?_
    refine Go.of (t' := T0.setTop (mkF m 40 #[.val (.int i0), .val (.int i1), .val (.int i2), .val (.int (1 : Int32)), .val (.int q46), .val (.int q47), .val (.int q48), .unset, .unset, .unset, .unset, .unset] [(.int i1)])) (fun _ kk => XS.iloadN W0.here hx rfl (hb hby at_39) rfl kk) ?_
    refine Go.of (t' := T0.setTop (mkF m 42 #[.val (.int i0), .val (.int i1), .val (.int i2), .val (.int (1 : Int32)), .val (.int q46), .val (.int q47), .val (.int q48), .unset, .unset, .unset, .unset, .unset] [(.int (8 : Int32)), (.int i1)])) (fun _ kk => XS.bipush W0.here hx rfl (hb hby at_40) kk) ?_
    refine Go.of (t' := T0.setTop (mkF m 43 #[.val (.int i0), .val (.int i1), .val (.int i2), .val (.int (1 : Int32)), .val (.int q46), .val (.int q47), .val (.int q48), .unset, .unset, .unset, .unset, .unset] [(.int ((i1.toUInt32 >>> ((8 : Int32) &&& 31).toUInt32).toInt32))])) (fun _ kk => XS.iushr W0.here hx rfl (hb hby at_42) rfl kk) ?_
    refine Go.of (t' := T0.setTop (mkF m 46 #[.val (.int i0), .val (.int i1), .val (.int i2), .val (.int (1 : Int32)), .val (.int q46), .val (.int q47), .val (.int q48), .unset, .unset, .unset, .unset, .unset] [(.int (255 : Int32)), (.int ((i1.toUInt32 >>> ((8 : Int32) &&& 31).toUInt32).toInt32))])) (fun _ kk => XS.sipush W0.here hx rfl (hb hby at_43) kk) ?_
    refine Go.of (t' := T0.setTop (mkF m 47 #[.val (.int i0), .val (.int i1), .val (.int i2), .val (.int (1 : Int32)), .val (.int q46), .val (.int q47), .val (.int q48), .unset, .unset, .unset, .unset, .unset] [(.int (((i1.toUInt32 >>> ((8 : Int32) &&& 31).toUInt32).toInt32) &&& (255 : Int32)))])) (fun _ kk => XS.iand W0.here hx rfl (hb hby at_46) rfl kk) ?_
    refine Go.of (t' := T0.setTop (mkF m 48 #[.val (.int i0), .val (.int i1), .val (.int i2), .val (.int (1 : Int32)), .val (.int q46), .val (.int q47), .val (.int q48), .unset, .unset, .unset, .unset, .unset] [(.int ((((i1.toUInt32 >>> ((8 : Int32) &&& 31).toUInt32).toInt32) &&& (255 : Int32)).toUInt32.toUInt16.toUInt32.toInt32))])) (fun _ kk => XS.i2c W0.here hx rfl (hb hby at_47) rfl kk) ?_
    obtain ⟨q49, hq49, cq49, zq49⟩ := char255 ((i1.toUInt32 >>> ((8 : Int32) &&& 31).toUInt32).toInt32)
    rw [hq49]
    show Go p e below _ (T0.setTop (mkF m 48 #[.val (.int i0), .val (.int i1), .val (.int i2), .val (.int (1 : Int32)), .val (.int q46), .val (.int q47), .val (.int q48), .unset, .unset, .unset, .unset, .unset] [(.int q49)]))
    refine Go.of (t' := T0.setTop (mkF m 50 #[.val (.int i0), .val (.int i1), .val (.int i2), .val (.int (1 : Int32)), .val (.int q46), .val (.int q47), .val (.int q48), .val (.int q49), .unset, .unset, .unset, .unset] [])) (fun _ kk => XS.istore W0.here hx rfl (hb hby at_48) rfl (l' := #[.val (.int i0), .val (.int i1), .val (.int i2), .val (.int (1 : Int32)), .val (.int q46), .val (.int q47), .val (.int q48), .val (.int q49), .unset, .unset, .unset, .unset]) rfl kk) ?_
    refine W0.newO hx (hw _ (List.mem_of_getElem? (i := 0) rfl)) (hw _ (List.mem_of_getElem? (i := 1) rfl)) (hw _ (List.mem_of_getElem? (i := 2) rfl)) rfl (hb hby at_50) (by decide +kernel) (by decide +kernel) (fun T50 h50 b50 eb50 gb50 W50 K50 E50 D50 => ?_)
    have k51 : Fld Z h50 b50 "java/lang/String" "coder" "B" (.int (0 : Int32)) := D50 (Or.inr (hw _ (List.mem_of_getElem? (i := 27) rfl))) (ty := .byte) (by decide +kernel)
    have k52 : Fld Z h50 b50 "java/lang/String" "value" "[B" .null := D50 (Or.inr (hw _ (List.mem_of_getElem? (i := 29) rfl))) (ty := (.array .byte)) (by decide +kernel)
    show Go p e below _ (T50.setTop (mkF m 53 #[.val (.int i0), .val (.int i1), .val (.int i2), .val (.int (1 : Int32)), .val (.int q46), .val (.int q47), .val (.int q48), .val (.int q49), .unset, .unset, .unset, .unset] [(.ref b50)]))
    refine Go.of (t' := T50.setTop (mkF m 54 #[.val (.int i0), .val (.int i1), .val (.int i2), .val (.int (1 : Int32)), .val (.int q46), .val (.int q47), .val (.int q48), .val (.int q49), .unset, .unset, .unset, .unset] [(.ref b50), (.ref b50)])) (fun _ kk => XS.dup W50.here hx rfl (hb hby at_53) rfl rfl kk) ?_
    refine Go.of (t' := T50.setTop (mkF m 55 #[.val (.int i0), .val (.int i1), .val (.int i2), .val (.int (1 : Int32)), .val (.int q46), .val (.int q47), .val (.int q48), .val (.int q49), .unset, .unset, .unset, .unset] [(.int (2 : Int32)), (.ref b50), (.ref b50)])) (fun _ kk => XS.iconst W50.here hx rfl (hb hby at_54) kk) ?_
    refine W50.newP hx (hw _ (List.mem_of_getElem? (i := 3) rfl)) rfl (hb hby at_55) rfl (by decide +kernel) (cap := 2) (by decide +kernel) (by decide +kernel) (by decide +kernel) (by decide +kernel) (fun T53 h53 b53 c53 eb53 gb53 W53 K53 A53 => ?_)
    have V53 : Arv Z h53 b53 c53 .char (2 : Int32) [(.int (0 : Int32)), (.int (0 : Int32))] (.int (0 : Int32)) := A53
    show Go p e below _ (T53.setTop (mkF m 57 #[.val (.int i0), .val (.int i1), .val (.int i2), .val (.int (1 : Int32)), .val (.int q46), .val (.int q47), .val (.int q48), .val (.int q49), .unset, .unset, .unset, .unset] [(.ref b53), (.ref b50), (.ref b50)]))
    refine Go.of (t' := T53.setTop (mkF m 58 #[.val (.int i0), .val (.int i1), .val (.int i2), .val (.int (1 : Int32)), .val (.int q46), .val (.int q47), .val (.int q48), .val (.int q49), .unset, .unset, .unset, .unset] [(.ref b53), (.ref b53), (.ref b50), (.ref b50)])) (fun _ kk => XS.dup W53.here hx rfl (hb hby at_57) rfl rfl kk) ?_
    refine Go.of (t' := T53.setTop (mkF m 59 #[.val (.int i0), .val (.int i1), .val (.int i2), .val (.int (1 : Int32)), .val (.int q46), .val (.int q47), .val (.int q48), .val (.int q49), .unset, .unset, .unset, .unset] [(.int (0 : Int32)), (.ref b53), (.ref b53), (.ref b50), (.ref b50)])) (fun _ kk => XS.iconst W53.here hx rfl (hb hby at_58) kk) ?_
    refine Go.of (t' := T53.setTop (mkF m 61 #[.val (.int i0), .val (.int i1), .val (.int i2), .val (.int (1 : Int32)), .val (.int q46), .val (.int q47), .val (.int q48), .val (.int q49), .unset, .unset, .unset, .unset] [(.int q46), (.int (0 : Int32)), (.ref b53), (.ref b53), (.ref b50), (.ref b50)])) (fun _ kk => XS.iload W53.here hx rfl (hb hby at_59) rfl kk) ?_
    refine W53.stC hx V53 ⟨by decide, by decide⟩ 0 rfl (Nat.le_of_ble_eq_true rfl) gb53.1 (Or.inr gb53.2) rfl rfl (hb hby at_61) (fun T54 h54 W54 K54 A54 => ?_)
    have V54 : Arv Z h54 b53 c53 .char (2 : Int32) [(.int q46), (.int (0 : Int32))] (.int (0 : Int32)) := (by rw [(nar_char cq46)] at A54; exact A54)
    show Go p e below _ (T54.setTop (mkF m 62 #[.val (.int i0), .val (.int i1), .val (.int i2), .val (.int (1 : Int32)), .val (.int q46), .val (.int q47), .val (.int q48), .val (.int q49), .unset, .unset, .unset, .unset] [(.ref b53), (.ref b50), (.ref b50)]))
    refine Go.of (t' := T54.setTop (mkF m 63 #[.val (.int i0), .val (.int i1), .val (.int i2), .val (.int (1 : Int32)), .val (.int q46), .val (.int q47), .val (.int q48), .val (.int q49), .unset, .unset, .unset, .unset] [(.ref b53), (.ref b53), (.ref b50), (.ref b50)])) (fun _ kk => XS.dup W54.here hx rfl (hb hby at_62) rfl rfl kk) ?_
    refine Go.of (t' := T54.setTop (mkF m 64 #[.val (.int i0), .val (.int i1), .val (.int i2), .val (.int (1 : Int32)), .val (.int q46), .val (.int q47), .val (.int q48), .val (.int q49), .unset, .unset, .unset, .unset] [(.int (1 : Int32)), (.ref b53), (.ref b53), (.ref b50), (.ref b50)])) (fun _ kk => XS.iconst W54.here hx rfl (hb hby at_63) kk) ?_
    refine Go.of (t' := T54.setTop (mkF m 66 #[.val (.int i0), .val (.int i1), .val (.int i2), .val (.int (1 : Int32)), .val (.int q46), .val (.int q47), .val (.int q48), .val (.int q49), .unset, .unset, .unset, .unset] [(.int q47), (.int (1 : Int32)), (.ref b53), (.ref b53), (.ref b50), (.ref b50)])) (fun _ kk => XS.iload W54.here hx rfl (hb hby at_64) rfl kk) ?_
    refine W54.stC hx V54 ⟨by decide, by decide⟩ 1 rfl (Nat.le_of_ble_eq_true rfl) gb53.1 (Or.inr gb53.2) rfl rfl (hb hby at_66) (fun T55 h55 W55 K55 A55 => ?_)
    have V55 : Arv Z h55 b53 c53 .char (2 : Int32) [(.int q46), (.int q47)] (.int (0 : Int32)) := (by rw [(nar_char cq47)] at A55; exact A55)
    show Go p e below _ (T55.setTop (mkF m 67 #[.val (.int i0), .val (.int i1), .val (.int i2), .val (.int (1 : Int32)), .val (.int q46), .val (.int q47), .val (.int q48), .val (.int q49), .unset, .unset, .unset, .unset] [(.ref b53), (.ref b50), (.ref b50)]))
    have k57 := (((E50.keep K53).keep K54).keep K55)
    have k58 := (((k52.keep K53 nin0).keep K54 (ninS (ne_of_born (Nat.le_of_eq eb53.symm) E50.lt (Nat.le_refl _)) nin0)).keep K55 (ninS (ne_of_born (Nat.le_of_eq eb53.symm) E50.lt (Nat.le_refl _)) nin0))
    have k59 := (((k51.keep K53 nin0).keep K54 (ninS (ne_of_born (Nat.le_of_eq eb53.symm) E50.lt (Nat.le_refl _)) nin0)).keep K55 (ninS (ne_of_born (Nat.le_of_eq eb53.symm) E50.lt (Nat.le_refl _)) nin0))
    refine W55.newStr hx hws (hw _ (List.mem_of_getElem? (i := 1) rfl)) SC hzc (hw _ (List.mem_of_getElem? (i := 4) rfl)) (hw _ (List.mem_of_getElem? (i := 5) rfl)) (hw _ (List.mem_of_getElem? (i := 6) rfl)) k57 k58 k59 (cs := [q46, q47]) (n := 2) V55 rfl rfl (by decide +kernel) (by decide +kernel) (allSi cq46 (allSi cq47 all0i)) gb50.1 (Or.inr gb50.2) (List.mem_of_getElem? (i := 1) rfl) (by decide +kernel) (Wd := 1) (by decide +kernel) (by decide +kernel) (by decide +kernel) rfl (by rw [hml]; rfl) rfl (by show 2 * 0 + _ ≤ _; exact Nat.le_of_eq rfl) (hb hby at_67) (fun T56 h56 W56 K56 S56 => ?_)
    show Go p e below _ (T56.setTop (mkF m 70 #[.val (.int i0), .val (.int i1), .val (.int i2), .val (.int (1 : Int32)), .val (.int q46), .val (.int q47), .val (.int q48), .val (.int q49), .unset, .unset, .unset, .unset] [(.ref b50)]))
    refine Go.of (t' := T56.setTop (mkF m 72 #[.val (.int i0), .val (.int i1), .val (.int i2), .val (.int (1 : Int32)), .val (.int q46), .val (.int q47), .val (.int q48), .val (.int q49), .val (.ref b50), .unset, .unset, .unset] [])) (fun _ kk => XS.astore W56.here hx rfl (hb hby at_70) rfl rfl (l' := #[.val (.int i0), .val (.int i1), .val (.int i2), .val (.int (1 : Int32)), .val (.int q46), .val (.int q47), .val (.int q48), .val (.int q49), .val (.ref b50), .unset, .unset, .unset]) rfl kk) ?_
    refine W56.newO hx (hw _ (List.mem_of_getElem? (i := 0) rfl)) (hw _ (List.mem_of_getElem? (i := 1) rfl)) (hw _ (List.mem_of_getElem? (i := 2) rfl)) rfl (hb hby at_72) (by decide +kernel) (by decide +kernel) (fun T60 h60 b60 eb60 gb60 W60 K60 E60 D60 => ?_)
    have k61 : Fld Z h60 b60 "java/lang/String" "coder" "B" (.int (0 : Int32)) := D60 (Or.inr (hw _ (List.mem_of_getElem? (i := 27) rfl))) (ty := .byte) (by decide +kernel)
    have k62 : Fld Z h60 b60 "java/lang/String" "value" "[B" .null := D60 (Or.inr (hw _ (List.mem_of_getElem? (i := 29) rfl))) (ty := (.array .byte)) (by decide +kernel)
    show Go p e below _ (T60.setTop (mkF m 75 #[.val (.int i0), .val (.int i1), .val (.int i2), .val (.int (1 : Int32)), .val (.int q46), .val (.int q47), .val (.int q48), .val (.int q49), .val (.ref b50), .unset, .unset, .unset] [(.ref b60)]))
    refine Go.of (t' := T60.setTop (mkF m 76 #[.val (.int i0), .val (.int i1), .val (.int i2), .val (.int (1 : Int32)), .val (.int q46), .val (.int q47), .val (.int q48), .val (.int q49), .val (.ref b50), .unset, .unset, .unset] [(.ref b60), (.ref b60)])) (fun _ kk => XS.dup W60.here hx rfl (hb hby at_75) rfl rfl kk) ?_
    refine Go.of (t' := T60.setTop (mkF m 77 #[.val (.int i0), .val (.int i1), .val (.int i2), .val (.int (1 : Int32)), .val (.int q46), .val (.int q47), .val (.int q48), .val (.int q49), .val (.ref b50), .unset, .unset, .unset] [(.int (2 : Int32)), (.ref b60), (.ref b60)])) (fun _ kk => XS.iconst W60.here hx rfl (hb hby at_76) kk) ?_
    refine W60.newP hx (hw _ (List.mem_of_getElem? (i := 3) rfl)) rfl (hb hby at_77) rfl (by decide +kernel) (cap := 2) (by decide +kernel) (by decide +kernel) (by decide +kernel) (by decide +kernel) (fun T63 h63 b63 c63 eb63 gb63 W63 K63 A63 => ?_)
    have V63 : Arv Z h63 b63 c63 .char (2 : Int32) [(.int (0 : Int32)), (.int (0 : Int32))] (.int (0 : Int32)) := A63
    show Go p e below _ (T63.setTop (mkF m 79 #[.val (.int i0), .val (.int i1), .val (.int i2), .val (.int (1 : Int32)), .val (.int q46), .val (.int q47), .val (.int q48), .val (.int q49), .val (.ref b50), .unset, .unset, .unset] [(.ref b63), (.ref b60), (.ref b60)]))
    refine Go.of (t' := T63.setTop (mkF m 80 #[.val (.int i0), .val (.int i1), .val (.int i2), .val (.int (1 : Int32)), .val (.int q46), .val (.int q47), .val (.int q48), .val (.int q49), .val (.ref b50), .unset, .unset, .unset] [(.ref b63), (.ref b63), (.ref b60), (.ref b60)])) (fun _ kk => XS.dup W63.here hx rfl (hb hby at_79) rfl rfl kk) ?_
    refine Go.of (t' := T63.setTop (mkF m 81 #[.val (.int i0), .val (.int i1), .val (.int i2), .val (.int (1 : Int32)), .val (.int q46), .val (.int q47), .val (.int q48), .val (.int q49), .val (.ref b50), .unset, .unset, .unset] [(.int (0 : Int32)), (.ref b63), (.ref b63), (.ref b60), (.ref b60)])) (fun _ kk => XS.iconst W63.here hx rfl (hb hby at_80) kk) ?_
    refine Go.of (t' := T63.setTop (mkF m 83 #[.val (.int i0), .val (.int i1), .val (.int i2), .val (.int (1 : Int32)), .val (.int q46), .val (.int q47), .val (.int q48), .val (.int q49), .val (.ref b50), .unset, .unset, .unset] [(.int q48), (.int (0 : Int32)), (.ref b63), (.ref b63), (.ref b60), (.ref b60)])) (fun _ kk => XS.iload W63.here hx rfl (hb hby at_81) rfl kk) ?_
    refine W63.stC hx V63 ⟨by decide, by decide⟩ 0 rfl (Nat.le_of_ble_eq_true rfl) gb63.1 (Or.inr gb63.2) rfl rfl (hb hby at_83) (fun T64 h64 W64 K64 A64 => ?_)
    have V64 : Arv Z h64 b63 c63 .char (2 : Int32) [(.int q48), (.int (0 : Int32))] (.int (0 : Int32)) := (by rw [(nar_char cq48)] at A64; exact A64)
    show Go p e below _ (T64.setTop (mkF m 84 #[.val (.int i0), .val (.int i1), .val (.int i2), .val (.int (1 : Int32)), .val (.int q46), .val (.int q47), .val (.int q48), .val (.int q49), .val (.ref b50), .unset, .unset, .unset] [(.ref b63), (.ref b60), (.ref b60)]))
    refine Go.of (t' := T64.setTop (mkF m 85 #[.val (.int i0), .val (.int i1), .val (.int i2), .val (.int (1 : Int32)), .val (.int q46), .val (.int q47), .val (.int q48), .val (.int q49), .val (.ref b50), .unset, .unset, .unset] [(.ref b63), (.ref b63), (.ref b60), (.ref b60)])) (fun _ kk => XS.dup W64.here hx rfl (hb hby at_84) rfl rfl kk) ?_
    refine Go.of (t' := T64.setTop (mkF m 86 #[.val (.int i0), .val (.int i1), .val (.int i2), .val (.int (1 : Int32)), .val (.int q46), .val (.int q47), .val (.int q48), .val (.int q49), .val (.ref b50), .unset, .unset, .unset] [(.int (1 : Int32)), (.ref b63), (.ref b63), (.ref b60), (.ref b60)])) (fun _ kk => XS.iconst W64.here hx rfl (hb hby at_85) kk) ?_
    refine Go.of (t' := T64.setTop (mkF m 88 #[.val (.int i0), .val (.int i1), .val (.int i2), .val (.int (1 : Int32)), .val (.int q46), .val (.int q47), .val (.int q48), .val (.int q49), .val (.ref b50), .unset, .unset, .unset] [(.int q49), (.int (1 : Int32)), (.ref b63), (.ref b63), (.ref b60), (.ref b60)])) (fun _ kk => XS.iload W64.here hx rfl (hb hby at_86) rfl kk) ?_
    refine W64.stC hx V64 ⟨by decide, by decide⟩ 1 rfl (Nat.le_of_ble_eq_true rfl) gb63.1 (Or.inr gb63.2) rfl rfl (hb hby at_88) (fun T65 h65 W65 K65 A65 => ?_)
    have V65 : Arv Z h65 b63 c63 .char (2 : Int32) [(.int q48), (.int q49)] (.int (0 : Int32)) := (by rw [(nar_char cq49)] at A65; exact A65)
    show Go p e below _ (T65.setTop (mkF m 89 #[.val (.int i0), .val (.int i1), .val (.int i2), .val (.int (1 : Int32)), .val (.int q46), .val (.int q47), .val (.int q48), .val (.int q49), .val (.ref b50), .unset, .unset, .unset] [(.ref b63), (.ref b60), (.ref b60)]))
    have k67 := (((E60.keep K63).keep K64).keep K65)
    have k68 := (((k62.keep K63 nin0).keep K64 (ninS (ne_of_born (Nat.le_of_eq eb63.symm) E60.lt (Nat.le_refl _)) nin0)).keep K65 (ninS (ne_of_born (Nat.le_of_eq eb63.symm) E60.lt (Nat.le_refl _)) nin0))
    have k69 := (((k61.keep K63 nin0).keep K64 (ninS (ne_of_born (Nat.le_of_eq eb63.symm) E60.lt (Nat.le_refl _)) nin0)).keep K65 (ninS (ne_of_born (Nat.le_of_eq eb63.symm) E60.lt (Nat.le_refl _)) nin0))
    refine W65.newStr hx hws (hw _ (List.mem_of_getElem? (i := 1) rfl)) SC hzc (hw _ (List.mem_of_getElem? (i := 4) rfl)) (hw _ (List.mem_of_getElem? (i := 5) rfl)) (hw _ (List.mem_of_getElem? (i := 6) rfl)) k67 k68 k69 (cs := [q48, q49]) (n := 2) V65 rfl rfl (by decide +kernel) (by decide +kernel) (allSi cq48 (allSi cq49 all0i)) gb60.1 (Or.inr gb60.2) (List.mem_of_getElem? (i := 1) rfl) (by decide +kernel) (Wd := 1) (by decide +kernel) (by decide +kernel) (by decide +kernel) rfl (by rw [hml]; rfl) rfl (by show 2 * 0 + _ ≤ _; exact Nat.le_of_eq rfl) (hb hby at_89) (fun T66 h66 W66 K66 S66 => ?_)
    show Go p e below _ (T66.setTop (mkF m 92 #[.val (.int i0), .val (.int i1), .val (.int i2), .val (.int (1 : Int32)), .val (.int q46), .val (.int q47), .val (.int q48), .val (.int q49), .val (.ref b50), .unset, .unset, .unset] [(.ref b60)]))
    refine Go.of (t' := T66.setTop (mkF m 94 #[.val (.int i0), .val (.int i1), .val (.int i2), .val (.int (1 : Int32)), .val (.int q46), .val (.int q47), .val (.int q48), .val (.int q49), .val (.ref b50), .val (.ref b60), .unset, .unset] [])) (fun _ kk => XS.astore W66.here hx rfl (hb hby at_92) rfl rfl (l' := #[.val (.int i0), .val (.int i1), .val (.int i2), .val (.int (1 : Int32)), .val (.int q46), .val (.int q47), .val (.int q48), .val (.int q49), .val (.ref b50), .val (.ref b60), .unset, .unset]) rfl kk) ?_
    refine Go.of (t' := T66.setTop (mkF m 96 #[.val (.int i0), .val (.int i1), .val (.int i2), .val (.int (1 : Int32)), .val (.int q46), .val (.int q47), .val (.int q48), .val (.int q49), .val (.ref b50), .val (.ref b60), .unset, .unset] [(.ref b50)])) (fun _ kk => XS.aload W66.here hx rfl (hb hby at_94) rfl rfl kk) ?_
    refine Go.of (t' := T66.setTop (mkF m 97 #[.val (.int i0), .val (.int i1), .val (.int i2), .val (.int (1 : Int32)), .val (.int q46), .val (.int q47), .val (.int q48), .val (.int q49), .val (.ref b50), .val (.ref b60), .unset, .unset] [(.int (1 : Int32)), (.ref b50)])) (fun _ kk => XS.iloadN W66.here hx rfl (hb hby at_96) rfl kk) ?_
    refine Go.of (t' := T66.setTop (mkF m 99 #[.val (.int i0), .val (.int i1), .val (.int i2), .val (.int (1 : Int32)), .val (.int q46), .val (.int q47), .val (.int q48), .val (.int q49), .val (.ref b50), .val (.ref b60), .unset, .unset] [(.ref b60), (.int (1 : Int32)), (.ref b50)])) (fun _ kk => XS.aload W66.here hx rfl (hb hby at_97) rfl rfl kk) ?_
    obtain ⟨t71, kb71, cd71, N71, vs71, E71, V71, C71, A71, R71⟩ := id S56
    have S71 : Str Z h66 b50 [q46, q47] := ⟨t71, kb71, cd71, N71, vs71, (((((E71.keep K60).keep K63).keep K64).keep K65).keep K66), (((((V71.keep K60 nin0).keep K63 nin0).keep K64 (ninS (ne_of_born (Nat.le_of_eq eb63.symm) E50.lt (Nat.le_trans (Nat.le_trans (Nat.le_trans (Nat.le_trans K53.1 K54.1) K55.1) K56.1) K60.1)) nin0)).keep K65 (ninS (ne_of_born (Nat.le_of_eq eb63.symm) E50.lt (Nat.le_trans (Nat.le_trans (Nat.le_trans (Nat.le_trans K53.1 K54.1) K55.1) K56.1) K60.1)) nin0)).keep K66 (ninS (ne_of_born (Nat.le_of_eq eb60.symm) E50.lt (Nat.le_trans (Nat.le_trans (Nat.le_trans K53.1 K54.1) K55.1) K56.1)) nin0)), (((((C71.keep K60 nin0).keep K63 nin0).keep K64 (ninS (ne_of_born (Nat.le_of_eq eb63.symm) E50.lt (Nat.le_trans (Nat.le_trans (Nat.le_trans (Nat.le_trans K53.1 K54.1) K55.1) K56.1) K60.1)) nin0)).keep K65 (ninS (ne_of_born (Nat.le_of_eq eb63.symm) E50.lt (Nat.le_trans (Nat.le_trans (Nat.le_trans (Nat.le_trans K53.1 K54.1) K55.1) K56.1) K60.1)) nin0)).keep K66 (ninS (ne_of_born (Nat.le_of_eq eb60.symm) E50.lt (Nat.le_trans (Nat.le_trans (Nat.le_trans K53.1 K54.1) K55.1) K56.1)) nin0)), (((((A71.keep K60 nin0).keep K63 nin0).keep K64 (ninS (ne_of_born (Nat.le_of_eq eb63.symm) A71.lt K60.1) nin0)).keep K65 (ninS (ne_of_born (Nat.le_of_eq eb63.symm) A71.lt K60.1) nin0)).keep K66 (ninS (ne_of_born (Nat.le_of_eq eb60.symm) A71.lt (Nat.le_refl _)) nin0)), R71⟩
    refine W66.callS hx hEL (hw _ (List.mem_of_getElem? (i := 30) rfl)) (hw _ (List.mem_of_getElem? (i := 31) rfl)) (hw _ (List.mem_of_getElem? (i := 32) rfl)) (hw _ (List.mem_of_getElem? (i := 33) rfl)) (by decide +kernel) (argsL := [(.ref b50), (.int (1 : Int32)), (.ref b60)]) (rest := []) (rm301 l Z a0 hw hEL zc SC hzc fm SF rfm b50 b60 q46 q47 q48 q49 h66 W66.old S71 S66 cq46 cq47 cq48 cq49) all0 (by decide +kernel) (Wd := 0) (by decide +kernel) (by decide +kernel) (by decide +kernel) all0 rfl (by rw [hml]; rfl) (lenOf pd17 rfl) rfl (by show 2 * 0 + _ ≤ _; exact Nat.le_of_eq rfl) (hb hby at_99) (fun T70 h70 v70 P70 Ws70 K70 q70 => ?_)
    have W70 := Ws70 [] all0
    obtain ⟨r70, rfl, lr70, S70⟩ := q70
    have gr70 : n0 ≤ r70 ∧ s.heap.size ≤ r70 := ⟨Nat.le_trans W66.n0le lr70, Nat.le_trans W66.s0le lr70⟩
    have E70 := S70.exa
    show Go p e below _ (T70.setTop (mkF m 102 #[.val (.int i0), .val (.int i1), .val (.int i2), .val (.int (1 : Int32)), .val (.int q46), .val (.int q47), .val (.int q48), .val (.int q49), .val (.ref b50), .val (.ref b60), .unset, .unset] [(.ref r70)]))
    refine Go.of (t' := T70.setTop (mkF m 104 #[.val (.int i0), .val (.int i1), .val (.int i2), .val (.int (1 : Int32)), .val (.int q46), .val (.int q47), .val (.int q48), .val (.int q49), .val (.ref b50), .val (.ref b60), .val (.ref r70), .unset] [])) (fun _ kk => XS.astore W70.here hx rfl (hb hby at_102) rfl rfl (l' := #[.val (.int i0), .val (.int i1), .val (.int i2), .val (.int (1 : Int32)), .val (.int q46), .val (.int q47), .val (.int q48), .val (.int q49), .val (.ref b50), .val (.ref b60), .val (.ref r70), .unset]) rfl kk) ?_
    refine Go.of (t' := T70.setTop (mkF m 105 #[.val (.int i0), .val (.int i1), .val (.int i2), .val (.int (1 : Int32)), .val (.int q46), .val (.int q47), .val (.int q48), .val (.int q49), .val (.ref b50), .val (.ref b60), .val (.ref r70), .unset] [(.int (1 : Int32))])) (fun _ kk => XS.iloadN W70.here hx rfl (hb hby at_104) rfl kk) ?_
    refine Go.of (t' := T70.setTop (mkF m 108 #[.val (.int i0), .val (.int i1), .val (.int i2), .val (.int (1 : Int32)), .val (.int q46), .val (.int q47), .val (.int q48), .val (.int q49), .val (.ref b50), .val (.ref b60), .val (.ref r70), .unset] [])) (fun _ kk => XS.ifNo W70.here hx rfl (hb hby at_105) rfl (XT.i0_eq_f (by decide +kernel)) kk) ?_
    refine Go.of (t' := T70.setTop (mkF m 110 #[.val (.int i0), .val (.int i1), .val (.int i2), .val (.int (1 : Int32)), .val (.int q46), .val (.int q47), .val (.int q48), .val (.int q49), .val (.ref b50), .val (.ref b60), .val (.ref r70), .unset] [(.int (13 : Int32))])) (fun _ kk => XS.bipush W70.here hx rfl (hb hby at_108) kk) ?_
    refine W70.newP hx (hw _ (List.mem_of_getElem? (i := 3) rfl)) rfl (hb hby at_110) rfl (by decide +kernel) (cap := 13) (by decide +kernel) (by decide +kernel) (by decide +kernel) (by decide +kernel) (fun T72 h72 b72 c72 eb72 gb72 W72 K72 A72 => ?_)
    have V72 : Arv Z h72 b72 c72 .char (13 : Int32) [(.int (0 : Int32)), (.int (0 : Int32)), (.int (0 : Int32)), (.int (0 : Int32)), (.int (0 : Int32)), (.int (0 : Int32)), (.int (0 : Int32)), (.int (0 : Int32)), (.int (0 : Int32)), (.int (0 : Int32)), (.int (0 : Int32)), (.int (0 : Int32)), (.int (0 : Int32))] (.int (0 : Int32)) := A72
    show Go p e below _ (T72.setTop (mkF m 112 #[.val (.int i0), .val (.int i1), .val (.int i2), .val (.int (1 : Int32)), .val (.int q46), .val (.int q47), .val (.int q48), .val (.int q49), .val (.ref b50), .val (.ref b60), .val (.ref r70), .unset] [(.ref b72)]))
    refine Go.of (t' := T72.setTop (mkF m 113 #[.val (.int i0), .val (.int i1), .val (.int i2), .val (.int (1 : Int32)), .val (.int q46), .val (.int q47), .val (.int q48), .val (.int q49), .val (.ref b50), .val (.ref b60), .val (.ref r70), .unset] [(.ref b72), (.ref b72)])) (fun _ kk => XS.dup W72.here hx rfl (hb hby at_112) rfl rfl kk) ?_
    refine Go.of (t' := T72.setTop (mkF m 114 #[.val (.int i0), .val (.int i1), .val (.int i2), .val (.int (1 : Int32)), .val (.int q46), .val (.int q47), .val (.int q48), .val (.int q49), .val (.ref b50), .val (.ref b60), .val (.ref r70), .unset] [(.int (0 : Int32)), (.ref b72), (.ref b72)])) (fun _ kk => XS.iconst W72.here hx rfl (hb hby at_113) kk) ?_
    refine Go.of (t' := T72.setTop (mkF m 116 #[.val (.int i0), .val (.int i1), .val (.int i2), .val (.int (1 : Int32)), .val (.int q46), .val (.int q47), .val (.int q48), .val (.int q49), .val (.ref b50), .val (.ref b60), .val (.ref r70), .unset] [(.int (47 : Int32)), (.int (0 : Int32)), (.ref b72), (.ref b72)])) (fun _ kk => XS.bipush W72.here hx rfl (hb hby at_114) kk) ?_
    refine W72.stC hx V72 ⟨by decide, by decide⟩ 0 rfl (Nat.le_of_ble_eq_true rfl) gb72.1 (Or.inr gb72.2) rfl rfl (hb hby at_116) (fun T73 h73 W73 K73 A73 => ?_)
    have V73 : Arv Z h73 b72 c72 .char (13 : Int32) [(.int (47 : Int32)), (.int (0 : Int32)), (.int (0 : Int32)), (.int (0 : Int32)), (.int (0 : Int32)), (.int (0 : Int32)), (.int (0 : Int32)), (.int (0 : Int32)), (.int (0 : Int32)), (.int (0 : Int32)), (.int (0 : Int32)), (.int (0 : Int32)), (.int (0 : Int32))] (.int (0 : Int32)) := A73
    show Go p e below _ (T73.setTop (mkF m 117 #[.val (.int i0), .val (.int i1), .val (.int i2), .val (.int (1 : Int32)), .val (.int q46), .val (.int q47), .val (.int q48), .val (.int q49), .val (.ref b50), .val (.ref b60), .val (.ref r70), .unset] [(.ref b72)]))
    refine Go.of (t' := T73.setTop (mkF m 118 #[.val (.int i0), .val (.int i1), .val (.int i2), .val (.int (1 : Int32)), .val (.int q46), .val (.int q47), .val (.int q48), .val (.int q49), .val (.ref b50), .val (.ref b60), .val (.ref r70), .unset] [(.ref b72), (.ref b72)])) (fun _ kk => XS.dup W73.here hx rfl (hb hby at_117) rfl rfl kk) ?_
    refine Go.of (t' := T73.setTop (mkF m 119 #[.val (.int i0), .val (.int i1), .val (.int i2), .val (.int (1 : Int32)), .val (.int q46), .val (.int q47), .val (.int q48), .val (.int q49), .val (.ref b50), .val (.ref b60), .val (.ref r70), .unset] [(.int (1 : Int32)), (.ref b72), (.ref b72)])) (fun _ kk => XS.iconst W73.here hx rfl (hb hby at_118) kk) ?_
    refine Go.of (t' := T73.setTop (mkF m 121 #[.val (.int i0), .val (.int i1), .val (.int i2), .val (.int (1 : Int32)), .val (.int q46), .val (.int q47), .val (.int q48), .val (.int q49), .val (.ref b50), .val (.ref b60), .val (.ref r70), .unset] [(.int (119 : Int32)), (.int (1 : Int32)), (.ref b72), (.ref b72)])) (fun _ kk => XS.bipush W73.here hx rfl (hb hby at_119) kk) ?_
    refine W73.stC hx V73 ⟨by decide, by decide⟩ 1 rfl (Nat.le_of_ble_eq_true rfl) gb72.1 (Or.inr gb72.2) rfl rfl (hb hby at_121) (fun T74 h74 W74 K74 A74 => ?_)
    have V74 : Arv Z h74 b72 c72 .char (13 : Int32) [(.int (47 : Int32)), (.int (119 : Int32)), (.int (0 : Int32)), (.int (0 : Int32)), (.int (0 : Int32)), (.int (0 : Int32)), (.int (0 : Int32)), (.int (0 : Int32)), (.int (0 : Int32)), (.int (0 : Int32)), (.int (0 : Int32)), (.int (0 : Int32)), (.int (0 : Int32))] (.int (0 : Int32)) := A74
    show Go p e below _ (T74.setTop (mkF m 122 #[.val (.int i0), .val (.int i1), .val (.int i2), .val (.int (1 : Int32)), .val (.int q46), .val (.int q47), .val (.int q48), .val (.int q49), .val (.ref b50), .val (.ref b60), .val (.ref r70), .unset] [(.ref b72)]))
    refine Go.of (t' := T74.setTop (mkF m 123 #[.val (.int i0), .val (.int i1), .val (.int i2), .val (.int (1 : Int32)), .val (.int q46), .val (.int q47), .val (.int q48), .val (.int q49), .val (.ref b50), .val (.ref b60), .val (.ref r70), .unset] [(.ref b72), (.ref b72)])) (fun _ kk => XS.dup W74.here hx rfl (hb hby at_122) rfl rfl kk) ?_
    refine Go.of (t' := T74.setTop (mkF m 124 #[.val (.int i0), .val (.int i1), .val (.int i2), .val (.int (1 : Int32)), .val (.int q46), .val (.int q47), .val (.int q48), .val (.int q49), .val (.ref b50), .val (.ref b60), .val (.ref r70), .unset] [(.int (2 : Int32)), (.ref b72), (.ref b72)])) (fun _ kk => XS.iconst W74.here hx rfl (hb hby at_123) kk) ?_
    refine Go.of (t' := T74.setTop (mkF m 126 #[.val (.int i0), .val (.int i1), .val (.int i2), .val (.int (1 : Int32)), .val (.int q46), .val (.int q47), .val (.int q48), .val (.int q49), .val (.ref b50), .val (.ref b60), .val (.ref r70), .unset] [(.int (101 : Int32)), (.int (2 : Int32)), (.ref b72), (.ref b72)])) (fun _ kk => XS.bipush W74.here hx rfl (hb hby at_124) kk) ?_
    refine W74.stC hx V74 ⟨by decide, by decide⟩ 2 rfl (Nat.le_of_ble_eq_true rfl) gb72.1 (Or.inr gb72.2) rfl rfl (hb hby at_126) (fun T75 h75 W75 K75 A75 => ?_)
    have V75 : Arv Z h75 b72 c72 .char (13 : Int32) [(.int (47 : Int32)), (.int (119 : Int32)), (.int (101 : Int32)), (.int (0 : Int32)), (.int (0 : Int32)), (.int (0 : Int32)), (.int (0 : Int32)), (.int (0 : Int32)), (.int (0 : Int32)), (.int (0 : Int32)), (.int (0 : Int32)), (.int (0 : Int32)), (.int (0 : Int32))] (.int (0 : Int32)) := A75
    show Go p e below _ (T75.setTop (mkF m 127 #[.val (.int i0), .val (.int i1), .val (.int i2), .val (.int (1 : Int32)), .val (.int q46), .val (.int q47), .val (.int q48), .val (.int q49), .val (.ref b50), .val (.ref b60), .val (.ref r70), .unset] [(.ref b72)]))
    refine Go.of (t' := T75.setTop (mkF m 128 #[.val (.int i0), .val (.int i1), .val (.int i2), .val (.int (1 : Int32)), .val (.int q46), .val (.int q47), .val (.int q48), .val (.int q49), .val (.ref b50), .val (.ref b60), .val (.ref r70), .unset] [(.ref b72), (.ref b72)])) (fun _ kk => XS.dup W75.here hx rfl (hb hby at_127) rfl rfl kk) ?_
    refine Go.of (t' := T75.setTop (mkF m 129 #[.val (.int i0), .val (.int i1), .val (.int i2), .val (.int (1 : Int32)), .val (.int q46), .val (.int q47), .val (.int q48), .val (.int q49), .val (.ref b50), .val (.ref b60), .val (.ref r70), .unset] [(.int (3 : Int32)), (.ref b72), (.ref b72)])) (fun _ kk => XS.iconst W75.here hx rfl (hb hby at_128) kk) ?_
    refine Go.of (t' := T75.setTop (mkF m 131 #[.val (.int i0), .val (.int i1), .val (.int i2), .val (.int (1 : Int32)), .val (.int q46), .val (.int q47), .val (.int q48), .val (.int q49), .val (.ref b50), .val (.ref b60), .val (.ref r70), .unset] [(.int (98 : Int32)), (.int (3 : Int32)), (.ref b72), (.ref b72)])) (fun _ kk => XS.bipush W75.here hx rfl (hb hby at_129) kk) ?_
    refine W75.stC hx V75 ⟨by decide, by decide⟩ 3 rfl (Nat.le_of_ble_eq_true rfl) gb72.1 (Or.inr gb72.2) rfl rfl (hb hby at_131) (fun T76 h76 W76 K76 A76 => ?_)
    have V76 : Arv Z h76 b72 c72 .char (13 : Int32) [(.int (47 : Int32)), (.int (119 : Int32)), (.int (101 : Int32)), (.int (98 : Int32)), (.int (0 : Int32)), (.int (0 : Int32)), (.int (0 : Int32)), (.int (0 : Int32)), (.int (0 : Int32)), (.int (0 : Int32)), (.int (0 : Int32)), (.int (0 : Int32)), (.int (0 : Int32))] (.int (0 : Int32)) := A76
    show Go p e below _ (T76.setTop (mkF m 132 #[.val (.int i0), .val (.int i1), .val (.int i2), .val (.int (1 : Int32)), .val (.int q46), .val (.int q47), .val (.int q48), .val (.int q49), .val (.ref b50), .val (.ref b60), .val (.ref r70), .unset] [(.ref b72)]))
    refine Go.of (t' := T76.setTop (mkF m 133 #[.val (.int i0), .val (.int i1), .val (.int i2), .val (.int (1 : Int32)), .val (.int q46), .val (.int q47), .val (.int q48), .val (.int q49), .val (.ref b50), .val (.ref b60), .val (.ref r70), .unset] [(.ref b72), (.ref b72)])) (fun _ kk => XS.dup W76.here hx rfl (hb hby at_132) rfl rfl kk) ?_
    refine Go.of (t' := T76.setTop (mkF m 134 #[.val (.int i0), .val (.int i1), .val (.int i2), .val (.int (1 : Int32)), .val (.int q46), .val (.int q47), .val (.int q48), .val (.int q49), .val (.ref b50), .val (.ref b60), .val (.ref r70), .unset] [(.int (4 : Int32)), (.ref b72), (.ref b72)])) (fun _ kk => XS.iconst W76.here hx rfl (hb hby at_133) kk) ?_
    refine Go.of (t' := T76.setTop (mkF m 136 #[.val (.int i0), .val (.int i1), .val (.int i2), .val (.int (1 : Int32)), .val (.int q46), .val (.int q47), .val (.int q48), .val (.int q49), .val (.ref b50), .val (.ref b60), .val (.ref r70), .unset] [(.int (47 : Int32)), (.int (4 : Int32)), (.ref b72), (.ref b72)])) (fun _ kk => XS.bipush W76.here hx rfl (hb hby at_134) kk) ?_
    refine W76.stC hx V76 ⟨by decide, by decide⟩ 4 rfl (Nat.le_of_ble_eq_true rfl) gb72.1 (Or.inr gb72.2) rfl rfl (hb hby at_136) (fun T77 h77 W77 K77 A77 => ?_)
    have V77 : Arv Z h77 b72 c72 .char (13 : Int32) [(.int (47 : Int32)), (.int (119 : Int32)), (.int (101 : Int32)), (.int (98 : Int32)), (.int (47 : Int32)), (.int (0 : Int32)), (.int (0 : Int32)), (.int (0 : Int32)), (.int (0 : Int32)), (.int (0 : Int32)), (.int (0 : Int32)), (.int (0 : Int32)), (.int (0 : Int32))] (.int (0 : Int32)) := A77
    show Go p e below _ (T77.setTop (mkF m 137 #[.val (.int i0), .val (.int i1), .val (.int i2), .val (.int (1 : Int32)), .val (.int q46), .val (.int q47), .val (.int q48), .val (.int q49), .val (.ref b50), .val (.ref b60), .val (.ref r70), .unset] [(.ref b72)]))
    refine Go.of (t' := T77.setTop (mkF m 138 #[.val (.int i0), .val (.int i1), .val (.int i2), .val (.int (1 : Int32)), .val (.int q46), .val (.int q47), .val (.int q48), .val (.int q49), .val (.ref b50), .val (.ref b60), .val (.ref r70), .unset] [(.ref b72), (.ref b72)])) (fun _ kk => XS.dup W77.here hx rfl (hb hby at_137) rfl rfl kk) ?_
    refine Go.of (t' := T77.setTop (mkF m 139 #[.val (.int i0), .val (.int i1), .val (.int i2), .val (.int (1 : Int32)), .val (.int q46), .val (.int q47), .val (.int q48), .val (.int q49), .val (.ref b50), .val (.ref b60), .val (.ref r70), .unset] [(.int (5 : Int32)), (.ref b72), (.ref b72)])) (fun _ kk => XS.iconst W77.here hx rfl (hb hby at_138) kk) ?_
    refine Go.of (t' := T77.setTop (mkF m 141 #[.val (.int i0), .val (.int i1), .val (.int i2), .val (.int (1 : Int32)), .val (.int q46), .val (.int q47), .val (.int q48), .val (.int q49), .val (.ref b50), .val (.ref b60), .val (.ref r70), .unset] [(.int q46), (.int (5 : Int32)), (.ref b72), (.ref b72)])) (fun _ kk => XS.iload W77.here hx rfl (hb hby at_139) rfl kk) ?_
    refine W77.stC hx V77 ⟨by decide, by decide⟩ 5 rfl (Nat.le_of_ble_eq_true rfl) gb72.1 (Or.inr gb72.2) rfl rfl (hb hby at_141) (fun T78 h78 W78 K78 A78 => ?_)
    have V78 : Arv Z h78 b72 c72 .char (13 : Int32) [(.int (47 : Int32)), (.int (119 : Int32)), (.int (101 : Int32)), (.int (98 : Int32)), (.int (47 : Int32)), (.int q46), (.int (0 : Int32)), (.int (0 : Int32)), (.int (0 : Int32)), (.int (0 : Int32)), (.int (0 : Int32)), (.int (0 : Int32)), (.int (0 : Int32))] (.int (0 : Int32)) := (by rw [(nar_char cq46)] at A78; exact A78)
    show Go p e below _ (T78.setTop (mkF m 142 #[.val (.int i0), .val (.int i1), .val (.int i2), .val (.int (1 : Int32)), .val (.int q46), .val (.int q47), .val (.int q48), .val (.int q49), .val (.ref b50), .val (.ref b60), .val (.ref r70), .unset] [(.ref b72)]))
    refine Go.of (t' := T78.setTop (mkF m 143 #[.val (.int i0), .val (.int i1), .val (.int i2), .val (.int (1 : Int32)), .val (.int q46), .val (.int q47), .val (.int q48), .val (.int q49), .val (.ref b50), .val (.ref b60), .val (.ref r70), .unset] [(.ref b72), (.ref b72)])) (fun _ kk => XS.dup W78.here hx rfl (hb hby at_142) rfl rfl kk) ?_
    refine Go.of (t' := T78.setTop (mkF m 145 #[.val (.int i0), .val (.int i1), .val (.int i2), .val (.int (1 : Int32)), .val (.int q46), .val (.int q47), .val (.int q48), .val (.int q49), .val (.ref b50), .val (.ref b60), .val (.ref r70), .unset] [(.int (6 : Int32)), (.ref b72), (.ref b72)])) (fun _ kk => XS.bipush W78.here hx rfl (hb hby at_143) kk) ?_
    refine Go.of (t' := T78.setTop (mkF m 147 #[.val (.int i0), .val (.int i1), .val (.int i2), .val (.int (1 : Int32)), .val (.int q46), .val (.int q47), .val (.int q48), .val (.int q49), .val (.ref b50), .val (.ref b60), .val (.ref r70), .unset] [(.int q47), (.int (6 : Int32)), (.ref b72), (.ref b72)])) (fun _ kk => XS.iload W78.here hx rfl (hb hby at_145) rfl kk) ?_
    refine W78.stC hx V78 ⟨by decide, by decide⟩ 6 rfl (Nat.le_of_ble_eq_true rfl) gb72.1 (Or.inr gb72.2) rfl rfl (hb hby at_147) (fun T79 h79 W79 K79 A79 => ?_)
    have V79 : Arv Z h79 b72 c72 .char (13 : Int32) [(.int (47 : Int32)), (.int (119 : Int32)), (.int (101 : Int32)), (.int (98 : Int32)), (.int (47 : Int32)), (.int q46), (.int q47), (.int (0 : Int32)), (.int (0 : Int32)), (.int (0 : Int32)), (.int (0 : Int32)), (.int (0 : Int32)), (.int (0 : Int32))] (.int (0 : Int32)) := (by rw [(nar_char cq47)] at A79; exact A79)
    show Go p e below _ (T79.setTop (mkF m 148 #[.val (.int i0), .val (.int i1), .val (.int i2), .val (.int (1 : Int32)), .val (.int q46), .val (.int q47), .val (.int q48), .val (.int q49), .val (.ref b50), .val (.ref b60), .val (.ref r70), .unset] [(.ref b72)]))
    refine Go.of (t' := T79.setTop (mkF m 149 #[.val (.int i0), .val (.int i1), .val (.int i2), .val (.int (1 : Int32)), .val (.int q46), .val (.int q47), .val (.int q48), .val (.int q49), .val (.ref b50), .val (.ref b60), .val (.ref r70), .unset] [(.ref b72), (.ref b72)])) (fun _ kk => XS.dup W79.here hx rfl (hb hby at_148) rfl rfl kk) ?_
    refine Go.of (t' := T79.setTop (mkF m 151 #[.val (.int i0), .val (.int i1), .val (.int i2), .val (.int (1 : Int32)), .val (.int q46), .val (.int q47), .val (.int q48), .val (.int q49), .val (.ref b50), .val (.ref b60), .val (.ref r70), .unset] [(.int (7 : Int32)), (.ref b72), (.ref b72)])) (fun _ kk => XS.bipush W79.here hx rfl (hb hby at_149) kk) ?_
    refine Go.of (t' := T79.setTop (mkF m 153 #[.val (.int i0), .val (.int i1), .val (.int i2), .val (.int (1 : Int32)), .val (.int q46), .val (.int q47), .val (.int q48), .val (.int q49), .val (.ref b50), .val (.ref b60), .val (.ref r70), .unset] [(.int (105 : Int32)), (.int (7 : Int32)), (.ref b72), (.ref b72)])) (fun _ kk => XS.bipush W79.here hx rfl (hb hby at_151) kk) ?_
    refine W79.stC hx V79 ⟨by decide, by decide⟩ 7 rfl (Nat.le_of_ble_eq_true rfl) gb72.1 (Or.inr gb72.2) rfl rfl (hb hby at_153) (fun T80 h80 W80 K80 A80 => ?_)
    have V80 : Arv Z h80 b72 c72 .char (13 : Int32) [(.int (47 : Int32)), (.int (119 : Int32)), (.int (101 : Int32)), (.int (98 : Int32)), (.int (47 : Int32)), (.int q46), (.int q47), (.int (105 : Int32)), (.int (0 : Int32)), (.int (0 : Int32)), (.int (0 : Int32)), (.int (0 : Int32)), (.int (0 : Int32))] (.int (0 : Int32)) := A80
    show Go p e below _ (T80.setTop (mkF m 154 #[.val (.int i0), .val (.int i1), .val (.int i2), .val (.int (1 : Int32)), .val (.int q46), .val (.int q47), .val (.int q48), .val (.int q49), .val (.ref b50), .val (.ref b60), .val (.ref r70), .unset] [(.ref b72)]))
    refine Go.of (t' := T80.setTop (mkF m 155 #[.val (.int i0), .val (.int i1), .val (.int i2), .val (.int (1 : Int32)), .val (.int q46), .val (.int q47), .val (.int q48), .val (.int q49), .val (.ref b50), .val (.ref b60), .val (.ref r70), .unset] [(.ref b72), (.ref b72)])) (fun _ kk => XS.dup W80.here hx rfl (hb hby at_154) rfl rfl kk) ?_
    refine Go.of (t' := T80.setTop (mkF m 157 #[.val (.int i0), .val (.int i1), .val (.int i2), .val (.int (1 : Int32)), .val (.int q46), .val (.int q47), .val (.int q48), .val (.int q49), .val (.ref b50), .val (.ref b60), .val (.ref r70), .unset] [(.int (8 : Int32)), (.ref b72), (.ref b72)])) (fun _ kk => XS.bipush W80.here hx rfl (hb hby at_155) kk) ?_
    refine Go.of (t' := T80.setTop (mkF m 159 #[.val (.int i0), .val (.int i1), .val (.int i2), .val (.int (1 : Int32)), .val (.int q46), .val (.int q47), .val (.int q48), .val (.int q49), .val (.ref b50), .val (.ref b60), .val (.ref r70), .unset] [(.int (100 : Int32)), (.int (8 : Int32)), (.ref b72), (.ref b72)])) (fun _ kk => XS.bipush W80.here hx rfl (hb hby at_157) kk) ?_
    refine W80.stC hx V80 ⟨by decide, by decide⟩ 8 rfl (Nat.le_of_ble_eq_true rfl) gb72.1 (Or.inr gb72.2) rfl rfl (hb hby at_159) (fun T81 h81 W81 K81 A81 => ?_)
    have V81 : Arv Z h81 b72 c72 .char (13 : Int32) [(.int (47 : Int32)), (.int (119 : Int32)), (.int (101 : Int32)), (.int (98 : Int32)), (.int (47 : Int32)), (.int q46), (.int q47), (.int (105 : Int32)), (.int (100 : Int32)), (.int (0 : Int32)), (.int (0 : Int32)), (.int (0 : Int32)), (.int (0 : Int32))] (.int (0 : Int32)) := A81
    show Go p e below _ (T81.setTop (mkF m 160 #[.val (.int i0), .val (.int i1), .val (.int i2), .val (.int (1 : Int32)), .val (.int q46), .val (.int q47), .val (.int q48), .val (.int q49), .val (.ref b50), .val (.ref b60), .val (.ref r70), .unset] [(.ref b72)]))
    refine Go.of (t' := T81.setTop (mkF m 161 #[.val (.int i0), .val (.int i1), .val (.int i2), .val (.int (1 : Int32)), .val (.int q46), .val (.int q47), .val (.int q48), .val (.int q49), .val (.ref b50), .val (.ref b60), .val (.ref r70), .unset] [(.ref b72), (.ref b72)])) (fun _ kk => XS.dup W81.here hx rfl (hb hby at_160) rfl rfl kk) ?_
    refine Go.of (t' := T81.setTop (mkF m 163 #[.val (.int i0), .val (.int i1), .val (.int i2), .val (.int (1 : Int32)), .val (.int q46), .val (.int q47), .val (.int q48), .val (.int q49), .val (.ref b50), .val (.ref b60), .val (.ref r70), .unset] [(.int (9 : Int32)), (.ref b72), (.ref b72)])) (fun _ kk => XS.bipush W81.here hx rfl (hb hby at_161) kk) ?_
    refine Go.of (t' := T81.setTop (mkF m 165 #[.val (.int i0), .val (.int i1), .val (.int i2), .val (.int (1 : Int32)), .val (.int q46), .val (.int q47), .val (.int q48), .val (.int q49), .val (.ref b50), .val (.ref b60), .val (.ref r70), .unset] [(.int (95 : Int32)), (.int (9 : Int32)), (.ref b72), (.ref b72)])) (fun _ kk => XS.bipush W81.here hx rfl (hb hby at_163) kk) ?_
    refine W81.stC hx V81 ⟨by decide, by decide⟩ 9 rfl (Nat.le_of_ble_eq_true rfl) gb72.1 (Or.inr gb72.2) rfl rfl (hb hby at_165) (fun T82 h82 W82 K82 A82 => ?_)
    have V82 : Arv Z h82 b72 c72 .char (13 : Int32) [(.int (47 : Int32)), (.int (119 : Int32)), (.int (101 : Int32)), (.int (98 : Int32)), (.int (47 : Int32)), (.int q46), (.int q47), (.int (105 : Int32)), (.int (100 : Int32)), (.int (95 : Int32)), (.int (0 : Int32)), (.int (0 : Int32)), (.int (0 : Int32))] (.int (0 : Int32)) := A82
    show Go p e below _ (T82.setTop (mkF m 166 #[.val (.int i0), .val (.int i1), .val (.int i2), .val (.int (1 : Int32)), .val (.int q46), .val (.int q47), .val (.int q48), .val (.int q49), .val (.ref b50), .val (.ref b60), .val (.ref r70), .unset] [(.ref b72)]))
    refine Go.of (t' := T82.setTop (mkF m 167 #[.val (.int i0), .val (.int i1), .val (.int i2), .val (.int (1 : Int32)), .val (.int q46), .val (.int q47), .val (.int q48), .val (.int q49), .val (.ref b50), .val (.ref b60), .val (.ref r70), .unset] [(.ref b72), (.ref b72)])) (fun _ kk => XS.dup W82.here hx rfl (hb hby at_166) rfl rfl kk) ?_
    refine Go.of (t' := T82.setTop (mkF m 169 #[.val (.int i0), .val (.int i1), .val (.int i2), .val (.int (1 : Int32)), .val (.int q46), .val (.int q47), .val (.int q48), .val (.int q49), .val (.ref b50), .val (.ref b60), .val (.ref r70), .unset] [(.int (10 : Int32)), (.ref b72), (.ref b72)])) (fun _ kk => XS.bipush W82.here hx rfl (hb hby at_167) kk) ?_
    refine Go.of (t' := T82.setTop (mkF m 171 #[.val (.int i0), .val (.int i1), .val (.int i2), .val (.int (1 : Int32)), .val (.int q46), .val (.int q47), .val (.int q48), .val (.int q49), .val (.ref b50), .val (.ref b60), .val (.ref r70), .unset] [(.int (47 : Int32)), (.int (10 : Int32)), (.ref b72), (.ref b72)])) (fun _ kk => XS.bipush W82.here hx rfl (hb hby at_169) kk) ?_
    refine W82.stC hx V82 ⟨by decide, by decide⟩ 10 rfl (Nat.le_of_ble_eq_true rfl) gb72.1 (Or.inr gb72.2) rfl rfl (hb hby at_171) (fun T83 h83 W83 K83 A83 => ?_)
    have V83 : Arv Z h83 b72 c72 .char (13 : Int32) [(.int (47 : Int32)), (.int (119 : Int32)), (.int (101 : Int32)), (.int (98 : Int32)), (.int (47 : Int32)), (.int q46), (.int q47), (.int (105 : Int32)), (.int (100 : Int32)), (.int (95 : Int32)), (.int (47 : Int32)), (.int (0 : Int32)), (.int (0 : Int32))] (.int (0 : Int32)) := A83
    show Go p e below _ (T83.setTop (mkF m 172 #[.val (.int i0), .val (.int i1), .val (.int i2), .val (.int (1 : Int32)), .val (.int q46), .val (.int q47), .val (.int q48), .val (.int q49), .val (.ref b50), .val (.ref b60), .val (.ref r70), .unset] [(.ref b72)]))
    refine Go.of (t' := T83.setTop (mkF m 173 #[.val (.int i0), .val (.int i1), .val (.int i2), .val (.int (1 : Int32)), .val (.int q46), .val (.int q47), .val (.int q48), .val (.int q49), .val (.ref b50), .val (.ref b60), .val (.ref r70), .unset] [(.ref b72), (.ref b72)])) (fun _ kk => XS.dup W83.here hx rfl (hb hby at_172) rfl rfl kk) ?_
    refine Go.of (t' := T83.setTop (mkF m 175 #[.val (.int i0), .val (.int i1), .val (.int i2), .val (.int (1 : Int32)), .val (.int q46), .val (.int q47), .val (.int q48), .val (.int q49), .val (.ref b50), .val (.ref b60), .val (.ref r70), .unset] [(.int (11 : Int32)), (.ref b72), (.ref b72)])) (fun _ kk => XS.bipush W83.here hx rfl (hb hby at_173) kk) ?_
    refine Go.of (t' := T83.setTop (mkF m 177 #[.val (.int i0), .val (.int i1), .val (.int i2), .val (.int (1 : Int32)), .val (.int q46), .val (.int q47), .val (.int q48), .val (.int q49), .val (.ref b50), .val (.ref b60), .val (.ref r70), .unset] [(.int q48), (.int (11 : Int32)), (.ref b72), (.ref b72)])) (fun _ kk => XS.iload W83.here hx rfl (hb hby at_175) rfl kk) ?_
    refine W83.stC hx V83 ⟨by decide, by decide⟩ 11 rfl (Nat.le_of_ble_eq_true rfl) gb72.1 (Or.inr gb72.2) rfl rfl (hb hby at_177) (fun T84 h84 W84 K84 A84 => ?_)
    have V84 : Arv Z h84 b72 c72 .char (13 : Int32) [(.int (47 : Int32)), (.int (119 : Int32)), (.int (101 : Int32)), (.int (98 : Int32)), (.int (47 : Int32)), (.int q46), (.int q47), (.int (105 : Int32)), (.int (100 : Int32)), (.int (95 : Int32)), (.int (47 : Int32)), (.int q48), (.int (0 : Int32))] (.int (0 : Int32)) := (by rw [(nar_char cq48)] at A84; exact A84)
    show Go p e below _ (T84.setTop (mkF m 178 #[.val (.int i0), .val (.int i1), .val (.int i2), .val (.int (1 : Int32)), .val (.int q46), .val (.int q47), .val (.int q48), .val (.int q49), .val (.ref b50), .val (.ref b60), .val (.ref r70), .unset] [(.ref b72)]))
    refine Go.of (t' := T84.setTop (mkF m 179 #[.val (.int i0), .val (.int i1), .val (.int i2), .val (.int (1 : Int32)), .val (.int q46), .val (.int q47), .val (.int q48), .val (.int q49), .val (.ref b50), .val (.ref b60), .val (.ref r70), .unset] [(.ref b72), (.ref b72)])) (fun _ kk => XS.dup W84.here hx rfl (hb hby at_178) rfl rfl kk) ?_
    refine Go.of (t' := T84.setTop (mkF m 181 #[.val (.int i0), .val (.int i1), .val (.int i2), .val (.int (1 : Int32)), .val (.int q46), .val (.int q47), .val (.int q48), .val (.int q49), .val (.ref b50), .val (.ref b60), .val (.ref r70), .unset] [(.int (12 : Int32)), (.ref b72), (.ref b72)])) (fun _ kk => XS.bipush W84.here hx rfl (hb hby at_179) kk) ?_
    refine Go.of (t' := T84.setTop (mkF m 183 #[.val (.int i0), .val (.int i1), .val (.int i2), .val (.int (1 : Int32)), .val (.int q46), .val (.int q47), .val (.int q48), .val (.int q49), .val (.ref b50), .val (.ref b60), .val (.ref r70), .unset] [(.int q49), (.int (12 : Int32)), (.ref b72), (.ref b72)])) (fun _ kk => XS.iload W84.here hx rfl (hb hby at_181) rfl kk) ?_
    refine W84.stC hx V84 ⟨by decide, by decide⟩ 12 rfl (Nat.le_of_ble_eq_true rfl) gb72.1 (Or.inr gb72.2) rfl rfl (hb hby at_183) (fun T85 h85 W85 K85 A85 => ?_)
    have V85 : Arv Z h85 b72 c72 .char (13 : Int32) [(.int (47 : Int32)), (.int (119 : Int32)), (.int (101 : Int32)), (.int (98 : Int32)), (.int (47 : Int32)), (.int q46), (.int q47), (.int (105 : Int32)), (.int (100 : Int32)), (.int (95 : Int32)), (.int (47 : Int32)), (.int q48), (.int q49)] (.int (0 : Int32)) := (by rw [(nar_char cq49)] at A85; exact A85)
    show Go p e below _ (T85.setTop (mkF m 184 #[.val (.int i0), .val (.int i1), .val (.int i2), .val (.int (1 : Int32)), .val (.int q46), .val (.int q47), .val (.int q48), .val (.int q49), .val (.ref b50), .val (.ref b60), .val (.ref r70), .unset] [(.ref b72)]))
    refine Go.of (t' := T85.setTop (mkF m 186 #[.val (.int i0), .val (.int i1), .val (.int i2), .val (.int (1 : Int32)), .val (.int q46), .val (.int q47), .val (.int q48), .val (.int q49), .val (.ref b50), .val (.ref b60), .val (.ref r70), .val (.ref b72)] [])) (fun _ kk => XS.astore W85.here hx rfl (hb hby at_184) rfl rfl (l' := #[.val (.int i0), .val (.int i1), .val (.int i2), .val (.int (1 : Int32)), .val (.int q46), .val (.int q47), .val (.int q48), .val (.int q49), .val (.ref b50), .val (.ref b60), .val (.ref r70), .val (.ref b72)]) rfl kk) ?_
    refine Go.of (t' := T85.setTop (mkF m 249 #[.val (.int i0), .val (.int i1), .val (.int i2), .val (.int (1 : Int32)), .val (.int q46), .val (.int q47), .val (.int q48), .val (.int q49), .val (.ref b50), .val (.ref b60), .val (.ref r70), .val (.ref b72)] [])) (fun _ kk => XS.goto W85.here hx rfl (pc0 := 186) (pc' := 249) rfl (hb hby at_186) (by decide +kernel) (by decide +kernel) kk) ?_
    refine Go.of (t' := T85.setTop (mkF m 251 #[.val (.int i0), .val (.int i1), .val (.int i2), .val (.int (1 : Int32)), .val (.int q46), .val (.int q47), .val (.int q48), .val (.int q49), .val (.ref b50), .val (.ref b60), .val (.ref r70), .val (.ref b72)] [(.ref r70)])) (fun _ kk => XS.aload W85.here hx rfl (hb hby at_249) rfl rfl kk) ?_
    refine W85.newO hx (hw _ (List.mem_of_getElem? (i := 0) rfl)) (hw _ (List.mem_of_getElem? (i := 1) rfl)) (hw _ (List.mem_of_getElem? (i := 2) rfl)) rfl (hb hby at_251) (by decide +kernel) (by decide +kernel) (fun T86 h86 b86 eb86 gb86 W86 K86 E86 D86 => ?_)
    have k87 : Fld Z h86 b86 "java/lang/String" "coder" "B" (.int (0 : Int32)) := D86 (Or.inr (hw _ (List.mem_of_getElem? (i := 27) rfl))) (ty := .byte) (by decide +kernel)
    have k88 : Fld Z h86 b86 "java/lang/String" "value" "[B" .null := D86 (Or.inr (hw _ (List.mem_of_getElem? (i := 29) rfl))) (ty := (.array .byte)) (by decide +kernel)
    show Go p e below _ (T86.setTop (mkF m 254 #[.val (.int i0), .val (.int i1), .val (.int i2), .val (.int (1 : Int32)), .val (.int q46), .val (.int q47), .val (.int q48), .val (.int q49), .val (.ref b50), .val (.ref b60), .val (.ref r70), .val (.ref b72)] [(.ref b86), (.ref r70)]))
    refine Go.of (t' := T86.setTop (mkF m 255 #[.val (.int i0), .val (.int i1), .val (.int i2), .val (.int (1 : Int32)), .val (.int q46), .val (.int q47), .val (.int q48), .val (.int q49), .val (.ref b50), .val (.ref b60), .val (.ref r70), .val (.ref b72)] [(.ref b86), (.ref b86), (.ref r70)])) (fun _ kk => XS.dup W86.here hx rfl (hb hby at_254) rfl rfl kk) ?_
    refine Go.of (t' := T86.setTop (mkF m 257 #[.val (.int i0), .val (.int i1), .val (.int i2), .val (.int (1 : Int32)), .val (.int q46), .val (.int q47), .val (.int q48), .val (.int q49), .val (.ref b50), .val (.ref b60), .val (.ref r70), .val (.ref b72)] [(.ref b72), (.ref b86), (.ref b86), (.ref r70)])) (fun _ kk => XS.aload W86.here hx rfl (hb hby at_255) rfl rfl kk) ?_
    have k90 := (V85.keep K86 nin0)
    refine W86.newStr hx hws (hw _ (List.mem_of_getElem? (i := 1) rfl)) SC hzc (hw _ (List.mem_of_getElem? (i := 4) rfl)) (hw _ (List.mem_of_getElem? (i := 5) rfl)) (hw _ (List.mem_of_getElem? (i := 6) rfl)) E86 k88 k87 (cs := [(47 : Int32), (119 : Int32), (101 : Int32), (98 : Int32), (47 : Int32), q46, q47, (105 : Int32), (100 : Int32), (95 : Int32), (47 : Int32), q48, q49]) (n := 13) k90 rfl rfl (by decide +kernel) (by decide +kernel) (allSi ⟨by decide, by decide⟩ (allSi ⟨by decide, by decide⟩ (allSi ⟨by decide, by decide⟩ (allSi ⟨by decide, by decide⟩ (allSi ⟨by decide, by decide⟩ (allSi cq46 (allSi cq47 (allSi ⟨by decide, by decide⟩ (allSi ⟨by decide, by decide⟩ (allSi ⟨by decide, by decide⟩ (allSi ⟨by decide, by decide⟩ (allSi cq48 (allSi cq49 all0i))))))))))))) gb86.1 (Or.inr gb86.2) (List.mem_of_getElem? (i := 0) rfl) (by decide +kernel) (Wd := 2) (by decide +kernel) (by decide +kernel) (by decide +kernel) rfl (by rw [hml]; rfl) rfl (by show 2 * 0 + _ ≤ _; exact Nat.le_of_eq rfl) (hb hby at_257) (fun T89 h89 W89 K89 S89 => ?_)
    show Go p e below _ (T89.setTop (mkF m 260 #[.val (.int i0), .val (.int i1), .val (.int i2), .val (.int (1 : Int32)), .val (.int q46), .val (.int q47), .val (.int q48), .val (.int q49), .val (.ref b50), .val (.ref b60), .val (.ref r70), .val (.ref b72)] [(.ref b86), (.ref r70)]))
    obtain ⟨t92, kb92, cd92, N92, vs92, E92, V92, C92, A92, R92⟩ := id S70
    have S92 : Str Z h89 r70 [(47 : Int32), (119 : Int32), (101 : Int32), (98 : Int32), (47 : Int32), q46, q47, (105 : Int32), (100 : Int32), (95 : Int32), (47 : Int32), q48, q49] := ⟨t92, kb92, cd92, N92, vs92, ((((((((((((((((E92.keep K72).keep K73).keep K74).keep K75).keep K76).keep K77).keep K78).keep K79).keep K80).keep K81).keep K82).keep K83).keep K84).keep K85).keep K86).keep K89), ((((((((((((((((V92.keep K72 nin0).keep K73 (ninS (ne_of_born (Nat.le_of_eq eb72.symm) E70.lt (Nat.le_refl _)) nin0)).keep K74 (ninS (ne_of_born (Nat.le_of_eq eb72.symm) E70.lt (Nat.le_refl _)) nin0)).keep K75 (ninS (ne_of_born (Nat.le_of_eq eb72.symm) E70.lt (Nat.le_refl _)) nin0)).keep K76 (ninS (ne_of_born (Nat.le_of_eq eb72.symm) E70.lt (Nat.le_refl _)) nin0)).keep K77 (ninS (ne_of_born (Nat.le_of_eq eb72.symm) E70.lt (Nat.le_refl _)) nin0)).keep K78 (ninS (ne_of_born (Nat.le_of_eq eb72.symm) E70.lt (Nat.le_refl _)) nin0)).keep K79 (ninS (ne_of_born (Nat.le_of_eq eb72.symm) E70.lt (Nat.le_refl _)) nin0)).keep K80 (ninS (ne_of_born (Nat.le_of_eq eb72.symm) E70.lt (Nat.le_refl _)) nin0)).keep K81 (ninS (ne_of_born (Nat.le_of_eq eb72.symm) E70.lt (Nat.le_refl _)) nin0)).keep K82 (ninS (ne_of_born (Nat.le_of_eq eb72.symm) E70.lt (Nat.le_refl _)) nin0)).keep K83 (ninS (ne_of_born (Nat.le_of_eq eb72.symm) E70.lt (Nat.le_refl _)) nin0)).keep K84 (ninS (ne_of_born (Nat.le_of_eq eb72.symm) E70.lt (Nat.le_refl _)) nin0)).keep K85 (ninS (ne_of_born (Nat.le_of_eq eb72.symm) E70.lt (Nat.le_refl _)) nin0)).keep K86 nin0).keep K89 (ninS (ne_of_born (Nat.le_of_eq eb86.symm) E70.lt (Nat.le_trans (Nat.le_trans (Nat.le_trans (Nat.le_trans (Nat.le_trans (Nat.le_trans (Nat.le_trans (Nat.le_trans (Nat.le_trans (Nat.le_trans (Nat.le_trans (Nat.le_trans (Nat.le_trans K72.1 K73.1) K74.1) K75.1) K76.1) K77.1) K78.1) K79.1) K80.1) K81.1) K82.1) K83.1) K84.1) K85.1)) nin0)), ((((((((((((((((C92.keep K72 nin0).keep K73 (ninS (ne_of_born (Nat.le_of_eq eb72.symm) E70.lt (Nat.le_refl _)) nin0)).keep K74 (ninS (ne_of_born (Nat.le_of_eq eb72.symm) E70.lt (Nat.le_refl _)) nin0)).keep K75 (ninS (ne_of_born (Nat.le_of_eq eb72.symm) E70.lt (Nat.le_refl _)) nin0)).keep K76 (ninS (ne_of_born (Nat.le_of_eq eb72.symm) E70.lt (Nat.le_refl _)) nin0)).keep K77 (ninS (ne_of_born (Nat.le_of_eq eb72.symm) E70.lt (Nat.le_refl _)) nin0)).keep K78 (ninS (ne_of_born (Nat.le_of_eq eb72.symm) E70.lt (Nat.le_refl _)) nin0)).keep K79 (ninS (ne_of_born (Nat.le_of_eq eb72.symm) E70.lt (Nat.le_refl _)) nin0)).keep K80 (ninS (ne_of_born (Nat.le_of_eq eb72.symm) E70.lt (Nat.le_refl _)) nin0)).keep K81 (ninS (ne_of_born (Nat.le_of_eq eb72.symm) E70.lt (Nat.le_refl _)) nin0)).keep K82 (ninS (ne_of_born (Nat.le_of_eq eb72.symm) E70.lt (Nat.le_refl _)) nin0)).keep K83 (ninS (ne_of_born (Nat.le_of_eq eb72.symm) E70.lt (Nat.le_refl _)) nin0)).keep K84 (ninS (ne_of_born (Nat.le_of_eq eb72.symm) E70.lt (Nat.le_refl _)) nin0)).keep K85 (ninS (ne_of_born (Nat.le_of_eq eb72.symm) E70.lt (Nat.le_refl _)) nin0)).keep K86 nin0).keep K89 (ninS (ne_of_born (Nat.le_of_eq eb86.symm) E70.lt (Nat.le_trans (Nat.le_trans (Nat.le_trans (Nat.le_trans (Nat.le_trans (Nat.le_trans (Nat.le_trans (Nat.le_trans (Nat.le_trans (Nat.le_trans (Nat.le_trans (Nat.le_trans (Nat.le_trans K72.1 K73.1) K74.1) K75.1) K76.1) K77.1) K78.1) K79.1) K80.1) K81.1) K82.1) K83.1) K84.1) K85.1)) nin0)), ((((((((((((((((A92.keep K72 nin0).keep K73 (ninS (ne_of_born (Nat.le_of_eq eb72.symm) A92.lt (Nat.le_refl _)) nin0)).keep K74 (ninS (ne_of_born (Nat.le_of_eq eb72.symm) A92.lt (Nat.le_refl _)) nin0)).keep K75 (ninS (ne_of_born (Nat.le_of_eq eb72.symm) A92.lt (Nat.le_refl _)) nin0)).keep K76 (ninS (ne_of_born (Nat.le_of_eq eb72.symm) A92.lt (Nat.le_refl _)) nin0)).keep K77 (ninS (ne_of_born (Nat.le_of_eq eb72.symm) A92.lt (Nat.le_refl _)) nin0)).keep K78 (ninS (ne_of_born (Nat.le_of_eq eb72.symm) A92.lt (Nat.le_refl _)) nin0)).keep K79 (ninS (ne_of_born (Nat.le_of_eq eb72.symm) A92.lt (Nat.le_refl _)) nin0)).keep K80 (ninS (ne_of_born (Nat.le_of_eq eb72.symm) A92.lt (Nat.le_refl _)) nin0)).keep K81 (ninS (ne_of_born (Nat.le_of_eq eb72.symm) A92.lt (Nat.le_refl _)) nin0)).keep K82 (ninS (ne_of_born (Nat.le_of_eq eb72.symm) A92.lt (Nat.le_refl _)) nin0)).keep K83 (ninS (ne_of_born (Nat.le_of_eq eb72.symm) A92.lt (Nat.le_refl _)) nin0)).keep K84 (ninS (ne_of_born (Nat.le_of_eq eb72.symm) A92.lt (Nat.le_refl _)) nin0)).keep K85 (ninS (ne_of_born (Nat.le_of_eq eb72.symm) A92.lt (Nat.le_refl _)) nin0)).keep K86 nin0).keep K89 (ninS (ne_of_born (Nat.le_of_eq eb86.symm) A92.lt (Nat.le_trans (Nat.le_trans (Nat.le_trans (Nat.le_trans (Nat.le_trans (Nat.le_trans (Nat.le_trans (Nat.le_trans (Nat.le_trans (Nat.le_trans (Nat.le_trans (Nat.le_trans (Nat.le_trans K72.1 K73.1) K74.1) K75.1) K76.1) K77.1) K78.1) K79.1) K80.1) K81.1) K82.1) K83.1) K84.1) K85.1)) nin0)), R92⟩
    refine W89.strEq hx heq (hw _ (List.mem_of_getElem? (i := 1) rfl)) SC hzc S92 S89 (hw _ (List.mem_of_getElem? (i := 149) rfl)) (hw _ (List.mem_of_getElem? (i := 150) rfl)) (hw _ (List.mem_of_getElem? (i := 152) rfl)) (hw _ (List.mem_of_getElem? (i := 151) rfl)) (by decide +kernel) (Wd := 0) (by decide +kernel) (by decide +kernel) (by decide +kernel) rfl (by rw [hml]; rfl) rfl (by show 2 * 0 + _ ≤ _; exact Nat.le_of_eq rfl) (hb hby at_260) (fun T91 z91 hz91 W91 => ?_)
    obtain ⟨rfl, -⟩ | ⟨-, hn91⟩ := hz91
    case inr => exact absurd rfl hn91
    show Go p e below _ (T91.setTop (mkF m 263 #[.val (.int i0), .val (.int i1), .val (.int i2), .val (.int (1 : Int32)), .val (.int q46), .val (.int q47), .val (.int q48), .val (.int q49), .val (.ref b50), .val (.ref b60), .val (.ref r70), .val (.ref b72)] [(.int (1 : Int32))]))
    exact W91.retI hx hEL hs hlk (by decide +kernel) (by decide +kernel) hret (by simp) rfl (hb hby at_263) (fun S hS => rfl)
set_option maxRecDepth 65536 in
set_option maxHeartbeats 40000000 in
theorem comes_1 {Post : Tables → Env → Array Value → State → Outcome → State → Prop} (hpost : ∀ tb e args s v u, (limb_1_1.after args s (.returned v) u = true ∧ limb_1_2.after args s (.returned v) u = true ∧ True) → FramedW s (.returned v) u (Jvm.fieldLocs frame_1_writes args s ++ Jvm.arrayLocs frame_1_arrays args s ++ Jvm.staticLocs frame_1_statics s) 48 4352 → Post tb e args s (.returned v) u) :
    ArmFor flags0 classFile x code maxLocals ret World_1 tables_1 room_1 Calls_1 rest_1 Pre_1 Post := by
  intro l hfl _ _ p e ha hc hk s m args below hf hA hF happ hP
  obtain ⟨hcalls, hrest, hpre⟩ := hP
  obtain ⟨-, -, -, hnamed, -, -, -, hat⟩ := (Spec.applies_iff hf).mp happ
  obtain ⟨hg, hn⟩ := and_e (Cond.before_iff.mp (show (Jvm.Cond.and given_1 narrow_1).before args s = true from hpre))
  obtain ⟨hy0, hz0⟩ := and_e hg
  obtain ⟨hy1, hz1⟩ := and_e hz0
  obtain ⟨hy2, hz2⟩ := and_e hz1
  obtain ⟨w0, w1, w2, rfl⟩ : ∃ w0 w1 w2 : Value, args = #[w0, w1, w2] := by
    have hs : args.size = 3 := by simpa [Cond.value, given_1] using hy0
    obtain ⟨L⟩ := args
    match L, hs with
    | [w0, w1, w2], _ => exact ⟨w0, w1, w2, rfl⟩
  have hw := fun d (hd : d ∈ tables_1) => atoms_spec (ws := Jvm.Cond.code x code maxLocals ret :: tables_1) hat d (List.mem_cons_of_mem _ hd)
  obtain ⟨hsets, hown0⟩ := atoms_of _ (rest_1_c_eq ▸ (show rest_1_c.before _ s = true from hrest))
  have hfit : Fit s := fun {y c} hc i hi => by
    obtain ⟨ha, rfl⟩ := Array.getElem?_eq_some_iff.mp hc
    have q := List.all_eq_true.mp ((Array.all_eq_true_iff_forall_mem.mp hF) _ (Array.getElem_mem ha)) i (List.mem_range.mpr hi)
    simpa [Array.getElem?_eq_getElem hi] using q
  have nzc := not_v (Cond.before_iff.mp (hsets _ (List.mem_of_getElem? (i := 2) rfl)))
  obtain ⟨i0, ei0⟩ := is_v hy1
  obtain rfl : w0 = (.int i0) := Option.some.inj ei0
  obtain ⟨i1, ei1⟩ := is_v hy2
  obtain rfl : w1 = (.int i1) := Option.some.inj ei1
  obtain ⟨i2, ei2⟩ := is_v hz2
  obtain rfl : w2 = (.int i2) := Option.some.inj ei2
  obtain ⟨zc, ezc⟩ := is_v (Cond.before_iff.mp (hsets _ (List.mem_of_getElem? (i := 1) rfl)))
  have SC : Sta s s.heap "java/lang/String" "COMPACT_STRINGS" "Z" (.int zc) := Sta.start ezc (Or.inl (hsets _ (List.mem_of_getElem? (i := 0) rfl)))
  obtain ⟨fm, efm, rfm⟩ := isR_v (Cond.before_iff.mp (hsets _ (List.mem_of_getElem? (i := 8) rfl)))
  have SF : Sta s s.heap "jdk/internal/util/Preconditions" "SIOOBE_FORMATTER" "Ljava/util/function/BiFunction;" fm := Sta.start efm (Or.inl (hsets _ (List.mem_of_getElem? (i := 7) rfl)))
  have hzc : ¬ (zc = (0 : Int32)) := gotF (Cond.eq_ints ezc (Term.int_eval (0))) nzc
  have hEL : EW s #[(.int i0), (.int i1), (.int i2)] EL0 := (EW.cons (hw _ (List.mem_of_getElem? (i := 52) rfl)) (by decide +kernel) (EW.cons (hw _ (List.mem_of_getElem? (i := 159) rfl)) (by decide +kernel) (EW.cons (hw _ (List.mem_of_getElem? (i := 102) rfl)) (by decide +kernel) (EW.cons (hw _ (List.mem_of_getElem? (i := 103) rfl)) (by decide +kernel) EW.nil))))
  have hCH : CHv s EL0 s.vm s.heap := CHv.start hEL (fun q hq => hcalls.1 q hq) (hsets _ (List.mem_of_getElem? (i := 2) rfl)) (hw _ (List.mem_of_getElem? (i := 19) rfl)) (hw _ (List.mem_of_getElem? (i := 1) rfl))
  obtain ⟨n, o, h1, h2, h3, _, L, rfl, ⟨q1, N, K⟩, -, hq1, hq2, hq3, hq4⟩ := rm0 l s _ hw hEL zc SC hzc fm SF rfm i0 i1 i2 s.heap (Old.start s)  p e ha hc hk s m _ below hf ((Spec.applies_iff_loose hf).mp happ).1 ⟨rfl, State.Warmed39.refl s, rfl, hCH, all0⟩ trivial
  cases q1
  refine ⟨n, _, h1, h2, h3, hpost _ _ _ _ _ _ ⟨Cond.after_iff.mpr rfl, Cond.after_iff.mpr (eq_i res_at (Term.int_eval (1)) rfl), trivial⟩ ⟨hq1, hq2, hq3, (hq4.sift fun y hy => Or.inr (N y hy)).mono (by decide +kernel) (by decide +kernel)⟩⟩
theorem main_1_1 : Claimed_1_1 := comes_1 fun _ _ _ _ _ _ h hF => ⟨h.1, hF⟩
theorem main_1_2 : Claimed_1_2 := comes_1 fun _ _ _ _ _ _ h hF => ⟨h.2.1, hF⟩
end Jvm.Pilot.@@N@@
namespace Jvm.Pilot.@@N@@
open Jvm Jvm.ClassFile Sem Op Lib Jvm.Free Jvm.Stand Jvm.Pilot.@@N@@.Jvm.D
/-! MADE BY PROGRAM (witnessworld.py) out of the Statement's table words and the real class files: 26 classes; the members and pool entries that the words name. The judged class is class 1, her method 1. -/
namespace start1
open Jvm.ClassFile
def u (s : String) : CpInfo := .utf8 (stringToUtf16 s)
/-- a pool by its gaps: so many unusable entries, then the entry; so many at the end -/
def gap : Nat → List CpInfo → List CpInfo
  | 0, r => r
  | n + 1, r => .unusable :: gap n r
def poolList (es : List (Nat × CpInfo)) (last : Nat) : List CpInfo := es.foldr (fun e r => gap e.1 (e.2 :: r)) (gap last [])
def pool (es : List (Nat × CpInfo)) (last : Nat) : Array CpInfo := ⟨poolList es last⟩
def fileOf (pool : Array CpInfo) (this : Nat) (attrs : Array Attribute := #[]) (ms : Array MethodInfo := #[]) (fl : Nat := 33) (sup : Nat := 0) (ifs : Array Nat := #[]) (fds : Array FieldInfo := #[]) : ClassFile where
  minorVersion := 0
  majorVersion := 65
  constantPool := pool
  accessFlags := fl
  thisClass := this
  superClass := sup
  interfaces := ifs
  fields := fds
  methods := ms
  attributes := attrs
def plain (name : String) (sup : Option ClassId) : Class where
  name := name
  kind := .ordinary
  loader := none
  accessFlags := 33
  super := sup
  interfaces := #[]
  cf := none
  fields := #[]
  methods := #[]
  instanceTypes := #[]
  staticTypes := #[]
  resolved := #[]
  callSites := []
  init := .initialized
  statics := none
  mirror := none

def pool0 : Array CpInfo := pool [(5, u "<init>"), (0, u "()V"), (1, .class_ 10), (1, u "java/lang/Object")] 113

def k0c0 : Code := { maxStack := 0, maxLocals := 1, code := object_method_1_code, exceptionTable := #[], attributes := #[] }
def k0m0 : Method := { name := "<init>", desc := "()V", sig := { parameters := [], returnType := none }, accessFlags := 1, code := some k0c0 }
/-- java/lang/Object -/
def k0 : Class := { plain "java/lang/Object" none with
  accessFlags := 33
  interfaces := #[]
  cf := some (fileOf pool0 8 #[] #[{ accessFlags := 1, nameIndex := 5, descriptorIndex := 6, attributes := #[] }] 33 0 #[] #[])
  fields := #[]
  methods := #[k0m0]
  instanceTypes := #[]
  staticTypes := #[]
  resolved := Array.replicate 124 none
  statics := none }

def pool1 : Array CpInfo := pool [(2, .class_ 4), (1, u "java/lang/Object"), (0, u "<init>"), (0, u "()V"), (0, .class_ 8), (0, u "java/lang/String"), (0, .methodref 7 10), (0, .nameAndType 5 11), (0, u "([C)V"), (0, .methodref 13 14), (0, .class_ 15), (0, .nameAndType 16 17), (0, u "com/example/frontier/frontier/replay/ReplayPath"), (0, u "of"), (0, u "(Ljava/lang/String;ZLjava/lang/String;)Ljava/lang/String;"), (0, .methodref 7 19), (0, .nameAndType 20 21), (0, u "equals"), (0, u "(Ljava/lang/Object;)Z"), (0, .class_ 23), (0, u "com/example/frontier/frontier/replay/ReplayPathOfPinLaw"), (2, u "law"), (0, u "(III)Z")] 5

def k1m0 : Method := { name := "<init>", desc := "()V", sig := { parameters := [], returnType := none }, accessFlags := 1, code := none }
def k1c1 : Code := { maxStack := 6, maxLocals := 12, code := code, exceptionTable := #[], attributes := #[] }
def k1m1 : Method := { name := "law", desc := "(III)Z", sig := { parameters := [.int, .int, .int], returnType := some .boolean }, accessFlags := 9, code := some k1c1 }
/-- com/example/frontier/frontier/replay/ReplayPathOfPinLaw -/
def k1 : Class := { plain "com/example/frontier/frontier/replay/ReplayPathOfPinLaw" (some 0) with
  accessFlags := 49
  interfaces := #[]
  cf := some (fileOf pool1 22 #[] #[{ accessFlags := 1, nameIndex := 5, descriptorIndex := 6, attributes := #[] }, { accessFlags := 9, nameIndex := 26, descriptorIndex := 27, attributes := #[] }] 49 2 #[] #[])
  fields := #[]
  methods := #[k1m0, k1m1]
  instanceTypes := #[]
  staticTypes := #[]
  resolved := Array.replicate 33 none
  statics := none }

def pool2 : Array CpInfo := pool [(1, .class_ 2), (0, u "java/io/Serializable"), (0, .class_ 4), (0, u "java/lang/Object")] 2

/-- java/io/Serializable -/
def k2 : Class := { plain "java/io/Serializable" (some 0) with
  accessFlags := 1537
  interfaces := #[]
  cf := some (fileOf pool2 1 #[] #[] 1537 3 #[] #[])
  fields := #[]
  methods := #[]
  instanceTypes := #[]
  staticTypes := #[]
  resolved := Array.replicate 7 none
  statics := none }

def pool3 : Array CpInfo := pool [(1, .class_ 2), (0, u "java/lang/Comparable"), (0, .class_ 4), (0, u "java/lang/Object")] 7

/-- java/lang/Comparable -/
def k3 : Class := { plain "java/lang/Comparable" (some 0) with
  accessFlags := 1537
  interfaces := #[]
  cf := some (fileOf pool3 1 #[] #[] 1537 3 #[] #[])
  fields := #[]
  methods := #[]
  instanceTypes := #[]
  staticTypes := #[]
  resolved := Array.replicate 12 none
  statics := none }

def pool4 : Array CpInfo := pool [(2, .class_ 4), (1, u "java/lang/CharSequence"), (42, .class_ 48), (0, u "java/lang/CharSequence$1CodePointIterator"), (10, .class_ 60), (0, u "java/lang/CharSequence$1CharIterator"), (5, .class_ 67), (0, u "java/lang/Object")] 63

/-- java/lang/CharSequence -/
def k4 : Class := { plain "java/lang/CharSequence" (some 0) with
  accessFlags := 1537
  interfaces := #[]
  cf := some (fileOf pool4 2 #[.nestMembers #[47, 59]] #[] 1537 66 #[] #[])
  fields := #[]
  methods := #[]
  instanceTypes := #[]
  staticTypes := #[]
  resolved := Array.replicate 131 none
  statics := none }

def pool5 : Array CpInfo := pool [(1, .class_ 2), (0, u "java/lang/constant/Constable"), (0, .class_ 4), (0, u "java/lang/Object")] 6

/-- java/lang/constant/Constable -/
def k5 : Class := { plain "java/lang/constant/Constable" (some 0) with
  accessFlags := 1537
  interfaces := #[]
  cf := some (fileOf pool5 1 #[] #[] 1537 3 #[] #[])
  fields := #[]
  methods := #[]
  instanceTypes := #[]
  staticTypes := #[]
  resolved := Array.replicate 11 none
  statics := none }

def pool6 : Array CpInfo := pool [(1, .class_ 2), (0, u "java/lang/constant/ConstantDesc"), (0, .class_ 4), (0, u "java/lang/Object")] 32

/-- java/lang/constant/ConstantDesc -/
def k6 : Class := { plain "java/lang/constant/ConstantDesc" (some 0) with
  accessFlags := 1537
  interfaces := #[]
  cf := some (fileOf pool6 1 #[] #[] 1537 3 #[] #[])
  fields := #[]
  methods := #[]
  instanceTypes := #[]
  staticTypes := #[]
  resolved := Array.replicate 37 none
  statics := none }

def pool7 : Array CpInfo := pool [(1, .methodref 2 3), (0, .class_ 4), (0, .nameAndType 5 6), (0, u "java/lang/Object"), (0, u "<init>"), (0, u "()V"), (2, .fieldref 10 11), (0, .class_ 12), (0, .nameAndType 13 14), (0, u "java/lang/String"), (0, u "value"), (0, u "[B"), (0, .fieldref 10 16), (0, .nameAndType 17 18), (0, u "coder"), (0, u "B"), (2, u "hash"), (0, u "I"), (2, u "hashIsZero"), (0, u "Z"), (0, .methodref 10 28), (0, .nameAndType 5 29), (0, u "([CIILjava/lang/Void;)V"), (8, .fieldref 10 39), (0, .nameAndType 40 26), (0, u "COMPACT_STRINGS"), (1, .class_ 44), (1, u "java/lang/StringUTF16"), (0, u "compress"), (1, .methodref 42 48), (0, .nameAndType 49 50), (0, u "coderFromArrayLen"), (0, u "([BI)B"), (3, .methodref 55 56), (0, .class_ 57), (0, .nameAndType 58 59), (0, u "java/util/Arrays"), (0, u "copyOfRange"), (0, u "([BII)[B"), (47, .class_ 109), (1, u "java/lang/StringLatin1"), (32, u "()Z"), (34, .methodref 42 178), (0, .nameAndType 45 179), (0, u "([CII)[B"), (13, .class_ 195), (1, u "java/lang/System"), (16, .methodref 193 213), (0, .nameAndType 214 215), (0, u "arraycopy"), (0, u "(Ljava/lang/Object;ILjava/lang/Object;II)V"), (118, u "()I"), (0, .methodref 10 336), (0, .nameAndType 17 337), (0, u "()B"), (2, u "()[B"), (148, .methodref 10 490), (0, .nameAndType 5 491), (0, u "(Ljava/lang/AbstractStringBuilder;Ljava/lang/Void;)V"), (1, .nameAndType 494 142), (0, u "isLatin1"), (11, .nameAndType 507 334), (0, u "length"), (24, u "getBytes"), (8, .methodref 107 542), (0, .nameAndType 543 544), (0, u "equals"), (0, u "([B[B)Z"), (4, .methodref 550 506), (0, .class_ 551), (0, u "java/lang/AbstractStringBuilder"), (0, .methodref 550 553), (0, .nameAndType 554 340), (0, u "getValue"), (18, u "(Ljava/lang/Object;)Z"), (1, .class_ 576), (0, u "java/lang/CharSequence"), (22, u "CASE_INSENSITIVE_ORDER"), (0, u "Ljava/util/Comparator;"), (220, u "([BIB)V"), (188, u "([C)V"), (36, .methodref 550 493), (53, u "serialPersistentFields"), (0, u "[Ljava/io/ObjectStreamField;"), (0, .class_ 1104), (0, u "java/lang/String$CaseInsensitiveComparator"), (1, .class_ 1107), (0, u "java/io/Serializable"), (0, .class_ 1109), (0, u "java/lang/Comparable"), (0, .class_ 1111), (0, u "java/lang/constant/Constable"), (0, .class_ 1113), (0, u "java/lang/constant/ConstantDesc"), (2, u "serialVersionUID"), (0, u "J"), (3, u "REPL"), (0, u "C"), (2, u "LATIN1"), (1, u "UTF16"), (105, u "(Ljava/lang/StringBuilder;)V")] 217

def k7m0 : Method := { name := "<init>", desc := "()V", sig := { parameters := [], returnType := none }, accessFlags := 1, code := none }
def k7c1 : Code := { maxStack := 5, maxLocals := 2, code := jdk_42_method_3_code, exceptionTable := #[], attributes := #[] }
def k7m1 : Method := { name := "<init>", desc := "([C)V", sig := { parameters := [(.array .char)], returnType := none }, accessFlags := 1, code := some k7c1 }
def k7c2 : Code := { maxStack := 3, maxLocals := 2, code := jdk_42_method_53_code, exceptionTable := #[], attributes := #[] }
def k7m2 : Method := { name := "<init>", desc := "(Ljava/lang/StringBuilder;)V", sig := { parameters := [(.object "java/lang/StringBuilder")], returnType := none }, accessFlags := 1, code := some k7c2 }
def k7c3 : Code := { maxStack := 2, maxLocals := 1, code := jdk_42_method_54_code, exceptionTable := #[], attributes := #[] }
def k7m3 : Method := { name := "length", desc := "()I", sig := { parameters := [], returnType := some .int }, accessFlags := 1, code := some k7c3 }
def k7c4 : Code := { maxStack := 2, maxLocals := 3, code := jdk_42_method_66_code, exceptionTable := #[], attributes := #[] }
def k7m4 : Method := { name := "equals", desc := "(Ljava/lang/Object;)Z", sig := { parameters := [(.object "java/lang/Object")], returnType := some .boolean }, accessFlags := 1, code := some k7c4 }
def k7c5 : Code := { maxStack := 5, maxLocals := 4, code := jdk_42_method_147_code, exceptionTable := #[], attributes := #[] }
def k7m5 : Method := { name := "getBytes", desc := "([BIB)V", sig := { parameters := [(.array .byte), .int, .byte], returnType := none }, accessFlags := 0, code := some k7c5 }
def k7c6 : Code := { maxStack := 4, maxLocals := 6, code := jdk_42_method_149_code, exceptionTable := #[], attributes := #[] }
def k7m6 : Method := { name := "<init>", desc := "([CIILjava/lang/Void;)V", sig := { parameters := [(.array .char), .int, .int, (.object "java/lang/Void")], returnType := none }, accessFlags := 2, code := some k7c6 }
def k7c7 : Code := { maxStack := 5, maxLocals := 5, code := jdk_42_method_150_code, exceptionTable := #[], attributes := #[] }
def k7m7 : Method := { name := "<init>", desc := "(Ljava/lang/AbstractStringBuilder;Ljava/lang/Void;)V", sig := { parameters := [(.object "java/lang/AbstractStringBuilder"), (.object "java/lang/Void")], returnType := none }, accessFlags := 0, code := some k7c7 }
def k7c8 : Code := { maxStack := 1, maxLocals := 1, code := jdk_42_method_152_code, exceptionTable := #[], attributes := #[] }
def k7m8 : Method := { name := "coder", desc := "()B", sig := { parameters := [], returnType := some .byte }, accessFlags := 0, code := some k7c8 }
/-- java/lang/String -/
def k7 : Class := { plain "java/lang/String" (some 0) with
  accessFlags := 49
  interfaces := #[2, 3, 4, 5, 6]
  cf := some (fileOf pool7 10 #[.nestMembers #[1103]] #[{ accessFlags := 1, nameIndex := 5, descriptorIndex := 6, attributes := #[] }, { accessFlags := 1, nameIndex := 5, descriptorIndex := 1010, attributes := #[] }, { accessFlags := 1, nameIndex := 5, descriptorIndex := 1233, attributes := #[] }, { accessFlags := 1, nameIndex := 507, descriptorIndex := 334, attributes := #[] }, { accessFlags := 1, nameIndex := 543, descriptorIndex := 573, attributes := #[] }, { accessFlags := 0, nameIndex := 532, descriptorIndex := 821, attributes := #[] }, { accessFlags := 2, nameIndex := 5, descriptorIndex := 29, attributes := #[] }, { accessFlags := 0, nameIndex := 5, descriptorIndex := 491, attributes := #[] }, { accessFlags := 0, nameIndex := 17, descriptorIndex := 337, attributes := #[] }] 49 2 #[1106, 1108, 575, 1110, 1112] #[{ accessFlags := 18, nameIndex := 13, descriptorIndex := 14, attributes := #[] }, { accessFlags := 18, nameIndex := 17, descriptorIndex := 18, attributes := #[] }, { accessFlags := 2, nameIndex := 21, descriptorIndex := 22, attributes := #[] }, { accessFlags := 2, nameIndex := 25, descriptorIndex := 26, attributes := #[] }, { accessFlags := 26, nameIndex := 1116, descriptorIndex := 1117, attributes := #[] }, { accessFlags := 24, nameIndex := 40, descriptorIndex := 26, attributes := #[] }, { accessFlags := 26, nameIndex := 1101, descriptorIndex := 1102, attributes := #[] }, { accessFlags := 26, nameIndex := 1121, descriptorIndex := 1122, attributes := #[] }, { accessFlags := 25, nameIndex := 599, descriptorIndex := 600, attributes := #[] }, { accessFlags := 24, nameIndex := 1125, descriptorIndex := 18, attributes := #[] }, { accessFlags := 24, nameIndex := 1127, descriptorIndex := 18, attributes := #[] }])
  fields := #[{ name := "value", type := (.array .byte), accessFlags := 18, slot := 0, constantValue := 0 }, { name := "coder", type := .byte, accessFlags := 18, slot := 1, constantValue := 0 }, { name := "hash", type := .int, accessFlags := 2, slot := 2, constantValue := 0 }, { name := "hashIsZero", type := .boolean, accessFlags := 2, slot := 3, constantValue := 0 }, { name := "serialVersionUID", type := .long, accessFlags := 26, slot := 0, constantValue := 0 }, { name := "COMPACT_STRINGS", type := .boolean, accessFlags := 24, slot := 1, constantValue := 0 }, { name := "serialPersistentFields", type := (.array (.object "java/io/ObjectStreamField")), accessFlags := 26, slot := 2, constantValue := 0 }, { name := "REPL", type := .char, accessFlags := 26, slot := 3, constantValue := 0 }, { name := "CASE_INSENSITIVE_ORDER", type := (.object "java/util/Comparator"), accessFlags := 25, slot := 4, constantValue := 0 }, { name := "LATIN1", type := .byte, accessFlags := 24, slot := 5, constantValue := 0 }, { name := "UTF16", type := .byte, accessFlags := 24, slot := 6, constantValue := 0 }]
  methods := #[k7m0, k7m1, k7m2, k7m3, k7m4, k7m5, k7m6, k7m7, k7m8]
  instanceTypes := #[(.array .byte), .byte, .int, .boolean]
  staticTypes := #[.long, .boolean, (.array (.object "java/io/ObjectStreamField")), .char, (.object "java/util/Comparator"), .byte, .byte]
  resolved := Array.replicate 1451 none
  statics := some 0 }

def pool8 : Array CpInfo := pool [(6, .class_ 8), (1, u "java/lang/Object"), (0, u "<init>"), (0, u "()V"), (1, .class_ 14), (1, u "java/lang/StringUTF16"), (31, u "$assertionsDisabled"), (0, u "Z"), (13, u "HI_BYTE_SHIFT"), (0, u "I"), (2, u "LO_BYTE_SHIFT"), (49, .methodref 12 116), (0, .nameAndType 117 118), (0, u "compress"), (0, u "([CI[BII)I"), (3, u "([CII)[B"), (138, u "coderFromArrayLen"), (0, u "([BI)B"), (106, .class_ 371), (1, u "java/lang/StringUTF16$LinesSpliterator"), (58, u "MAX_LENGTH"), (196, .class_ 628), (0, u "java/lang/StringUTF16$CodePointsSpliterator"), (0, .class_ 630), (0, u "java/lang/StringUTF16$CharsSpliterator")] 4

def k8m0 : Method := { name := "<init>", desc := "()V", sig := { parameters := [], returnType := none }, accessFlags := 0, code := none }
def k8c1 : Code := { maxStack := 2, maxLocals := 2, code := jdk_52_method_15_code, exceptionTable := #[], attributes := #[] }
def k8m1 : Method := { name := "coderFromArrayLen", desc := "([BI)B", sig := { parameters := [(.array .byte), .int], returnType := some .byte }, accessFlags := 8, code := some k8c1 }
def k8c2 : Code := { maxStack := 5, maxLocals := 6, code := jdk_52_method_16_code, exceptionTable := #[], attributes := #[] }
def k8m2 : Method := { name := "compress", desc := "([CII)[B", sig := { parameters := [(.array .char), .int, .int], returnType := some (.array .byte) }, accessFlags := 9, code := some k8c2 }
def k8c3 : Code := { maxStack := 3, maxLocals := 7, code := jdk_52_method_21_code, exceptionTable := #[], attributes := #[] }
def k8m3 : Method := { name := "compress", desc := "([CI[BII)I", sig := { parameters := [(.array .char), .int, (.array .byte), .int, .int], returnType := some .int }, accessFlags := 9, code := some k8c3 }
/-- java/lang/StringUTF16 -/
def k8 : Class := { plain "java/lang/StringUTF16" (some 0) with
  accessFlags := 48
  interfaces := #[]
  cf := some (fileOf pool8 12 #[.nestMembers #[627, 629, 369]] #[{ accessFlags := 0, nameIndex := 9, descriptorIndex := 10, attributes := #[] }, { accessFlags := 8, nameIndex := 261, descriptorIndex := 262, attributes := #[] }, { accessFlags := 9, nameIndex := 117, descriptorIndex := 122, attributes := #[] }, { accessFlags := 9, nameIndex := 117, descriptorIndex := 118, attributes := #[] }] 48 6 #[] #[{ accessFlags := 26, nameIndex := 61, descriptorIndex := 62, attributes := #[] }, { accessFlags := 26, nameIndex := 65, descriptorIndex := 62, attributes := #[] }, { accessFlags := 24, nameIndex := 430, descriptorIndex := 62, attributes := #[] }, { accessFlags := 4120, nameIndex := 46, descriptorIndex := 47, attributes := #[] }])
  fields := #[{ name := "HI_BYTE_SHIFT", type := .int, accessFlags := 26, slot := 0, constantValue := 0 }, { name := "LO_BYTE_SHIFT", type := .int, accessFlags := 26, slot := 1, constantValue := 0 }, { name := "MAX_LENGTH", type := .int, accessFlags := 24, slot := 2, constantValue := 0 }, { name := "$assertionsDisabled", type := .boolean, accessFlags := 4120, slot := 3, constantValue := 0 }]
  methods := #[k8m0, k8m1, k8m2, k8m3]
  instanceTypes := #[]
  staticTypes := #[.int, .int, .int, .boolean]
  resolved := Array.replicate 635 none
  statics := none }

def pool9 : Array CpInfo := pool [(2, .class_ 4), (0, .nameAndType 5 6), (0, u "java/lang/Object"), (0, u "<init>"), (0, u "()V"), (1, .class_ 10), (1, u "com/example/frontier/frontier/replay/ReplayPath"), (0, u "timestamp"), (0, u "Ljava/util/Optional;"), (2, u "asArchived"), (0, u "Z"), (2, u "url"), (0, u "Ljava/lang/String;"), (2, u "FORM"), (0, u "Ljava/util/regex/Pattern;"), (26, .class_ 52), (0, u "java/lang/StringBuilder"), (0, .methodref 51 3), (0, .methodref 51 55), (0, .nameAndType 56 57), (0, u "append"), (0, u "(Ljava/lang/String;)Ljava/lang/StringBuilder;"), (2, .methodref 51 61), (0, .nameAndType 62 63), (0, u "toString"), (0, u "()Ljava/lang/String;"), (9, u "of"), (0, .string 75), (0, u "/web/"), (0, .string 77), (0, u "id_"), (0, .string 79), (0, u ""), (0, .string 81), (0, u "/"), (16, u "PREFIX"), (1, u "AS_ARCHIVED"), (0, u "ANY_TIME"), (12, u "(Ljava/lang/String;ZLjava/lang/String;)Ljava/lang/String;")] 6

def k9c0 : Code := { maxStack := 2, maxLocals := 3, code := prog_34_method_3_code, exceptionTable := #[], attributes := #[] }
def k9m0 : Method := { name := "of", desc := "(Ljava/lang/String;ZLjava/lang/String;)Ljava/lang/String;", sig := { parameters := [(.object "java/lang/String"), .boolean, (.object "java/lang/String")], returnType := some (.object "java/lang/String") }, accessFlags := 8, code := some k9c0 }
/-- com/example/frontier/frontier/replay/ReplayPath -/
def k9 : Class := { plain "com/example/frontier/frontier/replay/ReplayPath" (some 0) with
  accessFlags := 48
  interfaces := #[]
  cf := some (fileOf pool9 8 #[] #[{ accessFlags := 8, nameIndex := 73, descriptorIndex := 114, attributes := #[] }] 48 2 #[] #[{ accessFlags := 24, nameIndex := 98, descriptorIndex := 20, attributes := #[] }, { accessFlags := 26, nameIndex := 100, descriptorIndex := 20, attributes := #[] }, { accessFlags := 26, nameIndex := 101, descriptorIndex := 20, attributes := #[] }, { accessFlags := 26, nameIndex := 23, descriptorIndex := 24, attributes := #[] }, { accessFlags := 18, nameIndex := 11, descriptorIndex := 12, attributes := #[] }, { accessFlags := 18, nameIndex := 15, descriptorIndex := 16, attributes := #[] }, { accessFlags := 18, nameIndex := 19, descriptorIndex := 20, attributes := #[] }])
  fields := #[{ name := "PREFIX", type := (.object "java/lang/String"), accessFlags := 24, slot := 0, constantValue := 0 }, { name := "AS_ARCHIVED", type := (.object "java/lang/String"), accessFlags := 26, slot := 1, constantValue := 0 }, { name := "ANY_TIME", type := (.object "java/lang/String"), accessFlags := 26, slot := 2, constantValue := 0 }, { name := "FORM", type := (.object "java/util/regex/Pattern"), accessFlags := 26, slot := 3, constantValue := 0 }, { name := "timestamp", type := (.object "java/util/Optional"), accessFlags := 18, slot := 0, constantValue := 0 }, { name := "asArchived", type := .boolean, accessFlags := 18, slot := 1, constantValue := 0 }, { name := "url", type := (.object "java/lang/String"), accessFlags := 18, slot := 2, constantValue := 0 }]
  methods := #[k9m0]
  instanceTypes := #[(.object "java/util/Optional"), .boolean, (.object "java/lang/String")]
  staticTypes := #[(.object "java/lang/String"), (.object "java/lang/String"), (.object "java/lang/String"), (.object "java/util/regex/Pattern")]
  resolved := Array.replicate 121 none
  statics := none }

def pool10 : Array CpInfo := pool [(1, .class_ 2), (0, u "java/lang/Appendable"), (0, .class_ 4), (0, u "java/lang/Object")] 9

/-- java/lang/Appendable -/
def k10 : Class := { plain "java/lang/Appendable" (some 0) with
  accessFlags := 1537
  interfaces := #[]
  cf := some (fileOf pool10 1 #[] #[] 1537 3 #[] #[])
  fields := #[]
  methods := #[]
  instanceTypes := #[]
  staticTypes := #[]
  resolved := Array.replicate 14 none
  statics := none }

def pool11 : Array CpInfo := pool [(1, .class_ 2), (0, u "java/lang/String"), (0, .methodref 4 5), (0, .class_ 6), (0, .nameAndType 7 8), (0, u "java/lang/Object"), (0, u "<init>"), (0, u "()V"), (1, .class_ 12), (1, u "java/lang/AbstractStringBuilder"), (0, u "EMPTYVALUE"), (0, u "[B"), (0, .fieldref 10 16), (0, .nameAndType 17 14), (0, u "value"), (0, .fieldref 1 19), (0, .nameAndType 20 21), (0, u "COMPACT_STRINGS"), (0, u "Z"), (0, .fieldref 10 23), (0, .nameAndType 24 25), (0, u "coder"), (0, u "B"), (6, .methodref 1 33), (0, .nameAndType 34 35), (0, u "length"), (0, u "()I"), (4, .methodref 1 41), (0, .nameAndType 24 42), (0, u "()B"), (2, u "append"), (0, u "(Ljava/lang/String;)Ljava/lang/AbstractStringBuilder;"), (1, .class_ 49), (0, u "java/lang/CharSequence"), (19, u "(Ljava/lang/String;)V"), (5, u "maybeLatin1"), (3, .fieldref 10 80), (0, .nameAndType 81 82), (0, u "count"), (0, u "I"), (2, u "isLatin1"), (0, u "()Z"), (13, .methodref 10 101), (0, .nameAndType 102 103), (0, u "ensureCapacityInternal"), (0, u "(I)V"), (104, .methodref 10 209), (0, .nameAndType 210 211), (0, u "putStringAt"), (0, u "(ILjava/lang/String;)V"), (5, u "inflateIfNeededFor"), (2, .nameAndType 221 222), (0, u "getBytes"), (0, u "([BIB)V"), (174, .methodref 10 398), (0, .nameAndType 217 69), (0, .methodref 1 220), (3, u "()[B"), (40, .class_ 445), (0, u "java/lang/Appendable"), (106, u "getValue")] 56

def k11m0 : Method := { name := "<init>", desc := "()V", sig := { parameters := [], returnType := none }, accessFlags := 0, code := none }
def k11c1 : Code := { maxStack := 2, maxLocals := 2, code := jdk_68_method_2_code, exceptionTable := #[], attributes := #[] }
def k11m1 : Method := { name := "<init>", desc := "(I)V", sig := { parameters := [.int], returnType := none }, accessFlags := 0, code := some k11c1 }
def k11c2 : Code := { maxStack := 1, maxLocals := 1, code := jdk_68_method_6_code, exceptionTable := #[], attributes := #[] }
def k11m2 : Method := { name := "length", desc := "()I", sig := { parameters := [], returnType := some .int }, accessFlags := 1, code := some k11c2 }
def k11c3 : Code := { maxStack := 4, maxLocals := 3, code := jdk_68_method_9_code, exceptionTable := #[], attributes := #[] }
def k11m3 : Method := { name := "ensureCapacityInternal", desc := "(I)V", sig := { parameters := [.int], returnType := none }, accessFlags := 2, code := some k11c3 }
def k11c4 : Code := { maxStack := 3, maxLocals := 3, code := jdk_68_method_22_code, exceptionTable := #[], attributes := #[] }
def k11m4 : Method := { name := "append", desc := "(Ljava/lang/String;)Ljava/lang/AbstractStringBuilder;", sig := { parameters := [(.object "java/lang/String")], returnType := some (.object "java/lang/AbstractStringBuilder") }, accessFlags := 1, code := some k11c4 }
def k11c5 : Code := { maxStack := 1, maxLocals := 1, code := jdk_68_method_64_code, exceptionTable := #[], attributes := #[] }
def k11m5 : Method := { name := "getValue", desc := "()[B", sig := { parameters := [], returnType := some (.array .byte) }, accessFlags := 16, code := some k11c5 }
def k11c6 : Code := { maxStack := 1, maxLocals := 1, code := jdk_68_method_68_code, exceptionTable := #[], attributes := #[] }
def k11m6 : Method := { name := "isLatin1", desc := "()Z", sig := { parameters := [], returnType := some .boolean }, accessFlags := 16, code := some k11c6 }
def k11c7 : Code := { maxStack := 2, maxLocals := 2, code := jdk_68_method_71_code, exceptionTable := #[], attributes := #[] }
def k11m7 : Method := { name := "inflateIfNeededFor", desc := "(Ljava/lang/String;)V", sig := { parameters := [(.object "java/lang/String")], returnType := none }, accessFlags := 2, code := some k11c7 }
def k11c8 : Code := { maxStack := 4, maxLocals := 3, code := jdk_68_method_73_code, exceptionTable := #[], attributes := #[] }
def k11m8 : Method := { name := "putStringAt", desc := "(ILjava/lang/String;)V", sig := { parameters := [.int, (.object "java/lang/String")], returnType := none }, accessFlags := 2, code := some k11c8 }
/-- java/lang/AbstractStringBuilder -/
def k11 : Class := { plain "java/lang/AbstractStringBuilder" (some 0) with
  accessFlags := 1056
  interfaces := #[10, 4]
  cf := some (fileOf pool11 10 #[] #[{ accessFlags := 0, nameIndex := 7, descriptorIndex := 8, attributes := #[] }, { accessFlags := 0, nameIndex := 7, descriptorIndex := 103, attributes := #[] }, { accessFlags := 1, nameIndex := 34, descriptorIndex := 35, attributes := #[] }, { accessFlags := 2, nameIndex := 102, descriptorIndex := 103, attributes := #[] }, { accessFlags := 1, nameIndex := 45, descriptorIndex := 46, attributes := #[] }, { accessFlags := 16, nameIndex := 552, descriptorIndex := 403, attributes := #[] }, { accessFlags := 16, nameIndex := 85, descriptorIndex := 86, attributes := #[] }, { accessFlags := 2, nameIndex := 217, descriptorIndex := 69, attributes := #[] }, { accessFlags := 2, nameIndex := 210, descriptorIndex := 211, attributes := #[] }] 1056 4 #[444, 48] #[{ accessFlags := 0, nameIndex := 17, descriptorIndex := 14, attributes := #[] }, { accessFlags := 0, nameIndex := 24, descriptorIndex := 25, attributes := #[] }, { accessFlags := 0, nameIndex := 75, descriptorIndex := 21, attributes := #[] }, { accessFlags := 0, nameIndex := 81, descriptorIndex := 82, attributes := #[] }, { accessFlags := 26, nameIndex := 13, descriptorIndex := 14, attributes := #[] }])
  fields := #[{ name := "value", type := (.array .byte), accessFlags := 0, slot := 0, constantValue := 0 }, { name := "coder", type := .byte, accessFlags := 0, slot := 1, constantValue := 0 }, { name := "maybeLatin1", type := .boolean, accessFlags := 0, slot := 2, constantValue := 0 }, { name := "count", type := .int, accessFlags := 0, slot := 3, constantValue := 0 }, { name := "EMPTYVALUE", type := (.array .byte), accessFlags := 26, slot := 0, constantValue := 0 }]
  methods := #[k11m0, k11m1, k11m2, k11m3, k11m4, k11m5, k11m6, k11m7, k11m8]
  instanceTypes := #[(.array .byte), .byte, .boolean, .int]
  staticTypes := #[(.array .byte)]
  resolved := Array.replicate 609 none
  statics := none }

def pool12 : Array CpInfo := pool [(1, .methodref 2 3), (0, .class_ 4), (0, .nameAndType 5 6), (0, u "java/lang/AbstractStringBuilder"), (0, u "<init>"), (0, u "(I)V"), (11, .class_ 20), (1, u "java/lang/String"), (3, .class_ 26), (1, u "java/lang/StringBuilder"), (0, u "append"), (0, u "(Ljava/lang/String;)Ljava/lang/StringBuilder;"), (0, .methodref 2 30), (0, .nameAndType 27 31), (0, u "(Ljava/lang/String;)Ljava/lang/AbstractStringBuilder;"), (105, .methodref 18 138), (0, .nameAndType 5 139), (0, u "(Ljava/lang/StringBuilder;)V"), (5, u "()V"), (10, u "()I"), (186, .methodref 2 344), (0, .nameAndType 345 156), (0, u "length"), (3, .class_ 350), (0, u "java/lang/Appendable"), (0, .class_ 352), (0, u "java/io/Serializable"), (0, .class_ 354), (0, u "java/lang/Comparable"), (0, .class_ 356), (0, u "java/lang/CharSequence"), (0, u "serialVersionUID"), (0, u "J"), (40, u "toString"), (0, u "()Ljava/lang/String;")] 21

def k12c0 : Code := { maxStack := 2, maxLocals := 1, code := jdk_67_method_1_code, exceptionTable := #[], attributes := #[] }
def k12m0 : Method := { name := "<init>", desc := "()V", sig := { parameters := [], returnType := none }, accessFlags := 1, code := some k12c0 }
def k12c1 : Code := { maxStack := 2, maxLocals := 2, code := jdk_67_method_7_code, exceptionTable := #[], attributes := #[] }
def k12m1 : Method := { name := "append", desc := "(Ljava/lang/String;)Ljava/lang/StringBuilder;", sig := { parameters := [(.object "java/lang/String")], returnType := some (.object "java/lang/StringBuilder") }, accessFlags := 1, code := some k12c1 }
def k12c2 : Code := { maxStack := 3, maxLocals := 1, code := jdk_67_method_42_code, exceptionTable := #[], attributes := #[] }
def k12m2 : Method := { name := "toString", desc := "()Ljava/lang/String;", sig := { parameters := [], returnType := some (.object "java/lang/String") }, accessFlags := 1, code := some k12c2 }
def k12c3 : Code := { maxStack := 1, maxLocals := 1, code := jdk_67_method_93_code, exceptionTable := #[], attributes := #[] }
def k12m3 : Method := { name := "length", desc := "()I", sig := { parameters := [], returnType := some .int }, accessFlags := 4161, code := some k12c3 }
/-- java/lang/StringBuilder -/
def k12 : Class := { plain "java/lang/StringBuilder" (some 11) with
  accessFlags := 49
  interfaces := #[10, 2, 3, 4]
  cf := some (fileOf pool12 24 #[] #[{ accessFlags := 1, nameIndex := 5, descriptorIndex := 145, attributes := #[] }, { accessFlags := 1, nameIndex := 27, descriptorIndex := 28, attributes := #[] }, { accessFlags := 1, nameIndex := 399, descriptorIndex := 400, attributes := #[] }, { accessFlags := 4161, nameIndex := 345, descriptorIndex := 156, attributes := #[] }] 49 2 #[349, 351, 353, 355] #[{ accessFlags := 24, nameIndex := 357, descriptorIndex := 358, attributes := #[] }])
  fields := #[{ name := "serialVersionUID", type := .long, accessFlags := 24, slot := 0, constantValue := 0 }]
  methods := #[k12m0, k12m1, k12m2, k12m3]
  instanceTypes := #[(.array .byte), .byte, .boolean, .int]
  staticTypes := #[.long]
  resolved := Array.replicate 422 none
  statics := none }

def pool13 : Array CpInfo := pool [(2, .class_ 4), (1, u "java/lang/Object"), (0, u "<init>"), (0, u "()V"), (1, .class_ 10), (1, u "java/lang/System"), (0, u "allowSecurityManager"), (0, u "I"), (16, u "cons"), (0, u "Ljava/io/Console;"), (77, .class_ 110), (1, u "java/lang/System$CallersHolder"), (43, u "initialErrStream"), (0, u "Ljava/io/PrintStream;"), (19, u "security"), (0, u "Ljava/lang/SecurityManager;"), (31, .class_ 209), (0, u "java/lang/System$1"), (7, u "props"), (0, u "Ljava/util/Properties;"), (2, u "lineSeparator"), (0, u "Ljava/lang/String;"), (96, .class_ 321), (1, u "java/lang/System$LoggerFinder"), (5, .class_ 328), (0, u "java/lang/System$Logger"), (67, u "err"), (2, u "out"), (91, u "notSupportedJnuEncoding"), (15, u "in"), (17, u "initialIn"), (0, u "Ljava/io/InputStream;"), (35, u "bootLayer"), (0, u "Ljava/lang/ModuleLayer;"), (99, .class_ 664), (0, u "java/lang/System$2"), (9, u "NEVER"), (2, u "MAYBE"), (49, u "arraycopy"), (0, u "(Ljava/lang/Object;ILjava/lang/Object;II)V"), (72, .class_ 802), (0, u "java/lang/System$Logger$Level")] 31

def k13m0 : Method := { name := "<init>", desc := "()V", sig := { parameters := [], returnType := none }, accessFlags := 2, code := none }
def k13m1 : Method := { name := "arraycopy", desc := "(Ljava/lang/Object;ILjava/lang/Object;II)V", sig := { parameters := [(.object "java/lang/Object"), .int, (.object "java/lang/Object"), .int, .int], returnType := none }, accessFlags := 265, code := none }
/-- java/lang/System -/
def k13 : Class := { plain "java/lang/System" (some 0) with
  accessFlags := 49
  interfaces := #[]
  cf := some (fileOf pool13 8 #[.nestMembers #[319, 327, 801, 108, 663, 208]] #[{ accessFlags := 2, nameIndex := 5, descriptorIndex := 6, attributes := #[] }, { accessFlags := 265, nameIndex := 727, descriptorIndex := 728, attributes := #[] }] 49 2 #[] #[{ accessFlags := 25, nameIndex := 507, descriptorIndex := 526, attributes := #[] }, { accessFlags := 25, nameIndex := 399, descriptorIndex := 155, attributes := #[] }, { accessFlags := 25, nameIndex := 396, descriptorIndex := 155, attributes := #[] }, { accessFlags := 10, nameIndex := 525, descriptorIndex := 526, attributes := #[] }, { accessFlags := 26, nameIndex := 674, descriptorIndex := 12, attributes := #[] }, { accessFlags := 26, nameIndex := 677, descriptorIndex := 12, attributes := #[] }, { accessFlags := 10, nameIndex := 11, descriptorIndex := 12, attributes := #[] }, { accessFlags := 74, nameIndex := 175, descriptorIndex := 176, attributes := #[] }, { accessFlags := 10, nameIndex := 491, descriptorIndex := 222, attributes := #[] }, { accessFlags := 74, nameIndex := 29, descriptorIndex := 30, attributes := #[] }, { accessFlags := 74, nameIndex := 154, descriptorIndex := 155, attributes := #[] }, { accessFlags := 10, nameIndex := 217, descriptorIndex := 218, attributes := #[] }, { accessFlags := 10, nameIndex := 221, descriptorIndex := 222, attributes := #[] }, { accessFlags := 8, nameIndex := 562, descriptorIndex := 563, attributes := #[] }])
  fields := #[{ name := "in", type := (.object "java/io/InputStream"), accessFlags := 25, slot := 0, constantValue := 0 }, { name := "out", type := (.object "java/io/PrintStream"), accessFlags := 25, slot := 1, constantValue := 0 }, { name := "err", type := (.object "java/io/PrintStream"), accessFlags := 25, slot := 2, constantValue := 0 }, { name := "initialIn", type := (.object "java/io/InputStream"), accessFlags := 10, slot := 3, constantValue := 0 }, { name := "NEVER", type := .int, accessFlags := 26, slot := 4, constantValue := 0 }, { name := "MAYBE", type := .int, accessFlags := 26, slot := 5, constantValue := 0 }, { name := "allowSecurityManager", type := .int, accessFlags := 10, slot := 6, constantValue := 0 }, { name := "security", type := (.object "java/lang/SecurityManager"), accessFlags := 74, slot := 7, constantValue := 0 }, { name := "notSupportedJnuEncoding", type := (.object "java/lang/String"), accessFlags := 10, slot := 8, constantValue := 0 }, { name := "cons", type := (.object "java/io/Console"), accessFlags := 74, slot := 9, constantValue := 0 }, { name := "initialErrStream", type := (.object "java/io/PrintStream"), accessFlags := 74, slot := 10, constantValue := 0 }, { name := "props", type := (.object "java/util/Properties"), accessFlags := 10, slot := 11, constantValue := 0 }, { name := "lineSeparator", type := (.object "java/lang/String"), accessFlags := 10, slot := 12, constantValue := 0 }, { name := "bootLayer", type := (.object "java/lang/ModuleLayer"), accessFlags := 8, slot := 13, constantValue := 0 }]
  methods := #[k13m0, k13m1]
  instanceTypes := #[]
  staticTypes := #[(.object "java/io/InputStream"), (.object "java/io/PrintStream"), (.object "java/io/PrintStream"), (.object "java/io/InputStream"), .int, .int, .int, (.object "java/lang/SecurityManager"), (.object "java/lang/String"), (.object "java/io/Console"), (.object "java/io/PrintStream"), (.object "java/util/Properties"), (.object "java/lang/String"), (.object "java/lang/ModuleLayer")]
  resolved := Array.replicate 834 none
  statics := none }

def pool14 : Array CpInfo := pool [(2, .class_ 4), (1, u "java/lang/Object"), (0, u "<init>"), (0, u "()V"), (7, .class_ 16), (1, u "java/util/Arrays"), (57, .class_ 76), (1, u "java/util/Arrays$NaturalOrder"), (36, .class_ 115), (1, u "java/util/Arrays$LegacyMergeSort"), (1, u "Z"), (21, u "copyOfRange"), (10, .methodref 151 152), (0, .class_ 153), (0, .nameAndType 154 155), (0, u "java/lang/System"), (0, u "arraycopy"), (0, u "(Ljava/lang/Object;ILjava/lang/Object;II)V"), (148, .methodref 305 306), (0, .class_ 307), (0, .nameAndType 308 309), (0, u "java/lang/Math"), (0, u "min"), (0, u "(II)I"), (29, .methodref 14 340), (0, .nameAndType 341 342), (0, u "copyOfRangeByte"), (0, u "([BII)[B"), (0, .methodref 14 344), (0, .nameAndType 345 346), (0, u "checkLength"), (0, u "(II)V"), (28, .class_ 376), (0, u "java/util/Arrays$ArrayList"), (68, u "$assertionsDisabled"), (269, u "MIN_ARRAY_SORT_GRAN"), (0, u "I"), (2, u "INSERTIONSORT_THRESHOLD"), (255, .class_ 976), (0, u "java/util/Arrays$ArrayItr")] 52

def k14m0 : Method := { name := "<init>", desc := "()V", sig := { parameters := [], returnType := none }, accessFlags := 2, code := none }
def k14c1 : Code := { maxStack := 4, maxLocals := 2, code := jdk_65_method_131_code, exceptionTable := #[], attributes := #[] }
def k14m1 : Method := { name := "checkLength", desc := "(II)V", sig := { parameters := [.int, .int], returnType := none }, accessFlags := 10, code := some k14c1 }
def k14c2 : Code := { maxStack := 3, maxLocals := 3, code := jdk_65_method_132_code, exceptionTable := #[], attributes := #[] }
def k14m2 : Method := { name := "copyOfRange", desc := "([BII)[B", sig := { parameters := [(.array .byte), .int, .int], returnType := some (.array .byte) }, accessFlags := 9, code := some k14c2 }
def k14c3 : Code := { maxStack := 6, maxLocals := 5, code := jdk_65_method_133_code, exceptionTable := #[], attributes := #[] }
def k14m3 : Method := { name := "copyOfRangeByte", desc := "([BII)[B", sig := { parameters := [(.array .byte), .int, .int], returnType := some (.array .byte) }, accessFlags := 10, code := some k14c3 }
/-- java/util/Arrays -/
def k14 : Class := { plain "java/util/Arrays" (some 0) with
  accessFlags := 49
  interfaces := #[]
  cf := some (fileOf pool14 14 #[.nestMembers #[975, 375, 113, 74]] #[{ accessFlags := 2, nameIndex := 5, descriptorIndex := 6, attributes := #[] }, { accessFlags := 10, nameIndex := 345, descriptorIndex := 346, attributes := #[] }, { accessFlags := 9, nameIndex := 139, descriptorIndex := 342, attributes := #[] }, { accessFlags := 10, nameIndex := 341, descriptorIndex := 342, attributes := #[] }] 49 2 #[] #[{ accessFlags := 26, nameIndex := 715, descriptorIndex := 716, attributes := #[] }, { accessFlags := 26, nameIndex := 719, descriptorIndex := 716, attributes := #[] }, { accessFlags := 4120, nameIndex := 445, descriptorIndex := 117, attributes := #[] }])
  fields := #[{ name := "MIN_ARRAY_SORT_GRAN", type := .int, accessFlags := 26, slot := 0, constantValue := 0 }, { name := "INSERTIONSORT_THRESHOLD", type := .int, accessFlags := 26, slot := 1, constantValue := 0 }, { name := "$assertionsDisabled", type := .boolean, accessFlags := 4120, slot := 2, constantValue := 0 }]
  methods := #[k14m0, k14m1, k14m2, k14m3]
  instanceTypes := #[]
  staticTypes := #[.int, .int, .boolean]
  resolved := Array.replicate 1029 none
  statics := none }

def pool15 : Array CpInfo := pool [(1, .class_ 2), (0, u "java/lang/Math"), (1, .class_ 6), (1, u "java/lang/Object"), (0, u "<init>"), (0, u "()V"), (89, .class_ 100), (1, u "java/lang/Math$RandomNumberGeneratorHolder"), (71, u "negativeZeroFloatBits"), (0, u "J"), (2, u "negativeZeroDoubleBits"), (24, u "min"), (43, u "$assertionsDisabled"), (0, u "Z"), (88, u "(II)I"), (2, u "twoToTheDoubleScaleDown"), (0, u "D"), (4, u "twoToTheDoubleScaleUp"), (9, u "E"), (3, u "PI"), (2, u "TAU"), (2, u "DEGREES_TO_RADIANS"), (0, u "RADIANS_TO_DEGREES")] 94

def k15m0 : Method := { name := "<init>", desc := "()V", sig := { parameters := [], returnType := none }, accessFlags := 2, code := none }
def k15c1 : Code := { maxStack := 2, maxLocals := 2, code := jdk_29_method_69_code, exceptionTable := #[], attributes := #[] }
def k15m1 : Method := { name := "min", desc := "(II)I", sig := { parameters := [.int, .int], returnType := some .int }, accessFlags := 9, code := some k15c1 }
/-- java/lang/Math -/
def k15 : Class := { plain "java/lang/Math" (some 0) with
  accessFlags := 49
  interfaces := #[]
  cf := some (fileOf pool15 1 #[.nestMembers #[98]] #[{ accessFlags := 2, nameIndex := 7, descriptorIndex := 8, attributes := #[] }, { accessFlags := 9, nameIndex := 201, descriptorIndex := 335, attributes := #[] }] 49 4 #[] #[{ accessFlags := 25, nameIndex := 354, descriptorIndex := 339, attributes := #[] }, { accessFlags := 25, nameIndex := 358, descriptorIndex := 339, attributes := #[] }, { accessFlags := 25, nameIndex := 361, descriptorIndex := 339, attributes := #[] }, { accessFlags := 26, nameIndex := 364, descriptorIndex := 339, attributes := #[] }, { accessFlags := 26, nameIndex := 365, descriptorIndex := 339, attributes := #[] }, { accessFlags := 26, nameIndex := 172, descriptorIndex := 173, attributes := #[] }, { accessFlags := 26, nameIndex := 176, descriptorIndex := 173, attributes := #[] }, { accessFlags := 8, nameIndex := 344, descriptorIndex := 339, attributes := #[] }, { accessFlags := 8, nameIndex := 338, descriptorIndex := 339, attributes := #[] }, { accessFlags := 4120, nameIndex := 245, descriptorIndex := 246, attributes := #[] }])
  fields := #[{ name := "E", type := .double, accessFlags := 25, slot := 0, constantValue := 0 }, { name := "PI", type := .double, accessFlags := 25, slot := 1, constantValue := 0 }, { name := "TAU", type := .double, accessFlags := 25, slot := 2, constantValue := 0 }, { name := "DEGREES_TO_RADIANS", type := .double, accessFlags := 26, slot := 3, constantValue := 0 }, { name := "RADIANS_TO_DEGREES", type := .double, accessFlags := 26, slot := 4, constantValue := 0 }, { name := "negativeZeroFloatBits", type := .long, accessFlags := 26, slot := 5, constantValue := 0 }, { name := "negativeZeroDoubleBits", type := .long, accessFlags := 26, slot := 6, constantValue := 0 }, { name := "twoToTheDoubleScaleUp", type := .double, accessFlags := 8, slot := 7, constantValue := 0 }, { name := "twoToTheDoubleScaleDown", type := .double, accessFlags := 8, slot := 8, constantValue := 0 }, { name := "$assertionsDisabled", type := .boolean, accessFlags := 4120, slot := 9, constantValue := 0 }]
  methods := #[k15m0, k15m1]
  instanceTypes := #[]
  staticTypes := #[.double, .double, .double, .double, .double, .long, .long, .double, .double, .boolean]
  resolved := Array.replicate 460 none
  statics := none }

def pool16 : Array CpInfo := pool [(4, .class_ 6), (1, u "java/lang/Object"), (0, u "<init>"), (0, u "()V"), (5, .class_ 16), (1, u "java/lang/StringLatin1"), (104, u "$assertionsDisabled"), (0, u "Z"), (98, .class_ 223), (1, u "java/lang/StringLatin1$LinesSpliterator"), (57, u "equals"), (0, u "([B[B)Z"), (107, .class_ 391), (0, u "java/lang/StringLatin1$CharsSpliterator")] 3

def k16m0 : Method := { name := "<init>", desc := "()V", sig := { parameters := [], returnType := none }, accessFlags := 0, code := none }
def k16c1 : Code := { maxStack := 3, maxLocals := 3, code := jdk_43_method_13_code, exceptionTable := #[], attributes := #[] }
def k16m1 : Method := { name := "equals", desc := "([B[B)Z", sig := { parameters := [(.array .byte), (.array .byte)], returnType := some .boolean }, accessFlags := 9, code := some k16c1 }
/-- java/lang/StringLatin1 -/
def k16 : Class := { plain "java/lang/StringLatin1" (some 0) with
  accessFlags := 48
  interfaces := #[]
  cf := some (fileOf pool16 14 #[.nestMembers #[390, 221]] #[{ accessFlags := 0, nameIndex := 7, descriptorIndex := 8, attributes := #[] }, { accessFlags := 9, nameIndex := 281, descriptorIndex := 282, attributes := #[] }] 48 4 #[] #[{ accessFlags := 4120, nameIndex := 121, descriptorIndex := 122, attributes := #[] }])
  fields := #[{ name := "$assertionsDisabled", type := .boolean, accessFlags := 4120, slot := 0, constantValue := 0 }]
  methods := #[k16m0, k16m1]
  instanceTypes := #[]
  staticTypes := #[.boolean]
  resolved := Array.replicate 395 none
  statics := none }

def pool17 : Array CpInfo := pool [(2, .class_ 4), (1, u "java/lang/Object"), (0, u "<init>"), (0, u "()V"), (17, .class_ 26), (1, u "jdk/internal/util/Preconditions"), (28, .class_ 56), (0, u "jdk/internal/util/Preconditions$4"), (57, .class_ 115), (0, u "jdk/internal/util/Preconditions$1"), (7, u "SIOOBE_FORMATTER"), (0, u "Ljava/util/function/BiFunction;"), (0, .class_ 126), (0, u "jdk/internal/util/Preconditions$2"), (3, u "AIOOBE_FORMATTER"), (0, .class_ 132), (0, u "jdk/internal/util/Preconditions$3"), (3, u "IOOBE_FORMATTER")] 57

def k17m0 : Method := { name := "<init>", desc := "()V", sig := { parameters := [], returnType := none }, accessFlags := 1, code := none }
/-- jdk/internal/util/Preconditions -/
def k17 : Class := { plain "jdk/internal/util/Preconditions" (some 0) with
  accessFlags := 33
  interfaces := #[]
  cf := some (fileOf pool17 24 #[.nestMembers #[55, 131, 125, 114]] #[{ accessFlags := 1, nameIndex := 5, descriptorIndex := 6, attributes := #[] }] 33 2 #[] #[{ accessFlags := 25, nameIndex := 123, descriptorIndex := 124, attributes := #[] }, { accessFlags := 25, nameIndex := 130, descriptorIndex := 124, attributes := #[] }, { accessFlags := 25, nameIndex := 136, descriptorIndex := 124, attributes := #[] }])
  fields := #[{ name := "SIOOBE_FORMATTER", type := (.object "java/util/function/BiFunction"), accessFlags := 25, slot := 0, constantValue := 0 }, { name := "AIOOBE_FORMATTER", type := (.object "java/util/function/BiFunction"), accessFlags := 25, slot := 1, constantValue := 0 }, { name := "IOOBE_FORMATTER", type := (.object "java/util/function/BiFunction"), accessFlags := 25, slot := 2, constantValue := 0 }]
  methods := #[k17m0]
  instanceTypes := #[]
  staticTypes := #[(.object "java/util/function/BiFunction"), (.object "java/util/function/BiFunction"), (.object "java/util/function/BiFunction")]
  resolved := Array.replicate 194 none
  statics := some 1 }

def pool18 : Array CpInfo := pool [(9, u "<init>"), (6, .class_ 18), (1, u "java/lang/Object"), (0, u "()V"), (1, .class_ 23), (1, u "jdk/internal/util/ArraysSupport"), (0, u "LOG2_ARRAY_LONG_INDEX_SCALE"), (0, u "I"), (2, u "U"), (0, u "Ljdk/internal/misc/Unsafe;"), (8, u "BIG_ENDIAN"), (0, u "Z"), (8, u "LOG2_BYTE_BIT_SIZE"), (4, u "LOG2_ARRAY_INT_INDEX_SCALE"), (54, u "JLA"), (0, u "Ljdk/internal/access/JavaLangAccess;"), (11, u "LOG2_ARRAY_BOOLEAN_INDEX_SCALE"), (9, u "LOG2_ARRAY_BYTE_INDEX_SCALE"), (5, u "LOG2_ARRAY_CHAR_INDEX_SCALE"), (5, u "LOG2_ARRAY_SHORT_INDEX_SCALE"), (18, u "LOG2_ARRAY_FLOAT_INDEX_SCALE"), (24, u "LOG2_ARRAY_DOUBLE_INDEX_SCALE"), (89, u "T_BOOLEAN"), (2, u "T_CHAR"), (1, u "T_FLOAT"), (1, u "T_DOUBLE"), (1, u "T_BYTE"), (1, u "T_SHORT"), (1, u "T_INT"), (1, u "T_LONG"), (1, u "SOFT_MAX_ARRAY_LENGTH")] 83

def k18m0 : Method := { name := "<init>", desc := "()V", sig := { parameters := [], returnType := none }, accessFlags := 2, code := none }
/-- jdk/internal/util/ArraysSupport -/
def k18 : Class := { plain "jdk/internal/util/ArraysSupport" (some 0) with
  accessFlags := 33
  interfaces := #[]
  cf := some (fileOf pool18 21 #[] #[{ accessFlags := 2, nameIndex := 9, descriptorIndex := 19, attributes := #[] }] 33 16 #[] #[{ accessFlags := 24, nameIndex := 28, descriptorIndex := 29, attributes := #[] }, { accessFlags := 26, nameIndex := 38, descriptorIndex := 39, attributes := #[] }, { accessFlags := 25, nameIndex := 121, descriptorIndex := 25, attributes := #[] }, { accessFlags := 25, nameIndex := 131, descriptorIndex := 25, attributes := #[] }, { accessFlags := 25, nameIndex := 137, descriptorIndex := 25, attributes := #[] }, { accessFlags := 25, nameIndex := 143, descriptorIndex := 25, attributes := #[] }, { accessFlags := 25, nameIndex := 53, descriptorIndex := 25, attributes := #[] }, { accessFlags := 25, nameIndex := 24, descriptorIndex := 25, attributes := #[] }, { accessFlags := 25, nameIndex := 162, descriptorIndex := 25, attributes := #[] }, { accessFlags := 25, nameIndex := 187, descriptorIndex := 25, attributes := #[] }, { accessFlags := 26, nameIndex := 48, descriptorIndex := 25, attributes := #[] }, { accessFlags := 25, nameIndex := 277, descriptorIndex := 25, attributes := #[] }, { accessFlags := 25, nameIndex := 280, descriptorIndex := 25, attributes := #[] }, { accessFlags := 25, nameIndex := 282, descriptorIndex := 25, attributes := #[] }, { accessFlags := 25, nameIndex := 284, descriptorIndex := 25, attributes := #[] }, { accessFlags := 25, nameIndex := 286, descriptorIndex := 25, attributes := #[] }, { accessFlags := 25, nameIndex := 288, descriptorIndex := 25, attributes := #[] }, { accessFlags := 25, nameIndex := 290, descriptorIndex := 25, attributes := #[] }, { accessFlags := 25, nameIndex := 292, descriptorIndex := 25, attributes := #[] }, { accessFlags := 26, nameIndex := 108, descriptorIndex := 109, attributes := #[] }, { accessFlags := 25, nameIndex := 294, descriptorIndex := 25, attributes := #[] }])
  fields := #[{ name := "U", type := (.object "jdk/internal/misc/Unsafe"), accessFlags := 24, slot := 0, constantValue := 0 }, { name := "BIG_ENDIAN", type := .boolean, accessFlags := 26, slot := 1, constantValue := 0 }, { name := "LOG2_ARRAY_BOOLEAN_INDEX_SCALE", type := .int, accessFlags := 25, slot := 2, constantValue := 0 }, { name := "LOG2_ARRAY_BYTE_INDEX_SCALE", type := .int, accessFlags := 25, slot := 3, constantValue := 0 }, { name := "LOG2_ARRAY_CHAR_INDEX_SCALE", type := .int, accessFlags := 25, slot := 4, constantValue := 0 }, { name := "LOG2_ARRAY_SHORT_INDEX_SCALE", type := .int, accessFlags := 25, slot := 5, constantValue := 0 }, { name := "LOG2_ARRAY_INT_INDEX_SCALE", type := .int, accessFlags := 25, slot := 6, constantValue := 0 }, { name := "LOG2_ARRAY_LONG_INDEX_SCALE", type := .int, accessFlags := 25, slot := 7, constantValue := 0 }, { name := "LOG2_ARRAY_FLOAT_INDEX_SCALE", type := .int, accessFlags := 25, slot := 8, constantValue := 0 }, { name := "LOG2_ARRAY_DOUBLE_INDEX_SCALE", type := .int, accessFlags := 25, slot := 9, constantValue := 0 }, { name := "LOG2_BYTE_BIT_SIZE", type := .int, accessFlags := 26, slot := 10, constantValue := 0 }, { name := "T_BOOLEAN", type := .int, accessFlags := 25, slot := 11, constantValue := 0 }, { name := "T_CHAR", type := .int, accessFlags := 25, slot := 12, constantValue := 0 }, { name := "T_FLOAT", type := .int, accessFlags := 25, slot := 13, constantValue := 0 }, { name := "T_DOUBLE", type := .int, accessFlags := 25, slot := 14, constantValue := 0 }, { name := "T_BYTE", type := .int, accessFlags := 25, slot := 15, constantValue := 0 }, { name := "T_SHORT", type := .int, accessFlags := 25, slot := 16, constantValue := 0 }, { name := "T_INT", type := .int, accessFlags := 25, slot := 17, constantValue := 0 }, { name := "T_LONG", type := .int, accessFlags := 25, slot := 18, constantValue := 0 }, { name := "JLA", type := (.object "jdk/internal/access/JavaLangAccess"), accessFlags := 26, slot := 19, constantValue := 0 }, { name := "SOFT_MAX_ARRAY_LENGTH", type := .int, accessFlags := 25, slot := 20, constantValue := 0 }]
  methods := #[k18m0]
  instanceTypes := #[]
  staticTypes := #[(.object "jdk/internal/misc/Unsafe"), .boolean, .int, .int, .int, .int, .int, .int, .int, .int, .int, .int, .int, .int, .int, .int, .int, .int, .int, (.object "jdk/internal/access/JavaLangAccess"), .int]
  resolved := Array.replicate 378 none
  statics := none }

def pool19 : Array CpInfo := pool [(1, u "java/lang/Cloneable"), (0, .class_ 1), (0, u "java/lang/Object"), (0, .class_ 3)] 3

/-- java/lang/Cloneable -/
def k19 : Class := { plain "java/lang/Cloneable" (some 0) with
  accessFlags := 1537
  interfaces := #[]
  cf := some (fileOf pool19 2 #[] #[] 1537 4 #[] #[])
  fields := #[]
  methods := #[]
  instanceTypes := #[]
  staticTypes := #[]
  resolved := Array.replicate 8 none
  statics := none }

/-- the primitive byte -/
def k20 : Class := { plain "byte" none with kind := .primitive 'B', accessFlags := 0x411 }
/-- [B -/
def k21 : Class := { plain "[B" (some 0) with kind := .array 20 .byte, interfaces := #[19, 2], accessFlags := 1041 }

/-- the primitive char -/
def k22 : Class := { plain "char" none with kind := .primitive 'C', accessFlags := 0x411 }
/-- [C -/
def k23 : Class := { plain "[C" (some 0) with kind := .array 22 .char, interfaces := #[19, 2], accessFlags := 1041 }

/-- the primitive int -/
def k24 : Class := { plain "int" none with kind := .primitive 'I', accessFlags := 0x411 }
/-- [I -/
def k25 : Class := { plain "[I" (some 0) with kind := .array 24 .int, interfaces := #[19, 2], accessFlags := 1041 }

def heap : Heap := #[{ cls := 7, slots := #[.long 0, .int 1, .null, .int 0, .null, .int 0, .int 0], vm := .statics 7 },
  { cls := 17, slots := #[.null, .null, .null], vm := .statics 17 }]
def classes : Array Class := #[k0, k1, k2, k3, k4, k5, k6, k7, k8, k9, k10, k11, k12, k13, k14, k15, k16, k17, k18, k19, k20, k21, k22, k23, k24, k25]
def interned : List (Array UInt16 × Addr) := []
def slotsUsed : Nat := 10
def theMethod : MethodId := ⟨1, 1⟩
def args0 : Array Value := #[.int 5, .int 6, .int 7]
def aboutOver (below : List Frame) : State where
  vm := { classes := classes, interned := interned.toArray }
  heap := heap
  slotsUsed := slotsUsed
  threads := #[{ frames := .invoking theMethod args0 :: below }]
def below0 : List Frame := [.native { method := ⟨0, 0⟩, args := #[] }]
def about1 : State := aboutOver below0
def p0 : Program := .bare "" "" ""
def e0 : Env := launch0.env 0 0 0
theorem w_frames : about1.frames = Frame.invoking theMethod args0 :: below0 := rfl
set_option maxRecDepth 65536 in
theorem w_args : argsFit about1.vm theMethod args0 = true := by decide +kernel
set_option maxRecDepth 65536 in
theorem w_heap : heapFits about1 = true := by decide +kernel
set_option maxRecDepth 65536 in
theorem w_runnable : about1.curStatus? = some .runnable := by decide +kernel
set_option maxRecDepth 65536 in
theorem w_alone : about1.alone = true := by decide +kernel
set_option maxRecDepth 65536 in
theorem w_named : about1.methodNamed? x = some theMethod := by decide +kernel
set_option maxRecDepth 65536 in
theorem w_hears : about1.hears theMethod below0 = true := by decide +kernel
set_option maxRecDepth 65536 in
theorem w_ripe : about1.ripe theMethod args0 below0 = true := by decide +kernel
theorem w_running : about1.status = .running := rfl
set_option maxRecDepth 65536 in
theorem w_room : about1.hasRoom e0.platform room_1 = true :=
  launch0.hasRoom_least _ room_1 (by decide +kernel) (by decide +kernel) (by decide +kernel) (by decide +kernel) (by decide +kernel) (by decide +kernel)
theorem allAtoms_all (ts : List Jvm.Cond) (a : Array Jvm.Value) (st : Jvm.State) : (allAtoms ts).before a st = ts.all (fun c => c.before a st) := by
  induction ts with
  | nil => rfl
  | cons c t ih =>
    show (Jvm.Cond.and c (allAtoms t)).before a st = _
    rw [Jvm.Cond.before_and, ih, List.all_cons]
def words1 : List Jvm.Cond := Jvm.Cond.code x code maxLocals ret :: tables_1
/-- a 'code' word, met by the world's own term for the bytes: nothing is compared byte by byte -/
theorem code_word {y : MethodName} {bytes : ByteArray} {mx : Nat} {rt : Option FieldType} {a : Array Value} {s : State} {m : MethodId} {meth : Method} {c : Code} (h1 : s.methodNamed? y = some m) (h2 : s.vm.method? m = some meth) (h3 : meth.code = some c) (h4 : c.code = bytes)
    (h5 : (c.maxLocals == mx && c.exceptionTable.isEmpty && decide (c.maxStack ≤ mostOperands) && decide (meth.sig.returnType = rt) && !meth.locks && decide (parseMethodDescriptor y.desc = some meth.sig)) = true) : (Jvm.Cond.code y bytes mx rt).before a s = true := by
  simp only [Bool.and_eq_true, beq_iff_eq, Bool.not_eq_true', decide_eq_true_eq] at h5
  obtain ⟨⟨⟨⟨⟨g1, g2⟩, g3⟩, g4⟩, g5⟩, g6⟩ := h5
  simp [Cond.before, Cond.holds, Cond.value, h1, h2, h3, h4, g1, g2, g3, g4, g5, g6]
def isCode : Jvm.Cond → Bool
  | .code _ _ _ _ => true
  | _ => false
theorem all_split {L : List Jvm.Cond} {P : Jvm.Cond → Bool} (h1 : L.all (fun c => isCode c || P c) = true) (h2 : ∀ c ∈ L.filter isCode, P c = true) : L.all P = true := by
  refine List.all_eq_true.mpr fun c hc => ?_
  have h := List.all_eq_true.mp h1 c hc
  rcases Bool.eq_false_or_eq_true (isCode c) with hi | hi
  · exact h2 c (List.mem_filter.mpr ⟨hc, hi⟩)
  · simpa [hi] using h
set_option maxRecDepth 65536 in
theorem w_c0 : (Jvm.Cond.code x code maxLocals ret).before args0 about1 = true := code_word (m := ⟨1, 1⟩) (meth := k1m1) (c := k1c1) (by decide +kernel) rfl rfl rfl (by decide +kernel)
set_option maxRecDepth 65536 in
theorem w_c1 : (Jvm.Cond.code ({ cls := "java/lang/String", name := "<init>", desc := "([C)V" } : Jvm.MethodName) jdk_42_method_3_code (2 : Nat) (Option.none : Option Jvm.ClassFile.FieldType)).before args0 about1 = true := code_word (m := ⟨7, 1⟩) (meth := k7m1) (c := k7c1) (by decide +kernel) rfl rfl rfl (by decide +kernel)
set_option maxRecDepth 65536 in
theorem w_c2 : (Jvm.Cond.code ({ cls := "java/lang/String", name := "<init>", desc := "([CIILjava/lang/Void;)V" } : Jvm.MethodName) jdk_42_method_149_code (6 : Nat) (Option.none : Option Jvm.ClassFile.FieldType)).before args0 about1 = true := code_word (m := ⟨7, 6⟩) (meth := k7m6) (c := k7c6) (by decide +kernel) rfl rfl rfl (by decide +kernel)
set_option maxRecDepth 65536 in
theorem w_c3 : (Jvm.Cond.code ({ cls := "java/lang/Object", name := "<init>", desc := "()V" } : Jvm.MethodName) object_method_1_code (1 : Nat) (Option.none : Option Jvm.ClassFile.FieldType)).before args0 about1 = true := code_word (m := ⟨0, 0⟩) (meth := k0m0) (c := k0c0) (by decide +kernel) rfl rfl rfl (by decide +kernel)
set_option maxRecDepth 65536 in
theorem w_c4 : (Jvm.Cond.code ({ cls := "java/lang/StringUTF16", name := "compress", desc := "([CII)[B" } : Jvm.MethodName) jdk_52_method_16_code (6 : Nat) (Option.some (Jvm.ClassFile.FieldType.array Jvm.ClassFile.FieldType.byte))).before args0 about1 = true := code_word (m := ⟨8, 2⟩) (meth := k8m2) (c := k8c2) (by decide +kernel) rfl rfl rfl (by decide +kernel)
set_option maxRecDepth 65536 in
theorem w_c5 : (Jvm.Cond.code ({ cls := "java/lang/StringUTF16", name := "compress", desc := "([CI[BII)I" } : Jvm.MethodName) jdk_52_method_21_code (7 : Nat) (Option.some Jvm.ClassFile.FieldType.int)).before args0 about1 = true := code_word (m := ⟨8, 3⟩) (meth := k8m3) (c := k8c3) (by decide +kernel) rfl rfl rfl (by decide +kernel)
set_option maxRecDepth 65536 in
theorem w_c6 : (Jvm.Cond.code ({ cls := "java/lang/StringUTF16", name := "coderFromArrayLen", desc := "([BI)B" } : Jvm.MethodName) jdk_52_method_15_code (2 : Nat) (Option.some Jvm.ClassFile.FieldType.byte)).before args0 about1 = true := code_word (m := ⟨8, 1⟩) (meth := k8m1) (c := k8c1) (by decide +kernel) rfl rfl rfl (by decide +kernel)
set_option maxRecDepth 65536 in
theorem w_c7 : (Jvm.Cond.code ({ cls := "com/example/frontier/frontier/replay/ReplayPath", name := "of", desc := "(Ljava/lang/String;ZLjava/lang/String;)Ljava/lang/String;" } : Jvm.MethodName) prog_34_method_3_code (3 : Nat) (Option.some (Jvm.ClassFile.FieldType.object "java/lang/String"))).before args0 about1 = true := code_word (m := ⟨9, 0⟩) (meth := k9m0) (c := k9c0) (by decide +kernel) rfl rfl rfl (by decide +kernel)
set_option maxRecDepth 65536 in
theorem w_c8 : (Jvm.Cond.code ({ cls := "java/lang/StringBuilder", name := "<init>", desc := "()V" } : Jvm.MethodName) jdk_67_method_1_code (1 : Nat) (Option.none : Option Jvm.ClassFile.FieldType)).before args0 about1 = true := code_word (m := ⟨12, 0⟩) (meth := k12m0) (c := k12c0) (by decide +kernel) rfl rfl rfl (by decide +kernel)
set_option maxRecDepth 65536 in
theorem w_c9 : (Jvm.Cond.code ({ cls := "java/lang/AbstractStringBuilder", name := "<init>", desc := "(I)V" } : Jvm.MethodName) jdk_68_method_2_code (2 : Nat) (Option.none : Option Jvm.ClassFile.FieldType)).before args0 about1 = true := code_word (m := ⟨11, 1⟩) (meth := k11m1) (c := k11c1) (by decide +kernel) rfl rfl rfl (by decide +kernel)
set_option maxRecDepth 65536 in
theorem w_c10 : (Jvm.Cond.code ({ cls := "java/lang/StringBuilder", name := "append", desc := "(Ljava/lang/String;)Ljava/lang/StringBuilder;" } : Jvm.MethodName) jdk_67_method_7_code (2 : Nat) (Option.some (Jvm.ClassFile.FieldType.object "java/lang/StringBuilder"))).before args0 about1 = true := code_word (m := ⟨12, 1⟩) (meth := k12m1) (c := k12c1) (by decide +kernel) rfl rfl rfl (by decide +kernel)
set_option maxRecDepth 65536 in
theorem w_c11 : (Jvm.Cond.code ({ cls := "java/lang/AbstractStringBuilder", name := "append", desc := "(Ljava/lang/String;)Ljava/lang/AbstractStringBuilder;" } : Jvm.MethodName) jdk_68_method_22_code (3 : Nat) (Option.some (Jvm.ClassFile.FieldType.object "java/lang/AbstractStringBuilder"))).before args0 about1 = true := code_word (m := ⟨11, 4⟩) (meth := k11m4) (c := k11c4) (by decide +kernel) rfl rfl rfl (by decide +kernel)
set_option maxRecDepth 65536 in
theorem w_c12 : (Jvm.Cond.code ({ cls := "java/lang/String", name := "length", desc := "()I" } : Jvm.MethodName) jdk_42_method_54_code (1 : Nat) (Option.some Jvm.ClassFile.FieldType.int)).before args0 about1 = true := code_word (m := ⟨7, 3⟩) (meth := k7m3) (c := k7c3) (by decide +kernel) rfl rfl rfl (by decide +kernel)
set_option maxRecDepth 65536 in
theorem w_c13 : (Jvm.Cond.code ({ cls := "java/lang/String", name := "coder", desc := "()B" } : Jvm.MethodName) jdk_42_method_152_code (1 : Nat) (Option.some Jvm.ClassFile.FieldType.byte)).before args0 about1 = true := code_word (m := ⟨7, 8⟩) (meth := k7m8) (c := k7c8) (by decide +kernel) rfl rfl rfl (by decide +kernel)
set_option maxRecDepth 65536 in
theorem w_c14 : (Jvm.Cond.code ({ cls := "java/lang/AbstractStringBuilder", name := "ensureCapacityInternal", desc := "(I)V" } : Jvm.MethodName) jdk_68_method_9_code (3 : Nat) (Option.none : Option Jvm.ClassFile.FieldType)).before args0 about1 = true := code_word (m := ⟨11, 3⟩) (meth := k11m3) (c := k11c3) (by decide +kernel) rfl rfl rfl (by decide +kernel)
set_option maxRecDepth 65536 in
theorem w_c15 : (Jvm.Cond.code ({ cls := "java/lang/AbstractStringBuilder", name := "putStringAt", desc := "(ILjava/lang/String;)V" } : Jvm.MethodName) jdk_68_method_73_code (3 : Nat) (Option.none : Option Jvm.ClassFile.FieldType)).before args0 about1 = true := code_word (m := ⟨11, 8⟩) (meth := k11m8) (c := k11c8) (by decide +kernel) rfl rfl rfl (by decide +kernel)
set_option maxRecDepth 65536 in
theorem w_c16 : (Jvm.Cond.code ({ cls := "java/lang/AbstractStringBuilder", name := "inflateIfNeededFor", desc := "(Ljava/lang/String;)V" } : Jvm.MethodName) jdk_68_method_71_code (2 : Nat) (Option.none : Option Jvm.ClassFile.FieldType)).before args0 about1 = true := code_word (m := ⟨11, 7⟩) (meth := k11m7) (c := k11c7) (by decide +kernel) rfl rfl rfl (by decide +kernel)
set_option maxRecDepth 65536 in
theorem w_c17 : (Jvm.Cond.code ({ cls := "java/lang/String", name := "getBytes", desc := "([BIB)V" } : Jvm.MethodName) jdk_42_method_147_code (4 : Nat) (Option.none : Option Jvm.ClassFile.FieldType)).before args0 about1 = true := code_word (m := ⟨7, 5⟩) (meth := k7m5) (c := k7c5) (by decide +kernel) rfl rfl rfl (by decide +kernel)
set_option maxRecDepth 65536 in
theorem w_c18 : (Jvm.Cond.code ({ cls := "java/lang/StringBuilder", name := "toString", desc := "()Ljava/lang/String;" } : Jvm.MethodName) jdk_67_method_42_code (1 : Nat) (Option.some (Jvm.ClassFile.FieldType.object "java/lang/String"))).before args0 about1 = true := code_word (m := ⟨12, 2⟩) (meth := k12m2) (c := k12c2) (by decide +kernel) rfl rfl rfl (by decide +kernel)
set_option maxRecDepth 65536 in
theorem w_c19 : (Jvm.Cond.code ({ cls := "java/lang/String", name := "<init>", desc := "(Ljava/lang/StringBuilder;)V" } : Jvm.MethodName) jdk_42_method_53_code (2 : Nat) (Option.none : Option Jvm.ClassFile.FieldType)).before args0 about1 = true := code_word (m := ⟨7, 2⟩) (meth := k7m2) (c := k7c2) (by decide +kernel) rfl rfl rfl (by decide +kernel)
set_option maxRecDepth 65536 in
theorem w_c20 : (Jvm.Cond.code ({ cls := "java/lang/String", name := "<init>", desc := "(Ljava/lang/AbstractStringBuilder;Ljava/lang/Void;)V" } : Jvm.MethodName) jdk_42_method_150_code (5 : Nat) (Option.none : Option Jvm.ClassFile.FieldType)).before args0 about1 = true := code_word (m := ⟨7, 7⟩) (meth := k7m7) (c := k7c7) (by decide +kernel) rfl rfl rfl (by decide +kernel)
set_option maxRecDepth 65536 in
theorem w_c21 : (Jvm.Cond.code ({ cls := "java/lang/AbstractStringBuilder", name := "getValue", desc := "()[B" } : Jvm.MethodName) jdk_68_method_64_code (1 : Nat) (Option.some (Jvm.ClassFile.FieldType.array Jvm.ClassFile.FieldType.byte))).before args0 about1 = true := code_word (m := ⟨11, 5⟩) (meth := k11m5) (c := k11c5) (by decide +kernel) rfl rfl rfl (by decide +kernel)
set_option maxRecDepth 65536 in
theorem w_c22 : (Jvm.Cond.code ({ cls := "java/lang/StringBuilder", name := "length", desc := "()I" } : Jvm.MethodName) jdk_67_method_93_code (1 : Nat) (Option.some Jvm.ClassFile.FieldType.int)).before args0 about1 = true := code_word (m := ⟨12, 3⟩) (meth := k12m3) (c := k12c3) (by decide +kernel) rfl rfl rfl (by decide +kernel)
set_option maxRecDepth 65536 in
theorem w_c23 : (Jvm.Cond.code ({ cls := "java/lang/AbstractStringBuilder", name := "length", desc := "()I" } : Jvm.MethodName) jdk_68_method_6_code (1 : Nat) (Option.some Jvm.ClassFile.FieldType.int)).before args0 about1 = true := code_word (m := ⟨11, 2⟩) (meth := k11m2) (c := k11c2) (by decide +kernel) rfl rfl rfl (by decide +kernel)
set_option maxRecDepth 65536 in
theorem w_c24 : (Jvm.Cond.code ({ cls := "java/lang/AbstractStringBuilder", name := "isLatin1", desc := "()Z" } : Jvm.MethodName) jdk_68_method_68_code (1 : Nat) (Option.some Jvm.ClassFile.FieldType.boolean)).before args0 about1 = true := code_word (m := ⟨11, 6⟩) (meth := k11m6) (c := k11c6) (by decide +kernel) rfl rfl rfl (by decide +kernel)
set_option maxRecDepth 65536 in
theorem w_c25 : (Jvm.Cond.code ({ cls := "java/util/Arrays", name := "copyOfRange", desc := "([BII)[B" } : Jvm.MethodName) jdk_65_method_132_code (3 : Nat) (Option.some (Jvm.ClassFile.FieldType.array Jvm.ClassFile.FieldType.byte))).before args0 about1 = true := code_word (m := ⟨14, 2⟩) (meth := k14m2) (c := k14c2) (by decide +kernel) rfl rfl rfl (by decide +kernel)
set_option maxRecDepth 65536 in
theorem w_c26 : (Jvm.Cond.code ({ cls := "java/util/Arrays", name := "copyOfRangeByte", desc := "([BII)[B" } : Jvm.MethodName) jdk_65_method_133_code (5 : Nat) (Option.some (Jvm.ClassFile.FieldType.array Jvm.ClassFile.FieldType.byte))).before args0 about1 = true := code_word (m := ⟨14, 3⟩) (meth := k14m3) (c := k14c3) (by decide +kernel) rfl rfl rfl (by decide +kernel)
set_option maxRecDepth 65536 in
theorem w_c27 : (Jvm.Cond.code ({ cls := "java/util/Arrays", name := "checkLength", desc := "(II)V" } : Jvm.MethodName) jdk_65_method_131_code (2 : Nat) (Option.none : Option Jvm.ClassFile.FieldType)).before args0 about1 = true := code_word (m := ⟨14, 1⟩) (meth := k14m1) (c := k14c1) (by decide +kernel) rfl rfl rfl (by decide +kernel)
set_option maxRecDepth 65536 in
theorem w_c28 : (Jvm.Cond.code ({ cls := "java/lang/Math", name := "min", desc := "(II)I" } : Jvm.MethodName) jdk_29_method_69_code (2 : Nat) (Option.some Jvm.ClassFile.FieldType.int)).before args0 about1 = true := code_word (m := ⟨15, 1⟩) (meth := k15m1) (c := k15c1) (by decide +kernel) rfl rfl rfl (by decide +kernel)
set_option maxRecDepth 65536 in
theorem w_c29 : (Jvm.Cond.code ({ cls := "java/lang/String", name := "equals", desc := "(Ljava/lang/Object;)Z" } : Jvm.MethodName) jdk_42_method_66_code (3 : Nat) (Option.some Jvm.ClassFile.FieldType.boolean)).before args0 about1 = true := code_word (m := ⟨7, 4⟩) (meth := k7m4) (c := k7c4) (by decide +kernel) rfl rfl rfl (by decide +kernel)
set_option maxRecDepth 65536 in
theorem w_c30 : (Jvm.Cond.code ({ cls := "java/lang/StringLatin1", name := "equals", desc := "([B[B)Z" } : Jvm.MethodName) jdk_43_method_13_code (3 : Nat) (Option.some Jvm.ClassFile.FieldType.boolean)).before args0 about1 = true := code_word (m := ⟨16, 1⟩) (meth := k16m1) (c := k16c1) (by decide +kernel) rfl rfl rfl (by decide +kernel)
def codes1 : List Jvm.Cond := [Jvm.Cond.code x code maxLocals ret, Jvm.Cond.code ({ cls := "java/lang/String", name := "<init>", desc := "([C)V" } : Jvm.MethodName) jdk_42_method_3_code (2 : Nat) (Option.none : Option Jvm.ClassFile.FieldType), Jvm.Cond.code ({ cls := "java/lang/String", name := "<init>", desc := "([CIILjava/lang/Void;)V" } : Jvm.MethodName) jdk_42_method_149_code (6 : Nat) (Option.none : Option Jvm.ClassFile.FieldType), Jvm.Cond.code ({ cls := "java/lang/Object", name := "<init>", desc := "()V" } : Jvm.MethodName) object_method_1_code (1 : Nat) (Option.none : Option Jvm.ClassFile.FieldType), Jvm.Cond.code ({ cls := "java/lang/StringUTF16", name := "compress", desc := "([CII)[B" } : Jvm.MethodName) jdk_52_method_16_code (6 : Nat) (Option.some (Jvm.ClassFile.FieldType.array Jvm.ClassFile.FieldType.byte)), Jvm.Cond.code ({ cls := "java/lang/StringUTF16", name := "compress", desc := "([CI[BII)I" } : Jvm.MethodName) jdk_52_method_21_code (7 : Nat) (Option.some Jvm.ClassFile.FieldType.int), Jvm.Cond.code ({ cls := "java/lang/StringUTF16", name := "coderFromArrayLen", desc := "([BI)B" } : Jvm.MethodName) jdk_52_method_15_code (2 : Nat) (Option.some Jvm.ClassFile.FieldType.byte), Jvm.Cond.code ({ cls := "com/example/frontier/frontier/replay/ReplayPath", name := "of", desc := "(Ljava/lang/String;ZLjava/lang/String;)Ljava/lang/String;" } : Jvm.MethodName) prog_34_method_3_code (3 : Nat) (Option.some (Jvm.ClassFile.FieldType.object "java/lang/String")), Jvm.Cond.code ({ cls := "java/lang/StringBuilder", name := "<init>", desc := "()V" } : Jvm.MethodName) jdk_67_method_1_code (1 : Nat) (Option.none : Option Jvm.ClassFile.FieldType), Jvm.Cond.code ({ cls := "java/lang/AbstractStringBuilder", name := "<init>", desc := "(I)V" } : Jvm.MethodName) jdk_68_method_2_code (2 : Nat) (Option.none : Option Jvm.ClassFile.FieldType), Jvm.Cond.code ({ cls := "java/lang/StringBuilder", name := "append", desc := "(Ljava/lang/String;)Ljava/lang/StringBuilder;" } : Jvm.MethodName) jdk_67_method_7_code (2 : Nat) (Option.some (Jvm.ClassFile.FieldType.object "java/lang/StringBuilder")), Jvm.Cond.code ({ cls := "java/lang/AbstractStringBuilder", name := "append", desc := "(Ljava/lang/String;)Ljava/lang/AbstractStringBuilder;" } : Jvm.MethodName) jdk_68_method_22_code (3 : Nat) (Option.some (Jvm.ClassFile.FieldType.object "java/lang/AbstractStringBuilder")), Jvm.Cond.code ({ cls := "java/lang/String", name := "length", desc := "()I" } : Jvm.MethodName) jdk_42_method_54_code (1 : Nat) (Option.some Jvm.ClassFile.FieldType.int), Jvm.Cond.code ({ cls := "java/lang/String", name := "coder", desc := "()B" } : Jvm.MethodName) jdk_42_method_152_code (1 : Nat) (Option.some Jvm.ClassFile.FieldType.byte), Jvm.Cond.code ({ cls := "java/lang/AbstractStringBuilder", name := "ensureCapacityInternal", desc := "(I)V" } : Jvm.MethodName) jdk_68_method_9_code (3 : Nat) (Option.none : Option Jvm.ClassFile.FieldType), Jvm.Cond.code ({ cls := "java/lang/AbstractStringBuilder", name := "putStringAt", desc := "(ILjava/lang/String;)V" } : Jvm.MethodName) jdk_68_method_73_code (3 : Nat) (Option.none : Option Jvm.ClassFile.FieldType), Jvm.Cond.code ({ cls := "java/lang/AbstractStringBuilder", name := "inflateIfNeededFor", desc := "(Ljava/lang/String;)V" } : Jvm.MethodName) jdk_68_method_71_code (2 : Nat) (Option.none : Option Jvm.ClassFile.FieldType), Jvm.Cond.code ({ cls := "java/lang/String", name := "getBytes", desc := "([BIB)V" } : Jvm.MethodName) jdk_42_method_147_code (4 : Nat) (Option.none : Option Jvm.ClassFile.FieldType), Jvm.Cond.code ({ cls := "java/lang/StringBuilder", name := "toString", desc := "()Ljava/lang/String;" } : Jvm.MethodName) jdk_67_method_42_code (1 : Nat) (Option.some (Jvm.ClassFile.FieldType.object "java/lang/String")), Jvm.Cond.code ({ cls := "java/lang/String", name := "<init>", desc := "(Ljava/lang/StringBuilder;)V" } : Jvm.MethodName) jdk_42_method_53_code (2 : Nat) (Option.none : Option Jvm.ClassFile.FieldType), Jvm.Cond.code ({ cls := "java/lang/String", name := "<init>", desc := "(Ljava/lang/AbstractStringBuilder;Ljava/lang/Void;)V" } : Jvm.MethodName) jdk_42_method_150_code (5 : Nat) (Option.none : Option Jvm.ClassFile.FieldType), Jvm.Cond.code ({ cls := "java/lang/AbstractStringBuilder", name := "getValue", desc := "()[B" } : Jvm.MethodName) jdk_68_method_64_code (1 : Nat) (Option.some (Jvm.ClassFile.FieldType.array Jvm.ClassFile.FieldType.byte)), Jvm.Cond.code ({ cls := "java/lang/StringBuilder", name := "length", desc := "()I" } : Jvm.MethodName) jdk_67_method_93_code (1 : Nat) (Option.some Jvm.ClassFile.FieldType.int), Jvm.Cond.code ({ cls := "java/lang/AbstractStringBuilder", name := "length", desc := "()I" } : Jvm.MethodName) jdk_68_method_6_code (1 : Nat) (Option.some Jvm.ClassFile.FieldType.int), Jvm.Cond.code ({ cls := "java/lang/AbstractStringBuilder", name := "isLatin1", desc := "()Z" } : Jvm.MethodName) jdk_68_method_68_code (1 : Nat) (Option.some Jvm.ClassFile.FieldType.boolean), Jvm.Cond.code ({ cls := "java/util/Arrays", name := "copyOfRange", desc := "([BII)[B" } : Jvm.MethodName) jdk_65_method_132_code (3 : Nat) (Option.some (Jvm.ClassFile.FieldType.array Jvm.ClassFile.FieldType.byte)), Jvm.Cond.code ({ cls := "java/util/Arrays", name := "copyOfRangeByte", desc := "([BII)[B" } : Jvm.MethodName) jdk_65_method_133_code (5 : Nat) (Option.some (Jvm.ClassFile.FieldType.array Jvm.ClassFile.FieldType.byte)), Jvm.Cond.code ({ cls := "java/util/Arrays", name := "checkLength", desc := "(II)V" } : Jvm.MethodName) jdk_65_method_131_code (2 : Nat) (Option.none : Option Jvm.ClassFile.FieldType), Jvm.Cond.code ({ cls := "java/lang/Math", name := "min", desc := "(II)I" } : Jvm.MethodName) jdk_29_method_69_code (2 : Nat) (Option.some Jvm.ClassFile.FieldType.int), Jvm.Cond.code ({ cls := "java/lang/String", name := "equals", desc := "(Ljava/lang/Object;)Z" } : Jvm.MethodName) jdk_42_method_66_code (3 : Nat) (Option.some Jvm.ClassFile.FieldType.boolean), Jvm.Cond.code ({ cls := "java/lang/StringLatin1", name := "equals", desc := "([B[B)Z" } : Jvm.MethodName) jdk_43_method_13_code (3 : Nat) (Option.some Jvm.ClassFile.FieldType.boolean)]
set_option maxRecDepth 65536 in
theorem codes_eq : words1.filter isCode = codes1 := rfl
theorem w_codes : ∀ c ∈ words1.filter isCode, c.before args0 about1 = true := by
  rw [codes_eq]
  intro c hc
  simp only [codes1, List.mem_cons, List.not_mem_nil, or_false] at hc
  rcases hc with rfl | rfl | rfl | rfl | rfl | rfl | rfl | rfl | rfl | rfl | rfl | rfl | rfl | rfl | rfl | rfl | rfl | rfl | rfl | rfl | rfl | rfl | rfl | rfl | rfl | rfl | rfl | rfl | rfl | rfl | rfl
  · exact w_c0
  · exact w_c1
  · exact w_c2
  · exact w_c3
  · exact w_c4
  · exact w_c5
  · exact w_c6
  · exact w_c7
  · exact w_c8
  · exact w_c9
  · exact w_c10
  · exact w_c11
  · exact w_c12
  · exact w_c13
  · exact w_c14
  · exact w_c15
  · exact w_c16
  · exact w_c17
  · exact w_c18
  · exact w_c19
  · exact w_c20
  · exact w_c21
  · exact w_c22
  · exact w_c23
  · exact w_c24
  · exact w_c25
  · exact w_c26
  · exact w_c27
  · exact w_c28
  · exact w_c29
  · exact w_c30
set_option maxRecDepth 65536 in
theorem w_t1 : (words1.take 24).all (fun c => isCode c || c.before args0 about1) = true := by decide +kernel
set_option maxRecDepth 65536 in
theorem w_t2 : ((words1.drop 24).take 24).all (fun c => isCode c || c.before args0 about1) = true := by decide +kernel
set_option maxRecDepth 65536 in
theorem w_t3 : (((words1.drop 24).drop 24).take 24).all (fun c => isCode c || c.before args0 about1) = true := by decide +kernel
set_option maxRecDepth 65536 in
theorem w_t4 : ((((words1.drop 24).drop 24).drop 24).take 24).all (fun c => isCode c || c.before args0 about1) = true := by decide +kernel
set_option maxRecDepth 65536 in
theorem w_t5 : (((((words1.drop 24).drop 24).drop 24).drop 24).take 24).all (fun c => isCode c || c.before args0 about1) = true := by decide +kernel
set_option maxRecDepth 65536 in
theorem w_t6 : ((((((words1.drop 24).drop 24).drop 24).drop 24).drop 24).take 24).all (fun c => isCode c || c.before args0 about1) = true := by decide +kernel
set_option maxRecDepth 65536 in
theorem w_t7 : ((((((words1.drop 24).drop 24).drop 24).drop 24).drop 24).drop 24).all (fun c => isCode c || c.before args0 about1) = true := by decide +kernel
theorem w_tables : (allAtoms (Jvm.Cond.code x code maxLocals ret :: tables_1)).before args0 about1 = true := by
  rw [allAtoms_all]
  show words1.all (fun c => c.before args0 about1) = true
  refine all_split ?_ w_codes
  rw [← List.take_append_drop 24 words1, List.all_append, w_t1, ← List.take_append_drop 24 (words1.drop 24), List.all_append, w_t2, ← List.take_append_drop 24 ((words1.drop 24).drop 24), List.all_append, w_t3, ← List.take_append_drop 24 (((words1.drop 24).drop 24).drop 24), List.all_append, w_t4, ← List.take_append_drop 24 ((((words1.drop 24).drop 24).drop 24).drop 24), List.all_append, w_t5, ← List.take_append_drop 24 (((((words1.drop 24).drop 24).drop 24).drop 24).drop 24), List.all_append, w_t6, w_t7]
  rfl
set_option maxRecDepth 65536 in
theorem w_rest : rest_1_c.before args0 about1 = true := by decide +kernel
set_option maxRecDepth 65536 in
theorem w_case : (Jvm.Cond.and given_1 narrow_1).before args0 about1 = true := by decide +kernel
set_option maxRecDepth 65536 in
theorem w_consts : constsHeld consts_1 about1 := Jvm.Lit.constsHeldB_iff.mp (by decide +kernel)
theorem w_applies : (headSpec (Jvm.Cond.code x code maxLocals ret :: tables_1) room_1).applies x e0.platform about1 = true :=
  (Spec.applies_iff w_frames).mpr ⟨w_running, w_runnable, w_alone, w_named, w_hears, w_ripe, w_room, w_tables⟩
theorem atStart : AtStart classFile x code maxLocals ret World_1 tables_1 room_1 Calls_1 rest_1 Pre_1 launch0 p0 e0 about1 theMethod args0 below0 :=
  ⟨lists_1, trivial, launch0.admits_env _ _ _, launch0.least_env, fairChoices_fair.cas, fairChoices_fair.clock, w_frames, w_args, w_heap, w_applies, ⟨w_consts, trivial⟩, w_rest, w_case⟩
end start1
theorem witness_1 : WitnessClaimed_1 := ⟨start1.p0, start1.e0, start1.about1, start1.theMethod, start1.args0, start1.below0, start1.atStart⟩
end Jvm.Pilot.@@N@@
