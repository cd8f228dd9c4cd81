import JvmDerived
import JvmDerived.Pilot.@@N@@Statement
import JvmDerived.Pilot.@@N@@Code
set_option linter.unusedVariables false
set_option linter.unusedSimpArgs false
/- laws to paste: Road.backV, Road.lenW, Road.chN, Road.eqW, Road.empW, Road.codOf (cut by pick.py; bodies as the Statement names them) -/
namespace Jvm.Pilot.@@N@@
namespace StrChars
open Jvm Sem ClassFile Op Lib Jvm.Stand Jvm.Free.XT Jvm.Free.ALB Jvm.Free.JM Jvm.Free
open Jvm.Lib.Cold (StaticIs)
/-- a char array whose places are chars -/
def Ch (a : Addr) (A : Cell) (U : State) : Prop := Arr .char a A U ∧ Typed .char A
theorem Ch.mv {a : Addr} {A : Cell} {U U' : State} (h : Ch a A U) (hal : U.vm.Alike U'.vm) (hh : U'.heap = U.heap) : Ch a A U' := ⟨h.1.mv hal hh, h.2⟩
theorem Ch.keep {a : Addr} {A : Cell} {U U' : State} (h : Ch a A U) (hal : U.vm.Alike U'.vm) (hk : U'.heap[a]? = some A) : Ch a A U' := ⟨h.1.keep hal hk, h.2⟩
/-- what place i of a char[]'s cell holds -/
def cv (A : Cell) (i : Nat) : Int32 := match A.slots[i]? with | some (.int x) => x | _ => 0
theorem Ch.get {a : Addr} {A : Cell} {U : State} (h : Ch a A U) {i : Nat} (hi : i < A.slots.size) : A.slots[i]? = some (.int (cv A i)) := by
  have e := Array.getElem?_eq_getElem hi
  have f := h.2 i _ e
  unfold cv; rw [e]
  generalize A.slots[i] = v at f
  cases v <;> simp [fits] at f ⊢
/-- the byte that i2b leaves of a char -/
def lo8 (x : Int32) : Int32 := x.toInt8.toInt32
theorem fits_lo8 (y : Int32) : fits .byte (.int (lo8 y)) = true := by
  have h1 := y.toInt8.le_toInt
  have h2 := y.toInt8.toInt_lt
  simp only [lo8, fits, Bool.and_eq_true, decide_eq_true_eq, Int32.le_iff_toInt_le, Int8.toInt_toInt32, show (-128 : Int32).toInt = -128 from by decide, show (127 : Int32).toInt = 127 from by decide]
  omega
/-- A' is A but that each place j of lo .. hi - 1 holds f j -/
def Laid (A A' : Cell) (lo hi : Nat) (f : Nat → Value) : Prop := A'.cls = A.cls ∧ A'.vm = A.vm ∧ A'.slots.size = A.slots.size ∧ ∀ i, A'.slots[i]? = if lo ≤ i ∧ i < hi then some (f i) else A.slots[i]?
theorem Laid.zero (A : Cell) (lo : Nat) (f : Nat → Value) : Laid A A lo (lo + 0) f := ⟨rfl, rfl, rfl, fun i => by rw [if_neg (by omega)]⟩
theorem Laid.step {A Ak : Cell} {lo k : Nat} {f : Nat → Value} {v : Value} (h : Laid A Ak lo k f) (hlo : lo ≤ k) (hk : k < Ak.slots.size) (hv : v = f k) : Laid A (Ak.setSlot k v) lo (k + 1) f := by
  refine ⟨h.1, h.2.1, by simpa [Cell.setSlot] using h.2.2.1, fun i => ?_⟩
  by_cases e : k = i
  · subst e; rw [Cell.slots_setSlot_self v hk, if_pos (by omega), hv]
  · rw [Cell.slots_setSlot_ne v e, h.2.2.2 i]
    by_cases q : lo ≤ i ∧ i < k
    · rw [if_pos q, if_pos (by omega)]
    · rw [if_neg q, if_neg (by omega)]
def U16 : String := "java/lang/StringUTF16"
namespace Cmp5
def yN : MethodName := ⟨"java/lang/StringUTF16", "compress", "([CI[BII)I"⟩
abbrev yB : ByteArray := jdk_52_method_21_code
theorem d0 : decode yB 0 = .ok (.iconst 0, 1) := by decide +kernel
theorem d1 : decode yB 1 = .ok (.istore 5, 2) := by decide +kernel
theorem d3 : decode yB 3 = .ok (.iload 5, 2) := by decide +kernel
theorem d5 : decode yB 5 = .ok (.iload 4, 2) := by decide +kernel
theorem d7 : decode yB 7 = .ok (.if_icmp (.ge) 37, 3) := by decide +kernel
theorem d10 : decode yB 10 = .ok (.aload_n 0, 1) := by decide +kernel
theorem d11 : decode yB 11 = .ok (.iload_n 1, 1) := by decide +kernel
theorem d12 : decode yB 12 = .ok (.caload, 1) := by decide +kernel
theorem d13 : decode yB 13 = .ok (.istore 6, 2) := by decide +kernel
theorem d15 : decode yB 15 = .ok (.iload 6, 2) := by decide +kernel
theorem d17 : decode yB 17 = .ok (.sipush 255, 3) := by decide +kernel
theorem d20 : decode yB 20 = .ok (.if_icmp (.le) 6, 3) := by decide +kernel
theorem d26 : decode yB 26 = .ok (.aload_n 2, 1) := by decide +kernel
theorem d27 : decode yB 27 = .ok (.iload_n 3, 1) := by decide +kernel
theorem d28 : decode yB 28 = .ok (.iload 6, 2) := by decide +kernel
theorem d30 : decode yB 30 = .ok (.i2b, 1) := by decide +kernel
theorem d31 : decode yB 31 = .ok (.bastore, 1) := by decide +kernel
theorem d32 : decode yB 32 = .ok (.iinc 1 1, 3) := by decide +kernel
theorem d35 : decode yB 35 = .ok (.iinc 3 1, 3) := by decide +kernel
theorem d38 : decode yB 38 = .ok (.iinc 5 1, 3) := by decide +kernel
theorem d41 : decode yB 41 = .ok (.goto (-38), 3) := by decide +kernel
theorem d44 : decode yB 44 = .ok (.iload 4, 2) := by decide +kernel
theorem d46 : decode yB 46 = .ok (.ireturn, 1) := by decide +kernel
def site : List Cond := []
def tab : Cond := tabOf yN yB 7 (some .int) site
def P (b : Addr) (A : Cell) (d : Addr) (B : Cell) (o q len : Nat) (args : Array Value) (s : State) : Prop := args = #[.ref b, .int (Int32.ofNat o), .ref d, .int (Int32.ofNat q), .int (Int32.ofNat len)] ∧ Ch b A s ∧ Arr .byte d B s ∧ b ≠ d ∧ o + len ≤ A.slots.size ∧ q + len ≤ B.slots.size ∧ ∀ i, i < len → ¬ 255 < cv A (o + i)
def E (b : Addr) (A : Cell) (d : Addr) (B : Cell) (o q len : Nat) (r : Option Value) (s u : State) : Prop := r = some (.int (Int32.ofNat len)) ∧ ∃ B', Put d B' s u ∧ Laid B B' q (q + len) (fun j => Value.int (lo8 (cv A (o + (j - q)))))
/-- no char of the range above 255: len; the places written hold each char's low byte -/
theorem law (l : Launch) (b : Addr) (A : Cell) (d : Addr) (B : Cell) (o q len : Nat) : Law l yN 5 5 0 0 yB 7 (some .int) site (P b A d B o q len) (E b A d B o q len) (copyLocs d q len) 0 0 := by
  refine Law.of_walk (plainFor_of_name (by decide +kernel)) (by decide +kernel) (by decide +kernel) (by decide) (fun _ _ h => by rw [h.1]; rfl) (fun _ U U' hal hh h => ⟨h.1, h.2.1.mv hal hh, h.2.2.1.mv hal hh, h.2.2.2⟩) (fun r U U' V V' h1 hal h2 h => ⟨h.1, h.2.elim fun B' q => ⟨B', q.1.mv h1 h2, q.2⟩⟩) ?_
  intro p e s m args below meth c s₁ X0 hexec hbytes hml hret hlk hnm hown hh0 W hP
  obtain ⟨rfl, hA, hB, hne, l1, l2, hp⟩ := hP
  have c1 : Steps p.tables e below (s₁.setTop (entryFrame m #[.ref b, .int (Int32.ofNat o), .ref d, .int (Int32.ofNat q), .int (Int32.ofNat len)] 7)) (s₁.setTop (mkF m 0 #[.val (.ref b), .val (.int (Int32.ofNat o)), .val (.ref d), .val (.int (Int32.ofNat q)), .val (.int (Int32.ofNat len)), .unset, .unset] [])) := entry rfl
  have hA0 := hA.1.mv X0.warmed.alike hh0
  have hB0 := hB.mv X0.warmed.alike hh0
  have a31 := hA.1.2.2.2
  have c2 : Steps p.tables e below (s₁.setTop (entryFrame m #[.ref b, .int (Int32.ofNat o), .ref d, .int (Int32.ofNat q), .int (Int32.ofNat len)] 7)) (s₁.setTop (mkF m 3 #[.val (.ref b), .val (.int (Int32.ofNat o)), .val (.ref d), .val (.int (Int32.ofNat q)), .val (.int (Int32.ofNat len)), .val (.int 0), .unset] [])) := c1.trans (by
    refine iconstV X0.here hexec rfl 0 (hb hbytes d0) (by decide) ?_
    refine XS.istore X0.here hexec rfl (hb hbytes d1) rfl rfl ?_
    exact Steps.refl _)
  have loop : ∀ (r i : Nat), i + r = len → ∀ (z : Slot), (z = .unset ∨ ∃ w, z = .val w ∧ w.category = 1) → ∀ (Tl : State) (Bk : Cell), Stand p l e { frames := 0, locals := 0, cells := 0, slots := 0 } s m #[.ref b, .int (Int32.ofNat o), .ref d, .int (Int32.ofNat q), .int (Int32.ofNat len)] below meth c Tl ([] ++ copyLocs d q i) 0 0 → Put d Bk s₁ Tl → Laid B Bk q (q + i) (fun j => Value.int (lo8 (cv A (o + (j - q))))) →
      Steps p.tables e below (s₁.setTop (entryFrame m #[.ref b, .int (Int32.ofNat o), .ref d, .int (Int32.ofNat q), .int (Int32.ofNat len)] 7)) (Tl.setTop (mkF m 3 #[.val (.ref b), .val (.int (Int32.ofNat (o + i))), .val (.ref d), .val (.int (Int32.ofNat (q + i))), .val (.int (Int32.ofNat len)), .val (.int (Int32.ofNat i)), z] [])) → ∃ (T' : State) (B' : Cell) (z' : Slot), Stand p l e { frames := 0, locals := 0, cells := 0, slots := 0 } s m #[.ref b, .int (Int32.ofNat o), .ref d, .int (Int32.ofNat q), .int (Int32.ofNat len)] below meth c T' ([] ++ copyLocs d q len) 0 0 ∧ Put d B' s₁ T' ∧ Laid B B' q (q + len) (fun j => Value.int (lo8 (cv A (o + (j - q))))) ∧
      Steps p.tables e below (s₁.setTop (entryFrame m #[.ref b, .int (Int32.ofNat o), .ref d, .int (Int32.ofNat q), .int (Int32.ofNat len)] 7)) (T'.setTop (mkF m 3 #[.val (.ref b), .val (.int (Int32.ofNat (o + len))), .val (.ref d), .val (.int (Int32.ofNat (q + len))), .val (.int (Int32.ofNat len)), .val (.int (Int32.ofNat len)), z'] [])) := by
    intro r
    induction r with
    | zero =>
      intro i hi z hz Tl Bk Xl pl fl cl
      have hil : i = len := by omega
      rw [hil] at Xl fl cl
      exact ⟨Tl, Bk, z, Xl, pl, fl, cl⟩
    | succ r ih =>
      intro i hi z hz Tl Bk Xl pl fl cl
      have all := X0.warmed.alike.symm.trans Xl.warmed.alike
      have hAl := hA0.keep all (pl.other hne hA0.1)
      have hBk := hB0.like all pl.1 fl.1 fl.2.1 fl.2.2.1
      have hlt : q + i < Bk.slots.size := by rw [fl.2.2.1]; omega
      have c3 : Steps p.tables e below (s₁.setTop (entryFrame m #[.ref b, .int (Int32.ofNat o), .ref d, .int (Int32.ofNat q), .int (Int32.ofNat len)] 7)) (Tl.setTop (mkF m 12 #[.val (.ref b), .val (.int (Int32.ofNat (o + i))), .val (.ref d), .val (.int (Int32.ofNat (q + i))), .val (.int (Int32.ofNat len)), .val (.int (Int32.ofNat i)), z] [.int (Int32.ofNat (o + i)), .ref b])) := cl.trans (by
        refine XS.iload Xl.here hexec rfl (hb hbytes d3) rfl ?_
        refine XS.iload Xl.here hexec rfl (hb hbytes d5) rfl ?_
        refine XS.icmpNo Xl.here hexec rfl (hb hbytes d7) rfl (ii_ge_f (lt32 (by omega) (by omega))) ?_
        refine XS.aloadN Xl.here hexec rfl (hb hbytes d10) rfl rfl ?_
        refine XS.iloadN Xl.here hexec rfl (hb hbytes d11) rfl ?_
        exact Steps.refl _)
      have c4 : Steps p.tables e below (s₁.setTop (entryFrame m #[.ref b, .int (Int32.ofNat o), .ref d, .int (Int32.ofNat q), .int (Int32.ofNat len)] 7)) (Tl.setTop (mkF m 13 #[.val (.ref b), .val (.int (Int32.ofNat (o + i))), .val (.ref d), .val (.int (Int32.ofNat (q + i))), .val (.int (Int32.ofNat len)), .val (.int (Int32.ofNat i)), z] [.int (cv A (o + i))])) := c3.trans (by
        refine Xl.aget hexec hAl rfl (hA.get (i := o + i) (by omega)) rfl rfl (hb hbytes d12) ?_
        exact Steps.refl _)
      have c5 : Steps p.tables e below (s₁.setTop (entryFrame m #[.ref b, .int (Int32.ofNat o), .ref d, .int (Int32.ofNat q), .int (Int32.ofNat len)] 7)) (Tl.setTop (mkF m 15 #[.val (.ref b), .val (.int (Int32.ofNat (o + i))), .val (.ref d), .val (.int (Int32.ofNat (q + i))), .val (.int (Int32.ofNat len)), .val (.int (Int32.ofNat i)), .val (.int (cv A (o + i)))] [])) := c4.trans (by
        refine XS.istoreS Xl.here hexec rfl (hb hbytes d13) rfl rfl hz ?_
        exact Steps.refl _)
      have c6 : Steps p.tables e below (s₁.setTop (entryFrame m #[.ref b, .int (Int32.ofNat o), .ref d, .int (Int32.ofNat q), .int (Int32.ofNat len)] 7)) (Tl.setTop (mkF m 31 #[.val (.ref b), .val (.int (Int32.ofNat (o + i))), .val (.ref d), .val (.int (Int32.ofNat (q + i))), .val (.int (Int32.ofNat len)), .val (.int (Int32.ofNat i)), .val (.int (cv A (o + i)))] [.int (lo8 (cv A (o + i))), .int (Int32.ofNat (q + i)), .ref d])) := c5.trans (by
        refine XS.iload Xl.here hexec rfl (hb hbytes d15) rfl ?_
        refine sipushV Xl.here hexec rfl 255 (hb hbytes d17) (by decide) ?_
        refine XS.icmpYes Xl.here hexec rfl (pc0 := 20) rfl (hb hbytes d20) rfl (ii_le_t (hp i (by omega))) (by decide) rfl ?_
        refine XS.aloadN Xl.here hexec rfl (hb hbytes d26) rfl rfl ?_
        refine XS.iloadN Xl.here hexec rfl (hb hbytes d27) rfl ?_
        refine XS.iload Xl.here hexec rfl (hb hbytes d28) rfl ?_
        refine i2b Xl.here hexec rfl (hb hbytes d30) rfl ?_
        exact Steps.refl _)
      obtain ⟨T7, X7, p7, st7⟩ := Xl.aput hexec hBk rfl hlt rfl (fits_lo8 (cv A (o + i))) (g := (mkF m 31 #[.val (.ref b), .val (.int (Int32.ofNat (o + i))), .val (.ref d), .val (.int (Int32.ofNat (q + i))), .val (.int (Int32.ofNat len)), .val (.int (Int32.ofNat i)), .val (.int (cv A (o + i)))] [.int (lo8 (cv A (o + i))), .int (Int32.ofNat (q + i)), .ref d])) rfl (rest := []) rfl (hb hbytes d31)
      have c8 : Steps p.tables e below (s₁.setTop (entryFrame m #[.ref b, .int (Int32.ofNat o), .ref d, .int (Int32.ofNat q), .int (Int32.ofNat len)] 7)) (T7.setTop (mkF m 32 #[.val (.ref b), .val (.int (Int32.ofNat (o + i))), .val (.ref d), .val (.int (Int32.ofNat (q + i))), .val (.int (Int32.ofNat len)), .val (.int (Int32.ofNat i)), .val (.int (cv A (o + i)))] [])) := c6.trans (st7 _ (Steps.refl _))
      have c9 : Steps p.tables e below (s₁.setTop (entryFrame m #[.ref b, .int (Int32.ofNat o), .ref d, .int (Int32.ofNat q), .int (Int32.ofNat len)] 7)) (T7.setTop (mkF m 3 #[.val (.ref b), .val (.int (Int32.ofNat (o + i) + 1)), .val (.ref d), .val (.int (Int32.ofNat (q + i) + 1)), .val (.int (Int32.ofNat len)), .val (.int (Int32.ofNat i + 1)), .val (.int (cv A (o + i)))] [])) := c8.trans (by
        refine iincV X7.here hexec rfl 1 (hb hbytes d32) (by decide) rfl rfl ?_
        refine iincV X7.here hexec rfl 1 (hb hbytes d35) (by decide) rfl rfl ?_
        refine iincV X7.here hexec rfl 1 (hb hbytes d38) (by decide) rfl rfl ?_
        refine XS.goto X7.here hexec rfl (pc0 := 41) rfl (hb hbytes d41) (by decide) rfl ?_
        exact Steps.refl _)
      have c10 : Steps p.tables e below (s₁.setTop (entryFrame m #[.ref b, .int (Int32.ofNat o), .ref d, .int (Int32.ofNat q), .int (Int32.ofNat len)] 7)) (T7.setTop (mkF m 3 #[.val (.ref b), .val (.int (Int32.ofNat (o + (i + 1)))), .val (.ref d), .val (.int (Int32.ofNat (q + (i + 1)))), .val (.int (Int32.ofNat len)), .val (.int (Int32.ofNat (i + 1))), .val (.int (cv A (o + i)))] [])) := by
        have := c9
        rw [succ32, succ32, succ32] at this
        exact this
      exact ih (i + 1) (by omega) _ (Or.inr ⟨_, rfl, rfl⟩) T7 _ (by rw [copyLocs_step, ← List.append_assoc]; exact X7) (pl.trans p7) (fl.step (by omega) hlt (by simp)) c10
  obtain ⟨T9, B9, z9, X9, p9, f9, g9⟩ := loop len 0 (by omega) .unset (Or.inl rfl) s₁ B (by simpa [copyLocs] using X0) ⟨hB0.1, fun _ _ => rfl, rfl⟩ (Laid.zero _ _ _) c2
  have c11 : Steps p.tables e below (s₁.setTop (entryFrame m #[.ref b, .int (Int32.ofNat o), .ref d, .int (Int32.ofNat q), .int (Int32.ofNat len)] 7)) (T9.setTop (mkF m 46 #[.val (.ref b), .val (.int (Int32.ofNat (o + len))), .val (.ref d), .val (.int (Int32.ofNat (q + len))), .val (.int (Int32.ofNat len)), .val (.int (Int32.ofNat len)), z9] [.int (Int32.ofNat len)])) := g9.trans (by
    refine XS.iload X9.here hexec rfl (hb hbytes d3) rfl ?_
    refine XS.iload X9.here hexec rfl (hb hbytes d5) rfl ?_
    refine XS.icmpYes X9.here hexec rfl (pc0 := 7) rfl (hb hbytes d7) rfl (ii_ge_t (nlt32 (by omega) (Nat.le_refl _))) (by decide) rfl ?_
    refine XS.iload X9.here hexec rfl (hb hbytes d44) rfl ?_
    exact Steps.refl _)
  exact ⟨T9, some (.int (Int32.ofNat len)), _, _, _, X9, by simp, rfl, rfl, (fun h => by cases h), ⟨rfl, B9, p9.from hh0, f9⟩, fun fs hl => c11.trans (X9.ireturnOut hexec hret rfl (Or.inl rfl) (hb hbytes d46) hl)⟩
end Cmp5
namespace Cmp3
def yN : MethodName := ⟨"java/lang/StringUTF16", "compress", "([CII)[B"⟩
abbrev yB : ByteArray := jdk_52_method_16_code
theorem d0 : decode yB 0 = .ok (.iload_n 2, 1) := by decide +kernel
theorem d1 : decode yB 1 = .ok (.newarray .byte, 2) := by decide +kernel
theorem d3 : decode yB 3 = .ok (.astore_n 3, 1) := by decide +kernel
theorem d4 : decode yB 4 = .ok (.aload_n 0, 1) := by decide +kernel
theorem d5 : decode yB 5 = .ok (.iload_n 1, 1) := by decide +kernel
theorem d6 : decode yB 6 = .ok (.aload_n 3, 1) := by decide +kernel
theorem d7 : decode yB 7 = .ok (.iconst 0, 1) := by decide +kernel
theorem d8 : decode yB 8 = .ok (.iload_n 2, 1) := by decide +kernel
theorem d9 : decode yB 9 = .ok (.invokestatic 115, 3) := by decide +kernel
theorem d12 : decode yB 12 = .ok (.istore 4, 2) := by decide +kernel
theorem d14 : decode yB 14 = .ok (.iload 4, 2) := by decide +kernel
theorem d16 : decode yB 16 = .ok (.iload_n 2, 1) := by decide +kernel
theorem d17 : decode yB 17 = .ok (.if_icmp (.eq) 40, 3) := by decide +kernel
theorem d57 : decode yB 57 = .ok (.aload_n 3, 1) := by decide +kernel
theorem d58 : decode yB 58 = .ok (.areturn, 1) := by decide +kernel
def site : List Cond := [.arrayClass .byte, Cmp5.tab] ++ staticW U16 115 Cmp5.yN
def tab : Cond := tabOf yN yB 6 (some (.array .byte)) site
def P (b : Addr) (A : Cell) (o len : Nat) (args : Array Value) (s : State) : Prop := args = #[.ref b, .int (Int32.ofNat o), .int (Int32.ofNat len)] ∧ Ch b A s ∧ o + len ≤ A.slots.size ∧ len ≤ 536870912 ∧ ∀ i, i < len → ¬ 255 < cv A (o + i)
def E (b : Addr) (A : Cell) (o len : Nat) (r : Option Value) (s u : State) : Prop := NewArr .byte "[B" len (fun j => .int (lo8 (cv A (o + j)))) r s u ∧ u.heap.size = s.heap.size + 1
/-- no char of the range above 255: a new byte[] of their low bytes -/
theorem law (l : Launch) (b : Addr) (A : Cell) (o len : Nat) : Law l yN 3 3 1 18 yB 6 (some (.array .byte)) site (P b A o len) (E b A o len) [] 1 len := by
  refine Law.of_walk (plainFor_of_name (by decide +kernel)) (by decide +kernel) (by decide +kernel) (by decide) (fun _ _ h => by rw [h.1]; rfl) (fun _ U U' hal hh h => ⟨h.1, h.2.1.mv hal hh, h.2.2⟩) (fun r U U' V V' h1 hal h2 h => ⟨NewArr.mv r U U' V V' h1 hal h2 h.1, by rw [h1, h2]; exact h.2⟩) ?_
  intro p e s m args below meth c s₁ X0 hexec hbytes hml hret hlk hnm hown hh0 W hP
  obtain ⟨rfl, hA, l1, l2, hp⟩ := hP
  have a31 := hA.1.2.2.2
  have c1 : Steps p.tables e below (s₁.setTop (entryFrame m #[.ref b, .int (Int32.ofNat o), .int (Int32.ofNat len)] 6)) (s₁.setTop (mkF m 0 #[.val (.ref b), .val (.int (Int32.ofNat o)), .val (.int (Int32.ofNat len)), .unset, .unset, .unset] [])) := entry rfl
  have c2 : Steps p.tables e below (s₁.setTop (entryFrame m #[.ref b, .int (Int32.ofNat o), .int (Int32.ofNat len)] 6)) (s₁.setTop (mkF m 1 #[.val (.ref b), .val (.int (Int32.ofNat o)), .val (.int (Int32.ofNat len)), .unset, .unset, .unset] [.int (Int32.ofNat len)])) := c1.trans (by
    refine XS.iloadN X0.here hexec rfl (hb hbytes d0) rfl ?_
    exact Steps.refl _)
  obtain ⟨T3, B3, X3, ba3, bs3, bv3, bh3, bf3, st3⟩ := X0.anew hexec (atype := .byte) (wk W (.arrayClass .byte)) rfl (by show len * 1 ≤ _; omega) (by omega) (g := (mkF m 1 #[.val (.ref b), .val (.int (Int32.ofNat o)), .val (.int (Int32.ofNat len)), .unset, .unset, .unset] [.int (Int32.ofNat len)])) rfl (hb hbytes d1) (rest := []) rfl (Nat.le_refl _) (by show 0 + len ≤ len; omega)
  rw [hh0] at ba3 st3
  have kp3 : XT.Kept s T3 := (XT.Kept.of_eq hh0).push bh3
  have hA3 := hA.keep X3.warmed.alike (kp3 _ _ hA.1.1)
  have hne : b ≠ s.heap.size := hA.1.ne
  have c4 : Steps p.tables e below (s₁.setTop (entryFrame m #[.ref b, .int (Int32.ofNat o), .int (Int32.ofNat len)] 6)) (T3.setTop (mkF m 3 #[.val (.ref b), .val (.int (Int32.ofNat o)), .val (.int (Int32.ofNat len)), .unset, .unset, .unset] [.ref s.heap.size])) := c2.trans (st3 _ (Steps.refl _))
  have c5 : Steps p.tables e below (s₁.setTop (entryFrame m #[.ref b, .int (Int32.ofNat o), .int (Int32.ofNat len)] 6)) (T3.setTop (mkF m 9 #[.val (.ref b), .val (.int (Int32.ofNat o)), .val (.int (Int32.ofNat len)), .val (.ref s.heap.size), .unset, .unset] [.int (Int32.ofNat len), .int 0, .ref s.heap.size, .int (Int32.ofNat o), .ref b])) := c4.trans (by
    refine XS.astoreN X3.here hexec rfl (hb hbytes d3) rfl rfl rfl ?_
    refine XS.aloadN X3.here hexec rfl (hb hbytes d4) rfl rfl ?_
    refine XS.iloadN X3.here hexec rfl (hb hbytes d5) rfl ?_
    refine XS.aloadN X3.here hexec rfl (hb hbytes d6) rfl rfl ?_
    refine iconstV X3.here hexec rfl 0 (hb hbytes d7) (by decide) ?_
    refine XS.iloadN X3.here hexec rfl (hb hbytes d8) rfl ?_
    exact Steps.refl _)
  obtain ⟨v6, T6, X6, E6, g6⟩ := X3.callS hexec (Cmp5.law l b A s.heap.size B3 o 0 len) hown (wks W (staticW U16 115 Cmp5.yN)) (wk W Cmp5.tab) (W := 0) (Nat.le_of_ble_eq_true rfl) (Nat.le_of_ble_eq_true rfl) (Nat.le_refl _) (by show 0 + len + 0 ≤ len; omega) (g := (mkF m 9 #[.val (.ref b), .val (.int (Int32.ofNat o)), .val (.int (Int32.ofNat len)), .val (.ref s.heap.size), .unset, .unset] [.int (Int32.ofNat len), .int (Int32.ofNat 0), .ref s.heap.size, .int (Int32.ofNat o), .ref b])) rfl (by rw [hml]; rfl) c5 (argsL := [.ref b, .int (Int32.ofNat o), .ref s.heap.size, .int (Int32.ofNat 0), .int (Int32.ofNat len)]) (rest := []) rfl rfl (by show 2 * 0 + 0 ≤ _; decide) (hb hbytes d9) (⟨rfl, hA3, ba3, hne, l1, by rw [bs3]; simp, hp⟩)
  obtain ⟨rfl, B6, p6, f6⟩ := E6
  have c7 : Steps p.tables e below (s₁.setTop (entryFrame m #[.ref b, .int (Int32.ofNat o), .int (Int32.ofNat len)] 6)) (T6.setTop (mkF m 12 #[.val (.ref b), .val (.int (Int32.ofNat o)), .val (.int (Int32.ofNat len)), .val (.ref s.heap.size), .unset, .unset] [.int (Int32.ofNat len)])) := g6
  have c8 : Steps p.tables e below (s₁.setTop (entryFrame m #[.ref b, .int (Int32.ofNat o), .int (Int32.ofNat len)] 6)) (T6.setTop (mkF m 58 #[.val (.ref b), .val (.int (Int32.ofNat o)), .val (.int (Int32.ofNat len)), .val (.ref s.heap.size), .val (.int (Int32.ofNat len)), .unset] [.ref s.heap.size])) := c7.trans (by
    refine XS.istore X6.here hexec rfl (hb hbytes d12) rfl rfl ?_
    refine XS.iload X6.here hexec rfl (hb hbytes d14) rfl ?_
    refine XS.iloadN X6.here hexec rfl (hb hbytes d16) rfl ?_
    refine XS.icmpYes X6.here hexec rfl (pc0 := 17) rfl (hb hbytes d17) rfl (ii_eq_t rfl) (by decide) rfl ?_
    refine XS.aloadN X6.here hexec rfl (hb hbytes d57) rfl rfl ?_
    exact Steps.refl _)
  have X8 := X6.wide (L' := []) (cells' := 1) (slots' := len) (fun x hx hlt => by
    simp only [List.nil_append, copyLocs, List.mem_map, List.mem_range] at hx
    obtain ⟨i, -, rfl⟩ := hx
    exact absurd hlt (Nat.lt_irrefl _)) (Nat.le_refl _) (by omega)
  exact ⟨T6, some (.ref s.heap.size), _, _, _, X8, rfl, rfl, rfl, (fun h => by cases h), ⟨⟨rfl, B6, ba3.like (X3.warmed.alike.symm.trans X6.warmed.alike) p6.1 f6.1 f6.2.1 f6.2.2.1, f6.2.1.trans bv3, by rw [X6.warmed.alike.findClass, f6.1]; exact bf3, by rw [f6.2.2.1, bs3]; simp, fun j hj => by rw [f6.2.2.2 j, if_pos (by omega)]; rfl, kp3.put p6 (Nat.le_refl _)⟩, by rw [p6.2.2, bh3, hh0]; simp⟩, fun fs hl => c8.trans (X8.areturnOut hexec rfl hret rfl (hb hbytes d58) hl)⟩
end Cmp3
namespace CodL
def yN : MethodName := ⟨"java/lang/StringUTF16", "coderFromArrayLen", "([BI)B"⟩
abbrev yB : ByteArray := jdk_52_method_15_code
theorem d0 : decode yB 0 = .ok (.iload_n 1, 1) := by decide +kernel
theorem d1 : decode yB 1 = .ok (.aload_n 0, 1) := by decide +kernel
theorem d2 : decode yB 2 = .ok (.arraylength, 1) := by decide +kernel
theorem d3 : decode yB 3 = .ok (.isub, 1) := by decide +kernel
theorem d4 : decode yB 4 = .ok (.bipush 31, 2) := by decide +kernel
theorem d6 : decode yB 6 = .ok (.iushr, 1) := by decide +kernel
theorem d7 : decode yB 7 = .ok (.i2b, 1) := by decide +kernel
theorem d8 : decode yB 8 = .ok (.ireturn, 1) := by decide +kernel
def site : List Cond := []
def tab : Cond := tabOf yN yB 2 (some .byte) site
def P (d : Addr) (B : Cell) (args : Array Value) (s : State) : Prop := args = #[.ref d, .int (Int32.ofNat B.slots.size)] ∧ Arr .byte d B s
def E (r : Option Value) (s u : State) : Prop := XT.PureE (some (.int 0)) r s u
/-- an array as long as the number of chars: LATIN1 -/
theorem law (l : Launch) (d : Addr) (B : Cell) : Law l yN 2 2 0 0 yB 2 (some .byte) site (P d B) E [] 0 0 := by
  refine Law.of_walk (plainFor_of_name (by decide +kernel)) (by decide +kernel) (by decide +kernel) (by decide) (fun _ _ h => by rw [h.1]; rfl) (fun _ U U' hal hh h => ⟨h.1, h.2.mv hal hh⟩) (fun r U U' V V' h1 hal h2 h => XT.PureE.mv r U U' V V' h1 hal h2 h) ?_
  intro p e s m args below meth c s₁ X0 hexec hbytes hml hret hlk hnm hown hh0 W hP
  obtain ⟨rfl, hB⟩ := hP
  have hB0 := hB.mv X0.warmed.alike hh0
  have c1 : Steps p.tables e below (s₁.setTop (entryFrame m #[.ref d, .int (Int32.ofNat B.slots.size)] 2)) (s₁.setTop (mkF m 0 #[.val (.ref d), .val (.int (Int32.ofNat B.slots.size))] [])) := entry rfl
  have c2 : Steps p.tables e below (s₁.setTop (entryFrame m #[.ref d, .int (Int32.ofNat B.slots.size)] 2)) (s₁.setTop (mkF m 2 #[.val (.ref d), .val (.int (Int32.ofNat B.slots.size))] [.ref d, .int (Int32.ofNat B.slots.size)])) := c1.trans (by
    refine XS.iloadN X0.here hexec rfl (hb hbytes d0) rfl ?_
    refine XS.aloadN X0.here hexec rfl (hb hbytes d1) rfl rfl ?_
    exact Steps.refl _)
  have c3 : Steps p.tables e below (s₁.setTop (entryFrame m #[.ref d, .int (Int32.ofNat B.slots.size)] 2)) (s₁.setTop (mkF m 8 #[.val (.ref d), .val (.int (Int32.ofNat B.slots.size))] [.int (lo8 (ushr (Int32.ofNat B.slots.size - Int32.ofNat B.slots.size) 31))])) := c2.trans (by
    refine X0.alen hexec hB0 rfl rfl (hb hbytes d2) ?_
    refine XS.isub X0.here hexec rfl (hb hbytes d3) rfl ?_
    refine bipushV X0.here hexec rfl 31 (hb hbytes d4) (by decide) ?_
    refine iushr X0.here hexec rfl (hb hbytes d6) rfl ?_
    refine i2b X0.here hexec rfl (hb hbytes d7) rfl ?_
    exact Steps.refl _)
  have e0 : lo8 (ushr (Int32.ofNat B.slots.size - Int32.ofNat B.slots.size) 31) = 0 := by rw [Int32.sub_self]; decide
  rw [e0] at c3
  exact ⟨s₁, some (.int 0), _, _, _, X0, rfl, rfl, rfl, (fun h => by cases h), ⟨rfl, hh0⟩, fun fs hl => c3.trans (X0.ireturnOut hexec hret rfl (Or.inr (Or.inr (Or.inl rfl))) (hb hbytes d8) hl)⟩
end CodL
/-- the String at a is Latin-1 over a new byte[] (the heap's one new cell): the low bytes of the len chars of A from o on; every cell but a is kept -/
def Got (a : Addr) (D : Cell) (fV fC : Field) (A : Cell) (o len : Nat) (r : Option Value) (s u : State) : Prop := r = none ∧ ∃ D' V : Cell, Blank "java/lang/String" a D' u ∧ Same D D' [fV.slot, fC.slot] ∧ D'.slots[fV.slot]? = some (.ref s.heap.size) ∧ D'.slots[fC.slot]? = some (.int 0) ∧ Arr .byte s.heap.size V u ∧ V.vm = .none ∧ u.vm.findClass "[B" = some V.cls ∧ V.slots.size = len ∧ (∀ j, j < len → V.slots[j]? = some (.int (lo8 (cv A (o + j))))) ∧ (∀ (y : Addr) (c : Cell), y ≠ a → s.heap[y]? = some c → u.heap[y]? = some c) ∧ u.heap.size = s.heap.size + 1
theorem Got.mv {a : Addr} {D A : Cell} {fV fC : Field} {o len : Nat} : ∀ r (U U' V V' : State), U'.heap = U.heap → V.vm.Alike V'.vm → V'.heap = V.heap → Got a D fV fC A o len r U V → Got a D fV fC A o len r U' V' :=
  fun r U U' V V' h1 hal h2 ⟨e0, D', X, a1, a2, a3, a4, a5, a6, a7, a8, a9, a10, a11⟩ => ⟨e0, D', X, a1.mv hal h2, a2, by rw [h1]; exact a3, a4, by rw [h1]; exact a5.mv hal h2, a6, by rw [hal.findClass]; exact a7, a8, a9, by rw [h1, h2]; exact a10, by rw [h1, h2]; exact a11⟩
namespace New4
def yN : MethodName := ⟨"java/lang/String", "<init>", "([CIILjava/lang/Void;)V"⟩
abbrev yB : ByteArray := jdk_42_method_149_code
theorem d0 : decode yB 0 = .ok (.aload_n 0, 1) := by decide +kernel
theorem d1 : decode yB 1 = .ok (.invokespecial 1, 3) := by decide +kernel
theorem d4 : decode yB 4 = .ok (.iload_n 3, 1) := by decide +kernel
theorem d5 : decode yB 5 = .ok (.ifCond (.ne) 22, 3) := by decide +kernel
theorem d27 : decode yB 27 = .ok (.getstatic 38, 3) := by decide +kernel
theorem d30 : decode yB 30 = .ok (.ifCond (.eq) 28, 3) := by decide +kernel
theorem d33 : decode yB 33 = .ok (.aload_n 1, 1) := by decide +kernel
theorem d34 : decode yB 34 = .ok (.iload_n 2, 1) := by decide +kernel
theorem d35 : decode yB 35 = .ok (.iload_n 3, 1) := by decide +kernel
theorem d36 : decode yB 36 = .ok (.invokestatic 177, 3) := by decide +kernel
theorem d39 : decode yB 39 = .ok (.astore 5, 2) := by decide +kernel
theorem d41 : decode yB 41 = .ok (.aload_n 0, 1) := by decide +kernel
theorem d42 : decode yB 42 = .ok (.aload 5, 2) := by decide +kernel
theorem d44 : decode yB 44 = .ok (.iload_n 3, 1) := by decide +kernel
theorem d45 : decode yB 45 = .ok (.invokestatic 47, 3) := by decide +kernel
theorem d48 : decode yB 48 = .ok (.putfield 15, 3) := by decide +kernel
theorem d51 : decode yB 51 = .ok (.aload_n 0, 1) := by decide +kernel
theorem d52 : decode yB 52 = .ok (.aload 5, 2) := by decide +kernel
theorem d54 : decode yB 54 = .ok (.putfield 9, 3) := by decide +kernel
theorem d57 : decode yB 57 = .ok (.return_, 1) := by decide +kernel
def site : List Cond := [.fieldLink "java/lang/String" 38 "java/lang/String" "COMPACT_STRINGS" "Z", Cmp3.tab, CodL.tab, .laysFinal "java/lang/String" "java/lang/String" "value" "[B", .fieldLink "java/lang/String" 9 "java/lang/String" "value" "[B", .laysFinal "java/lang/String" "java/lang/String" "coder" "B", .fieldLink "java/lang/String" 15 "java/lang/String" "coder" "B"] ++ objW "java/lang/String" 1 ++ staticW "java/lang/String" 177 Cmp3.yN ++ staticW "java/lang/String" 47 CodL.yN
def tab : Cond := tabOf yN yB 6 none site
def P (a : Addr) (D : Cell) (fV fC : Field) (b : Addr) (A : Cell) (z : Int32) (o len : Nat) (args : Array Value) (s : State) : Prop := args = #[.ref a, .ref b, .int (Int32.ofNat o), .int (Int32.ofNat len), .null] ∧ Blank "java/lang/String" a D s ∧ Found "java/lang/String" "value" "[B" fV s ∧ Found "java/lang/String" "coder" "B" fC s ∧ Ch b A s ∧ StaticIs s "java/lang/String" "COMPACT_STRINGS" "Z" (.int z) ∧ ¬ z = 0 ∧ 0 < len ∧ o + len ≤ A.slots.size ∧ len ≤ 536870912 ∧ ∀ i, i < len → ¬ 255 < cv A (o + i)
def E (a : Addr) (D : Cell) (fV fC : Field) (A : Cell) (o len : Nat) (r : Option Value) (s u : State) : Prop := Got a D fV fC A o len r s u
/-- len > 0, no char of the range above 255: a Latin-1 String of their low bytes -/
theorem law (l : Launch) (a : Addr) (D : Cell) (fV fC : Field) (b : Addr) (A : Cell) (z : Int32) (o len : Nat) : Law l yN 5 4 2 35 yB 6 none site (P a D fV fC b A z o len) (E a D fV fC A o len) [⟨a, fC.slot⟩, ⟨a, fV.slot⟩] 1 len := by
  refine Law.of_walk (plainFor_of_name (by decide +kernel)) (by decide +kernel) (by decide +kernel) (by decide) (fun _ _ h => by rw [h.1]; rfl) (fun _ U U' hal hh h => ⟨h.1, h.2.1.mv hal hh, h.2.2.1.al hal, h.2.2.2.1.al hal, h.2.2.2.2.1.mv hal hh, h.2.2.2.2.2.1.there hal hh, h.2.2.2.2.2.2⟩) (fun r U U' V V' h1 hal h2 h => Got.mv r U U' V V' h1 hal h2 h) ?_
  intro p e s m args below meth c s₁ X0 hexec hbytes hml hret hlk hnm hown hh0 W hP
  obtain ⟨rfl, hB, f1, f2, hA, s1, hz, l0, l1, l2, hp⟩ := hP
  have a31 := hA.1.2.2.2
  have c1 : Steps p.tables e below (s₁.setTop (entryFrame m #[.ref a, .ref b, .int (Int32.ofNat o), .int (Int32.ofNat len), .null] 6)) (s₁.setTop (mkF m 0 #[.val (.ref a), .val (.ref b), .val (.int (Int32.ofNat o)), .val (.int (Int32.ofNat len)), .val .null, .unset] [])) := entry rfl
  have c2 : Steps p.tables e below (s₁.setTop (entryFrame m #[.ref a, .ref b, .int (Int32.ofNat o), .int (Int32.ofNat len), .null] 6)) (s₁.setTop (mkF m 1 #[.val (.ref a), .val (.ref b), .val (.int (Int32.ofNat o)), .val (.int (Int32.ofNat len)), .val .null, .unset] [.ref a])) := c1.trans (by
    refine XS.aloadN X0.here hexec rfl (hb hbytes d0) rfl rfl ?_
    exact Steps.refl _)
  obtain ⟨T3, X3, q3, st3⟩ := X0.oinit hexec hown (wks W (objW "java/lang/String" 1)) (g := (mkF m 1 #[.val (.ref a), .val (.ref b), .val (.int (Int32.ofNat o)), .val (.int (Int32.ofNat len)), .val .null, .unset] [.ref a])) rfl (by rw [hml]; rfl) (rest := []) rfl (hb hbytes d1) (W := 0) (by show 2 * 0 + 0 ≤ _; decide) (Nat.le_of_ble_eq_true rfl) (Nat.le_of_ble_eq_true rfl)
  have hh3 := q3.trans hh0
  have c4 : Steps p.tables e below (s₁.setTop (entryFrame m #[.ref a, .ref b, .int (Int32.ofNat o), .int (Int32.ofNat len), .null] 6)) (T3.setTop (mkF m 27 #[.val (.ref a), .val (.ref b), .val (.int (Int32.ofNat o)), .val (.int (Int32.ofNat len)), .val .null, .unset] [])) := (c2.trans (st3 _ (Steps.refl _))).trans (by
    refine XS.iloadN X3.here hexec rfl (hb hbytes d4) rfl ?_
    refine XS.ifYes X3.here hexec rfl (pc0 := 5) rfl (hb hbytes d5) rfl (i0_ne_t (nz32 (by omega) l0)) (by decide) rfl ?_
    exact Steps.refl _)
  obtain ⟨T5, X5, q5, st5⟩ := X3.sget hexec hown (wk W (.fieldLink "java/lang/String" 38 "java/lang/String" "COMPACT_STRINGS" "Z")) s1 (fun _ _ h => by rw [hh3]; exact h) (g := (mkF m 27 #[.val (.ref a), .val (.ref b), .val (.int (Int32.ofNat o)), .val (.int (Int32.ofNat len)), .val .null, .unset] [])) rfl (hb hbytes d27)
  have hh5 := q5.trans hh3
  have c6 : Steps p.tables e below (s₁.setTop (entryFrame m #[.ref a, .ref b, .int (Int32.ofNat o), .int (Int32.ofNat len), .null] 6)) (T5.setTop (mkF m 30 #[.val (.ref a), .val (.ref b), .val (.int (Int32.ofNat o)), .val (.int (Int32.ofNat len)), .val .null, .unset] [.int z])) := c4.trans (st5 _ (Steps.refl _))
  have c7 : Steps p.tables e below (s₁.setTop (entryFrame m #[.ref a, .ref b, .int (Int32.ofNat o), .int (Int32.ofNat len), .null] 6)) (T5.setTop (mkF m 36 #[.val (.ref a), .val (.ref b), .val (.int (Int32.ofNat o)), .val (.int (Int32.ofNat len)), .val .null, .unset] [.int (Int32.ofNat len), .int (Int32.ofNat o), .ref b])) := c6.trans (by
    refine XS.ifNo X5.here hexec rfl (hb hbytes d30) rfl (i0_eq_f hz) ?_
    refine XS.aloadN X5.here hexec rfl (hb hbytes d33) rfl rfl ?_
    refine XS.iloadN X5.here hexec rfl (hb hbytes d34) rfl ?_
    refine XS.iloadN X5.here hexec rfl (hb hbytes d35) rfl ?_
    exact Steps.refl _)
  obtain ⟨v8, T8, X8, E8, g8⟩ := X5.callS hexec (Cmp3.law l b A o len) hown (wks W (staticW "java/lang/String" 177 Cmp3.yN)) (wk W Cmp3.tab) (W := 0) (Nat.le_of_ble_eq_true rfl) (Nat.le_of_ble_eq_true rfl) (Nat.le_refl _) (by show 0 + len ≤ len; omega) (g := (mkF m 36 #[.val (.ref a), .val (.ref b), .val (.int (Int32.ofNat o)), .val (.int (Int32.ofNat len)), .val .null, .unset] [.int (Int32.ofNat len), .int (Int32.ofNat o), .ref b])) rfl (by rw [hml]; rfl) c7 (argsL := [.ref b, .int (Int32.ofNat o), .int (Int32.ofNat len)]) (rest := []) rfl rfl (by show 2 * 0 + 0 ≤ _; decide) (hb hbytes d36) (⟨rfl, hA.mv X5.warmed.alike hh5, l1, l2, hp⟩)
  obtain ⟨e8, z8⟩ := E8
  obtain ⟨rfl, N, n1, n2, n3, n4, n5, n6⟩ := NewArr.mv _ T5 s _ _ hh5.symm (Vm.Alike.refl _) rfl e8
  rw [hh5] at z8
  have hB1 := hB.keep X8.warmed.alike (n6 _ _ hB.1)
  have hne : s.heap.size ≠ a := (Nat.ne_of_lt (Array.getElem?_eq_some_iff.mp hB.1).1).symm
  have c9 : Steps p.tables e below (s₁.setTop (entryFrame m #[.ref a, .ref b, .int (Int32.ofNat o), .int (Int32.ofNat len), .null] 6)) (T8.setTop (mkF m 39 #[.val (.ref a), .val (.ref b), .val (.int (Int32.ofNat o)), .val (.int (Int32.ofNat len)), .val .null, .unset] [.ref s.heap.size])) := g8
  have c10 : Steps p.tables e below (s₁.setTop (entryFrame m #[.ref a, .ref b, .int (Int32.ofNat o), .int (Int32.ofNat len), .null] 6)) (T8.setTop (mkF m 45 #[.val (.ref a), .val (.ref b), .val (.int (Int32.ofNat o)), .val (.int (Int32.ofNat len)), .val .null, .val (.ref s.heap.size)] [.int (Int32.ofNat N.slots.size), .ref s.heap.size, .ref a])) := by
    have hc : Steps p.tables e below (s₁.setTop (entryFrame m #[.ref a, .ref b, .int (Int32.ofNat o), .int (Int32.ofNat len), .null] 6)) (T8.setTop (mkF m 45 #[.val (.ref a), .val (.ref b), .val (.int (Int32.ofNat o)), .val (.int (Int32.ofNat len)), .val .null, .val (.ref s.heap.size)] [.int (Int32.ofNat len), .ref s.heap.size, .ref a])) := c9.trans (by
      refine XS.astore X8.here hexec rfl (hb hbytes d39) rfl rfl rfl ?_
      refine XS.aloadN X8.here hexec rfl (hb hbytes d41) rfl rfl ?_
      refine XS.aload X8.here hexec rfl (hb hbytes d42) rfl rfl ?_
      refine XS.iloadN X8.here hexec rfl (hb hbytes d44) rfl ?_
      exact Steps.refl _)
    rw [n4]; exact hc
  obtain ⟨v11, T11, X11, E11, g11⟩ := X8.callS hexec (CodL.law l s.heap.size N) hown (wks W (staticW "java/lang/String" 47 CodL.yN)) (wk W CodL.tab) (W := 1) (Nat.le_of_ble_eq_true rfl) (Nat.le_of_ble_eq_true rfl) (Nat.le_refl _) (by show 0 + len + 0 ≤ len; omega) (g := (mkF m 45 #[.val (.ref a), .val (.ref b), .val (.int (Int32.ofNat o)), .val (.int (Int32.ofNat len)), .val .null, .val (.ref s.heap.size)] [.int (Int32.ofNat N.slots.size), .ref s.heap.size, .ref a])) rfl (by rw [hml]; rfl) c10 (argsL := [.ref s.heap.size, .int (Int32.ofNat N.slots.size)]) (rest := [.ref a]) rfl rfl (by show 2 * 0 + (1 + 0) ≤ _; decide) (hb hbytes d45) (⟨rfl, n1⟩)
  obtain ⟨rfl, q11⟩ := E11
  have hB11 := hB1.mv (X8.warmed.alike.symm.trans X11.warmed.alike) q11
  have c12 : Steps p.tables e below (s₁.setTop (entryFrame m #[.ref a, .ref b, .int (Int32.ofNat o), .int (Int32.ofNat len), .null] 6)) (T11.setTop (mkF m 48 #[.val (.ref a), .val (.ref b), .val (.int (Int32.ofNat o)), .val (.int (Int32.ofNat len)), .val .null, .val (.ref s.heap.size)] [.int 0, .ref a])) := g11
  obtain ⟨T13, X13, p13, bl13, sl13, st13⟩ := X11.finit hexec hown (wk W (.fieldLink "java/lang/String" 15 "java/lang/String" "coder" "B")) (Or.inr ⟨_, (wk W (.laysFinal "java/lang/String" "java/lang/String" "coder" "B"))⟩) (Or.inl ⟨rfl, hnm⟩) f2 (Or.inl rfl) hB11 (t := .byte) (by decide +kernel) rfl (g := (mkF m 48 #[.val (.ref a), .val (.ref b), .val (.int (Int32.ofNat o)), .val (.int (Int32.ofNat len)), .val .null, .val (.ref s.heap.size)] [.int 0, .ref a])) rfl (rest := []) rfl (hb hbytes d48)
  have c14 : Steps p.tables e below (s₁.setTop (entryFrame m #[.ref a, .ref b, .int (Int32.ofNat o), .int (Int32.ofNat len), .null] 6)) (T13.setTop (mkF m 54 #[.val (.ref a), .val (.ref b), .val (.int (Int32.ofNat o)), .val (.int (Int32.ofNat len)), .val .null, .val (.ref s.heap.size)] [.ref s.heap.size, .ref a])) := (c12.trans (st13 _ (Steps.refl _))).trans (by
    refine XS.aloadN X13.here hexec rfl (hb hbytes d51) rfl rfl ?_
    refine XS.aload X13.here hexec rfl (hb hbytes d52) rfl rfl ?_
    exact Steps.refl _)
  obtain ⟨T15, X15, p15, bl15, sl15, st15⟩ := X13.finit hexec hown (wk W (.fieldLink "java/lang/String" 9 "java/lang/String" "value" "[B")) (Or.inr ⟨_, (wk W (.laysFinal "java/lang/String" "java/lang/String" "value" "[B"))⟩) (Or.inl ⟨rfl, hnm⟩) f1 (Or.inl rfl) bl13 (t := (.array .byte)) (by decide +kernel) rfl (g := (mkF m 54 #[.val (.ref a), .val (.ref b), .val (.int (Int32.ofNat o)), .val (.int (Int32.ofNat len)), .val .null, .val (.ref s.heap.size)] [.ref s.heap.size, .ref a])) rfl (rest := []) rfl (hb hbytes d54)
  have c16 : Steps p.tables e below (s₁.setTop (entryFrame m #[.ref a, .ref b, .int (Int32.ofNat o), .int (Int32.ofNat len), .null] 6)) (T15.setTop (mkF m 57 #[.val (.ref a), .val (.ref b), .val (.int (Int32.ofNat o)), .val (.int (Int32.ofNat len)), .val .null, .val (.ref s.heap.size)] [])) := c14.trans (st15 _ (Steps.refl _))
  have ap := apart (Or.inr ⟨_, (wk W (.laysFinal "java/lang/String" "java/lang/String" "value" "[B"))⟩) (Or.inr ⟨_, (wk W (.laysFinal "java/lang/String" "java/lang/String" "coder" "B"))⟩) f1 f2 (t₁ := .array .byte) (t₂ := .byte) (by decide +kernel) (by decide +kernel) (by decide)
  have al := X8.warmed.alike.symm.trans X15.warmed.alike
  have n7 : T11.heap[s.heap.size]? = some N := by rw [q11]; exact n1.1
  exact ⟨T15, none, _, _, _, X15, by simp, rfl, by omega, (fun _ => rfl), ⟨rfl, _, N, bl15, ((Same.refl D _).set _ (by simp)).set _ (by simp), sl15, (Cell.slots_setSlot_ne _ ap).trans sl13, n1.keep al (p15.other hne (p13.other hne n7)), n2, by rw [al.findClass]; exact n3, n4, n5, fun y c h1 h2 => p15.other h1 (p13.other h1 (by rw [q11]; exact n6 y c h2)), by rw [p15.2.2, p13.2.2, q11]; exact z8⟩, fun fs hl => c16.trans (X15.returnOut hexec hret (hb hbytes d57) hl)⟩
end New4
namespace New1
def yN : MethodName := ⟨"java/lang/String", "<init>", "([C)V"⟩
abbrev yB : ByteArray := jdk_42_method_3_code
theorem d0 : decode yB 0 = .ok (.aload_n 0, 1) := by decide +kernel
theorem d1 : decode yB 1 = .ok (.aload_n 1, 1) := by decide +kernel
theorem d2 : decode yB 2 = .ok (.iconst 0, 1) := by decide +kernel
theorem d3 : decode yB 3 = .ok (.aload_n 1, 1) := by decide +kernel
theorem d4 : decode yB 4 = .ok (.arraylength, 1) := by decide +kernel
theorem d5 : decode yB 5 = .ok (.aconst_null, 1) := by decide +kernel
theorem d6 : decode yB 6 = .ok (.invokespecial 27, 3) := by decide +kernel
theorem d9 : decode yB 9 = .ok (.return_, 1) := by decide +kernel
def site : List Cond := [New4.tab] ++ initW "java/lang/String" 27 New4.yN
def tab : Cond := tabOf yN yB 2 none site
def P (a : Addr) (D : Cell) (fV fC : Field) (b : Addr) (A : Cell) (z : Int32) (args : Array Value) (s : State) : Prop := args = #[.ref a, .ref b] ∧ Blank "java/lang/String" a D s ∧ Found "java/lang/String" "value" "[B" fV s ∧ Found "java/lang/String" "coder" "B" fC s ∧ Ch b A s ∧ StaticIs s "java/lang/String" "COMPACT_STRINGS" "Z" (.int z) ∧ ¬ z = 0 ∧ 0 < A.slots.size ∧ A.slots.size ≤ 536870912 ∧ ∀ i, i < A.slots.size → ¬ 255 < cv A i
def E (a : Addr) (D : Cell) (fV fC : Field) (A : Cell) (r : Option Value) (s u : State) : Prop := Got a D fV fC A 0 A.slots.size r s u
/-- new String(chars), not empty, no char above 255: a Latin-1 String of their low bytes -/
theorem law (l : Launch) (a : Addr) (D : Cell) (fV fC : Field) (b : Addr) (A : Cell) (z : Int32) : Law l yN 2 1 3 52 yB 2 none site (P a D fV fC b A z) (E a D fV fC A) [⟨a, fC.slot⟩, ⟨a, fV.slot⟩] 1 A.slots.size := by
  refine Law.of_walk (plainFor_of_name (by decide +kernel)) (by decide +kernel) (by decide +kernel) (by decide) (fun _ _ h => by rw [h.1]; rfl) (fun _ U U' hal hh h => ⟨h.1, h.2.1.mv hal hh, h.2.2.1.al hal, h.2.2.2.1.al hal, h.2.2.2.2.1.mv hal hh, h.2.2.2.2.2.1.there hal hh, h.2.2.2.2.2.2⟩) (fun r U U' V V' h1 hal h2 h => Got.mv r U U' V V' h1 hal h2 h) ?_
  intro p e s m args below meth c s₁ X0 hexec hbytes hml hret hlk hnm hown hh0 W hP
  obtain ⟨rfl, hB, f1, f2, hA, s1, hz, l0, l2, hp⟩ := hP
  have c1 : Steps p.tables e below (s₁.setTop (entryFrame m #[.ref a, .ref b] 2)) (s₁.setTop (mkF m 0 #[.val (.ref a), .val (.ref b)] [])) := entry rfl
  have c2 : Steps p.tables e below (s₁.setTop (entryFrame m #[.ref a, .ref b] 2)) (s₁.setTop (mkF m 6 #[.val (.ref a), .val (.ref b)] [.null, .int (Int32.ofNat A.slots.size), .int 0, .ref b, .ref a])) := c1.trans (by
    refine XS.aloadN X0.here hexec rfl (hb hbytes d0) rfl rfl ?_
    refine XS.aloadN X0.here hexec rfl (hb hbytes d1) rfl rfl ?_
    refine iconstV X0.here hexec rfl 0 (hb hbytes d2) (by decide) ?_
    refine XS.aloadN X0.here hexec rfl (hb hbytes d3) rfl rfl ?_
    refine X0.alen hexec (hA.1.mv X0.warmed.alike hh0) rfl rfl (hb hbytes d4) ?_
    refine XS.aconstNull X0.here hexec rfl (hb hbytes d5) ?_
    exact Steps.refl _)
  obtain ⟨v3, T3, X3, E3, g3⟩ := X0.callN hexec (New4.law l a D fV fC b A z 0 A.slots.size) rfl hown (wks W (initW "java/lang/String" 27 New4.yN)) (W New4.tab (by simp only [site, List.mem_cons, List.mem_append, true_or, or_true])) (W := 0) (Nat.le_of_ble_eq_true rfl) (Nat.le_of_ble_eq_true rfl) (Nat.le_refl _) (by show 0 + A.slots.size ≤ A.slots.size; omega) (g := (mkF m 6 #[.val (.ref a), .val (.ref b)] [.null, .int (Int32.ofNat A.slots.size), .int (Int32.ofNat 0), .ref b, .ref a])) rfl (by rw [hml]; rfl) c2 (argsL := [.ref b, .int (Int32.ofNat 0), .int (Int32.ofNat A.slots.size), .null]) (rest := []) rfl rfl (by show 2 * 0 + 0 ≤ _; decide) (hb hbytes d6) (⟨rfl, hB.mv X0.warmed.alike hh0, f1.al X0.warmed.alike, f2.al X0.warmed.alike, hA.mv X0.warmed.alike hh0, s1.there X0.warmed.alike hh0, hz, l0, by omega, l2, fun i hi => by rw [Nat.zero_add]; exact hp i hi⟩)
  have e0 := Got.mv _ s₁ s _ _ hh0.symm (Vm.Alike.refl _) rfl E3
  obtain rfl := e0.1
  have c4 : Steps p.tables e below (s₁.setTop (entryFrame m #[.ref a, .ref b] 2)) (T3.setTop (mkF m 9 #[.val (.ref a), .val (.ref b)] [])) := g3
  exact ⟨T3, none, _, _, _, X3, by simp, rfl, by omega, (fun _ => rfl), e0, fun fs hl => c4.trans (X3.returnOut hexec hret (hb hbytes d9) hl)⟩
theorem pays {l : Launch} {R : Room} {p : Program} {e : Env} {below : List Frame} {s : State} {sargs : Array Value} {len W : Nat} (a : Addr) (D : Cell) (fV fC : Field) (b : Addr) (A : Cell) (z : Int32) (htab : tab.before sargs s = true) (hfr : 4 ≤ R.frames) (hlo : W + 65 ≤ R.locals) :
    Back l R p e below s sargs yN len W (fun A₁ a₁ => A₁.cells + 1 ≤ R.cells ∧ A₁.slots + A.slots.size ≤ R.slots ∧ P a D fV fC b A z a₁ A₁.U) (fun A₁ _ v₁ B₁ => E a D fV fC A v₁ A₁.U B₁.U ∧ B₁.locs = A₁.locs ++ [⟨a, fC.slot⟩, ⟨a, fV.slot⟩] ∧ B₁.cells = A₁.cells + 1 ∧ B₁.slots = A₁.slots + A.slots.size) :=
  (law l a D fV fC b A z).pays htab hfr (by omega)
end New1
/-- the byte, read back as charAt reads it, is the char -/
theorem lo8_mask {x : Int32} (h0 : ¬ x < 0) (h1 : ¬ 255 < x) : lo8 x &&& 255 = x := by
  have t : ∀ k : Fin 256, lo8 (Int32.ofNat k.val) &&& 255 = Int32.ofNat k.val := by decide +kernel
  rw [Int32.lt_iff_toInt_lt] at h0 h1
  have e0 : (0 : Int32).toInt = 0 := rfl
  have e1 : (255 : Int32).toInt = 255 := rfl
  obtain ⟨k, hk⟩ : ∃ k : Nat, x.toInt = k := ⟨x.toInt.toNat, by omega⟩
  have hx : x = Int32.ofNat k := Int32.toInt_inj.mp (by rw [hk, Int32.toInt_ofNat_small (by omega)])
  rw [hx]
  exact t ⟨k, by omega⟩
end StrChars
namespace StrChars.Road
open Jvm Sem ClassFile Op Lib Jvm.Stand Jvm.Free Jvm.Free.XT
open Jvm.Lib.Cold (StaticIs)
abbrev ST : String := "java/lang/String"
/-- every table word that New1's law asks, flat -/
abbrev words : List Jvm.Cond := [.code New1.yN New1.yB 2 none, .initialized ST, .methodLink ST 27 New4.yN, .instanceMethod New4.yN,
  .code New4.yN New4.yB 6 none, .fieldLink ST 38 ST "COMPACT_STRINGS" "Z", .laysFinal ST ST "value" "[B", .fieldLink ST 9 ST "value" "[B", .laysFinal ST ST "coder" "B", .fieldLink ST 15 ST "coder" "B",
  .methodLink ST 1 Lib.objectInit, .instanceMethod Lib.objectInit, .code Lib.objectInit ⟨#[0xb1]⟩ 1 none, .methodLink ST 177 Cmp3.yN, .static Cmp3.yN, .methodLink ST 47 CodL.yN, .static CodL.yN,
  .code Cmp3.yN Cmp3.yB 6 (some (.array .byte)), .initialized U16, .arrayClass .byte, .methodLink U16 115 Cmp5.yN, .static Cmp5.yN, .code Cmp5.yN Cmp5.yB 7 (some .int), .code CodL.yN CodL.yB 2 (some .byte)]
theorem tab_of {a : Array Value} {s : State} (h : ∀ w ∈ words, w.before a s = true) : New1.tab.before a s = true := by
  have h5 : Cmp5.tab.before a s = true := unparts (wk h (.code Cmp5.yN Cmp5.yB 7 (some .int))) (wks h (.initialized Cmp5.yN.cls :: Cmp5.site))
  have hc : CodL.tab.before a s = true := unparts (wk h (.code CodL.yN CodL.yB 2 (some .byte))) (wks h (.initialized CodL.yN.cls :: CodL.site))
  have q5 : ∀ w ∈ Cmp5.tab :: words, w.before a s = true := fun w hw => (List.mem_cons.mp hw).elim (fun e => e ▸ h5) (h w)
  have h3 : Cmp3.tab.before a s = true := unparts (wk q5 (.code Cmp3.yN Cmp3.yB 6 (some (.array .byte)))) (wks q5 (.initialized Cmp3.yN.cls :: Cmp3.site))
  have q3 : ∀ w ∈ Cmp3.tab :: CodL.tab :: words, w.before a s = true := fun w hw => (List.mem_cons.mp hw).elim (fun e => e ▸ h3) fun hw => (List.mem_cons.mp hw).elim (fun e => e ▸ hc) (h w)
  have h4 : New4.tab.before a s = true := unparts (wk q3 (.code New4.yN New4.yB 6 none)) (wks q3 (.initialized New4.yN.cls :: New4.site))
  have q4 : ∀ w ∈ New4.tab :: words, w.before a s = true := fun w hw => (List.mem_cons.mp hw).elim (fun e => e ▸ h4) (h w)
  exact unparts (wk q4 (.code New1.yN New1.yB 2 none)) (wks q4 (.initialized New1.yN.cls :: New1.site))
/-- the words ride from the start Z to the walk's own state -/
theorem moved {Z s : State} {a0 args : Array Value} (hZ : Z.Warmed39 s.vm) (hw : ∀ d ∈ words, d.before a0 Z = true) : ∀ d ∈ words, d.before args s = true := fun d hd => by
  have q := hw d hd
  have t : ∀ d ∈ words, d = .arrayClass .byte ∨ (d.onTables && d.keepsFace) = true := by decide +kernel
  rcases t d hd with rfl | t
  · exact RoadKit.mvA hZ q
  · exact RoadKit.mv hZ q t
/-- WHAT COMES BACK, over the tables of the start Z: h the heap at the call, h' behind it -/
def Q (Z : State) (x : Addr) (A : Cell) (h : Heap) (v : Option Value) (h' : Heap) (L : List Loc) : Prop := v = none ∧ (∀ y ∈ L, y.base = x) ∧ RoadKit.Keep h h' [x] ∧ h'.size = h.size + 1 ∧ RoadKit.Exa Z h' x ST ∧ RoadKit.Fld Z h' x ST "value" "[B" (.ref h.size) ∧ RoadKit.Fld Z h' x ST "coder" "B" (.int 0) ∧
  (∃ V : Cell, RoadKit.Arr Z h' h.size V .byte ∧ V.vm = .none ∧ Z.vm.findClass "[B" = some V.cls ∧ V.slots.size = A.slots.size ∧ ∀ j, j < A.slots.size → V.slots[j]? = some (.int (lo8 (cv A j)))) ∧
  ∀ (O n d : String) (w : Value), RoadKit.Fld Z h x O n d w → RoadKit.slotOf Z O n d ≠ RoadKit.slotOf Z ST "value" "[B" → RoadKit.slotOf Z O n d ≠ RoadKit.slotOf Z ST "coder" "B" → RoadKit.Fld Z h' x O n d w
/-- **new String(chars) AT A CALL, IN THE ROAD'S FORM**: for specialBack behind newO: x the fresh String, b the char[] with the cell A -/
theorem back {p : Program} {l : Launch} {e : Env} {R : Room} {s : State} {args : Array Value} {below : List Frame} {len W : Nat} {Z : State} {a0 : Array Value} {h : Heap} (hZ : Z.Warmed39 s.vm) (hw : ∀ d ∈ words, d.before a0 Z = true) {kI : Nat} (wi : (Jvm.Cond.instantiable ST kI).before a0 Z = true)
    {x b : Addr} {A : Cell} {z : Int32} {v0 c0 : Value} (E : RoadKit.Exa Z h x ST) (V : RoadKit.Fld Z h x ST "value" "[B" v0) (C : RoadKit.Fld Z h x ST "coder" "B" c0) (K : RoadKit.Arr Z h b A .char) (hty : Typed .char A) (S : RoadKit.Sta Z h ST "COMPACT_STRINGS" "Z" (.int z)) (hz : ¬ z = 0)
    (l0 : 0 < A.slots.size) (l2 : A.slots.size ≤ 536870912) (hp : ∀ i, i < A.slots.size → ¬ 255 < cv A i) (hfr : 4 ≤ R.frames) (hlo : W + 65 ≤ R.locals) :
    Back l R p e below s args New1.yN len W (fun P a => a = #[.ref x, .ref b] ∧ P.U.heap = h ∧ P.cells + 1 ≤ R.cells ∧ P.slots + A.slots.size ≤ R.slots)
      (fun P _ v B => ∃ L, Q Z x A h v B.U.heap L ∧ B.locs = P.locs ++ L ∧ B.cells = P.cells + 1 ∧ B.slots = P.slots + A.slots.size) := by
  intro m meth c P g ig mk a X hg hsize hdg hW hn hp'
  obtain ⟨rfl, rfl, r1, r2⟩ := hp'
  have al : Z.vm.Alike P.U.vm := hZ.alike.trans X.warmed.alike
  obtain ⟨D, cfV, kV, iV, fV, hD, gV, stV, knV, obV, asV, slV⟩ := id V
  obtain ⟨D', cfC, kC, iC, fC, hD', gC, stC, -, -, asC, slC⟩ := id C
  cases hD.symm.trans hD'
  obtain ⟨D2, kD, e1, e2, e3, e4, e5⟩ := id E
  cases hD.symm.trans e1
  obtain ⟨c2, k2, i1, i2, i3, -⟩ := Cond.instantiable_spec wi
  cases e2.symm.trans i1
  cases e3.symm.trans i2
  obtain ⟨kU, u1, u2⟩ := al.2.2 _ _ e3
  have hB : Blank ST x D P.U := ⟨hD, ⟨knV, fun q hq => by rw [hq] at obV; cases obV⟩, by rw [al.findClass]; exact e2, kU, u1, by rw [u2]; exact i3, by rw [u2]; exact e5 i3⟩
  have F1 : Found ST "value" "[B" fV P.U := ⟨SBG.found_only al ⟨cfV, kV, iV, gV⟩, stV⟩
  have F2 : Found ST "coder" "B" fC P.U := ⟨SBG.found_only al ⟨cfC, kC, iC, gC⟩, stC⟩
  have hA : Ch b A P.U := ⟨⟨K.1, State.isArrayOf_alike al K.2.1, K.2.2, by omega⟩, hty⟩
  have hS : StaticIs P.U ST "COMPACT_STRINGS" "Z" (.int z) := by
    obtain ⟨cfS, iS, kS, fS, st, cS, t1, t2, t3, t4, t5, t6, t7⟩ := S
    exact StaticIs.there (s := { Z with heap := P.U.heap }) ⟨cfS, iS, kS, fS, st, cS, t1, t2, t3, t4, t5, (fun q => by rw [q] at t6; cases t6), t7⟩ al rfl
  obtain ⟨v, B, X', ⟨⟨hv, E', V', q1, q2, q3, q4, q5, q6, q7, q8, q9, q10, q11⟩, hl, hc, hs⟩, st⟩ := New1.pays x D fV fC b A z (tab_of (moved hZ hw)) hfr hlo m meth c P g ig mk _ X hg hsize hdg hW hn ⟨r1, r2, rfl, hB, F1, F2, hA, hS, hz, l0, l2, hp⟩
  have al' : Z.vm.Alike B.U.vm := hZ.alike.trans X'.warmed.alike
  have hsz : E'.slots.size = D.slots.size := by
    obtain ⟨-, -, -, kB, w1, w2, w3⟩ := q1
    obtain ⟨kB', y1, y2⟩ := al'.2.2 _ _ e3
    rw [q2.2.1] at w1
    cases w1.symm.trans y1
    rw [w3, e5 i3, y2]
  refine ⟨v, B, X', ⟨_, ⟨hv, ?_, ⟨by omega, fun y cy hy hn' => q10 y cy (by simpa using hn') hy, fun y cy hy => ?_⟩, q11, ⟨E', _, q1.1, by rw [q2.2.1]; exact e2, by rw [q2.2.1]; exact e3, by rw [q2.1]; exact obV, fun _ => by rw [hsz]; exact e5 i3⟩,
    ⟨E', cfV, kV, iV, fV, q1.1, gV, stV, by rw [q2.1]; exact knV, by rw [q2.1]; exact obV, by rw [q2.2.1]; exact asV, q3⟩, ⟨E', cfC, kC, iC, fC, q1.1, gC, stC, by rw [q2.1]; exact knV, by rw [q2.1]; exact obV, by rw [q2.2.1]; exact asC, q4⟩,
    ⟨V', ⟨q5.1, State.isArrayOf_alike al'.symm q5.2.1, q5.2.2.1⟩, q6, by rw [← al'.findClass]; exact q7, q8, fun j hj => by have := q9 j hj; rwa [Nat.zero_add] at this⟩, fun O n d w F n1 n2 => ?_⟩, hl, hc, hs⟩, st⟩
  · intro y hy
    simp only [List.mem_cons, List.not_mem_nil, or_false] at hy
    rcases hy with rfl | rfl <;> rfl
  · by_cases q : y = x
    · subst q
      cases hD.symm.trans hy
      exact ⟨E', q1.1, q2.2.1, q2.1, hsz⟩
    · exact ⟨cy, q10 y cy q hy, rfl, rfl, rfl⟩
  · obtain ⟨D3, cf, k, i, f, g1, g2, g3, g4, g5, g6, g7⟩ := F
    cases hD.symm.trans g1
    simp only [RoadKit.slotOf, g2, gV, gC, Option.map_some, Option.getD_some] at n1 n2
    exact ⟨E', cf, k, i, f, q1.1, g2, g3, by rw [q2.1]; exact g4, by rw [q2.1]; exact g5, by rw [q2.2.1]; exact g6, by rw [q2.2.2 f.slot (by simp [n1, n2])]; exact g7⟩
end StrChars.Road
namespace StrChars.Road
open Jvm Sem ClassFile Op Lib Jvm.Stand Jvm.Free Jvm.Free.XT
/-- WHAT COMES BACK, the byte[] as a list of values -/
def QA (Z : State) (x : Addr) (zn : Int32) (cs : List Int32) (h : Heap) (v : Option Value) (h' : Heap) (L : List Loc) : Prop := v = none ∧ (∀ y ∈ L, y.base = x) ∧ RoadKit.Keep h h' [x] ∧ h'.size = h.size + 1 ∧ RoadKit.Exa Z h' x ST ∧ RoadKit.Fld Z h' x ST "value" "[B" (.ref h.size) ∧ RoadKit.Fld Z h' x ST "coder" "B" (.int 0) ∧
  (∃ kb, Z.vm.findClass "[B" = some kb ∧ RoadKit.Arv Z h' h.size kb .byte zn (cs.map fun c => .int (lo8 c)) (.int 0)) ∧
  ∀ (O n d : String) (w : Value), RoadKit.Fld Z h x O n d w → RoadKit.slotOf Z O n d ≠ RoadKit.slotOf Z ST "value" "[B" → RoadKit.slotOf Z O n d ≠ RoadKit.slotOf Z ST "coder" "B" → RoadKit.Fld Z h' x O n d w
/-- **new String(chars) AT A CALL, THE ARRAYS AS LISTS**: the char[] at b holds cs, not empty, no char above 255 -/
theorem backArv {p : Program} {l : Launch} {e : Env} {R : Room} {s : State} {args : Array Value} {below : List Frame} {len W : Nat} {Z : State} {a0 : Array Value} {h : Heap} (hZ : Z.Warmed39 s.vm) (hw : ∀ d ∈ words, d.before a0 Z = true) {kI : Nat} (wi : (Jvm.Cond.instantiable ST kI).before a0 Z = true)
    {x b : Addr} {k : ClassId} {zn z : Int32} {cs : List Int32} {dv v0 c0 : Value} (E : RoadKit.Exa Z h x ST) (V : RoadKit.Fld Z h x ST "value" "[B" v0) (C : RoadKit.Fld Z h x ST "coder" "B" c0) (K : RoadKit.Arv Z h b k .char zn (cs.map Value.int) dv) (S : RoadKit.Sta Z h ST "COMPACT_STRINGS" "Z" (.int z)) (hz : ¬ z = 0)
    (hlen : zn.toNatClampNeg = cs.length) (h0 : 0 < cs.length) (hbig : cs.length ≤ 536870912) (hall : ∀ c ∈ cs, ¬ 255 < c) (hfr : 4 ≤ R.frames) (hlo : W + 65 ≤ R.locals) :
    Back l R p e below s args New1.yN len W (fun P a => a = #[.ref x, .ref b] ∧ P.U.heap = h ∧ P.cells + 1 ≤ R.cells ∧ P.slots + cs.length ≤ R.slots)
      (fun P _ v B => ∃ L, QA Z x zn cs h v B.U.heap L ∧ B.locs = P.locs ++ L ∧ B.cells = P.cells + 1 ∧ B.slots = P.slots + cs.length) := by
  obtain ⟨A, K1, K2, K3, K4, K5, K6⟩ := K
  have e : A.slots.size = cs.length := K3.trans hlen
  have hat : ∀ (i : Nat) (hi : i < cs.length), A.slots[i]? = some (.int cs[i]) := fun i hi => by rw [K5 i (by omega)]; simp [List.getD_eq_getElem?_getD, hi]
  have hcv : ∀ (i : Nat) (hi : i < cs.length), cv A i = cs[i] := fun i hi => by unfold cv; rw [hat i hi]
  have hty : Typed .char A := fun i v hv => by
    have hi : i < A.slots.size := (Array.getElem?_eq_some_iff.mp hv).1
    have q := K5 i hi
    rw [hv] at q
    rw [Option.some.inj q]
    exact K6 i hi
  refine Back.mono (back hZ hw wi E V C K1 hty S hz (by omega) (by omega) (fun i hi => by rw [hcv i (by omega)]; exact hall _ (List.getElem_mem _)) hfr hlo) (fun P a hp => ⟨hp.1, hp.2.1, hp.2.2.1, by rw [e]; exact hp.2.2.2⟩) (fun P a v B hp hq => ?_)
  obtain ⟨L, ⟨q1, q2, q3, q4, q5, q6, q7, ⟨V', v1, v2, v3, v4, v5⟩, q9⟩, hl, hc, hs⟩ := hq
  refine ⟨L, ⟨q1, q2, q3, q4, q5, q6, q7, ⟨V'.cls, v3, V', v1, rfl, by rw [v4, e, hlen], K4, fun i hi => ?_, fun i hi => ?_⟩, q9⟩, hl, hc, by rw [hs, e]⟩
  · have hi' : i < cs.length := by omega
    rw [v5 i (by omega), hcv i hi']; simp [List.getD_eq_getElem?_getD, hi']
  · have hi' : i < cs.length := by omega
    simp only [List.getD_eq_getElem?_getD, List.getElem?_map, List.getElem?_eq_getElem hi', Option.map_some, Option.getD_some]
    exact fits_lo8 _
end StrChars.Road
namespace StrChars.Road
open Jvm Sem ClassFile Op Lib Jvm.Stand Jvm.Free Jvm.Free.XT
/-- WHAT COMES BACK, in the writer's own shape -/
def QV (Z : State) (x : Addr) (N : Int32) (bs : List Int32) (h : Heap) (n0 : Nat) (v : Option Value) (h' : Heap) (L : List Loc) : Prop := v = none ∧ RoadKit.Fr n0 L ∧ RoadKit.Keep h h' [x] ∧ RoadKit.Exa Z h' x ST ∧ RoadKit.Fld Z h' x ST "coder" "B" (.int 0) ∧
  ∃ (t : Addr) (kb : ClassId), n0 ≤ t ∧ h.size ≤ t ∧ ¬ t = x ∧ RoadKit.Fld Z h' x ST "value" "[B" (.ref t) ∧ RoadKit.Arv Z h' t kb .byte N (bs.map Value.int) (.int 0)
/-- **new String(chars) AT A CALL, FOR THE WRITER**: a char[] of n known ints, each 0 to 255 -/
theorem backV {p : Program} {l : Launch} {e : Env} {R : Room} {s : State} {args : Array Value} {below : List Frame} {len W : Nat} {Z : State} {a0 : Array Value} {h : Heap} (hZ : Z.Warmed39 s.vm) (hw : ∀ d ∈ words, d.before a0 Z = true) {kI : Nat} (wi : (Jvm.Cond.instantiable ST kI).before a0 Z = true)
    {x b : Addr} {kC : ClassId} {cs bs : List Int32} {d v0 c0 : Value} {z N : Int32} {n n0 : Nat} (hx0 : n0 ≤ x) (hh0 : n0 ≤ h.size) (E : RoadKit.Exa Z h x ST) (V : RoadKit.Fld Z h x ST "value" "[B" v0) (C : RoadKit.Fld Z h x ST "coder" "B" c0) (K : RoadKit.Arv Z h b kC .char N (cs.map Value.int) d) (S : RoadKit.Sta Z h ST "COMPACT_STRINGS" "Z" (.int z)) (hz : ¬ z = 0)
    (hn : cs.length = n) (hN : N = Int32.ofNat n) (l0 : 0 < n) (l2 : n ≤ 4000) (hp : ∀ c ∈ cs, ¬ c < 0 ∧ ¬ (255 : Int32) < c) (hb : bs = cs.map (fun c => c.toInt8.toInt32)) (hfr : 4 ≤ R.frames) (hlo : W + 65 ≤ R.locals) :
    Back l R p e below s args (⟨"java/lang/String", "<init>", "([C)V"⟩ : MethodName) len W (fun P a => a = #[.ref x, .ref b] ∧ P.U.heap = h ∧ P.cells + 1 ≤ R.cells ∧ P.slots + n ≤ R.slots)
      (fun P _ v B => ∃ L, QV Z x N bs h n0 v B.U.heap L ∧ B.locs = P.locs ++ L ∧ B.cells = P.cells + 1 ∧ B.slots = P.slots + n) := by
  subst hn hN hb
  refine Back.mono (backArv hZ hw wi E V C K S hz (n32 (by omega)) l0 (by omega) (fun c hc => (hp c hc).2) hfr hlo) (fun P a hp => hp) (fun P a v B hp hq => ?_)
  obtain ⟨L, ⟨q1, q2, q3, q4, q5, q6, q7, ⟨kb, v1, v2⟩, q9⟩, hl, hc, hs⟩ := hq
  exact ⟨L, ⟨q1, fun y hy => by rw [q2 y hy]; exact hx0, q3, q5, q7, h.size, kb, hh0, Nat.le_refl _, Nat.ne_of_gt E.lt, q6, by rw [List.map_map]; exact v2⟩, hl, hc, hs⟩
end StrChars.Road
namespace StrChars
open Jvm Sem ClassFile Op Lib Jvm.Stand Jvm.Free.XT Jvm.Free.ALB Jvm.Free.JM Jvm.Free
open Jvm.Lib.Cold (StaticIs)
def hi8 (x : Int32) : Int32 := lo8 (x >>> ((8 : Int32) &&& 31))
/-- what StringUTF16.getChar makes of two bytes -/
def pairCh (u v : Int32) : Int32 := (((u &&& 255) <<< ((0 : Int32) &&& 31)) ||| ((v &&& 255) <<< ((8 : Int32) &&& 31))).toUInt32.toUInt16.toUInt32.toInt32
theorem shr0 (c : Int32) : c >>> ((0 : Int32) &&& 31) = c := by
  have e : ((0 : Int32) &&& 31) = 0 := by decide
  rw [e]
  apply Int32.toBitVec_inj.mp
  rw [Int32.toBitVec_shiftRight]
  have e1 : ((0 : Int32).toBitVec.smod 32) = 0#32 := by decide
  rw [e1, BitVec.sshiftRight_eq']
  exact BitVec.sshiftRight_zero
theorem lo8_and (x : Int32) : (lo8 x &&& 255).toBitVec.toNat = x.toBitVec.toNat % 256 := by
  have h : (lo8 x).toBitVec = (x.toBitVec.signExtend 8).signExtend 32 := by rw [lo8, Int8.toBitVec_toInt32, Int32.toBitVec_toInt8]
  rw [Int32.toBitVec_and, BitVec.toNat_and, h]
  have e : ((x.toBitVec.signExtend 8).signExtend 32).toNat % 256 = x.toBitVec.toNat % 256 := by
    rw [BitVec.toNat_signExtend]
    have hlt := x.toBitVec.isLt
    simp only [BitVec.toNat_setWidth, BitVec.toNat_signExtend]
    split <;> split <;> omega
  rw [← e]
  exact Nat.and_two_pow_sub_one_eq_mod _ 8
theorem pair_says {c : Int32} (h0 : ¬ c < 0) (h1 : ¬ 65535 < c) : pairCh (lo8 c) (hi8 c) = c := by
  rw [Int32.lt_iff_toInt_lt] at h0 h1
  have e0 : (0 : Int32).toInt = 0 := rfl
  have e1 : (65535 : Int32).toInt = 65535 := rfl
  have hc : c.toInt = c.toBitVec.toNat := by
    have := c.toBitVec.isLt
    have e : c.toInt = c.toBitVec.toInt := rfl
    rw [e] at h0 h1
    rw [e]
    rw [BitVec.toInt_eq_toNat_cond] at h0 h1 ⊢
    split at h0 <;> split <;> omega
  have hn : c.toBitVec.toNat < 65536 := by omega
  have a1 := lo8_and c
  have a2 : (hi8 c &&& 255).toBitVec.toNat = c.toBitVec.toNat / 256 := by
    rw [hi8, lo8_and]
    have e : ((8 : Int32) &&& 31) = 8 := by decide
    rw [e, Int32.toBitVec_shiftRight]
    have e2 : ((8 : Int32).toBitVec.smod 32) = 8#32 := by decide
    rw [e2, BitVec.sshiftRight_eq', BitVec.toNat_sshiftRight_of_msb_false (by rw [BitVec.msb_eq_false_iff_two_mul_lt]; omega)]
    show c.toBitVec.toNat >>> 8 % 256 = _
    rw [Nat.shiftRight_eq_div_pow]
    omega
  unfold pairCh
  apply Int32.toBitVec_inj.mp
  apply BitVec.eq_of_toNat_eq
  have f0 : ((0 : Int32) &&& 31) = 0 := by decide
  have f8 : ((8 : Int32) &&& 31) = 8 := by decide
  rw [f0, f8]
  have g : (((lo8 c &&& 255) <<< (0 : Int32)) ||| ((hi8 c &&& 255) <<< (8 : Int32))).toBitVec.toNat = c.toBitVec.toNat := by
    rw [Int32.toBitVec_or, Int32.toBitVec_shiftLeft, Int32.toBitVec_shiftLeft]
    have s0 : ((0 : Int32).toBitVec.smod 32) = 0#32 := by decide
    have s8 : ((8 : Int32).toBitVec.smod 32) = 8#32 := by decide
    rw [s0, s8, BitVec.toNat_or]
    simp only [BitVec.shiftLeft_eq', BitVec.toNat_shiftLeft, a1, a2]
    show (c.toBitVec.toNat % 256) <<< 0 % 2 ^ 32 ||| (c.toBitVec.toNat / 256) <<< 8 % 2 ^ 32 = _
    rw [Nat.shiftLeft_zero, Nat.mod_eq_of_lt (show c.toBitVec.toNat % 256 < 2 ^ 32 by omega), Nat.mod_eq_of_lt (show (c.toBitVec.toNat / 256) <<< 8 < 2 ^ 32 by rw [Nat.shiftLeft_eq]; omega), Nat.or_comm, ← Nat.shiftLeft_add_eq_or_of_lt (by omega), Nat.shiftLeft_eq]
    omega
  show BitVec.toNat (((((lo8 c &&& 255) <<< (0 : Int32)) ||| ((hi8 c &&& 255) <<< (8 : Int32))).toBitVec.setWidth 16).setWidth 32) = _
  rw [BitVec.toNat_setWidth, BitVec.toNat_setWidth, g]
  omega
end StrChars
namespace StrChars
open Jvm Sem ClassFile Op Lib Jvm.Stand Jvm.Free.XT Jvm.Free.ALB Jvm.Free.JM Jvm.Free
open Jvm.Lib.Cold (StaticIs)
theorem shr1 {n : Nat} (h : 2 * n < 2 ^ 31) : Int32.ofNat (2 * n) >>> ((1 : Int32) &&& 31) = Int32.ofNat n := by
  have e : ((1 : Int32) &&& 31) = 1 := by decide
  rw [e]
  apply Int32.toBitVec_inj.mp
  rw [Int32.toBitVec_shiftRight]
  have e1 : ((1 : Int32).toBitVec.smod 32) = 1#32 := by decide
  have hm : (BitVec.ofNat 32 (2 * n)).toNat = 2 * n := by rw [BitVec.toNat_ofNat, Nat.mod_eq_of_lt (by omega)]
  rw [e1, BitVec.sshiftRight_eq']
  apply BitVec.eq_of_toNat_eq
  show ((BitVec.ofNat 32 (2 * n)).sshiftRight 1).toNat = (BitVec.ofNat 32 n).toNat
  rw [BitVec.toNat_sshiftRight_of_msb_false (by rw [BitVec.msb_eq_false_iff_two_mul_lt, hm]; omega), hm, BitVec.toNat_ofNat, Nat.shiftRight_eq_div_pow]
  omega
/-- charAt's cast of a byte read back -/
def chr8 (u : Int32) : Int32 := (u &&& 255).toUInt32.toUInt16.toUInt32.toInt32
theorem chr8_lo8 {c : Int32} (h0 : ¬ c < 0) (h1 : ¬ 255 < c) : chr8 (lo8 c) = c := by
  have t : ∀ k : Fin 256, (Int32.ofNat k.val).toUInt32.toUInt16.toUInt32.toInt32 = Int32.ofNat k.val := by decide +kernel
  unfold chr8
  rw [lo8_mask h0 h1]
  rw [Int32.lt_iff_toInt_lt] at h0 h1
  have e0 : (0 : Int32).toInt = 0 := rfl
  have e1 : (255 : Int32).toInt = 255 := rfl
  obtain ⟨k, hk⟩ : ∃ k : Nat, c.toInt = k := ⟨c.toInt.toNat, by omega⟩
  have hx : c = Int32.ofNat k := Int32.toInt_inj.mp (by rw [hk, Int32.toInt_ofNat_small (by omega)])
  rw [hx]
  exact t ⟨k, by omega⟩
theorem narrow_ch {c : Int32} (h0 : ¬ c < 0) (h1 : ¬ 65535 < c) : narrow .char (.int c) = .int c := by
  have q : narrow .char (.int (pairCh (lo8 c) (hi8 c))) = .int (pairCh (lo8 c) (hi8 c)) := narrow_c _
  rwa [pair_says h0 h1] at q
/-- the array's cell V codes the n chars f 0 .. f (n - 1) by the coder cd, as the JDK does: coder 1 just where some char is above 255 -/
def Cod (cd : Int32) (n : Nat) (f : Nat → Int32) (V : Cell) : Prop := (cd = 0 ∧ V.slots.size = n ∧ ∀ j, j < n → V.slots[j]? = some (.int (lo8 (f j))) ∧ ¬ 255 < f j) ∨ (cd = 1 ∧ V.slots.size = 2 * n ∧ (∀ j, j < n → V.slots[2 * j]? = some (.int (lo8 (f j))) ∧ V.slots[2 * j + 1]? = some (.int (hi8 (f j)))) ∧ ∃ j, j < n ∧ 255 < f j)
theorem Cod.cd {cd : Int32} {n : Nat} {f : Nat → Int32} {V : Cell} (h : Cod cd n f V) : cd = 0 ∨ cd = 1 := h.imp (fun q => q.1) fun q => q.1
theorem Cod.len {cd : Int32} {n : Nat} {f : Nat → Int32} {V : Cell} (h : Cod cd n f V) (hs : V.slots.size < 2 ^ 31) : Int32.ofNat V.slots.size >>> (cd &&& 31) = Int32.ofNat n := by
  rcases h with ⟨rfl, h, -⟩ | ⟨rfl, h, -⟩
  · rw [shr0, h]
  · rw [h, shr1 (by omega)]
/-- **x is a String of the n chars f 0 .. f (n - 1)**, Latin-1 or UTF-16; its array at t has the cell V -/
def Txt (x t : Addr) (V : Cell) (cd : Int32) (n : Nat) (f : Nat → Int32) (U : State) : Prop := Exact "java/lang/String" x U ∧ Has x "java/lang/String" "value" "[B" (.ref t) U ∧ Has x "java/lang/String" "coder" "B" (.int cd) U ∧ XT.Arr .byte t V U ∧ Cod cd n f V ∧ ∀ j, j < n → ¬ f j < 0 ∧ ¬ 65535 < f j
theorem Txt.mv {x t : Addr} {V : Cell} {cd : Int32} {n : Nat} {f : Nat → Int32} {U U' : State} (h : Txt x t V cd n f U) (hal : U.vm.Alike U'.vm) (hh : U'.heap = U.heap) : Txt x t V cd n f U' := ⟨h.1.mv hal hh, h.2.1.mv hal hh, h.2.2.1.mv hal hh, h.2.2.2.1.mv hal hh, h.2.2.2.2⟩
namespace Cdr
def yN : MethodName := ⟨"java/lang/String", "coder", "()B"⟩
abbrev yB : ByteArray := jdk_42_method_152_code
theorem d0 : decode yB 0 = .ok (.getstatic 38, 3) := by decide +kernel
theorem d3 : decode yB 3 = .ok (.ifCond (.eq) 10, 3) := by decide +kernel
theorem d6 : decode yB 6 = .ok (.aload_n 0, 1) := by decide +kernel
theorem d7 : decode yB 7 = .ok (.getfield 15, 3) := by decide +kernel
theorem d10 : decode yB 10 = .ok (.goto 4, 3) := by decide +kernel
theorem d14 : decode yB 14 = .ok (.ireturn, 1) := by decide +kernel
def site : List Cond := [.fieldLink "java/lang/String" 38 "java/lang/String" "COMPACT_STRINGS" "Z", .fieldLink "java/lang/String" 15 "java/lang/String" "coder" "B"]
def tab : Cond := tabOf yN yB 1 (some .byte) site
def P (x : Addr) (cd z : Int32) (args : Array Value) (s : State) : Prop := args = #[.ref x] ∧ Has x "java/lang/String" "coder" "B" (.int cd) s ∧ (cd = 0 ∨ cd = 1) ∧ StaticIs s "java/lang/String" "COMPACT_STRINGS" "Z" (.int z) ∧ ¬ z = 0
def E (cd : Int32) (r : Option Value) (s u : State) : Prop := XT.PureE (some (.int cd)) r s u
theorem law (l : Launch) (x : Addr) (cd z : Int32) : Law l yN 1 0 0 0 yB 1 (some .byte) site (P x cd z) (E cd) [] 0 0 := by
  refine Law.of_walk (plainFor_of_name (by decide +kernel)) (by decide +kernel) (by decide +kernel) (by decide) (fun _ _ h => by rw [h.1]; rfl) (fun _ U U' hal hh h => ⟨h.1, h.2.1.mv hal hh, h.2.2.1, h.2.2.2.1.there hal hh, h.2.2.2.2⟩) (fun r U U' V V' h1 hal h2 h => XT.PureE.mv r U U' V V' h1 hal h2 h) ?_
  intro p e s m args below meth c s₁ X0 hexec hbytes hml hret hlk hnm hown hh0 W hP
  obtain ⟨rfl, hx, hc, s1, hz⟩ := hP
  have c1 : Steps p.tables e below (s₁.setTop (entryFrame m #[.ref x] 1)) (s₁.setTop (mkF m 0 #[.val (.ref x)] [])) := entry rfl
  obtain ⟨T2, X2, q2, st2⟩ := X0.sget hexec hown (wk W (.fieldLink "java/lang/String" 38 "java/lang/String" "COMPACT_STRINGS" "Z")) s1 (fun _ _ h => by rw [hh0]; exact h) (g := (mkF m 0 #[.val (.ref x)] [])) rfl (hb hbytes d0)
  have hh2 := q2.trans hh0
  have c3 : Steps p.tables e below (s₁.setTop (entryFrame m #[.ref x] 1)) (T2.setTop (mkF m 7 #[.val (.ref x)] [.ref x])) := (c1.trans (st2 _ (Steps.refl _))).trans (by
    refine XS.ifNo X2.here hexec rfl (hb hbytes d3) rfl (i0_eq_f hz) ?_
    refine XS.aloadN X2.here hexec rfl (hb hbytes d6) rfl rfl ?_
    exact Steps.refl _)
  obtain ⟨T4, X4, q4, st4⟩ := X2.hget hexec hown (wk W (.fieldLink "java/lang/String" 15 "java/lang/String" "coder" "B")) (hx.mv X2.warmed.alike hh2) (g := (mkF m 7 #[.val (.ref x)] [.ref x])) rfl (rest := []) rfl (hb hbytes d7)
  have c5 : Steps p.tables e below (s₁.setTop (entryFrame m #[.ref x] 1)) (T4.setTop (mkF m 14 #[.val (.ref x)] [.int cd])) := (c3.trans (st4 _ (Steps.refl _))).trans (by
    refine XS.goto X4.here hexec rfl (pc0 := 10) rfl (hb hbytes d10) (by decide) rfl ?_
    exact Steps.refl _)
  exact ⟨T4, some (.int cd), _, _, _, X4, rfl, rfl, rfl, (fun h => by cases h), ⟨rfl, q4.trans hh2⟩, fun fs hl => c5.trans (X4.ireturnOut hexec hret (by rcases hc with rfl | rfl <;> rfl) (Or.inr (Or.inr (Or.inl rfl))) (hb hbytes d14) hl)⟩
end Cdr
namespace Len
def yN : MethodName := ⟨"java/lang/String", "length", "()I"⟩
abbrev yB : ByteArray := jdk_42_method_54_code
theorem d0 : decode yB 0 = .ok (.aload_n 0, 1) := by decide +kernel
theorem d1 : decode yB 1 = .ok (.getfield 9, 3) := by decide +kernel
theorem d4 : decode yB 4 = .ok (.arraylength, 1) := by decide +kernel
theorem d5 : decode yB 5 = .ok (.aload_n 0, 1) := by decide +kernel
theorem d6 : decode yB 6 = .ok (.invokevirtual 335, 3) := by decide +kernel
theorem d9 : decode yB 9 = .ok (.ishr, 1) := by decide +kernel
theorem d10 : decode yB 10 = .ok (.ireturn, 1) := by decide +kernel
def site : List Cond := [.fieldLink "java/lang/String" 9 "java/lang/String" "value" "[B", Cdr.tab] ++ virtW "java/lang/String" 335 "java/lang/String" Cdr.yN Cdr.yN
def tab : Cond := tabOf yN yB 1 (some .int) site
def P (x t : Addr) (V : Cell) (cd : Int32) (n : Nat) (f : Nat → Int32) (z : Int32) (args : Array Value) (s : State) : Prop := args = #[.ref x] ∧ Txt x t V cd n f s ∧ StaticIs s "java/lang/String" "COMPACT_STRINGS" "Z" (.int z) ∧ ¬ z = 0
def E (n : Nat) (r : Option Value) (s u : State) : Prop := XT.PureE (some (.int (Int32.ofNat n))) r s u
/-- length() of a String of n chars, in either coding -/
theorem law (l : Launch) (x t : Addr) (V : Cell) (cd : Int32) (n : Nat) (f : Nat → Int32) (z : Int32) : Law l yN 1 0 1 13 yB 1 (some .int) site (P x t V cd n f z) (E n) [] 0 0 := by
  refine Law.of_walk (plainFor_of_name (by decide +kernel)) (by decide +kernel) (by decide +kernel) (by decide) (fun _ _ h => by rw [h.1]; rfl) (fun _ U U' hal hh h => ⟨h.1, h.2.1.mv hal hh, h.2.2.1.there hal hh, h.2.2.2⟩) (fun r U U' V V' h1 hal h2 h => XT.PureE.mv r U U' V V' h1 hal h2 h) ?_
  intro p e s m args below meth c s₁ X0 hexec hbytes hml hret hlk hnm hown hh0 W hP
  obtain ⟨rfl, hx, s1, hz⟩ := hP
  have v31 := hx.2.2.2.1.2.2.2
  have c1 : Steps p.tables e below (s₁.setTop (entryFrame m #[.ref x] 1)) (s₁.setTop (mkF m 1 #[.val (.ref x)] [.ref x])) := Steps.trans (entry rfl) (by
    show Steps p.tables e below (s₁.setTop (mkF m 0 #[.val (.ref x)] [])) _
    refine XS.aloadN X0.here hexec rfl (hb hbytes d0) rfl rfl ?_
    exact Steps.refl _)
  obtain ⟨T2, X2, q2, st2⟩ := X0.hget hexec hown (wk W (.fieldLink "java/lang/String" 9 "java/lang/String" "value" "[B")) (hx.mv X0.warmed.alike hh0).2.1 (g := (mkF m 1 #[.val (.ref x)] [.ref x])) rfl (rest := []) rfl (hb hbytes d1)
  have hh2 := q2.trans hh0
  have hx2 := hx.mv X2.warmed.alike hh2
  have c3 : Steps p.tables e below (s₁.setTop (entryFrame m #[.ref x] 1)) (T2.setTop (mkF m 6 #[.val (.ref x)] [.ref x, .int (Int32.ofNat V.slots.size)])) := (c1.trans (st2 _ (Steps.refl _))).trans (by
    refine X2.alen hexec hx2.2.2.2.1 rfl rfl (hb hbytes d4) ?_
    refine XS.aloadN X2.here hexec rfl (hb hbytes d5) rfl rfl ?_
    exact Steps.refl _)
  obtain ⟨v4, T4, X4, E4, g4⟩ := X2.callV hexec (Cdr.law l x cd z) hown (wks W (virtW "java/lang/String" 335 "java/lang/String" Cdr.yN Cdr.yN)) rfl (by decide) (wk W Cdr.tab) (W := 1) (Nat.le_of_ble_eq_true rfl) (Nat.le_of_ble_eq_true rfl) (Nat.le_refl _) (Nat.le_refl _) (hx2.1.fc X2.warmed.alike) hx2.1.is (g := (mkF m 6 #[.val (.ref x)] [.ref x, .int (Int32.ofNat V.slots.size)])) rfl (by rw [hml]; rfl) c3 (argsL := []) (rest := [.int (Int32.ofNat V.slots.size)]) rfl rfl (by show 2 * 0 + (1 + 0) ≤ _; decide) (hb hbytes d6) (⟨rfl, hx2.2.2.1, hx.2.2.2.2.1.cd, s1.there X2.warmed.alike hh2, hz⟩)
  obtain ⟨rfl, q4⟩ := E4
  have c5 : Steps p.tables e below (s₁.setTop (entryFrame m #[.ref x] 1)) (T4.setTop (mkF m 10 #[.val (.ref x)] [.int (Int32.ofNat V.slots.size >>> (cd &&& 31))])) := Steps.trans g4 (by
    refine ishr X4.here hexec rfl (hb hbytes d9) rfl ?_
    exact Steps.refl _)
  rw [hx.2.2.2.2.1.len v31] at c5
  exact ⟨T4, some (.int (Int32.ofNat n)), _, _, _, X4, rfl, rfl, rfl, (fun h => by cases h), ⟨rfl, q4.trans hh2⟩, fun fs hl => c5.trans (X4.ireturnOut hexec hret rfl (Or.inl rfl) (hb hbytes d10) hl)⟩
theorem pays {l : Launch} {R : Room} {p : Program} {e : Env} {below : List Frame} {s : State} {sargs : Array Value} {len W : Nat} (x t : Addr) (V : Cell) (cd : Int32) (n : Nat) (f : Nat → Int32) (z : Int32) (htab : tab.before sargs s = true) (hfr : 2 ≤ R.frames) (hlo : W + 25 ≤ R.locals) :
    Back l R p e below s sargs yN len W (fun A₁ a₁ => A₁.cells + 0 ≤ R.cells ∧ A₁.slots + 0 ≤ R.slots ∧ P x t V cd n f z a₁ A₁.U) (fun A₁ _ v₁ B₁ => E n v₁ A₁.U B₁.U ∧ B₁.locs = A₁.locs ++ [] ∧ B₁.cells = A₁.cells + 0 ∧ B₁.slots = A₁.slots + 0) :=
  (law l x t V cd n f z).pays htab hfr (by omega)
end Len
namespace IsL
def yN : MethodName := ⟨"java/lang/String", "isLatin1", "()Z"⟩
abbrev yB : ByteArray := jdk_42_method_154_code
theorem d0 : decode yB 0 = .ok (.getstatic 38, 3) := by decide +kernel
theorem d3 : decode yB 3 = .ok (.ifCond (.eq) 14, 3) := by decide +kernel
theorem d6 : decode yB 6 = .ok (.aload_n 0, 1) := by decide +kernel
theorem d7 : decode yB 7 = .ok (.getfield 15, 3) := by decide +kernel
theorem d10 : decode yB 10 = .ok (.ifCond (.ne) 7, 3) := by decide +kernel
theorem d13 : decode yB 13 = .ok (.iconst 1, 1) := by decide +kernel
theorem d14 : decode yB 14 = .ok (.goto 4, 3) := by decide +kernel
theorem d17 : decode yB 17 = .ok (.iconst 0, 1) := by decide +kernel
theorem d18 : decode yB 18 = .ok (.ireturn, 1) := by decide +kernel
def site : List Cond := [.fieldLink "java/lang/String" 38 "java/lang/String" "COMPACT_STRINGS" "Z", .fieldLink "java/lang/String" 15 "java/lang/String" "coder" "B"]
def tab : Cond := tabOf yN yB 1 (some .boolean) site
def P (x : Addr) (cd z : Int32) (args : Array Value) (s : State) : Prop := args = #[.ref x] ∧ Has x "java/lang/String" "coder" "B" (.int cd) s ∧ (cd = 0 ∨ cd = 1) ∧ StaticIs s "java/lang/String" "COMPACT_STRINGS" "Z" (.int z) ∧ ¬ z = 0
def E (cd : Int32) (r : Option Value) (s u : State) : Prop := XT.PureE (some (.int (1 - cd))) r s u
theorem law (l : Launch) (x : Addr) (cd z : Int32) : Law l yN 1 0 0 0 yB 1 (some .boolean) site (P x cd z) (E cd) [] 0 0 := by
  refine Law.of_walk (plainFor_of_name (by decide +kernel)) (by decide +kernel) (by decide +kernel) (by decide) (fun _ _ h => by rw [h.1]; rfl) (fun _ U U' hal hh h => ⟨h.1, h.2.1.mv hal hh, h.2.2.1, h.2.2.2.1.there hal hh, h.2.2.2.2⟩) (fun r U U' V V' h1 hal h2 h => XT.PureE.mv r U U' V V' h1 hal h2 h) ?_
  intro p e s m args below meth c s₁ X0 hexec hbytes hml hret hlk hnm hown hh0 W hP
  obtain ⟨rfl, hx, hc, s1, hz⟩ := hP
  have c1 : Steps p.tables e below (s₁.setTop (entryFrame m #[.ref x] 1)) (s₁.setTop (mkF m 0 #[.val (.ref x)] [])) := entry rfl
  obtain ⟨T2, X2, q2, st2⟩ := X0.sget hexec hown (wk W (.fieldLink "java/lang/String" 38 "java/lang/String" "COMPACT_STRINGS" "Z")) s1 (fun _ _ h => by rw [hh0]; exact h) (g := (mkF m 0 #[.val (.ref x)] [])) rfl (hb hbytes d0)
  have hh2 := q2.trans hh0
  have c3 : Steps p.tables e below (s₁.setTop (entryFrame m #[.ref x] 1)) (T2.setTop (mkF m 7 #[.val (.ref x)] [.ref x])) := (c1.trans (st2 _ (Steps.refl _))).trans (by
    refine XS.ifNo X2.here hexec rfl (hb hbytes d3) rfl (i0_eq_f hz) ?_
    refine XS.aloadN X2.here hexec rfl (hb hbytes d6) rfl rfl ?_
    exact Steps.refl _)
  obtain ⟨T4, X4, q4, st4⟩ := X2.hget hexec hown (wk W (.fieldLink "java/lang/String" 15 "java/lang/String" "coder" "B")) (hx.mv X2.warmed.alike hh2) (g := (mkF m 7 #[.val (.ref x)] [.ref x])) rfl (rest := []) rfl (hb hbytes d7)
  have c5 : Steps p.tables e below (s₁.setTop (entryFrame m #[.ref x] 1)) (T4.setTop (mkF m 10 #[.val (.ref x)] [.int cd])) := c3.trans (st4 _ (Steps.refl _))
  have c6 : Steps p.tables e below (s₁.setTop (entryFrame m #[.ref x] 1)) (T4.setTop (mkF m 18 #[.val (.ref x)] [.int (1 - cd)])) := by
    rcases hc with rfl | rfl
    · exact c5.trans (by
        refine XS.ifNo X4.here hexec rfl (hb hbytes d10) rfl (i0_ne_f rfl) ?_
        refine iconstV X4.here hexec rfl 1 (hb hbytes d13) (by decide) ?_
        refine XS.goto X4.here hexec rfl (pc0 := 14) rfl (hb hbytes d14) (by decide) rfl ?_
        exact Steps.refl _)
    · exact c5.trans (by
        refine XS.ifYes X4.here hexec rfl (pc0 := 10) rfl (hb hbytes d10) rfl (i0_ne_t (by decide)) (by decide) rfl ?_
        refine iconstV X4.here hexec rfl 0 (hb hbytes d17) (by decide) ?_
        exact Steps.refl _)
  exact ⟨T4, some (.int (1 - cd)), _, _, _, X4, rfl, rfl, rfl, (fun h => by cases h), ⟨rfl, q4.trans hh2⟩, fun fs hl => c6.trans (X4.ireturnOut hexec hret (by rcases hc with rfl | rfl <;> rfl) (Or.inr (Or.inl rfl)) (hb hbytes d18) hl)⟩
end IsL
namespace LChA
def yN : MethodName := ⟨"java/lang/StringLatin1", "charAt", "([BI)C"⟩
abbrev yB : ByteArray := jdk_43_method_2_code
theorem d0 : decode yB 0 = .ok (.iload_n 1, 1) := by decide +kernel
theorem d1 : decode yB 1 = .ok (.aload_n 0, 1) := by decide +kernel
theorem d2 : decode yB 2 = .ok (.arraylength, 1) := by decide +kernel
theorem d3 : decode yB 3 = .ok (.invokestatic 9, 3) := by decide +kernel
theorem d6 : decode yB 6 = .ok (.aload_n 0, 1) := by decide +kernel
theorem d7 : decode yB 7 = .ok (.iload_n 1, 1) := by decide +kernel
theorem d8 : decode yB 8 = .ok (.baload, 1) := by decide +kernel
theorem d9 : decode yB 9 = .ok (.sipush 255, 3) := by decide +kernel
theorem d12 : decode yB 12 = .ok (.iand, 1) := by decide +kernel
theorem d13 : decode yB 13 = .ok (.i2c, 1) := by decide +kernel
theorem d14 : decode yB 14 = .ok (.ireturn, 1) := by decide +kernel
def site : List Cond := [JO.Str_checkIndex.tab] ++ staticW "java/lang/StringLatin1" 9 JO.Str_checkIndex.yN
def tab : Cond := tabOf yN yB 2 (some .char) site
def P (t : Addr) (V : Cell) (i : Nat) (u : Int32) (fm : Value) (args : Array Value) (s : State) : Prop := args = #[.ref t, .int (Int32.ofNat i)] ∧ XT.Arr .byte t V s ∧ V.slots[i]? = some (.int u) ∧ (StaticIs s "jdk/internal/util/Preconditions" "SIOOBE_FORMATTER" "Ljava/util/function/BiFunction;" fm ∧ fm.isRef = true)
def E (u : Int32) (r : Option Value) (s w : State) : Prop := XT.PureE (some (.int (chr8 u))) r s w
theorem law (l : Launch) (t : Addr) (V : Cell) (i : Nat) (u : Int32) (fm : Value) : Law l yN 2 2 2 27 yB 2 (some .char) site (P t V i u fm) (E u) [] 0 0 := by
  refine Law.of_walk (plainFor_of_name (by decide +kernel)) (by decide +kernel) (by decide +kernel) (by decide) (fun _ _ h => by rw [h.1]; rfl) (fun _ U U' hal hh h => ⟨h.1, h.2.1.mv hal hh, h.2.2.1, h.2.2.2.1.there hal hh, h.2.2.2.2⟩) (fun r U U' V V' h1 hal h2 h => XT.PureE.mv r U U' V V' h1 hal h2 h) ?_
  intro p e s m args below meth c s₁ X0 hexec hbytes hml hret hlk hnm hown hh0 W hP
  obtain ⟨rfl, hV, hu, s1, rf⟩ := hP
  have v31 := hV.2.2.2
  have hi : i < V.slots.size := (Array.getElem?_eq_some_iff.mp hu).1
  have c1 : Steps p.tables e below (s₁.setTop (entryFrame m #[.ref t, .int (Int32.ofNat i)] 2)) (s₁.setTop (mkF m 0 #[.val (.ref t), .val (.int (Int32.ofNat i))] [])) := entry rfl
  have c2 : Steps p.tables e below (s₁.setTop (entryFrame m #[.ref t, .int (Int32.ofNat i)] 2)) (s₁.setTop (mkF m 3 #[.val (.ref t), .val (.int (Int32.ofNat i))] [.int (Int32.ofNat V.slots.size), .int (Int32.ofNat i)])) := c1.trans (by
    refine XS.iloadN X0.here hexec rfl (hb hbytes d0) rfl ?_
    refine XS.aloadN X0.here hexec rfl (hb hbytes d1) rfl rfl ?_
    refine X0.alen hexec (hV.mv X0.warmed.alike hh0) rfl rfl (hb hbytes d2) ?_
    exact Steps.refl _)
  obtain ⟨v3, T3, X3, E3, g3⟩ := X0.callS hexec (JO.Str_checkIndex.law l (Int32.ofNat i) (Int32.ofNat V.slots.size) fm) hown (wks W (staticW "java/lang/StringLatin1" 9 JO.Str_checkIndex.yN)) (wk W JO.Str_checkIndex.tab) (W := 0) (Nat.le_of_ble_eq_true rfl) (Nat.le_of_ble_eq_true rfl) (Nat.le_refl _) (Nat.le_refl _) (g := (mkF m 3 #[.val (.ref t), .val (.int (Int32.ofNat i))] [.int (Int32.ofNat V.slots.size), .int (Int32.ofNat i)])) rfl (by rw [hml]; rfl) c2 (argsL := [.int (Int32.ofNat i), .int (Int32.ofNat V.slots.size)]) (rest := []) rfl rfl (by show 2 * 0 + 0 ≤ _; decide) (hb hbytes d3) (⟨rfl, rf, s1.there X0.warmed.alike hh0, Int32.ofNat_not_neg (by omega), lt32 v31 hi⟩)
  obtain ⟨rfl, q3⟩ := E3
  have hh3 := q3.trans hh0
  have c4 : Steps p.tables e below (s₁.setTop (entryFrame m #[.ref t, .int (Int32.ofNat i)] 2)) (T3.setTop (mkF m 14 #[.val (.ref t), .val (.int (Int32.ofNat i))] [.int (chr8 u)])) := Steps.trans g3 (by
    refine XS.aloadN X3.here hexec rfl (hb hbytes d6) rfl rfl ?_
    refine XS.iloadN X3.here hexec rfl (hb hbytes d7) rfl ?_
    refine X3.aget hexec (hV.mv X3.warmed.alike hh3) rfl hu rfl rfl (hb hbytes d8) ?_
    refine sipushV X3.here hexec rfl 255 (hb hbytes d9) (by decide) ?_
    refine XS.iand X3.here hexec rfl (hb hbytes d12) rfl ?_
    refine i2c X3.here hexec rfl (hb hbytes d13) rfl ?_
    exact Steps.refl _)
  exact ⟨T3, some (.int (chr8 u)), _, _, _, X3, rfl, rfl, rfl, (fun h => by cases h), ⟨rfl, hh3⟩, fun fs hl => c4.trans (X3.ireturnOut hexec hret (narrow_c _) (Or.inr (Or.inr (Or.inr (Or.inl rfl)))) (hb hbytes d14) hl)⟩
end LChA
end StrChars
namespace StrChars.Road
open Jvm Sem ClassFile Op Lib Jvm.Stand Jvm.Free Jvm.Free.XT
open Jvm.Lib.Cold (StaticIs)
theorem consq {a : Array Value} {s : State} {c : Jvm.Cond} {L : List Jvm.Cond} (h0 : c.before a s = true) (h : ∀ w ∈ L, w.before a s = true) : ∀ w ∈ c :: L, w.before a s = true := fun w hw => (List.mem_cons.mp hw).elim (fun e => e ▸ h0) (h w)
/-- the words of String.length(), either coding -/
abbrev wordsLen : List Jvm.Cond := [.code Len.yN Len.yB 1 (some .int), .initialized ST, .fieldLink ST 9 ST "value" "[B", .fieldLink ST 38 ST "COMPACT_STRINGS" "Z", .fieldLink ST 15 ST "coder" "B", .code Cdr.yN Cdr.yB 1 (some .byte), .methodLink ST 335 Cdr.yN, .declares Cdr.yN, .selects ST Cdr.yN Cdr.yN, .instanceMethod Cdr.yN]
theorem tabLen_of {a : Array Value} {s : State} (h : ∀ w ∈ wordsLen, w.before a s = true) : Len.tab.before a s = true := by
  have hc : Cdr.tab.before a s = true := unparts (wk h (.code Cdr.yN Cdr.yB 1 (some .byte))) (wks h (.initialized Cdr.yN.cls :: Cdr.site))
  have q := consq hc h
  exact unparts (wk q (.code Len.yN Len.yB 1 (some .int))) (wks q (.initialized Len.yN.cls :: Len.site))
theorem movedLen {Z s : State} {a0 args : Array Value} (hZ : Z.Warmed39 s.vm) (hw : ∀ d ∈ wordsLen, d.before a0 Z = true) : ∀ d ∈ wordsLen, d.before args s = true := fun d hd => by
  have q := hw d hd
  have t : ∀ d ∈ wordsLen, d = .arrayClass .byte ∨ (d.onTables && d.keepsFace) = true := by decide +kernel
  rcases t d hd with rfl | t
  · exact RoadKit.mvA hZ q
  · exact RoadKit.mv hZ q t
/-- the bytes of the chars cs, low before high -/
def wideBytes : List Int32 → List Value
  | [] => []
  | c :: cs => .int (lo8 c) :: .int (hi8 c) :: wideBytes cs
theorem wide_lo (d : Value) : ∀ (cs : List Int32) (j : Nat), j < cs.length → (wideBytes cs).getD (2 * j) d = .int (lo8 (cs.getD j 0))
  | [], j, h => absurd h (Nat.not_lt_zero j)
  | c :: cs, 0, _ => rfl
  | c :: cs, j + 1, h => by
    have q := wide_lo d cs j (by simpa using h)
    rw [show 2 * (j + 1) = 2 * j + 1 + 1 from by omega]
    simpa [wideBytes] using q
theorem wide_hi (d : Value) : ∀ (cs : List Int32) (j : Nat), j < cs.length → (wideBytes cs).getD (2 * j + 1) d = .int (hi8 (cs.getD j 0))
  | [], j, h => absurd h (Nat.not_lt_zero j)
  | c :: cs, 0, _ => rfl
  | c :: cs, j + 1, h => by
    have q := wide_hi d cs j (by simpa using h)
    rw [show 2 * (j + 1) + 1 = 2 * j + 1 + 1 + 1 from by omega]
    simpa [wideBytes] using q
theorem low_at (d : Value) (cs : List Int32) (j : Nat) (h : j < cs.length) : (cs.map fun c => Value.int (lo8 c)).getD j d = .int (lo8 (cs.getD j 0)) := by
  simp [List.getD_eq_getElem?_getD, h]
/-- an array of N2 bytes vs codes the chars cs by the coder cd -/
def CodA (cs : List Int32) (cd N2 : Int32) (vs : List Value) : Prop := (cd = 0 ∧ N2 = Int32.ofNat cs.length ∧ vs = (cs.map fun c => Value.int (lo8 c)) ∧ ∀ c ∈ cs, ¬ 255 < c) ∨ (cd = 1 ∧ N2 = Int32.ofNat (2 * cs.length) ∧ vs = wideBytes cs ∧ ∃ c ∈ cs, 255 < c)
theorem CodA.cod {cs : List Int32} {cd N2 : Int32} {vs : List Value} {V : Cell} (h : CodA cs cd N2 vs) (hn : 2 * cs.length < 2 ^ 31) (hs : V.slots.size = N2.toNatClampNeg) (hv : RoadKit.Has V vs (.int 0)) : Cod cd cs.length (fun j => cs.getD j 0) V := by
  rcases h with ⟨rfl, rfl, rfl, h⟩ | ⟨rfl, rfl, rfl, c, hc, hw⟩
  · rw [n32 (by omega)] at hs
    exact Or.inl ⟨rfl, hs, fun j hj => ⟨by rw [hv j (by omega), low_at _ _ _ hj], by
      have e : cs.getD j 0 = cs[j] := by simp [List.getD_eq_getElem?_getD, hj]
      show ¬ 255 < cs.getD j 0
      rw [e]; exact h _ (List.getElem_mem _)⟩⟩
  · rw [n32 (by omega)] at hs
    obtain ⟨j, hj, rfl⟩ := List.getElem_of_mem hc
    exact Or.inr ⟨rfl, hs, fun j hj => ⟨by rw [hv _ (by omega), wide_lo _ _ _ hj], by rw [hv _ (by omega), wide_hi _ _ _ hj]⟩, j, hj, by
      have e : cs.getD j 0 = cs[j] := by simp [List.getD_eq_getElem?_getD, hj]
      show 255 < cs.getD j 0
      rw [e]; exact hw⟩
/-- an object of exactly java/lang/String, its two fields found: as the laws ask it -/
theorem strObj {Z U : State} {a0 : Array Value} {kI : Nat} (wi : (Jvm.Cond.instantiable ST kI).before a0 Z = true) (al : Z.vm.Alike U.vm) {x : Addr} {v0 c0 : Value} (E : RoadKit.Exa Z U.heap x ST) (V : RoadKit.Fld Z U.heap x ST "value" "[B" v0) (C : RoadKit.Fld Z U.heap x ST "coder" "B" c0) :
    ∃ (D : Cell) (fV fC : Field), Blank ST x D U ∧ Found ST "value" "[B" fV U ∧ Found ST "coder" "B" fC U ∧ D.slots[fV.slot]? = some v0 ∧ D.slots[fC.slot]? = some c0 ∧ RoadKit.slotOf Z ST "value" "[B" = fV.slot ∧ RoadKit.slotOf Z ST "coder" "B" = fC.slot := by
  obtain ⟨D, cfV, kV, iV, fV, hD, gV, stV, knV, obV, asV, slV⟩ := V
  obtain ⟨D', cfC, kC, iC, fC, hD', gC, stC, -, -, asC, slC⟩ := C
  cases hD.symm.trans hD'
  obtain ⟨D2, kD, e1, e2, e3, e4, e5⟩ := E
  cases hD.symm.trans e1
  obtain ⟨c2, k2, i1, i2, i3, -⟩ := Cond.instantiable_spec wi
  cases e2.symm.trans i1
  cases e3.symm.trans i2
  obtain ⟨kU, u1, u2⟩ := al.2.2 _ _ e3
  exact ⟨D, fV, fC, ⟨hD, ⟨knV, fun q hq => by rw [hq] at obV; cases obV⟩, by rw [al.findClass]; exact e2, kU, u1, by rw [u2]; exact i3, by rw [u2]; exact e5 i3⟩, ⟨SBG.found_only al ⟨cfV, kV, iV, gV⟩, stV⟩, ⟨SBG.found_only al ⟨cfC, kC, iC, gC⟩, stC⟩, slV, slC, by simp [RoadKit.slotOf, gV], by simp [RoadKit.slotOf, gC]⟩
theorem sta_is {Z U : State} (al : Z.vm.Alike U.vm) {C n d : String} {v : Value} (S : RoadKit.Sta Z U.heap C n d v) : StaticIs U C n d v := by
  obtain ⟨cfS, iS, kS, fS, st, cS, t1, t2, t3, t4, t5, t6, t7⟩ := S
  exact StaticIs.there (s := { Z with heap := U.heap }) ⟨cfS, iS, kS, fS, st, cS, t1, t2, t3, t4, t5, (fun q => by rw [q] at t6; cases t6), t7⟩ al rfl
/-- **length() OF SUCH A STRING** -/
theorem lenW {p : Program} {l : Launch} {e : Env} {R : Room} {s : State} {args : Array Value} {below : List Frame} {len W : Nat} {Z : State} {a0 : Array Value} {h : Heap} (hZ : Z.Warmed39 s.vm) (hw : ∀ d ∈ wordsLen, d.before a0 Z = true) {kI : Nat} (wi : (Jvm.Cond.instantiable ST kI).before a0 Z = true)
    {x t : Addr} {kb : ClassId} {cs : List Int32} {cd N2 z : Int32} {vs : List Value} (E : RoadKit.Exa Z h x ST) (V : RoadKit.Fld Z h x ST "value" "[B" (.ref t)) (C : RoadKit.Fld Z h x ST "coder" "B" (.int cd)) (K : RoadKit.Arv Z h t kb .byte N2 vs (.int 0)) (hc : CodA cs cd N2 vs) (hb : ∀ c ∈ cs, ¬ c < 0 ∧ ¬ (65535 : Int32) < c)
    (S : RoadKit.Sta Z h ST "COMPACT_STRINGS" "Z" (.int z)) (hz : ¬ z = 0) (l2 : cs.length ≤ 4000) (hfr : 2 ≤ R.frames) (hlo : W + 25 ≤ R.locals) :
    Back l R p e below s args (⟨"java/lang/String", "length", "()I"⟩ : MethodName) len W (fun P a => a = #[.ref x] ∧ P.U.heap = h ∧ P.cells + 0 ≤ R.cells ∧ P.slots + 0 ≤ R.slots)
      (fun P _ v B => ∃ L, (v = some (.int (Int32.ofNat cs.length)) ∧ L = [] ∧ B.U.heap = h) ∧ B.locs = P.locs ++ L ∧ B.cells = P.cells + 0 ∧ B.slots = P.slots + 0) := by
  obtain ⟨A, K1, K2, K3, K4, K5, K6⟩ := K
  have hcod := hc.cod (by omega) K3 K5
  intro m meth c P g ig mk a X hg hsize hdg hW hn hp'
  obtain ⟨rfl, rfl, r1, r2⟩ := hp'
  have al : Z.vm.Alike P.U.vm := hZ.alike.trans X.warmed.alike
  obtain ⟨D, fV, fC, hB, F1, F2, g1, g2, -, -⟩ := strObj wi al E V C
  have hx : Txt x t A cd cs.length (fun j => cs.getD j 0) P.U := ⟨⟨_, hB.2.2.1, D, hB.1, rfl, by cases q : D.vm <;> first | rfl | exact absurd q (hB.2.1.2 _)⟩, Has.of hB F1 g1, Has.of hB F2 g2, ⟨K1.1, State.isArrayOf_alike al K1.2.1, K1.2.2, by rcases hcod with ⟨-, q, -⟩ | ⟨-, q, -⟩ <;> omega⟩, hcod, fun j hj => by
    have e : cs.getD j 0 = cs[j] := by simp [List.getD_eq_getElem?_getD, hj]
    show ¬ cs.getD j 0 < 0 ∧ ¬ 65535 < cs.getD j 0
    rw [e]; exact hb _ (List.getElem_mem _)⟩
  obtain ⟨v, B, X', ⟨⟨hv, hh⟩, hl, hk, hs⟩, st⟩ := Len.pays x t A cd cs.length (fun j => cs.getD j 0) z (tabLen_of (movedLen hZ hw)) hfr hlo m meth c P g ig mk _ X hg hsize hdg hW hn ⟨r1, r2, rfl, hx, sta_is al S, hz⟩
  exact ⟨v, B, X', ⟨[], ⟨hv, rfl, hh⟩, hl, hk, hs⟩, st⟩
end StrChars.Road
namespace StrChars
open Jvm Sem ClassFile Op Lib Jvm.Stand Jvm.Free.XT Jvm.Free.ALB Jvm.Free.JM Jvm.Free
open Jvm.Lib.Cold (StaticIs)
namespace Emp
def yN : MethodName := ⟨"java/lang/String", "isEmpty", "()Z"⟩
abbrev yB : ByteArray := jdk_42_method_55_code
theorem d0 : decode yB 0 = .ok (.aload_n 0, 1) := by decide +kernel
theorem d1 : decode yB 1 = .ok (.getfield 9, 3) := by decide +kernel
theorem d4 : decode yB 4 = .ok (.arraylength, 1) := by decide +kernel
theorem d5 : decode yB 5 = .ok (.ifCond (.ne) 7, 3) := by decide +kernel
theorem d8 : decode yB 8 = .ok (.iconst 1, 1) := by decide +kernel
theorem d9 : decode yB 9 = .ok (.goto 4, 3) := by decide +kernel
theorem d12 : decode yB 12 = .ok (.iconst 0, 1) := by decide +kernel
theorem d13 : decode yB 13 = .ok (.ireturn, 1) := by decide +kernel
def site : List Cond := [.fieldLink "java/lang/String" 9 "java/lang/String" "value" "[B"]
def tab : Cond := tabOf yN yB 1 (some .boolean) site
def P (x t : Addr) (V : Cell) (cd : Int32) (n : Nat) (f : Nat → Int32) (args : Array Value) (s : State) : Prop := args = #[.ref x] ∧ Txt x t V cd n f s
def E (n : Nat) (r : Option Value) (s u : State) : Prop := XT.PureE (some (.int (if n = 0 then 1 else 0))) r s u
/-- isEmpty() of a String of n chars -/
theorem law (l : Launch) (x t : Addr) (V : Cell) (cd : Int32) (n : Nat) (f : Nat → Int32) : Law l yN 1 0 0 0 yB 1 (some .boolean) site (P x t V cd n f) (E n) [] 0 0 := by
  refine Law.of_walk (plainFor_of_name (by decide +kernel)) (by decide +kernel) (by decide +kernel) (by decide) (fun _ _ h => by rw [h.1]; rfl) (fun _ U U' hal hh h => ⟨h.1, h.2.mv hal hh⟩) (fun r U U' V V' h1 hal h2 h => XT.PureE.mv r U U' V V' h1 hal h2 h) ?_
  intro p e s m args below meth c s₁ X0 hexec hbytes hml hret hlk hnm hown hh0 W hP
  obtain ⟨rfl, hx⟩ := hP
  have v31 := hx.2.2.2.1.2.2.2
  have c1 : Steps p.tables e below (s₁.setTop (entryFrame m #[.ref x] 1)) (s₁.setTop (mkF m 1 #[.val (.ref x)] [.ref x])) := Steps.trans (entry rfl) (by
    show Steps p.tables e below (s₁.setTop (mkF m 0 #[.val (.ref x)] [])) _
    refine XS.aloadN X0.here hexec rfl (hb hbytes d0) rfl rfl ?_
    exact Steps.refl _)
  obtain ⟨T2, X2, q2, st2⟩ := X0.hget hexec hown (wk W (.fieldLink "java/lang/String" 9 "java/lang/String" "value" "[B")) (hx.mv X0.warmed.alike hh0).2.1 (g := (mkF m 1 #[.val (.ref x)] [.ref x])) rfl (rest := []) rfl (hb hbytes d1)
  have hh2 := q2.trans hh0
  have hx2 := hx.mv X2.warmed.alike hh2
  have c3 : Steps p.tables e below (s₁.setTop (entryFrame m #[.ref x] 1)) (T2.setTop (mkF m 5 #[.val (.ref x)] [.int (Int32.ofNat V.slots.size)])) := (c1.trans (st2 _ (Steps.refl _))).trans (by
    refine X2.alen hexec hx2.2.2.2.1 rfl rfl (hb hbytes d4) ?_
    exact Steps.refl _)
  have hz : V.slots.size = 0 ↔ n = 0 := by
    rcases hx.2.2.2.2.1 with ⟨-, q, -⟩ | ⟨-, q, -⟩ <;> omega
  by_cases h0 : n = 0
  · have c4 : Steps p.tables e below (s₁.setTop (entryFrame m #[.ref x] 1)) (T2.setTop (mkF m 13 #[.val (.ref x)] [.int 1])) := c3.trans (by
      refine XS.ifNo X2.here hexec rfl (hb hbytes d5) rfl (i0_ne_f (by rw [hz.mpr h0]; rfl)) ?_
      refine iconstV X2.here hexec rfl 1 (hb hbytes d8) (by decide) ?_
      refine XS.goto X2.here hexec rfl (pc0 := 9) rfl (hb hbytes d9) (by decide) rfl ?_
      exact Steps.refl _)
    exact ⟨T2, some (.int 1), _, _, _, X2, rfl, rfl, rfl, (fun h => by cases h), ⟨by rw [if_pos h0], hh2⟩, fun fs hl => c4.trans (X2.ireturnOut hexec hret rfl (Or.inr (Or.inl rfl)) (hb hbytes d13) hl)⟩
  · have c4 : Steps p.tables e below (s₁.setTop (entryFrame m #[.ref x] 1)) (T2.setTop (mkF m 13 #[.val (.ref x)] [.int 0])) := c3.trans (by
      refine XS.ifYes X2.here hexec rfl (pc0 := 5) rfl (hb hbytes d5) rfl (i0_ne_t (nz32 v31 (by omega))) (by decide) rfl ?_
      refine iconstV X2.here hexec rfl 0 (hb hbytes d12) (by decide) ?_
      exact Steps.refl _)
    exact ⟨T2, some (.int 0), _, _, _, X2, rfl, rfl, rfl, (fun h => by cases h), ⟨by rw [if_neg h0], hh2⟩, fun fs hl => c4.trans (X2.ireturnOut hexec hret rfl (Or.inr (Or.inl rfl)) (hb hbytes d13) hl)⟩
theorem pays {l : Launch} {R : Room} {p : Program} {e : Env} {below : List Frame} {s : State} {sargs : Array Value} {len W : Nat} (x t : Addr) (V : Cell) (cd : Int32) (n : Nat) (f : Nat → Int32) (htab : tab.before sargs s = true) (hfr : 1 ≤ R.frames) (hlo : W + 12 ≤ R.locals) :
    Back l R p e below s sargs yN len W (fun A₁ a₁ => A₁.cells + 0 ≤ R.cells ∧ A₁.slots + 0 ≤ R.slots ∧ P x t V cd n f a₁ A₁.U) (fun A₁ _ v₁ B₁ => E n v₁ A₁.U B₁.U ∧ B₁.locs = A₁.locs ++ [] ∧ B₁.cells = A₁.cells + 0 ∧ B₁.slots = A₁.slots + 0) :=
  (law l x t V cd n f).pays htab hfr (by omega)
end Emp
/-- what place i of a byte[]'s cell holds -/
def yv (A : Cell) (i : Nat) : Int32 := match A.slots[i]? with | some (.int x) => x | _ => 0
theorem yv_get {a : Addr} {A : Cell} {U : State} (h : XT.Arr .byte a A U) (ht : Typed .byte A) {i : Nat} (hi : i < A.slots.size) : A.slots[i]? = some (.int (yv A i)) := by
  have e := Array.getElem?_eq_getElem hi
  have f := ht i _ e
  unfold yv; rw [e]
  generalize A.slots[i] = v at f
  cases v <;> simp [fits] at f ⊢
/-- the two arrays are equal, place for place -/
def EqC (A B : Cell) : Prop := A.slots.size = B.slots.size ∧ ∀ i, i < A.slots.size → yv A i = yv B i
/-- a boolean that says whether p -/
def Says01 (q : Prop) (r : Option Value) (s u : State) : Prop := ∃ v : Int32, r = some (.int v) ∧ u.heap = s.heap ∧ ((v = 1 ∧ q) ∨ (v = 0 ∧ ¬ q))
theorem Says01.mv {q : Prop} : ∀ r (U U' V V' : State), U'.heap = U.heap → V.vm.Alike V'.vm → V'.heap = V.heap → Says01 q r U V → Says01 q r U' V' :=
  fun r U U' V V' h1 _ h2 ⟨v, a, b, c⟩ => ⟨v, a, by rw [h1, h2]; exact b, c⟩
namespace LEq
def yN : MethodName := ⟨"java/lang/StringLatin1", "equals", "([B[B)Z"⟩
abbrev yB : ByteArray := jdk_43_method_13_code
theorem d0 : decode yB 0 = .ok (.aload_n 0, 1) := by decide +kernel
theorem d1 : decode yB 1 = .ok (.arraylength, 1) := by decide +kernel
theorem d2 : decode yB 2 = .ok (.aload_n 1, 1) := by decide +kernel
theorem d3 : decode yB 3 = .ok (.arraylength, 1) := by decide +kernel
theorem d4 : decode yB 4 = .ok (.if_icmp (.ne) 30, 3) := by decide +kernel
theorem d7 : decode yB 7 = .ok (.iconst 0, 1) := by decide +kernel
theorem d8 : decode yB 8 = .ok (.istore_n 2, 1) := by decide +kernel
theorem d9 : decode yB 9 = .ok (.iload_n 2, 1) := by decide +kernel
theorem d10 : decode yB 10 = .ok (.aload_n 0, 1) := by decide +kernel
theorem d11 : decode yB 11 = .ok (.arraylength, 1) := by decide +kernel
theorem d12 : decode yB 12 = .ok (.if_icmp (.ge) 20, 3) := by decide +kernel
theorem d15 : decode yB 15 = .ok (.aload_n 0, 1) := by decide +kernel
theorem d16 : decode yB 16 = .ok (.iload_n 2, 1) := by decide +kernel
theorem d17 : decode yB 17 = .ok (.baload, 1) := by decide +kernel
theorem d18 : decode yB 18 = .ok (.aload_n 1, 1) := by decide +kernel
theorem d19 : decode yB 19 = .ok (.iload_n 2, 1) := by decide +kernel
theorem d20 : decode yB 20 = .ok (.baload, 1) := by decide +kernel
theorem d21 : decode yB 21 = .ok (.if_icmp (.eq) 5, 3) := by decide +kernel
theorem d24 : decode yB 24 = .ok (.iconst 0, 1) := by decide +kernel
theorem d25 : decode yB 25 = .ok (.ireturn, 1) := by decide +kernel
theorem d26 : decode yB 26 = .ok (.iinc 2 1, 3) := by decide +kernel
theorem d29 : decode yB 29 = .ok (.goto (-20), 3) := by decide +kernel
theorem d32 : decode yB 32 = .ok (.iconst 1, 1) := by decide +kernel
theorem d33 : decode yB 33 = .ok (.ireturn, 1) := by decide +kernel
theorem d34 : decode yB 34 = .ok (.iconst 0, 1) := by decide +kernel
theorem d35 : decode yB 35 = .ok (.ireturn, 1) := by decide +kernel
def site : List Cond := []
def tab : Cond := tabOf yN yB 3 (some .boolean) site
def P (a : Addr) (A : Cell) (b : Addr) (B : Cell) (args : Array Value) (s : State) : Prop := args = #[.ref a, .ref b] ∧ XT.Arr .byte a A s ∧ Typed .byte A ∧ XT.Arr .byte b B s ∧ Typed .byte B
/-- whether two byte[] are equal, place for place -/
theorem law (l : Launch) (a : Addr) (A : Cell) (b : Addr) (B : Cell) : Law l yN 2 2 0 0 yB 3 (some .boolean) site (P a A b B) (Says01 (EqC A B)) [] 0 0 := by
  refine Law.of_walk (plainFor_of_name (by decide +kernel)) (by decide +kernel) (by decide +kernel) (by decide) (fun _ _ h => by rw [h.1]; rfl) (fun _ U U' hal hh h => ⟨h.1, h.2.1.mv hal hh, h.2.2.1, h.2.2.2.1.mv hal hh, h.2.2.2.2⟩) (fun r U U' V V' h1 hal h2 h => Says01.mv r U U' V V' h1 hal h2 h) ?_
  intro p e s m args below meth c s₁ X0 hexec hbytes hml hret hlk hnm hown hh0 W hP
  obtain ⟨rfl, hA, tA, hB, tB⟩ := hP
  have a31 := hA.2.2.2
  have b31 := hB.2.2.2
  have hA0 := hA.mv X0.warmed.alike hh0
  have hB0 := hB.mv X0.warmed.alike hh0
  have c1 : Steps p.tables e below (s₁.setTop (entryFrame m #[.ref a, .ref b] 3)) (s₁.setTop (mkF m 0 #[.val (.ref a), .val (.ref b), .unset] [])) := entry rfl
  have c2 : Steps p.tables e below (s₁.setTop (entryFrame m #[.ref a, .ref b] 3)) (s₁.setTop (mkF m 4 #[.val (.ref a), .val (.ref b), .unset] [.int (Int32.ofNat B.slots.size), .int (Int32.ofNat A.slots.size)])) := c1.trans (by
    refine XS.aloadN X0.here hexec rfl (hb hbytes d0) rfl rfl ?_
    refine X0.alen hexec hA0 rfl rfl (hb hbytes d1) ?_
    refine XS.aloadN X0.here hexec rfl (hb hbytes d2) rfl rfl ?_
    refine X0.alen hexec hB0 rfl rfl (hb hbytes d3) ?_
    exact Steps.refl _)
  by_cases hs : A.slots.size = B.slots.size
  · have c3 : Steps p.tables e below (s₁.setTop (entryFrame m #[.ref a, .ref b] 3)) (s₁.setTop (mkF m 9 #[.val (.ref a), .val (.ref b), .val (.int 0)] [])) := c2.trans (by
      refine XS.icmpNo X0.here hexec rfl (hb hbytes d4) rfl (ii_ne_f (by rw [hs])) ?_
      refine iconstV X0.here hexec rfl 0 (hb hbytes d7) (by decide) ?_
      refine XS.istoreN X0.here hexec rfl (hb hbytes d8) rfl rfl ?_
      exact Steps.refl _)
    have loop : ∀ (r i : Nat), i + r = A.slots.size → (∀ j, j < i → yv A j = yv B j) → Steps p.tables e below (s₁.setTop (entryFrame m #[.ref a, .ref b] 3)) (s₁.setTop (mkF m 9 #[.val (.ref a), .val (.ref b), .val (.int (Int32.ofNat i))] [])) → ∃ (pc : Nat) (Ls : Array Slot) (v : Int32), (pc = 25 ∨ pc = 33) ∧ ((v = 1 ∧ EqC A B) ∨ (v = 0 ∧ ¬ EqC A B)) ∧ Steps p.tables e below (s₁.setTop (entryFrame m #[.ref a, .ref b] 3)) (s₁.setTop (mkF m pc Ls [.int v])) := by
      intro r
      induction r with
      | zero =>
        intro i hi he cl
        exact ⟨33, _, 1, Or.inr rfl, Or.inl ⟨rfl, hs, fun j hj => he j (by omega)⟩, cl.trans (by
          refine XS.iloadN X0.here hexec rfl (hb hbytes d9) rfl ?_
          refine XS.aloadN X0.here hexec rfl (hb hbytes d10) rfl rfl ?_
          refine X0.alen hexec hA0 rfl rfl (hb hbytes d11) ?_
          refine XS.icmpYes X0.here hexec rfl (pc0 := 12) rfl (hb hbytes d12) rfl (ii_ge_t (nlt32 (by omega) (by omega))) (by decide) rfl ?_
          refine iconstV X0.here hexec rfl 1 (hb hbytes d32) (by decide) ?_
          exact Steps.refl _)⟩
      | succ r ih =>
        intro i hi he cl
        have c4 : Steps p.tables e below (s₁.setTop (entryFrame m #[.ref a, .ref b] 3)) (s₁.setTop (mkF m 21 #[.val (.ref a), .val (.ref b), .val (.int (Int32.ofNat i))] [.int (yv B i), .int (yv A i)])) := cl.trans (by
          refine XS.iloadN X0.here hexec rfl (hb hbytes d9) rfl ?_
          refine XS.aloadN X0.here hexec rfl (hb hbytes d10) rfl rfl ?_
          refine X0.alen hexec hA0 rfl rfl (hb hbytes d11) ?_
          refine XS.icmpNo X0.here hexec rfl (hb hbytes d12) rfl (ii_ge_f (lt32 (by omega) (by omega))) ?_
          refine XS.aloadN X0.here hexec rfl (hb hbytes d15) rfl rfl ?_
          refine XS.iloadN X0.here hexec rfl (hb hbytes d16) rfl ?_
          refine X0.aget hexec hA0 rfl (yv_get hA tA (i := i) (by omega)) rfl rfl (hb hbytes d17) ?_
          refine XS.aloadN X0.here hexec rfl (hb hbytes d18) rfl rfl ?_
          refine XS.iloadN X0.here hexec rfl (hb hbytes d19) rfl ?_
          refine X0.aget hexec hB0 rfl (yv_get hB tB (i := i) (by omega)) rfl rfl (hb hbytes d20) ?_
          exact Steps.refl _)
        by_cases hv : yv A i = yv B i
        · have c5 : Steps p.tables e below (s₁.setTop (entryFrame m #[.ref a, .ref b] 3)) (s₁.setTop (mkF m 9 #[.val (.ref a), .val (.ref b), .val (.int (Int32.ofNat i + 1))] [])) := c4.trans (by
            refine XS.icmpYes X0.here hexec rfl (pc0 := 21) rfl (hb hbytes d21) rfl (ii_eq_t hv) (by decide) rfl ?_
            refine iincV X0.here hexec rfl 1 (hb hbytes d26) (by decide) rfl rfl ?_
            refine XS.goto X0.here hexec rfl (pc0 := 29) rfl (hb hbytes d29) (by decide) rfl ?_
            exact Steps.refl _)
          rw [succ32] at c5
          exact ih (i + 1) (by omega) (fun j hj => by
            by_cases e : j = i
            · rw [e]; exact hv
            · exact he j (by omega)) c5
        · exact ⟨25, _, 0, Or.inl rfl, Or.inr ⟨rfl, fun q => hv (q.2 i (by omega))⟩, c4.trans (by
            refine XS.icmpNo X0.here hexec rfl (hb hbytes d21) rfl (ii_eq_f hv) ?_
            refine iconstV X0.here hexec rfl 0 (hb hbytes d24) (by decide) ?_
            exact Steps.refl _)⟩
    obtain ⟨pc, Ls, v, hpc, hv, cz⟩ := loop A.slots.size 0 (by omega) (fun j hj => absurd hj (Nat.not_lt_zero j)) c3
    have nv : narrow .boolean (.int v) = .int v := by rcases hv with ⟨rfl, -⟩ | ⟨rfl, -⟩ <;> rfl
    rcases hpc with rfl | rfl
    · exact ⟨s₁, some (.int v), _, _, _, X0, rfl, rfl, rfl, (fun h => by cases h), ⟨v, rfl, hh0, hv⟩, fun fs hl => cz.trans (X0.ireturnOut hexec hret nv (Or.inr (Or.inl rfl)) (hb hbytes d25) hl)⟩
    · exact ⟨s₁, some (.int v), _, _, _, X0, rfl, rfl, rfl, (fun h => by cases h), ⟨v, rfl, hh0, hv⟩, fun fs hl => cz.trans (X0.ireturnOut hexec hret nv (Or.inr (Or.inl rfl)) (hb hbytes d33) hl)⟩
  · have c3 : Steps p.tables e below (s₁.setTop (entryFrame m #[.ref a, .ref b] 3)) (s₁.setTop (mkF m 35 #[.val (.ref a), .val (.ref b), .unset] [.int 0])) := c2.trans (by
      refine XS.icmpYes X0.here hexec rfl (pc0 := 4) rfl (hb hbytes d4) rfl (ii_ne_t (ne32 a31 b31 hs)) (by decide) rfl ?_
      refine iconstV X0.here hexec rfl 0 (hb hbytes d34) (by decide) ?_
      exact Steps.refl _)
    exact ⟨s₁, some (.int 0), _, _, _, X0, rfl, rfl, rfl, (fun h => by cases h), ⟨0, rfl, hh0, Or.inr ⟨rfl, fun q => hs q.1⟩⟩, fun fs hl => c3.trans (X0.ireturnOut hexec hret rfl (Or.inr (Or.inl rfl)) (hb hbytes d35) hl)⟩
end LEq
theorem Cod.ty {cd : Int32} {n : Nat} {f : Nat → Int32} {V : Cell} (h : Cod cd n f V) : Typed .byte V := fun i v hv => by
  have hi : i < V.slots.size := (Array.getElem?_eq_some_iff.mp hv).1
  rcases h with ⟨-, k1, k2⟩ | ⟨-, k1, k2, -⟩
  · rw [(k2 i (by omega)).1] at hv; cases hv; exact fits_lo8 _
  · rcases Nat.mod_two_eq_zero_or_one i with e | e
    · obtain ⟨j, rfl⟩ : ∃ j, i = 2 * j := ⟨i / 2, by omega⟩
      rw [(k2 j (by omega)).1] at hv; cases hv; exact fits_lo8 _
    · obtain ⟨j, rfl⟩ : ∃ j, i = 2 * j + 1 := ⟨i / 2, by omega⟩
      rw [(k2 j (by omega)).2] at hv; cases hv; exact fits_lo8 _
/-- the same text -/
def SameT (n : Nat) (f : Nat → Int32) (k : Nat) (g : Nat → Int32) : Prop := n = k ∧ ∀ j, j < n → f j = g j
theorem lo8_inj {x y : Int32} (h0 : ¬ x < 0) (h1 : ¬ 255 < x) (k0 : ¬ y < 0) (k1 : ¬ 255 < y) (h : lo8 x = lo8 y) : x = y := by
  rw [← lo8_mask h0 h1, ← lo8_mask k0 k1, h]
/-- arrays coded by one coder are equal just where the texts are -/
theorem Cod.eqv {cd : Int32} {n k : Nat} {f g : Nat → Int32} {V V' : Cell} (h : Cod cd n f V) (h' : Cod cd k g V') (hf : ∀ j, j < n → ¬ f j < 0 ∧ ¬ 65535 < f j) (hg : ∀ j, j < k → ¬ g j < 0 ∧ ¬ 65535 < g j) : EqC V V' ↔ SameT n f k g := by
  have yvv : ∀ {W : Cell} {i : Nat} {x : Int32}, W.slots[i]? = some (.int x) → yv W i = x := fun q => by unfold yv; rw [q]
  rcases h with ⟨rfl, k1, k2⟩ | ⟨rfl, k1, k2, -⟩
  · rcases h' with ⟨-, m1, m2⟩ | ⟨e, -⟩
    · constructor
      · rintro ⟨e1, e2⟩
        refine ⟨by omega, fun j hj => ?_⟩
        have q := e2 j (by omega)
        rw [yvv (k2 j hj).1, yvv (m2 j (by omega)).1] at q
        exact lo8_inj (hf j hj).1 (k2 j hj).2 (hg j (by omega)).1 (m2 j (by omega)).2 q
      · rintro ⟨rfl, e2⟩
        refine ⟨by omega, fun j hj => ?_⟩
        rw [yvv (k2 j (by omega)).1, yvv (m2 j (by omega)).1, e2 j (by omega)]
    · exact absurd e (by decide)
  · rcases h' with ⟨e, -⟩ | ⟨-, m1, m2, -⟩
    · exact absurd e (by decide)
    · constructor
      · rintro ⟨e1, e2⟩
        refine ⟨by omega, fun j hj => ?_⟩
        have q1 := e2 (2 * j) (by omega)
        have q2 := e2 (2 * j + 1) (by omega)
        rw [yvv (k2 j hj).1, yvv (m2 j (by omega)).1] at q1
        rw [yvv (k2 j hj).2, yvv (m2 j (by omega)).2] at q2
        rw [← pair_says (hf j hj).1 (hf j hj).2, ← pair_says (hg j (by omega)).1 (hg j (by omega)).2, q1, q2]
      · rintro ⟨rfl, e2⟩
        refine ⟨by omega, fun i hi => ?_⟩
        rcases Nat.mod_two_eq_zero_or_one i with e | e
        · obtain ⟨j, rfl⟩ : ∃ j, i = 2 * j := ⟨i / 2, by omega⟩
          rw [yvv (k2 j (by omega)).1, yvv (m2 j (by omega)).1, e2 j (by omega)]
        · obtain ⟨j, rfl⟩ : ∃ j, i = 2 * j + 1 := ⟨i / 2, by omega⟩
          rw [yvv (k2 j (by omega)).2, yvv (m2 j (by omega)).2, e2 j (by omega)]
/-- two codings differ: so do the texts -/
theorem Cod.dif {cd cd' : Int32} {n k : Nat} {f g : Nat → Int32} {V V' : Cell} (h : Cod cd n f V) (h' : Cod cd' k g V') (hne : ¬ cd = cd') : ¬ SameT n f k g := by
  rintro ⟨rfl, e⟩
  rcases h with ⟨rfl, -, k2⟩ | ⟨rfl, -, -, j, hj, hw⟩
  · rcases h' with ⟨rfl, -⟩ | ⟨-, -, -, j, hj, hw⟩
    · exact hne rfl
    · exact (k2 j hj).2 (by rw [e j hj]; exact hw)
  · rcases h' with ⟨-, -, m2⟩ | ⟨rfl, -⟩
    · exact (m2 j hj).2 (by rw [← e j hj]; exact hw)
    · exact hne rfl
/-- an object of exactly C is an instance of C -/
theorem cinst {p : Program} {l : Launch} {e : Env} {R : Room} {s : State} {m : MethodId} {args : Array Value} {below : List Frame} {meth : Method} {c : Code} {T : State} {locs : List Loc} {cells slots : Nat} (X : Stand p l e R s m args below meth c T locs cells slots) (hexec : p.tables.exec = Jvm.exec) {own C : String} {index : Nat} (hown : s.vm.findClass own = some m.cls) (hlink : (Cond.classLink own index C).before args s = true) {a : Addr} (hE : Exact C a T)
    {g : JFrame} (hg : g.method = m) {rest : List Value} (hstack : g.stack = .ref a :: rest) (hdg : decode c.code g.pc = .ok (.instanceof index, 3)) :
    ∃ T', Stand p l e R s m args below meth c T' locs cells slots ∧ T'.heap = T.heap ∧ ∀ target, Steps p.tables e below (T'.setTop { g with pc := g.pc + 3, stack := .int 1 :: rest }) target → Steps p.tables e below (T.setTop g) target := by
  obtain ⟨cB, h1, D, h2, h3, h4⟩ := hE
  have h1' : s.vm.findClass C = some cB := by rw [← X.warmed.alike.findClass]; exact h1
  obtain ⟨vm', X', st⟩ := X.instanceofYes hexec hown hlink h2 h4 h1' (by rw [h3]; exact Jvm.Free.SB.assignable_self _ _) hg hstack hdg
  exact ⟨_, X', rfl, st⟩
theorem cself {p : Program} {l : Launch} {e : Env} {R : Room} {s : State} {m : MethodId} {args : Array Value} {below : List Frame} {meth : Method} {c : Code} {T : State} {locs : List Loc} {cells slots : Nat} (X : Stand p l e R s m args below meth c T locs cells slots) (hexec : p.tables.exec = Jvm.exec) {own C : String} {index : Nat} (hown : s.vm.findClass own = some m.cls) (hlink : (Cond.classLink own index C).before args s = true) {a : Addr} (hE : Exact C a T)
    {g : JFrame} (hg : g.method = m) {rest : List Value} (hstack : g.stack = .ref a :: rest) (hdg : decode c.code g.pc = .ok (.checkcast index, 3)) :
    ∃ T', Stand p l e R s m args below meth c T' locs cells slots ∧ T'.heap = T.heap ∧ ∀ target, Steps p.tables e below (T'.setTop { g with pc := g.pc + 3, stack := .ref a :: rest }) target → Steps p.tables e below (T.setTop g) target := by
  obtain ⟨cB, h1, D, h2, h3, h4⟩ := hE
  have h1' : s.vm.findClass C = some cB := by rw [← X.warmed.alike.findClass]; exact h1
  obtain ⟨vm', X', st⟩ := X.checkcastYes hexec hown hlink h2 h4 h1' (by rw [h3]; exact Jvm.Free.SB.assignable_self _ _) hg hstack hdg
  exact ⟨_, X', rfl, fun t h => st t (by rw [← hstack] at h; exact h)⟩
namespace SEq
def yN : MethodName := ⟨"java/lang/String", "equals", "(Ljava/lang/Object;)Z"⟩
abbrev yB : ByteArray := jdk_42_method_66_code
theorem d0 : decode yB 0 = .ok (.aload_n 0, 1) := by decide +kernel
theorem d1 : decode yB 1 = .ok (.aload_n 1, 1) := by decide +kernel
theorem d2 : decode yB 2 = .ok (.if_acmp (.ne) 5, 3) := by decide +kernel
theorem d5 : decode yB 5 = .ok (.iconst 1, 1) := by decide +kernel
theorem d6 : decode yB 6 = .ok (.ireturn, 1) := by decide +kernel
theorem d7 : decode yB 7 = .ok (.aload_n 1, 1) := by decide +kernel
theorem d8 : decode yB 8 = .ok (.instanceof 10, 3) := by decide +kernel
theorem d11 : decode yB 11 = .ok (.ifCond (.eq) 43, 3) := by decide +kernel
theorem d14 : decode yB 14 = .ok (.aload_n 1, 1) := by decide +kernel
theorem d15 : decode yB 15 = .ok (.checkcast 10, 3) := by decide +kernel
theorem d18 : decode yB 18 = .ok (.astore_n 2, 1) := by decide +kernel
theorem d19 : decode yB 19 = .ok (.getstatic 38, 3) := by decide +kernel
theorem d22 : decode yB 22 = .ok (.ifCond (.eq) 14, 3) := by decide +kernel
theorem d25 : decode yB 25 = .ok (.aload_n 0, 1) := by decide +kernel
theorem d26 : decode yB 26 = .ok (.getfield 15, 3) := by decide +kernel
theorem d29 : decode yB 29 = .ok (.aload_n 2, 1) := by decide +kernel
theorem d30 : decode yB 30 = .ok (.getfield 15, 3) := by decide +kernel
theorem d33 : decode yB 33 = .ok (.if_icmp (.ne) 21, 3) := by decide +kernel
theorem d36 : decode yB 36 = .ok (.aload_n 0, 1) := by decide +kernel
theorem d37 : decode yB 37 = .ok (.getfield 9, 3) := by decide +kernel
theorem d40 : decode yB 40 = .ok (.aload_n 2, 1) := by decide +kernel
theorem d41 : decode yB 41 = .ok (.getfield 9, 3) := by decide +kernel
theorem d44 : decode yB 44 = .ok (.invokestatic 541, 3) := by decide +kernel
theorem d47 : decode yB 47 = .ok (.ifCond (.eq) 7, 3) := by decide +kernel
theorem d50 : decode yB 50 = .ok (.iconst 1, 1) := by decide +kernel
theorem d51 : decode yB 51 = .ok (.goto 4, 3) := by decide +kernel
theorem d54 : decode yB 54 = .ok (.iconst 0, 1) := by decide +kernel
theorem d55 : decode yB 55 = .ok (.ireturn, 1) := by decide +kernel
def site : List Cond := [.classLink "java/lang/String" 10 "java/lang/String", .fieldLink "java/lang/String" 38 "java/lang/String" "COMPACT_STRINGS" "Z", .fieldLink "java/lang/String" 15 "java/lang/String" "coder" "B", .fieldLink "java/lang/String" 9 "java/lang/String" "value" "[B", LEq.tab] ++ staticW "java/lang/String" 541 LEq.yN
def tab : Cond := tabOf yN yB 3 (some .boolean) site
def P (x t : Addr) (V : Cell) (cd : Int32) (n : Nat) (f : Nat → Int32) (y t' : Addr) (V' : Cell) (cd' : Int32) (k : Nat) (g : Nat → Int32) (z : Int32) (args : Array Value) (s : State) : Prop := args = #[.ref x, .ref y] ∧ Txt x t V cd n f s ∧ Txt y t' V' cd' k g s ∧ StaticIs s "java/lang/String" "COMPACT_STRINGS" "Z" (.int z) ∧ ¬ z = 0
/-- equals(Object) of two Strings: whether the texts are the same -/
theorem law (l : Launch) (x t : Addr) (V : Cell) (cd : Int32) (n : Nat) (f : Nat → Int32) (y t' : Addr) (V' : Cell) (cd' : Int32) (k : Nat) (g : Nat → Int32) (z : Int32) : Law l yN 2 1 1 14 yB 3 (some .boolean) site (P x t V cd n f y t' V' cd' k g z) (Says01 (SameT n f k g)) [] 0 0 := by
  refine Law.of_walk (plainFor_of_name (by decide +kernel)) (by decide +kernel) (by decide +kernel) (by decide) (fun _ _ h => by rw [h.1]; rfl) (fun _ U U' hal hh h => ⟨h.1, h.2.1.mv hal hh, h.2.2.1.mv hal hh, h.2.2.2.1.there hal hh, h.2.2.2.2⟩) (fun r U U' V V' h1 hal h2 h => Says01.mv r U U' V V' h1 hal h2 h) ?_
  intro p e s m args below meth c s₁ X0 hexec hbytes hml hret hlk hnm hown hh0 W hP
  obtain ⟨rfl, hx, hy, s1, hz⟩ := hP
  have c1 : Steps p.tables e below (s₁.setTop (entryFrame m #[.ref x, .ref y] 3)) (s₁.setTop (mkF m 2 #[.val (.ref x), .val (.ref y), .unset] [.ref y, .ref x])) := Steps.trans (entry rfl) (by
    show Steps p.tables e below (s₁.setTop (mkF m 0 #[.val (.ref x), .val (.ref y), .unset] [])) _
    refine XS.aloadN X0.here hexec rfl (hb hbytes d0) rfl rfl ?_
    refine XS.aloadN X0.here hexec rfl (hb hbytes d1) rfl rfl ?_
    exact Steps.refl _)
  by_cases hxy : x = y
  · have c2 : Steps p.tables e below (s₁.setTop (entryFrame m #[.ref x, .ref y] 3)) (s₁.setTop (mkF m 6 #[.val (.ref x), .val (.ref y), .unset] [.int 1])) := c1.trans (by
      refine acmpNo X0.here hexec rfl (hb hbytes d2) rfl rfl rfl (by simp [acmp, hxy]) ?_
      refine iconstV X0.here hexec rfl 1 (hb hbytes d5) (by decide) ?_
      exact Steps.refl _)
    subst hxy
    have ec : cd = cd' := by
      obtain ⟨D, fd, a1, a2, a3⟩ := hx.2.2.1
      obtain ⟨D', fd', b1, b2, b3⟩ := hy.2.2.1
      cases a1.symm.trans b1
      obtain ⟨q1, q2, q3, q4⟩ := a2.1
      obtain ⟨r1, r2, r3, r4⟩ := b2.1
      cases q4.symm.trans r4
      cases a3.symm.trans b3; rfl
    have et : t = t' := by
      obtain ⟨D, fd, a1, a2, a3⟩ := hx.2.1
      obtain ⟨D', fd', b1, b2, b3⟩ := hy.2.1
      cases a1.symm.trans b1
      obtain ⟨q1, q2, q3, q4⟩ := a2.1
      obtain ⟨r1, r2, r3, r4⟩ := b2.1
      cases q4.symm.trans r4
      cases a3.symm.trans b3; rfl
    subst ec et
    have ev : V = V' := by cases hx.2.2.2.1.1.symm.trans hy.2.2.2.1.1; rfl
    subst ev
    have hs : SameT n f k g := (Cod.eqv hx.2.2.2.2.1 hy.2.2.2.2.1 hx.2.2.2.2.2 hy.2.2.2.2.2).mp ⟨rfl, fun _ _ => rfl⟩
    exact ⟨s₁, some (.int 1), _, _, _, X0, rfl, rfl, rfl, (fun h => by cases h), ⟨1, rfl, hh0, Or.inl ⟨rfl, hs⟩⟩, fun fs hl => c2.trans (X0.ireturnOut hexec hret rfl (Or.inr (Or.inl rfl)) (hb hbytes d6) hl)⟩
  · have c2 : Steps p.tables e below (s₁.setTop (entryFrame m #[.ref x, .ref y] 3)) (s₁.setTop (mkF m 8 #[.val (.ref x), .val (.ref y), .unset] [.ref y])) := c1.trans (by
      refine acmpYes X0.here hexec rfl (pc0 := 2) rfl (hb hbytes d2) rfl rfl rfl (by simp [acmp, hxy]) (by decide) rfl ?_
      refine XS.aloadN X0.here hexec rfl (hb hbytes d7) rfl rfl ?_
      exact Steps.refl _)
    obtain ⟨T3, X3, q3, st3⟩ := cinst X0 hexec hown (wk W (.classLink "java/lang/String" 10 "java/lang/String")) (hy.mv X0.warmed.alike hh0).1 (g := (mkF m 8 #[.val (.ref x), .val (.ref y), .unset] [.ref y])) rfl (rest := []) rfl (hb hbytes d8)
    have hh3 := q3.trans hh0
    have c4 : Steps p.tables e below (s₁.setTop (entryFrame m #[.ref x, .ref y] 3)) (T3.setTop (mkF m 15 #[.val (.ref x), .val (.ref y), .unset] [.ref y])) := (c2.trans (st3 _ (Steps.refl _))).trans (by
      refine XS.ifNo X3.here hexec rfl (hb hbytes d11) rfl (i0_eq_f (by decide)) ?_
      refine XS.aloadN X3.here hexec rfl (hb hbytes d14) rfl rfl ?_
      exact Steps.refl _)
    obtain ⟨T5, X5, q5, st5⟩ := cself X3 hexec hown (wk W (.classLink "java/lang/String" 10 "java/lang/String")) (hy.mv X3.warmed.alike hh3).1 (g := (mkF m 15 #[.val (.ref x), .val (.ref y), .unset] [.ref y])) rfl (rest := []) rfl (hb hbytes d15)
    have hh5 := q5.trans hh3
    have c6 : Steps p.tables e below (s₁.setTop (entryFrame m #[.ref x, .ref y] 3)) (T5.setTop (mkF m 19 #[.val (.ref x), .val (.ref y), .val (.ref y)] [])) := (c4.trans (st5 _ (Steps.refl _))).trans (by
      refine XS.astoreN X5.here hexec rfl (hb hbytes d18) rfl rfl rfl ?_
      exact Steps.refl _)
    obtain ⟨T7, X7, q7, st7⟩ := X5.sget hexec hown (wk W (.fieldLink "java/lang/String" 38 "java/lang/String" "COMPACT_STRINGS" "Z")) s1 (fun _ _ h => by rw [hh5]; exact h) (g := (mkF m 19 #[.val (.ref x), .val (.ref y), .val (.ref y)] [])) rfl (hb hbytes d19)
    have hh7 := q7.trans hh5
    have c8 : Steps p.tables e below (s₁.setTop (entryFrame m #[.ref x, .ref y] 3)) (T7.setTop (mkF m 26 #[.val (.ref x), .val (.ref y), .val (.ref y)] [.ref x])) := (c6.trans (st7 _ (Steps.refl _))).trans (by
      refine XS.ifNo X7.here hexec rfl (hb hbytes d22) rfl (i0_eq_f hz) ?_
      refine XS.aloadN X7.here hexec rfl (hb hbytes d25) rfl rfl ?_
      exact Steps.refl _)
    obtain ⟨T9, X9, q9, st9⟩ := X7.hget hexec hown (wk W (.fieldLink "java/lang/String" 15 "java/lang/String" "coder" "B")) (hx.mv X7.warmed.alike hh7).2.2.1 (g := (mkF m 26 #[.val (.ref x), .val (.ref y), .val (.ref y)] [.ref x])) rfl (rest := []) rfl (hb hbytes d26)
    have hh9 := q9.trans hh7
    have c10 : Steps p.tables e below (s₁.setTop (entryFrame m #[.ref x, .ref y] 3)) (T9.setTop (mkF m 30 #[.val (.ref x), .val (.ref y), .val (.ref y)] [.ref y, .int cd])) := (c8.trans (st9 _ (Steps.refl _))).trans (by
      refine XS.aloadN X9.here hexec rfl (hb hbytes d29) rfl rfl ?_
      exact Steps.refl _)
    obtain ⟨T11, X11, q11, st11⟩ := X9.hget hexec hown (wk W (.fieldLink "java/lang/String" 15 "java/lang/String" "coder" "B")) (hy.mv X9.warmed.alike hh9).2.2.1 (g := (mkF m 30 #[.val (.ref x), .val (.ref y), .val (.ref y)] [.ref y, .int cd])) rfl (rest := [.int cd]) rfl (hb hbytes d30)
    have hh11 := q11.trans hh9
    have c12 : Steps p.tables e below (s₁.setTop (entryFrame m #[.ref x, .ref y] 3)) (T11.setTop (mkF m 33 #[.val (.ref x), .val (.ref y), .val (.ref y)] [.int cd', .int cd])) := c10.trans (st11 _ (Steps.refl _))
    by_cases hcd : cd = cd'
    · subst hcd
      have c13 : Steps p.tables e below (s₁.setTop (entryFrame m #[.ref x, .ref y] 3)) (T11.setTop (mkF m 37 #[.val (.ref x), .val (.ref y), .val (.ref y)] [.ref x])) := c12.trans (by
        refine XS.icmpNo X11.here hexec rfl (hb hbytes d33) rfl (ii_ne_f rfl) ?_
        refine XS.aloadN X11.here hexec rfl (hb hbytes d36) rfl rfl ?_
        exact Steps.refl _)
      obtain ⟨T14, X14, q14, st14⟩ := X11.hget hexec hown (wk W (.fieldLink "java/lang/String" 9 "java/lang/String" "value" "[B")) (hx.mv X11.warmed.alike hh11).2.1 (g := (mkF m 37 #[.val (.ref x), .val (.ref y), .val (.ref y)] [.ref x])) rfl (rest := []) rfl (hb hbytes d37)
      have hh14 := q14.trans hh11
      have c15 : Steps p.tables e below (s₁.setTop (entryFrame m #[.ref x, .ref y] 3)) (T14.setTop (mkF m 41 #[.val (.ref x), .val (.ref y), .val (.ref y)] [.ref y, .ref t])) := (c13.trans (st14 _ (Steps.refl _))).trans (by
        refine XS.aloadN X14.here hexec rfl (hb hbytes d40) rfl rfl ?_
        exact Steps.refl _)
      obtain ⟨T16, X16, q16, st16⟩ := X14.hget hexec hown (wk W (.fieldLink "java/lang/String" 9 "java/lang/String" "value" "[B")) (hy.mv X14.warmed.alike hh14).2.1 (g := (mkF m 41 #[.val (.ref x), .val (.ref y), .val (.ref y)] [.ref y, .ref t])) rfl (rest := [.ref t]) rfl (hb hbytes d41)
      have hh16 := q16.trans hh14
      have c17 : Steps p.tables e below (s₁.setTop (entryFrame m #[.ref x, .ref y] 3)) (T16.setTop (mkF m 44 #[.val (.ref x), .val (.ref y), .val (.ref y)] [.ref t', .ref t])) := c15.trans (st16 _ (Steps.refl _))
      obtain ⟨v18, T18, X18, E18, g18⟩ := X16.callS hexec (LEq.law l t V t' V') hown (wks W (staticW "java/lang/String" 541 LEq.yN)) (wk W LEq.tab) (W := 0) (Nat.le_of_ble_eq_true rfl) (Nat.le_of_ble_eq_true rfl) (Nat.le_refl _) (Nat.le_refl _) (g := (mkF m 44 #[.val (.ref x), .val (.ref y), .val (.ref y)] [.ref t', .ref t])) rfl (by rw [hml]; rfl) c17 (argsL := [.ref t, .ref t']) (rest := []) rfl rfl (by show 2 * 0 + 0 ≤ _; decide) (hb hbytes d44) (⟨rfl, hx.2.2.2.1.mv X16.warmed.alike hh16, hx.2.2.2.2.1.ty, hy.2.2.2.1.mv X16.warmed.alike hh16, hy.2.2.2.2.1.ty⟩)
      obtain ⟨v, rfl, q18, hv⟩ := E18
      have iff := Cod.eqv hx.2.2.2.2.1 hy.2.2.2.2.1 hx.2.2.2.2.2 hy.2.2.2.2.2
      rcases hv with ⟨rfl, he⟩ | ⟨rfl, he⟩
      · have c19 : Steps p.tables e below (s₁.setTop (entryFrame m #[.ref x, .ref y] 3)) (T18.setTop (mkF m 55 #[.val (.ref x), .val (.ref y), .val (.ref y)] [.int 1])) := Steps.trans g18 (by
          refine XS.ifNo X18.here hexec rfl (hb hbytes d47) rfl (i0_eq_f (by decide)) ?_
          refine iconstV X18.here hexec rfl 1 (hb hbytes d50) (by decide) ?_
          refine XS.goto X18.here hexec rfl (pc0 := 51) rfl (hb hbytes d51) (by decide) rfl ?_
          exact Steps.refl _)
        exact ⟨T18, some (.int 1), _, _, _, X18, rfl, rfl, rfl, (fun h => by cases h), ⟨1, rfl, q18.trans hh16, Or.inl ⟨rfl, iff.mp he⟩⟩, fun fs hl => c19.trans (X18.ireturnOut hexec hret rfl (Or.inr (Or.inl rfl)) (hb hbytes d55) hl)⟩
      · have c19 : Steps p.tables e below (s₁.setTop (entryFrame m #[.ref x, .ref y] 3)) (T18.setTop (mkF m 55 #[.val (.ref x), .val (.ref y), .val (.ref y)] [.int 0])) := Steps.trans g18 (by
          refine XS.ifYes X18.here hexec rfl (pc0 := 47) rfl (hb hbytes d47) rfl (i0_eq_t rfl) (by decide) rfl ?_
          refine iconstV X18.here hexec rfl 0 (hb hbytes d54) (by decide) ?_
          exact Steps.refl _)
        exact ⟨T18, some (.int 0), _, _, _, X18, rfl, rfl, rfl, (fun h => by cases h), ⟨0, rfl, q18.trans hh16, Or.inr ⟨rfl, fun q => he (iff.mpr q)⟩⟩, fun fs hl => c19.trans (X18.ireturnOut hexec hret rfl (Or.inr (Or.inl rfl)) (hb hbytes d55) hl)⟩
    · have c13 : Steps p.tables e below (s₁.setTop (entryFrame m #[.ref x, .ref y] 3)) (T11.setTop (mkF m 55 #[.val (.ref x), .val (.ref y), .val (.ref y)] [.int 0])) := c12.trans (by
        refine XS.icmpYes X11.here hexec rfl (pc0 := 33) rfl (hb hbytes d33) rfl (ii_ne_t hcd) (by decide) rfl ?_
        refine iconstV X11.here hexec rfl 0 (hb hbytes d54) (by decide) ?_
        exact Steps.refl _)
      exact ⟨T11, some (.int 0), _, _, _, X11, rfl, rfl, rfl, (fun h => by cases h), ⟨0, rfl, hh11, Or.inr ⟨rfl, Cod.dif hx.2.2.2.2.1 hy.2.2.2.2.1 hcd⟩⟩, fun fs hl => c13.trans (X11.ireturnOut hexec hret rfl (Or.inr (Or.inl rfl)) (hb hbytes d55) hl)⟩
theorem pays {l : Launch} {R : Room} {p : Program} {e : Env} {below : List Frame} {s : State} {sargs : Array Value} {len W : Nat} (x t : Addr) (V : Cell) (cd : Int32) (n : Nat) (f : Nat → Int32) (y t' : Addr) (V' : Cell) (cd' : Int32) (k : Nat) (g : Nat → Int32) (z : Int32) (htab : tab.before sargs s = true) (hfr : 2 ≤ R.frames) (hlo : W + 28 ≤ R.locals) :
    Back l R p e below s sargs yN len W (fun A₁ a₁ => A₁.cells + 0 ≤ R.cells ∧ A₁.slots + 0 ≤ R.slots ∧ P x t V cd n f y t' V' cd' k g z a₁ A₁.U) (fun A₁ _ v₁ B₁ => Says01 (SameT n f k g) v₁ A₁.U B₁.U ∧ B₁.locs = A₁.locs ++ [] ∧ B₁.cells = A₁.cells + 0 ∧ B₁.slots = A₁.slots + 0) :=
  (law l x t V cd n f y t' V' cd' k g z).pays htab hfr (by omega)
end SEq
end StrChars
namespace StrChars.Road
open Jvm Sem ClassFile Op Lib Jvm.Stand Jvm.Free Jvm.Free.XT
open Jvm.Lib.Cold (StaticIs)
/-- the words of String.isEmpty() -/
abbrev wordsEmp : List Jvm.Cond := [.code Emp.yN Emp.yB 1 (some .boolean), .initialized ST, .fieldLink ST 9 ST "value" "[B"]
theorem tabEmp_of {a : Array Value} {s : State} (h : ∀ w ∈ wordsEmp, w.before a s = true) : Emp.tab.before a s = true := unparts (wk h (.code Emp.yN Emp.yB 1 (some .boolean))) (wks h (.initialized Emp.yN.cls :: Emp.site))
theorem movedEmp {Z s : State} {a0 args : Array Value} (hZ : Z.Warmed39 s.vm) (hw : ∀ d ∈ wordsEmp, d.before a0 Z = true) : ∀ d ∈ wordsEmp, d.before args s = true := fun d hd => by
  have t : ∀ d ∈ wordsEmp, (d.onTables && d.keepsFace) = true := by decide +kernel
  exact RoadKit.mv hZ (hw d hd) (t d hd)
/-- the words of String.equals(Object) -/
abbrev wordsEq : List Jvm.Cond := [.code SEq.yN SEq.yB 3 (some .boolean), .initialized ST, .classLink ST 10 ST, .fieldLink ST 38 ST "COMPACT_STRINGS" "Z", .fieldLink ST 15 ST "coder" "B", .fieldLink ST 9 ST "value" "[B", .methodLink ST 541 LEq.yN, .static LEq.yN, .code LEq.yN LEq.yB 3 (some .boolean), .initialized "java/lang/StringLatin1"]
theorem tabEq_of {a : Array Value} {s : State} (h : ∀ w ∈ wordsEq, w.before a s = true) : SEq.tab.before a s = true := by
  have hl : LEq.tab.before a s = true := unparts (wk h (.code LEq.yN LEq.yB 3 (some .boolean))) (wks h (.initialized LEq.yN.cls :: LEq.site))
  have q := consq hl h
  exact unparts (wk q (.code SEq.yN SEq.yB 3 (some .boolean))) (wks q (.initialized SEq.yN.cls :: SEq.site))
theorem movedEq {Z s : State} {a0 args : Array Value} (hZ : Z.Warmed39 s.vm) (hw : ∀ d ∈ wordsEq, d.before a0 Z = true) : ∀ d ∈ wordsEq, d.before args s = true := fun d hd => by
  have t : ∀ d ∈ wordsEq, (d.onTables && d.keepsFace) = true := by decide +kernel
  exact RoadKit.mv hZ (hw d hd) (t d hd)
/-- the road's facts of a String, as the laws ask it -/
theorem txt_of {Z U : State} {a0 : Array Value} {kI : Nat} (wi : (Jvm.Cond.instantiable ST kI).before a0 Z = true) (al : Z.vm.Alike U.vm) {x t : Addr} {kb : ClassId} {cs : List Int32} {cd N2 : Int32} {vs : List Value} (E : RoadKit.Exa Z U.heap x ST) (V : RoadKit.Fld Z U.heap x ST "value" "[B" (.ref t)) (C : RoadKit.Fld Z U.heap x ST "coder" "B" (.int cd)) (K : RoadKit.Arv Z U.heap t kb .byte N2 vs (.int 0)) (hc : CodA cs cd N2 vs) (hb : ∀ c ∈ cs, ¬ c < 0 ∧ ¬ (65535 : Int32) < c) (l2 : cs.length ≤ 4000) :
    ∃ A, Txt x t A cd cs.length (fun j => cs.getD j 0) U := by
  obtain ⟨A, K1, K2, K3, K4, K5, K6⟩ := K
  have hcod := hc.cod (by omega) K3 K5
  obtain ⟨D, fV, fC, hB, F1, F2, g1, g2, -, -⟩ := strObj wi al E V C
  exact ⟨A, ⟨_, hB.2.2.1, D, hB.1, rfl, by cases q : D.vm <;> first | rfl | exact absurd q (hB.2.1.2 _)⟩, Has.of hB F1 g1, Has.of hB F2 g2, ⟨K1.1, State.isArrayOf_alike al K1.2.1, K1.2.2, by rcases hcod with ⟨-, q, -⟩ | ⟨-, q, -⟩ <;> omega⟩, hcod, fun j hj => by
    have e : cs.getD j 0 = cs[j] := by simp [List.getD_eq_getElem?_getD, hj]
    show ¬ cs.getD j 0 < 0 ∧ ¬ 65535 < cs.getD j 0
    rw [e]; exact hb _ (List.getElem_mem _)⟩
theorem same_list (cs ds : List Int32) : SameT cs.length (fun j => cs.getD j 0) ds.length (fun j => ds.getD j 0) ↔ cs = ds := by
  constructor
  · rintro ⟨e, q⟩
    refine List.ext_getElem e fun j h1 h2 => ?_
    have := q j h1
    simpa [List.getD_eq_getElem?_getD, h1, h2] using this
  · rintro rfl
    exact ⟨rfl, fun _ _ => rfl⟩
/-- **isEmpty() OF SUCH A STRING** -/
theorem empW {p : Program} {l : Launch} {e : Env} {R : Room} {s : State} {args : Array Value} {below : List Frame} {len W : Nat} {Z : State} {a0 : Array Value} {h : Heap} (hZ : Z.Warmed39 s.vm) (hw : ∀ d ∈ wordsEmp, d.before a0 Z = true) {kI : Nat} (wi : (Jvm.Cond.instantiable ST kI).before a0 Z = true)
    {x t : Addr} {kb : ClassId} {cs : List Int32} {cd N2 : Int32} {vs : List Value} (E : RoadKit.Exa Z h x ST) (V : RoadKit.Fld Z h x ST "value" "[B" (.ref t)) (C : RoadKit.Fld Z h x ST "coder" "B" (.int cd)) (K : RoadKit.Arv Z h t kb .byte N2 vs (.int 0)) (hc : CodA cs cd N2 vs) (hb : ∀ c ∈ cs, ¬ c < 0 ∧ ¬ (65535 : Int32) < c) (l2 : cs.length ≤ 4000) (hfr : 1 ≤ R.frames) (hlo : W + 12 ≤ R.locals) :
    Back l R p e below s args (⟨"java/lang/String", "isEmpty", "()Z"⟩ : MethodName) len W (fun P a => a = #[.ref x] ∧ P.U.heap = h ∧ P.cells + 0 ≤ R.cells ∧ P.slots + 0 ≤ R.slots)
      (fun P _ v B => ∃ L, (v = some (.int (if cs.length = 0 then 1 else 0)) ∧ L = [] ∧ B.U.heap = h) ∧ B.locs = P.locs ++ L ∧ B.cells = P.cells + 0 ∧ B.slots = P.slots + 0) := by
  intro m meth c P g ig mk a X hg hsize hdg hW hn hp'
  obtain ⟨rfl, rfl, r1, r2⟩ := hp'
  have al : Z.vm.Alike P.U.vm := hZ.alike.trans X.warmed.alike
  obtain ⟨A, hx⟩ := txt_of wi al E V C K hc hb l2
  obtain ⟨v, B, X', ⟨⟨hv, hh⟩, hl, hk, hs⟩, st⟩ := Emp.pays x t A cd cs.length (fun j => cs.getD j 0) (tabEmp_of (movedEmp hZ hw)) hfr hlo m meth c P g ig mk _ X hg hsize hdg hW hn ⟨r1, r2, rfl, hx⟩
  exact ⟨v, B, X', ⟨[], ⟨hv, rfl, hh⟩, hl, hk, hs⟩, st⟩
/-- **equals(Object) OF TWO SUCH STRINGS**: 1 just where the chars are the same -/
theorem eqW {p : Program} {l : Launch} {e : Env} {R : Room} {s : State} {args : Array Value} {below : List Frame} {len W : Nat} {Z : State} {a0 : Array Value} {h : Heap} (hZ : Z.Warmed39 s.vm) (hw : ∀ d ∈ wordsEq, d.before a0 Z = true) {kI : Nat} (wi : (Jvm.Cond.instantiable ST kI).before a0 Z = true)
    {x t : Addr} {kb : ClassId} {cs : List Int32} {cd N2 : Int32} {vs : List Value} (E : RoadKit.Exa Z h x ST) (V : RoadKit.Fld Z h x ST "value" "[B" (.ref t)) (C : RoadKit.Fld Z h x ST "coder" "B" (.int cd)) (K : RoadKit.Arv Z h t kb .byte N2 vs (.int 0)) (hc : CodA cs cd N2 vs) (hb : ∀ c ∈ cs, ¬ c < 0 ∧ ¬ (65535 : Int32) < c) (l2 : cs.length ≤ 4000)
    {y t' : Addr} {kb' : ClassId} {ds : List Int32} {cd' N2' : Int32} {vs' : List Value} (E' : RoadKit.Exa Z h y ST) (V' : RoadKit.Fld Z h y ST "value" "[B" (.ref t')) (C' : RoadKit.Fld Z h y ST "coder" "B" (.int cd')) (K' : RoadKit.Arv Z h t' kb' .byte N2' vs' (.int 0)) (hc' : CodA ds cd' N2' vs') (hb' : ∀ c ∈ ds, ¬ c < 0 ∧ ¬ (65535 : Int32) < c) (l2' : ds.length ≤ 4000)
    {z : Int32} (S : RoadKit.Sta Z h ST "COMPACT_STRINGS" "Z" (.int z)) (hz : ¬ z = 0) (hfr : 2 ≤ R.frames) (hlo : W + 28 ≤ R.locals) :
    Back l R p e below s args (⟨"java/lang/String", "equals", "(Ljava/lang/Object;)Z"⟩ : MethodName) len W (fun P a => a = #[.ref x, .ref y] ∧ P.U.heap = h ∧ P.cells + 0 ≤ R.cells ∧ P.slots + 0 ≤ R.slots)
      (fun P _ v B => ∃ L, (((v = some (.int 1) ∧ cs = ds) ∨ (v = some (.int 0) ∧ ¬ cs = ds)) ∧ L = [] ∧ B.U.heap = h) ∧ B.locs = P.locs ++ L ∧ B.cells = P.cells + 0 ∧ B.slots = P.slots + 0) := by
  intro m meth c P g ig mk a X hg hsize hdg hW hn hp'
  obtain ⟨rfl, rfl, r1, r2⟩ := hp'
  have al : Z.vm.Alike P.U.vm := hZ.alike.trans X.warmed.alike
  obtain ⟨A, hx⟩ := txt_of wi al E V C K hc hb l2
  obtain ⟨A', hy⟩ := txt_of wi al E' V' C' K' hc' hb' l2'
  obtain ⟨v, B, X', ⟨⟨w, hv, hh, hq⟩, hl, hk, hs⟩, st⟩ := SEq.pays x t A cd cs.length (fun j => cs.getD j 0) y t' A' cd' ds.length (fun j => ds.getD j 0) z (tabEq_of (movedEq hZ hw)) hfr hlo m meth c P g ig mk _ X hg hsize hdg hW hn ⟨r1, r2, rfl, hx, hy, sta_is al S, hz⟩
  refine ⟨v, B, X', ⟨[], ⟨?_, rfl, hh⟩, hl, hk, hs⟩, st⟩
  rcases hq with ⟨rfl, q⟩ | ⟨rfl, q⟩
  · exact Or.inl ⟨hv, (same_list cs ds).mp q⟩
  · exact Or.inr ⟨hv, fun e => q ((same_list cs ds).mpr e)⟩
end StrChars.Road
namespace StrChars
open Jvm Sem ClassFile Op Lib Jvm.Stand Jvm.Free.XT Jvm.Free.ALB Jvm.Free.JM Jvm.Free
open Jvm.Lib.Cold (StaticIs)
namespace ChN
def yN : MethodName := ⟨"java/lang/String", "charAt", "(I)C"⟩
abbrev yB : ByteArray := jdk_42_method_56_code
theorem d0 : decode yB 0 = .ok (.aload_n 0, 1) := by decide +kernel
theorem d1 : decode yB 1 = .ok (.invokevirtual 492, 3) := by decide +kernel
theorem d4 : decode yB 4 = .ok (.ifCond (.eq) 12, 3) := by decide +kernel
theorem d7 : decode yB 7 = .ok (.aload_n 0, 1) := by decide +kernel
theorem d8 : decode yB 8 = .ok (.getfield 9, 3) := by decide +kernel
theorem d11 : decode yB 11 = .ok (.iload_n 1, 1) := by decide +kernel
theorem d12 : decode yB 12 = .ok (.invokestatic 495, 3) := by decide +kernel
theorem d15 : decode yB 15 = .ok (.ireturn, 1) := by decide +kernel
def site : List Cond := [.fieldLink "java/lang/String" 9 "java/lang/String" "value" "[B", IsL.tab, LChA.tab] ++ virtW "java/lang/String" 492 "java/lang/String" IsL.yN IsL.yN ++ staticW "java/lang/String" 495 LChA.yN
def tab : Cond := tabOf yN yB 2 (some .char) site
def P (x t : Addr) (V : Cell) (n : Nat) (f : Nat → Int32) (z : Int32) (fm : Value) (i : Nat) (args : Array Value) (s : State) : Prop := args = #[.ref x, .int (Int32.ofNat i)] ∧ Txt x t V 0 n f s ∧ i < n ∧ StaticIs s "java/lang/String" "COMPACT_STRINGS" "Z" (.int z) ∧ ¬ z = 0 ∧ StaticIs s "jdk/internal/util/Preconditions" "SIOOBE_FORMATTER" "Ljava/util/function/BiFunction;" fm ∧ fm.isRef = true
def E (f : Nat → Int32) (i : Nat) (r : Option Value) (s u : State) : Prop := XT.PureE (some (.int (f i))) r s u
/-- charAt(i) of a Latin-1 String of n chars, i < n: f i -/
theorem law (l : Launch) (x t : Addr) (V : Cell) (n : Nat) (f : Nat → Int32) (z : Int32) (fm : Value) (i : Nat) : Law l yN 2 1 3 40 yB 2 (some .char) site (P x t V n f z fm i) (E f i) [] 0 0 := by
  refine Law.of_walk (plainFor_of_name (by decide +kernel)) (by decide +kernel) (by decide +kernel) (by decide) (fun _ _ h => by rw [h.1]; rfl) (fun _ U U' hal hh h => ⟨h.1, h.2.1.mv hal hh, h.2.2.1, h.2.2.2.1.there hal hh, h.2.2.2.2.1, h.2.2.2.2.2.1.there hal hh, h.2.2.2.2.2.2⟩) (fun r U U' V V' h1 hal h2 h => XT.PureE.mv r U U' V V' h1 hal h2 h) ?_
  intro p e s m args below meth c s₁ X0 hexec hbytes hml hret hlk hnm hown hh0 W hP
  obtain ⟨rfl, hx, hi, s1, hz, s3, rf⟩ := hP
  have v31 := hx.2.2.2.1.2.2.2
  have hr := hx.2.2.2.2.2 i hi
  have hx0 := hx.mv X0.warmed.alike hh0
  have c1 : Steps p.tables e below (s₁.setTop (entryFrame m #[.ref x, .int (Int32.ofNat i)] 2)) (s₁.setTop (mkF m 1 #[.val (.ref x), .val (.int (Int32.ofNat i))] [.ref x])) := Steps.trans (entry rfl) (by
    show Steps p.tables e below (s₁.setTop (mkF m 0 #[.val (.ref x), .val (.int (Int32.ofNat i))] [])) _
    refine XS.aloadN X0.here hexec rfl (hb hbytes d0) rfl rfl ?_
    exact Steps.refl _)
  obtain ⟨v2, T2, X2, E2, g2⟩ := X0.callV hexec (IsL.law l x 0 z) hown (wks W (virtW "java/lang/String" 492 "java/lang/String" IsL.yN IsL.yN)) rfl (by decide) (wk W IsL.tab) (W := 0) (Nat.le_of_ble_eq_true rfl) (Nat.le_of_ble_eq_true rfl) (Nat.le_refl _) (Nat.le_refl _) (hx0.1.fc X0.warmed.alike) hx0.1.is (g := (mkF m 1 #[.val (.ref x), .val (.int (Int32.ofNat i))] [.ref x])) rfl (by rw [hml]; rfl) c1 (argsL := []) (rest := []) rfl rfl (by show 2 * 0 + 0 ≤ _; decide) (hb hbytes d1) (⟨rfl, hx0.2.2.1, hx.2.2.2.2.1.cd, s1.there X0.warmed.alike hh0, hz⟩)
  obtain ⟨rfl, q2⟩ := E2
  have hh2 := q2.trans hh0
  have hx2 := hx.mv X2.warmed.alike hh2
  obtain ⟨-, k1, k2⟩ | ⟨k0, -⟩ := hx.2.2.2.2.1
  · have c3 : Steps p.tables e below (s₁.setTop (entryFrame m #[.ref x, .int (Int32.ofNat i)] 2)) (T2.setTop (mkF m 8 #[.val (.ref x), .val (.int (Int32.ofNat i))] [.ref x])) := Steps.trans g2 (by
      refine XS.ifNo X2.here hexec rfl (hb hbytes d4) rfl (i0_eq_f (by decide)) ?_
      refine XS.aloadN X2.here hexec rfl (hb hbytes d7) rfl rfl ?_
      exact Steps.refl _)
    obtain ⟨T4, X4, q4, st4⟩ := X2.hget hexec hown (wk W (.fieldLink "java/lang/String" 9 "java/lang/String" "value" "[B")) hx2.2.1 (g := (mkF m 8 #[.val (.ref x), .val (.int (Int32.ofNat i))] [.ref x])) rfl (rest := []) rfl (hb hbytes d8)
    have hh4 := q4.trans hh2
    have c5 : Steps p.tables e below (s₁.setTop (entryFrame m #[.ref x, .int (Int32.ofNat i)] 2)) (T4.setTop (mkF m 12 #[.val (.ref x), .val (.int (Int32.ofNat i))] [.int (Int32.ofNat i), .ref t])) := (c3.trans (st4 _ (Steps.refl _))).trans (by
      refine XS.iloadN X4.here hexec rfl (hb hbytes d11) rfl ?_
      exact Steps.refl _)
    obtain ⟨v6, T6, X6, E6, g6⟩ := X4.callS hexec (LChA.law l t V i (lo8 (f i)) fm) hown (wks W (staticW "java/lang/String" 495 LChA.yN)) (wk W LChA.tab) (W := 0) (Nat.le_of_ble_eq_true rfl) (Nat.le_of_ble_eq_true rfl) (Nat.le_refl _) (Nat.le_refl _) (g := (mkF m 12 #[.val (.ref x), .val (.int (Int32.ofNat i))] [.int (Int32.ofNat i), .ref t])) rfl (by rw [hml]; rfl) c5 (argsL := [.ref t, .int (Int32.ofNat i)]) (rest := []) rfl rfl (by show 2 * 0 + 0 ≤ _; decide) (hb hbytes d12) (⟨rfl, hx.2.2.2.1.mv X4.warmed.alike hh4, (k2 i hi).1, s3.there X4.warmed.alike hh4, rf⟩)
    obtain ⟨rfl, q6⟩ := E6
    rw [chr8_lo8 hr.1 (k2 i hi).2] at g6
    exact ⟨T6, some (.int (f i)), _, _, _, X6, rfl, rfl, rfl, (fun h => by cases h), ⟨rfl, q6.trans hh4⟩, fun fs hl => Steps.trans g6 (X6.ireturnOut hexec hret (narrow_ch hr.1 hr.2) (Or.inr (Or.inr (Or.inr (Or.inl rfl)))) (hb hbytes d15) hl)⟩
  · exact absurd k0 (by decide)
theorem pays {l : Launch} {R : Room} {p : Program} {e : Env} {below : List Frame} {s : State} {sargs : Array Value} {len W : Nat} (x t : Addr) (V : Cell) (n : Nat) (f : Nat → Int32) (z : Int32) (fm : Value) (i : Nat) (htab : tab.before sargs s = true) (hfr : 4 ≤ R.frames) (hlo : W + 53 ≤ R.locals) :
    Back l R p e below s sargs yN len W (fun A₁ a₁ => A₁.cells + 0 ≤ R.cells ∧ A₁.slots + 0 ≤ R.slots ∧ P x t V n f z fm i a₁ A₁.U) (fun A₁ _ v₁ B₁ => E f i v₁ A₁.U B₁.U ∧ B₁.locs = A₁.locs ++ [] ∧ B₁.cells = A₁.cells + 0 ∧ B₁.slots = A₁.slots + 0) :=
  (law l x t V n f z fm i).pays htab hfr (by omega)
end ChN
end StrChars
namespace StrChars.Road
open Jvm Sem ClassFile Op Lib Jvm.Stand Jvm.Free Jvm.Free.XT
open Jvm.Lib.Cold (StaticIs)
/-- the words of String.charAt(int), the Latin-1 road alone -/
abbrev wordsChN : List Jvm.Cond := [.code ChN.yN ChN.yB 2 (some .char), .initialized ST, .fieldLink ST 9 ST "value" "[B", .fieldLink ST 38 ST "COMPACT_STRINGS" "Z", .fieldLink ST 15 ST "coder" "B", .code IsL.yN IsL.yB 1 (some .boolean), .methodLink ST 492 IsL.yN, .declares IsL.yN, .selects ST IsL.yN IsL.yN, .instanceMethod IsL.yN,
  .methodLink ST 495 LChA.yN, .static LChA.yN, .code LChA.yN LChA.yB 2 (some .char), .initialized "java/lang/StringLatin1", .methodLink "java/lang/StringLatin1" 9 JO.Str_checkIndex.yN, .static JO.Str_checkIndex.yN, .code JO.Str_checkIndex.yN JO.Str_checkIndex.yB 2 none,
  .fieldLink ST 1053 "jdk/internal/util/Preconditions" "SIOOBE_FORMATTER" "Ljava/util/function/BiFunction;", .methodLink ST 1059 JC.PreCheck.yN, .static JC.PreCheck.yN, .code JC.PreCheck.yN JC.PreCheck.yB 3 (some .int), .initialized "jdk/internal/util/Preconditions"]
theorem tabChN_of {a : Array Value} {s : State} (h : ∀ w ∈ wordsChN, w.before a s = true) : ChN.tab.before a s = true := by
  have hp : JC.PreCheck.tab.before a s = true := unparts (wk h (.code JC.PreCheck.yN JC.PreCheck.yB 3 (some .int))) (wks h (.initialized JC.PreCheck.yN.cls :: JC.PreCheck.site))
  have qk := consq hp h
  have hk : JO.Str_checkIndex.tab.before a s = true := unparts (wk qk (.code JO.Str_checkIndex.yN JO.Str_checkIndex.yB 2 none)) (wks qk (.initialized JO.Str_checkIndex.yN.cls :: JO.Str_checkIndex.site))
  have ql := consq hk h
  have hl : LChA.tab.before a s = true := unparts (wk ql (.code LChA.yN LChA.yB 2 (some .char))) (wks ql (.initialized LChA.yN.cls :: LChA.site))
  have hi : IsL.tab.before a s = true := unparts (wk h (.code IsL.yN IsL.yB 1 (some .boolean))) (wks h (.initialized IsL.yN.cls :: IsL.site))
  have q := consq hi (consq hl h)
  exact unparts (wk q (.code ChN.yN ChN.yB 2 (some .char))) (wks q (.initialized ChN.yN.cls :: ChN.site))
theorem movedChN {Z s : State} {a0 args : Array Value} (hZ : Z.Warmed39 s.vm) (hw : ∀ d ∈ wordsChN, d.before a0 Z = true) : ∀ d ∈ wordsChN, d.before args s = true := fun d hd => by
  have t : ∀ d ∈ wordsChN, (d.onTables && d.keepsFace) = true := by decide +kernel
  exact RoadKit.mv hZ (hw d hd) (t d hd)
/-- **charAt(i) OF A LATIN-1 STRING**, i < n: the char -/
theorem chN {p : Program} {l : Launch} {e : Env} {R : Room} {s : State} {args : Array Value} {below : List Frame} {len W : Nat} {Z : State} {a0 : Array Value} {h : Heap} (hZ : Z.Warmed39 s.vm) (hw : ∀ d ∈ wordsChN, d.before a0 Z = true) {kI : Nat} (wi : (Jvm.Cond.instantiable ST kI).before a0 Z = true)
    {x t : Addr} {kb : ClassId} {cs : List Int32} {N2 z : Int32} {vs : List Value} {fm : Value} {i : Nat} {j : Int32} (E : RoadKit.Exa Z h x ST) (V : RoadKit.Fld Z h x ST "value" "[B" (.ref t)) (C : RoadKit.Fld Z h x ST "coder" "B" (.int 0)) (K : RoadKit.Arv Z h t kb .byte N2 vs (.int 0)) (hc : CodA cs 0 N2 vs) (hb : ∀ c ∈ cs, ¬ c < 0 ∧ ¬ (65535 : Int32) < c)
    (S : RoadKit.Sta Z h ST "COMPACT_STRINGS" "Z" (.int z)) (hz : ¬ z = 0) (F : RoadKit.Sta Z h "jdk/internal/util/Preconditions" "SIOOBE_FORMATTER" "Ljava/util/function/BiFunction;" fm) (rf : fm.isRef = true) (l2 : cs.length ≤ 4000) (hi : i < cs.length) (hj : j = Int32.ofNat i) (hfr : 4 ≤ R.frames) (hlo : W + 53 ≤ R.locals) :
    Back l R p e below s args (⟨"java/lang/String", "charAt", "(I)C"⟩ : MethodName) len W (fun P a => a = #[.ref x, .int j] ∧ P.U.heap = h ∧ P.cells + 0 ≤ R.cells ∧ P.slots + 0 ≤ R.slots)
      (fun P _ v B => ∃ L, (v = some (.int (cs.getD i 0)) ∧ L = [] ∧ B.U.heap = h) ∧ B.locs = P.locs ++ L ∧ B.cells = P.cells + 0 ∧ B.slots = P.slots + 0) := by
  subst hj
  intro m meth c P g ig mk a X hg hsize hdg hW hn hp'
  obtain ⟨rfl, rfl, r1, r2⟩ := hp'
  have al : Z.vm.Alike P.U.vm := hZ.alike.trans X.warmed.alike
  obtain ⟨A, hx⟩ := txt_of wi al E V C K hc hb l2
  obtain ⟨v, B, X', ⟨⟨hv, hh⟩, hl, hk, hs⟩, st⟩ := ChN.pays x t A cs.length (fun j => cs.getD j 0) z fm i (tabChN_of (movedChN hZ hw)) hfr hlo m meth c P g ig mk _ X hg hsize hdg hW hn ⟨r1, r2, rfl, hx, hi, sta_is al S, hz, sta_is al F, rf⟩
  exact ⟨v, B, X', ⟨[], ⟨hv, rfl, hh⟩, hl, hk, hs⟩, st⟩
/-- what backV says of its String, as the contracts of this text ask it: cs's low bytes, coder 0 -/
theorem codOf {cs : List Int32} {n : Nat} (hn : cs.length = n) (hb : ∀ c ∈ cs, ¬ 255 < c) : CodA cs 0 (Int32.ofNat n) ((cs.map lo8).map Value.int) := Or.inl ⟨rfl, by rw [hn], by simp [List.map_map, Function.comp_def], hb⟩
end StrChars.Road
end Jvm.Pilot.@@N@@
namespace Jvm.Pilot.@@N@@
open Jvm Jvm.ClassFile Sem Op Lib Jvm.Free Jvm.Stand Jvm.LawKit Jvm.RoadKit Bundle Jvm.Pilot.@@N@@.Jvm.D
section OwnKit
variable {p : Program} {l : Launch} {e : Env} {R : Room} {s : State} {m : MethodId} {args : Array Value} {below : List Frame} {meth : Method} {c : Code} {T T' : State} {locs : List Loc} {cells slots : Nat} {Z : State} {a0 : Array Value} {h h' : Heap} {EL : List (String × Nat)} {n0 k0 : Nat} {ws ws' sf : List Addr} {own : String} {vm0 vm1 : Vm} {Q : Outcome → State → Prop} {a b x : Addr} {v : Value} {sl : Nat}
/-- the run goes on from t to an end that Q takes -/
def Go (p : Program) (e : Env) (below : List Frame) (Q : Outcome → State → Prop) (t : State) : Prop := ∃ s₂ o, Steps p.tables e below t s₂ ∧ s₂.status = .running ∧ Ended s₂ below o ∧ Q o s₂
theorem Go.of {t t' : State} (k : ∀ z, Steps p.tables e below t' z → Steps p.tables e below t z) (g : Go p e below Q t') : Go p e below Q t := by
  obtain ⟨a, o, st, r⟩ := g
  exact ⟨a, o, k _ st, r⟩
theorem Go.on {t t' : State} (st : Steps p.tables e below t t') (g : Go p e below Q t') : Go p e below Q t := by
  obtain ⟨a, o, st', r⟩ := g
  exact ⟨a, o, st.trans st', r⟩
/-- where a walk stands: the tables at hand, the places written, all hidden -/
def Wk (p : Program) (l : Launch) (e : Env) (R : Room) (s : State) (m : MethodId) (args : Array Value) (below : List Frame) (meth : Method) (c : Code) (Z : State) (EL : List (String × Nat)) (n0 : Nat) (ws : List Addr) (own : String) (sf : List Addr) (T : State) (cells slots : Nat) (h : Heap) : Prop :=
  ∃ (vm0 : Vm) (locs : List Loc) (k0 : Nat), Stand p l e R (s.setVm vm0) m args below meth c T locs cells slots ∧ T.heap = h ∧ s.Since vm0 k0 ∧ k0 ≤ h.size ∧ Z.Warmed39 vm0 ∧ vm0.findClass own = some m.cls ∧ CHr Z EL s.vm s.heap vm0 h ∧ Fr n0 locs ∧ Keep s.heap h ws ∧ Old Z n0 h ∧ ∀ x ∈ sf, Safe Z EL vm0 h x ∧ x < h.size
abbrev Wkk (p : Program) (l : Launch) (e : Env) (R : Room) (s : State) (m : MethodId) (args : Array Value) (below : List Frame) (meth : Method) (c : Code) (Z : State) (EL : List (String × Nat)) (n0 : Nat) (ws : List Addr) (own : String) (sf : List Addr) (cells slots : Nat) (h : Heap) (T : State) : Prop := Wk p l e R s m args below meth c Z EL n0 ws own sf T cells slots h
theorem wk_wr (X : Stand p l e R (s.setVm vm0) m args below meth c T' (locs ++ [⟨a, sl⟩]) cells slots) (e' : T'.heap = h') (W : Wr h h' a sl v) (hS : s.Since vm0 k0) (hk : k0 ≤ h.size) (hZ : Z.Warmed39 vm0) (hown : vm0.findClass own = some m.cls) (hC : CHr Z EL s.vm s.heap vm0 h) (N : Fr n0 locs) (K : Keep s.heap h ws) (O : Old Z n0 h)
    (F : ∀ x ∈ sf, Safe Z EL vm0 h x ∧ x < h.size) (S : Safe Z EL vm0 h a) (ga : n0 ≤ a) (gw : a ∈ ws ∨ s.heap.size ≤ a) : Wk p l e R s m args below meth c Z EL n0 ws own sf T' cells slots h' :=
  ⟨vm0, _, k0, X, e', hS, by rw [Wr.size W]; exact hk, hZ, hown, hC.trans (CHr.wr W S hC.1), Fr.snoc X N ga, K.wr W gw, O.wr W ga, fun y hy => ⟨Safe.wr W S hC.1 (F y hy).1, by rw [Wr.size W]; exact (F y hy).2⟩⟩
theorem wk_ext (X : Stand p l e R (s.setVm vm0) m args below meth c T' locs cells slots) (e' : T'.heap = h') (E : Ext h h') (hS : s.Since vm0 k0) (hk : k0 ≤ h.size) (hZ : Z.Warmed39 vm0) (hown : vm0.findClass own = some m.cls) (hC : CHr Z EL s.vm s.heap vm0 h) (N : Fr n0 locs) (K : Keep s.heap h ws) (O : Old Z n0 h)
    (F : ∀ x ∈ sf, Safe Z EL vm0 h x ∧ x < h.size) : Wk p l e R s m args below meth c Z EL n0 ws own sf T' cells slots h' :=
  ⟨vm0, locs, k0, X, e', hS, Nat.le_trans hk E.1, hZ, hown, hC.trans (CHr.ext E hC.1), N, K.ext E, O.ext E, fun y hy => ⟨Safe.ext E hC.1 (F y hy).1, Nat.lt_of_lt_of_le (F y hy).2 E.1⟩⟩
theorem wk_new (X : Stand p l e R (s.setVm vm0) m args below meth c T' locs cells slots) (e' : T'.heap = h') (E : Ext h h') (hlt : h.size < h'.size) (hS : s.Since vm0 k0) (hk : k0 ≤ h.size) (hZ : Z.Warmed39 vm0) (hown : vm0.findClass own = some m.cls) (hC : CHr Z EL s.vm s.heap vm0 h) (N : Fr n0 locs) (K : Keep s.heap h ws) (O : Old Z n0 h)
    (F : ∀ x ∈ sf, Safe Z EL vm0 h x ∧ x < h.size) : Wk p l e R s m args below meth c Z EL n0 ws own (h.size :: sf) T' cells slots h' :=
  ⟨vm0, locs, k0, X, e', hS, Nat.le_trans hk E.1, hZ, hown, hC.trans (CHr.ext E hC.1), N, K.ext E, O.ext E, fun y hy => by
    rcases List.mem_cons.mp hy with rfl | hy
    · exact ⟨Safe.ext E hC.1 (Safe.new (Nat.le_refl _)), hlt⟩
    · exact ⟨Safe.ext E hC.1 (F y hy).1, Nat.lt_of_lt_of_le (F y hy).2 E.1⟩⟩
theorem Wk.here (W : Wk p l e R s m args below meth c Z EL n0 ws own sf T cells slots h) : At T m c below := by
  obtain ⟨_, _, _, X, _⟩ := W
  exact X.here
theorem Wk.n0le (W : Wk p l e R s m args below meth c Z EL n0 ws own sf T cells slots h) : n0 ≤ h.size := by
  obtain ⟨_, _, _, _, _, _, _, _, _, _, _, _, O, _⟩ := W
  exact O.1 ▸ O.2.1
theorem Wk.s0le (W : Wk p l e R s m args below meth c Z EL n0 ws own sf T cells slots h) : s.heap.size ≤ h.size := by
  obtain ⟨_, _, _, _, _, _, _, _, _, _, _, K, _, _⟩ := W
  exact K.1
theorem Wk.old (W : Wk p l e R s m args below meth c Z EL n0 ws own sf T cells slots h) : Old Z n0 h := by
  obtain ⟨_, _, _, _, _, _, _, _, _, _, _, _, O, _⟩ := W
  exact O
theorem Wk.more (W : Wk p l e R s m args below meth c Z EL n0 ws own sf T cells slots h) {cells' slots' : Nat} (hc : cells ≤ cells') (hs : slots ≤ slots') : Wk p l e R s m args below meth c Z EL n0 ws own sf T cells' slots' h := by
  obtain ⟨vm0, locs, k0, X, r⟩ := W
  exact ⟨vm0, locs, k0, X.more hc hs, r⟩
theorem Wk.sub {sf' : List Addr} (W : Wk p l e R s m args below meth c Z EL n0 ws own sf T cells slots h) (hs : ∀ x ∈ sf', x ∈ sf) : Wk p l e R s m args below meth c Z EL n0 ws own sf' T cells slots h := by
  obtain ⟨vm0, locs, k0, X, eT, hS, hk, hZ, hown, hC, N, K, O, F⟩ := W
  exact ⟨vm0, locs, k0, X, eT, hS, hk, hZ, hown, hC, N, K, O, fun y hy => F y (hs y hy)⟩
/-! single steps -/
theorem Wk.getF (W : Wk p l e R s m args below meth c Z EL n0 ws own sf T cells slots h) (hx : p.tables.exec = Jvm.exec) {R0 O n d host : String} {index : Nat} (w : (Cond.fieldLink own index R0 n d).before a0 Z = true ∨ (Cond.fieldLinkNest own index R0 n d host).before a0 Z = true) (via : Via Z R0 O n d)
    (F : Fld Z h a O n d v) {g : JFrame} (hg : g.method = m) {rest : List Value} (hs : g.stack = .ref a :: rest) (hd : decode c.code g.pc = .ok (.getfield index, 3))
    (k : ∀ T', Wk p l e R s m args below meth c Z EL n0 ws own sf T' cells slots h → Go p e below Q (T'.setTop { g with pc := g.pc + 3, stack := v :: rest })) : Go p e below Q (T.setTop g) := by
  obtain ⟨vm0, locs, k0, X, eT, hS, hk, hZ, hown, r⟩ := W
  obtain ⟨T', X', e', st⟩ := RoadKit.getF X hx hZ hown w via eT F hg hs hd
  exact Go.of st (k T' ⟨vm0, locs, k0, X', e', hS, hk, hZ, hown, r⟩)
theorem Wk.getS (W : Wk p l e R s m args below meth c Z EL n0 ws own sf T cells slots h) (hx : p.tables.exec = Jvm.exec) {R0 O n d host : String} {index : Nat} (w : (Cond.fieldLink own index R0 n d).before a0 Z = true ∨ (Cond.fieldLinkNest own index R0 n d host).before a0 Z = true) (via : Via Z R0 O n d)
    (F : Sta Z Z.heap O n d v) {g : JFrame} (hg : g.method = m) (hd : decode c.code g.pc = .ok (.getstatic index, 3))
    (k : ∀ T', Wk p l e R s m args below meth c Z EL n0 ws own sf T' cells slots h → Go p e below Q (T'.setTop { g with pc := g.pc + 3, stack := v :: g.stack })) : Go p e below Q (T.setTop g) := by
  have F' := F.ext W.old.2
  obtain ⟨vm0, locs, k0, X, eT, hS, hk, hZ, hown, r⟩ := W
  obtain ⟨T', X', e', st⟩ := RoadKit.getS2 X hx hZ hown w via eT F' hg hd
  exact Go.of st (k T' ⟨vm0, locs, k0, X', e', hS, hk, hZ, hown, r⟩)
theorem Wk.castY (W : Wk p l e R s m args below meth c Z EL n0 ws own sf T cells slots h) (hx : p.tables.exec = Jvm.exec) {K : String} {index : Nat} (w : (Cond.classLink own index K).before a0 Z = true) (F : Ins Z h a K true) {g : JFrame} (hg : g.method = m) {rest : List Value} (hs : g.stack = .ref a :: rest) (hd : decode c.code g.pc = .ok (.checkcast index, 3))
    (k : ∀ T', Wk p l e R s m args below meth c Z EL n0 ws own sf T' cells slots h → Go p e below Q (T'.setTop { g with pc := g.pc + 3 })) : Go p e below Q (T.setTop g) := by
  obtain ⟨vm0, locs, k0, X, eT, hS, hk, hZ, hown, r⟩ := W
  obtain ⟨T', X', e', st⟩ := RoadKit.castY X hx hZ hown w eT F hg hs hd
  exact Go.of st (k T' ⟨vm0, locs, k0, X', e', hS, hk, hZ, hown, r⟩)
theorem Wk.instY (W : Wk p l e R s m args below meth c Z EL n0 ws own sf T cells slots h) (hx : p.tables.exec = Jvm.exec) {K : String} {index : Nat} (w : (Cond.classLink own index K).before a0 Z = true) (F : Ins Z h a K true) {g : JFrame} (hg : g.method = m) {rest : List Value} (hs : g.stack = .ref a :: rest) (hd : decode c.code g.pc = .ok (.instanceof index, 3))
    (k : ∀ T', Wk p l e R s m args below meth c Z EL n0 ws own sf T' cells slots h → Go p e below Q (T'.setTop { g with pc := g.pc + 3, stack := .int 1 :: rest })) : Go p e below Q (T.setTop g) := by
  obtain ⟨vm0, locs, k0, X, eT, hS, hk, hZ, hown, r⟩ := W
  obtain ⟨T', X', e', st⟩ := RoadKit.instY X hx hZ hown w eT F hg hs hd
  exact Go.of st (k T' ⟨vm0, locs, k0, X', e', hS, hk, hZ, hown, r⟩)
theorem Wk.instNo (W : Wk p l e R s m args below meth c Z EL n0 ws own sf T cells slots h) (hx : p.tables.exec = Jvm.exec) {K C : String} {index : Nat} (w : (Cond.classLink own index K).before a0 Z = true) (E : Exa Z h a C) (F : ∃ c t, Z.vm.findClass C = some c ∧ Z.vm.findClass K = some t ∧ Z.vm.assignable c t = false) {g : JFrame} (hg : g.method = m) {rest : List Value} (hs : g.stack = .ref a :: rest) (hd : decode c.code g.pc = .ok (.instanceof index, 3))
    (k : ∀ T', Wk p l e R s m args below meth c Z EL n0 ws own sf T' cells slots h → Go p e below Q (T'.setTop { g with pc := g.pc + 3, stack := .int 0 :: rest })) : Go p e below Q (T.setTop g) := by
  obtain ⟨vm0, locs, k0, X, eT, hS, hk, hZ, hown, r⟩ := W
  obtain ⟨T', X', e', st⟩ := RoadKit.instNo X hx hZ hown w eT E F hg hs hd
  exact Go.of st (k T' ⟨vm0, locs, k0, X', e', hS, hk, hZ, hown, r⟩)
theorem Wk.instNull (W : Wk p l e R s m args below meth c Z EL n0 ws own sf T cells slots h) (hx : p.tables.exec = Jvm.exec) {index : Nat} {g : JFrame} (hg : g.method = m) {rest : List Value} (hs : g.stack = .null :: rest) (hd : decode c.code g.pc = .ok (.instanceof index, 3))
    (k : Go p e below Q (T.setTop { g with pc := g.pc + 3, stack := .int 0 :: rest })) : Go p e below Q (T.setTop g) := by
  obtain ⟨vm0, locs, k0, X, eT, hS, hk, hZ, hown, r⟩ := W
  exact Go.of (X.instanceofNull hx hg hs hd) k
theorem Wk.initO (W : Wk p l e R s m args below meth c Z EL n0 ws own sf T cells slots h) (hx : p.tables.exec = Jvm.exec) {idx : Nat} (w1 : (Cond.methodLink own idx Lib.objectInit).before a0 Z = true) (w2 : (Cond.instanceMethod Lib.objectInit).before a0 Z = true)
    (w3 : (Cond.code Lib.objectInit ⟨#[0xb1]⟩ 1 none).before a0 Z = true) {g : JFrame} (hg : g.method = m) (hsize : g.locals.size = c.maxLocals) {rest : List Value} (hs : g.stack = .ref a :: rest) (hd : decode c.code g.pc = .ok (.invokespecial idx, 3))
    (hf : 1 ≤ R.frames) {Wd : Nat} (hW : 2 * g.monitorRoom + (rest.map fun v => v.category).sum ≤ Wd) (hl : Wd + 12 ≤ R.locals)
    (k : ∀ T', Wk p l e R s m args below meth c Z EL n0 ws own sf T' cells slots h → Go p e below Q (T'.setTop { g with pc := g.pc + 3, stack := rest })) : Go p e below Q (T.setTop g) := by
  obtain ⟨vm0, locs, k0, X, eT, hS, hk, hZ, hown, r⟩ := W
  obtain ⟨T', X', e', st⟩ := RoadKit.initO X hx hZ hown w1 w2 w3 eT hg hsize hs hd hf hW hl
  exact Go.of st (k T' ⟨vm0, locs, k0, X', e', hS, hk, hZ, hown, r⟩)
theorem Wk.newO (W : Wk p l e R s m args below meth c Z EL n0 ws own sf T cells slots h) (hx : p.tables.exec = Jvm.exec) {C : String} {index n : Nat} (w : (Cond.classLink own index C).before a0 Z = true) (wi : (Cond.instantiable C n).before a0 Z = true) (wz : (Cond.initialized C).before a0 Z = true)
    {g : JFrame} (hg : g.method = m) (hd : decode c.code g.pc = .ok (.new index, 3)) (hc : cells + 1 ≤ R.cells) (hl : slots + n ≤ R.slots)
    (k : ∀ T' h' b, b = h.size → n0 ≤ b ∧ s.heap.size ≤ b → Wk p l e R s m args below meth c Z EL n0 ws own (b :: sf) T' (cells + 1) (slots + n) h' → Keep h h' [] → Exa Z h' b C → (∀ {O nm d : String} {ty : FieldType}, Laid Z a0 C O nm d → parseFieldDescriptor d = some ty → Fld Z h' b O nm d (defaultValue ty)) →
      Go p e below Q (T'.setTop { g with pc := g.pc + 3, stack := .ref b :: g.stack })) : Go p e below Q (T.setTop g) := by
  have hle := W.n0le
  have hle' := W.s0le
  obtain ⟨vm0, locs, k0, X, eT, hS, hk, hZ, hown, hC, N, K, O, F⟩ := W
  obtain ⟨T', h', X', e', E, A, D, -, st⟩ := RoadKit.newO X hx hZ hown w wi wz eT hg hd hc hl
  exact Go.of st (k T' h' h.size rfl ⟨hle, hle'⟩ (wk_new X' e' E A.lt hS hk hZ hown hC N K O F) ((Keep.refl h []).ext E) A D)
theorem Wk.newP (W : Wk p l e R s m args below meth c Z EL n0 ws own sf T cells slots h) (hx : p.tables.exec = Jvm.exec) {aty : ArrayType} (w : (Cond.arrayClass (newarray.typeOf aty)).before a0 Z = true)
    {g : JFrame} (hg : g.method = m) (hd : decode c.code g.pc = .ok (.newarray aty, 2)) {n : Int32} {rest : List Value} (hs : g.stack = .int n :: rest)
    (hn : ¬ n < 0) {cap : Nat} (hcap : n.toNatClampNeg ≤ cap) (hb : cap * 8 ≤ 536870912) (hc : cells + 1 ≤ R.cells) (hl : slots + cap ≤ R.slots)
    (k : ∀ T' h' b kc, b = h.size → n0 ≤ b ∧ s.heap.size ≤ b → Wk p l e R s m args below meth c Z EL n0 ws own (b :: sf) T' (cells + 1) (slots + cap) h' → Keep h h' [] → Arv Z h' b kc (newarray.typeOf aty) n (List.replicate cap (defaultValue (newarray.typeOf aty))) (defaultValue (newarray.typeOf aty)) →
      Go p e below Q (T'.setTop { g with pc := g.pc + 2, stack := .ref b :: rest })) : Go p e below Q (T.setTop g) := by
  have hle := W.n0le
  have hle' := W.s0le
  obtain ⟨vm0, locs, k0, X, eT, hS, hk, hZ, hown, hC, N, K, O, F⟩ := W
  obtain ⟨T', h', kc, X', e', E, A, st⟩ := RoadKit.newP X hx hZ w eT hg hd hs hn hcap hb hc hl
  exact Go.of st (k T' h' h.size kc rfl ⟨hle, hle'⟩ (wk_new X' e' E A.lt hS hk hZ hown hC N K O F) ((Keep.refl h []).ext E) ((Arv.new A hn).pad (pad_rep [] _ cap)))
theorem Wk.putF (W : Wk p l e R s m args below meth c Z EL n0 ws own sf T cells slots h) (hx : p.tables.exec = Jvm.exec) {R0 O n d host C : String} {index kk : Nat} {ty : FieldType} (w : (Cond.fieldLink own index R0 n d).before a0 Z = true ∨ (Cond.fieldLinkNest own index R0 n d host).before a0 Z = true) (via : Via Z R0 O n d)
    {old : Value} (F : Fld Z h a O n d old) (E : Exa Z h a C) (L : (Cond.lays C O n d).before a0 Z = true ∨ ((Cond.laysFinal C O n d).before a0 Z = true ∧ own = O ∧ meth.name = "<init>")) (wi : (Cond.instantiable C kk).before a0 Z = true)
    (hty : parseFieldDescriptor d = some ty) (hn : narrow ty v = v) (hf : fits ty v = true) (ga : n0 ≤ a) (gw : a ∈ ws ∨ s.heap.size ≤ a) (sa : a ∈ sf ∨ (C ≠ "java/lang/String" ∧ C ≠ "[B")) {g : JFrame} (hg : g.method = m) {rest : List Value} (hs : g.stack = v :: .ref a :: rest) (hd : decode c.code g.pc = .ok (.putfield index, 3))
    (k : ∀ T' h', Wk p l e R s m args below meth c Z EL n0 ws own sf T' cells slots h' → Wr h h' a (RoadKit.slotOf Z O n d) v → Go p e below Q (T'.setTop { g with pc := g.pc + 3, stack := rest })) : Go p e below Q (T.setTop g) := by
  obtain ⟨vm0, locs, k0, X, eT, hS, hk, hZ, hown, hC, N, K, Ol, Fs⟩ := W
  have S : Safe Z EL vm0 h a := by
    rcases sa with q | ⟨q1, q2⟩
    · exact (Fs a q).1
    · exact Safe.exa hZ.alike E q1 q2
  obtain ⟨T', h', X', e', W', st⟩ := RoadKit.putF X hx hZ hown w via eT F E L wi hty hn hf hg hs hd
  exact Go.of st (k T' h' (wk_wr X' e' W' hS hk hZ hown hC N K Ol Fs S ga gw) W')
theorem Wk.stC (W : Wk p l e R s m args below meth c Z EL n0 ws own sf T cells slots h) (hx : p.tables.exec = Jvm.exec) {kc : ClassId} {z j y : Int32} {vs : List Value} {dv : Value} (V : Arv Z h a kc .char z vs dv) (hj : ¬ j < 0 ∧ j < z) (i : Nat) (hji : j.toNatClampNeg = i) (hi : i < vs.length) (ga : n0 ≤ a) (gw : a ∈ ws ∨ s.heap.size ≤ a)
    {g : JFrame} (hg : g.method = m) {rest : List Value} (hs : g.stack = .int y :: .int j :: .ref a :: rest) (hd : decode c.code g.pc = .ok (.castore, 1))
    (k : ∀ T' h', Wk p l e R s m args below meth c Z EL n0 ws own sf T' cells slots h' → Keep h h' [a] → Arv Z h' a kc .char z (vs.set i (.int (nar .char y))) dv → Go p e below Q (T'.setTop { g with pc := g.pc + 1, stack := rest })) : Go p e below Q (T.setTop g) := by
  obtain ⟨vm0, locs, k0, X, eT, hS, hk, hZ, hown, hC, N, K, Ol, Fs⟩ := W
  obtain ⟨cl, A, q1, S1, q3, H, G⟩ := V
  obtain ⟨T', h', X', e', W', st⟩ := RoadKit.stC X hx hZ eT A (j := j) (inb_of S1 hj) hg hs hd
  exact Go.of st (k T' h' (wk_wr X' e' W' hS hk hZ hown hC N K Ol Fs (Safe.arr hZ.alike A (by decide)) ga gw) (Keep.of_wr W') (Arv.set A q1 S1 q3 H G (fits_nar_char _) W' i hji hi))
theorem Wk.stB (W : Wk p l e R s m args below meth c Z EL n0 ws own sf T cells slots h) (hx : p.tables.exec = Jvm.exec) {kc : ClassId} {z j y : Int32} {vs : List Value} {dv : Value} (V : Arv Z h a kc .byte z vs dv) (hj : ¬ j < 0 ∧ j < z) (i : Nat) (hji : j.toNatClampNeg = i) (hi : i < vs.length) (ga : n0 ≤ a) (gw : a ∈ ws ∨ s.heap.size ≤ a) (sa : a ∈ sf)
    {g : JFrame} (hg : g.method = m) {rest : List Value} (hs : g.stack = .int y :: .int j :: .ref a :: rest) (hd : decode c.code g.pc = .ok (.bastore, 1))
    (k : ∀ T' h', Wk p l e R s m args below meth c Z EL n0 ws own sf T' cells slots h' → Keep h h' [a] → Arv Z h' a kc .byte z (vs.set i (.int (nar .byte y))) dv → Go p e below Q (T'.setTop { g with pc := g.pc + 1, stack := rest })) : Go p e below Q (T.setTop g) := by
  obtain ⟨vm0, locs, k0, X, eT, hS, hk, hZ, hown, hC, N, K, Ol, Fs⟩ := W
  obtain ⟨cl, A, q1, S1, q3, H, G⟩ := V
  obtain ⟨T', h', X', e', W', st⟩ := RoadKit.stB X hx hZ eT A (j := j) (inb_of S1 hj) hg hs hd
  exact Go.of st (k T' h' (wk_wr X' e' W' hS hk hZ hown hC N K Ol Fs (Fs a sa).1 ga gw) (Keep.of_wr W') (Arv.set A q1 S1 q3 H G (fits_nar_byte _) W' i hji hi))
theorem Wk.caload (W : Wk p l e R s m args below meth c Z EL n0 ws own sf T cells slots h) (hx : p.tables.exec = Jvm.exec) {kc : ClassId} {z j : Int32} {vs : List Value} {dv : Value} (V : Arv Z h a kc .char z vs dv) (hj : ¬ j < 0 ∧ j < z) (hv : vs.getD j.toNatClampNeg dv = v)
    {g : JFrame} (hg : g.method = m) {rest : List Value} (hs : g.stack = .int j :: .ref a :: rest) (hd : decode c.code g.pc = .ok (.caload, 1)) (k : Go p e below Q (T.setTop { g with pc := g.pc + 1, stack := v :: rest })) : Go p e below Q (T.setTop g) := by
  obtain ⟨vm0, locs, k0, X, eT, hS, hk, hZ, hown, r⟩ := W
  obtain ⟨cl, A, q1, S1, q3, H, G⟩ := V
  exact Go.of (fun t q => X.caload hx (by rw [eT]; exact A.1) (State.isArrayOf_alike hZ.alike A.2.1) A.2.2 (inb_of S1 hj) (H.at (inb_of S1 hj) hv) hg hs hd t q) k
theorem Wk.baload (W : Wk p l e R s m args below meth c Z EL n0 ws own sf T cells slots h) (hx : p.tables.exec = Jvm.exec) {kc : ClassId} {z j : Int32} {vs : List Value} {dv : Value} (V : Arv Z h a kc .byte z vs dv) (hj : ¬ j < 0 ∧ j < z) (hv : vs.getD j.toNatClampNeg dv = v)
    {g : JFrame} (hg : g.method = m) {rest : List Value} (hs : g.stack = .int j :: .ref a :: rest) (hd : decode c.code g.pc = .ok (.baload, 1)) (k : Go p e below Q (T.setTop { g with pc := g.pc + 1, stack := v :: rest })) : Go p e below Q (T.setTop g) := by
  obtain ⟨vm0, locs, k0, X, eT, hS, hk, hZ, hown, r⟩ := W
  obtain ⟨cl, A, q1, S1, q3, H, G⟩ := V
  exact Go.of (fun t q => X.baloadBytes hx (by rw [eT]; exact A.1) (State.isArrayOf_alike hZ.alike A.2.1) A.2.2 (inb_of S1 hj) (H.at (inb_of S1 hj) hv) hg hs hd t q) k
theorem Wk.alen (W : Wk p l e R s m args below meth c Z EL n0 ws own sf T cells slots h) (hx : p.tables.exec = Jvm.exec) {kc : ClassId} {z : Int32} {ty : FieldType} {vs : List Value} {dv : Value} (V : Arv Z h a kc ty z vs dv)
    {g : JFrame} (hg : g.method = m) {rest : List Value} (hs : g.stack = .ref a :: rest) (hd : decode c.code g.pc = .ok (.arraylength, 1)) (k : Go p e below Q (T.setTop { g with pc := g.pc + 1, stack := .int z :: rest })) : Go p e below Q (T.setTop g) := by
  obtain ⟨vm0, locs, k0, X, eT, hS, hk, hZ, hown, r⟩ := W
  obtain ⟨cl, A, q1, S1, q3, H, G⟩ := V
  exact Go.of (fun t q => X.arraylength hx (by rw [eT]; exact A.1) (State.isArrayOf_alike hZ.alike A.2.1) hg hs hd t (by rw [len_of S1 q3]; exact q)) k
theorem Wk.ldcI (W : Wk p l e R s m args below meth c Z EL n0 ws own sf T cells slots h) (hx : p.tables.exec = Jvm.exec) {index : Nat} {z : Int32} (w : (Cond.constant own index z).before a0 Z = true)
    {g : JFrame} (hg : g.method = m) (hd : decode c.code g.pc = .ok (.ldc index, 2)) (k : Go p e below Q (T.setTop { g with pc := g.pc + 2, stack := .int z :: g.stack })) : Go p e below Q (T.setTop g) := by
  obtain ⟨vm0, locs, k0, X, eT, hS, hk, hZ, hown, r⟩ := W
  exact Go.of (fun t q => X.ldcInt hx hown (mvT (s := s.setVm vm0) hZ w) hg hd t q) k
theorem Wk.ldcJ (W : Wk p l e R s m args below meth c Z EL n0 ws own sf T cells slots h) (hx : p.tables.exec = Jvm.exec) {index : Nat} {z : Int64} (w : (Cond.constantLong own index z).before a0 Z = true)
    {g : JFrame} (hg : g.method = m) (hd : decode c.code g.pc = .ok (.ldc2_w index, 3)) (k : Go p e below Q (T.setTop { g with pc := g.pc + 3, stack := .long z :: g.stack })) : Go p e below Q (T.setTop g) := by
  obtain ⟨vm0, locs, k0, X, eT, hS, hk, hZ, hown, r⟩ := W
  exact Go.of (fun t q => X.ldc2Long hx hown (mvT (s := s.setVm vm0) hZ w) hg hd t q) k
/-! String constants -/
theorem wk_tab {k1 : Nat} (X : Stand p l e R (s.setVm vm1) m args below meth c T' locs cells slots) (e' : T'.heap = h') (E : Keep h h' ws') (gws : ∀ x ∈ ws', n0 ≤ x ∧ (x ∈ ws ∨ s.heap.size ≤ x)) (hS : s.Since vm1 k1) (hk : k1 ≤ h'.size) (hZ : Z.Warmed39 vm1) (hown : vm1.findClass own = some m.cls) (A : CHr Z EL vm0 h vm1 h') (hC : CHr Z EL s.vm s.heap vm0 h) (N : Fr n0 locs) (K : Keep s.heap h ws) (O : Old Z n0 h)
    (F : ∀ x ∈ sf, Safe Z EL vm0 h x ∧ x < h.size) : Wk p l e R s m args below meth c Z EL n0 ws own sf T' cells slots h' :=
  ⟨vm1, locs, k1, X, e', hS, hk, hZ, hown, hC.trans A, N, K.trans E fun y hy => (gws y hy).2, O.keep E fun y hy => (gws y hy).1, fun y hy => ⟨CHr.safe A (F y hy).2 (F y hy).1, Nat.lt_of_lt_of_le (F y hy).2 E.1⟩⟩
theorem Wk.ldcO (W : Wk p l e R s m args below meth c Z EL n0 ws own sf T cells slots h) (hx : p.tables.exec = Jvm.exec) (hEL : EW Z a0 EL) {text : String} {index : Nat} (w : (Cond.stringLink own index text).before a0 Z = true) (wS : ∀ a ∈ Bundle.stringAtoms, a.before a0 Z = true)
    {g : JFrame} (hg : g.method = m) (hd : decode c.code g.pc = .ok (.ldc index, 2)) {n : Nat} (hn : 4 * text.toList.length ≤ n) (hbig : n ≤ 536870912) (hc : cells + 2 ≤ R.cells) (hl : slots + (n + 4) ≤ R.slots)
    (k : ∀ T' h' b, Wk p l e R s m args below meth c Z EL n0 ws own sf T' (cells + 2) (slots + (n + 4)) h' → Keep h h' [] → Go p e below Q (T'.setTop { g with pc := g.pc + 2, stack := .ref b :: g.stack })) : Go p e below Q (T.setTop g) := by
  obtain ⟨vm0, locs, k0, X, eT, hS, hk, hZ, hown, hC, N, K, Ol, Fs⟩ := W
  obtain ⟨b, T', h', k1, X', e', E, hS', hk', hZ', hown', A, -, st⟩ := ldcOH X hx hZ hown w wS eT hS hk hEL hC.1 hg hd hn hbig hc hl
  have K1 : Keep h h' [] := (Keep.refl h []).ext E
  exact Go.of st (k T' h' b (wk_tab X' e' K1 all0 hS' hk' hZ' hown' A hC N K Ol Fs) K1)
theorem Wk.ldcC (W : Wk p l e R s m args below meth c Z EL n0 ws own sf T cells slots h) (hx : p.tables.exec = Jvm.exec) (hEL : EW Z a0 EL) {text : String} {index : Nat} (hmem : (own, index) ∈ EL) (w : (Cond.stringLink own index text).before a0 Z = true) (wS : ∀ a ∈ Bundle.stringAtoms, a.before a0 Z = true)
    (vs : List Value) (z : Int32) (ht : (∀ c ∈ text.toList, c.toNat < 256) ∧ text.toList.map (fun c => Value.int (Jvm.Lit.byteI c.toNat.toUInt16)) = vs) (hz : ¬ z < 0) (hl : z.toNatClampNeg = vs.length)
    {g : JFrame} (hg : g.method = m) (hd : decode c.code g.pc = .ok (.ldc index, 2)) {n : Nat} (hn : 4 * text.toList.length ≤ n) (hbig : n ≤ 536870912) (hc : cells + 2 ≤ R.cells) (hsl : slots + (n + 4) ≤ R.slots)
    (k : ∀ T' h' b t kb, Wk p l e R s m args below meth c Z EL n0 ws own sf T' (cells + 2) (slots + (n + 4)) h' → Keep h h' [] → Exa Z h' b "java/lang/String" → Fld Z h' b "java/lang/String" "value" "[B" (.ref t) → Fld Z h' b "java/lang/String" "coder" "B" (.int 0) → Arv Z h' t kb .byte z vs (.int 0) → (∀ x ∈ sf, x ≠ b ∧ x ≠ t) → Go p e below Q (T'.setTop { g with pc := g.pc + 2, stack := .ref b :: g.stack })) : Go p e below Q (T.setTop g) := by
  obtain ⟨vm0, locs, k0, X, eT, hS, hk, hZ, hown, hC, N, K, Ol, Fs⟩ := W
  obtain ⟨b, T', h', k1, t, kb, X', e', E, hS', hk', hZ', hown', E1, F1, F2, A1, -, -, A, -, hne, st⟩ := ldcCH X hx hZ hown w wS eT hS hk hEL hmem hC.1 ht hz hl hg hd hn hbig hc hsl
  have K1 : Keep h h' [] := (Keep.refl h []).ext E
  exact Go.of st (k T' h' b t kb (wk_tab X' e' K1 all0 hS' hk' hZ' hown' A hC N K Ol Fs) K1 E1 F2 F1 A1 (fun x hx => hne x (CHr.safe A (Fs x hx).2 (Fs x hx).1)))
/-! contracts -/
def Met (l : Launch) (Z : State) (EL : List (String × Nat)) (n0 : Nat) (y : MethodName) (bytes : ByteArray) (maxL : Nat) (ret : Option FieldType) (wl : List Cond) (rm : Room) (as' : Array Value) (h : Heap) (ws sf : List Addr) (Qv : Option Value → Heap → Prop) : Prop :=
  MetFree l y (head1 (Cond.code y bytes maxL ret :: wl) rm) (fun a U => a = as' ∧ Z.Warmed39 U.vm ∧ U.heap = h ∧ CHv Z EL U.vm h ∧ ∀ x ∈ sf, Safe Z EL U.vm h x ∧ x < h.size) (fun _ _ _ _ _ => True)
    (fun _ U o U' => ∃ v L, o = .returned v ∧ (Qv v U'.heap ∧ Fr n0 L ∧ Keep h U'.heap ws) ∧ CHr Z EL U.vm U.heap U'.vm U'.heap ∧ ReturnedEndW U o U' L rm.cells rm.slots)
def Fend (Z : State) (EL : List (String × Nat)) (n0 : Nat) (s : State) (h : Heap) (ws : List Addr) (Qv : Option Value → Heap → Prop) (rm : Room) (o : Outcome) (t : State) : Prop :=
  ∃ v L, o = .returned v ∧ (Qv v t.heap ∧ Fr n0 L ∧ Keep h t.heap ws) ∧ CHr Z EL s.vm s.heap t.vm t.heap ∧ ReturnedEndW s o t L rm.cells rm.slots
variable {y : MethodName} {bytes : ByteArray} {maxL : Nat} {ret : Option FieldType} {wl : List Cond} {rm : Room} {as' : Array Value} {Qv : Option Value → Heap → Prop}
theorem Met.of (hy : plainFor y = true) (O : Old Z n0 h) (body : ∀ (p : Program) (e : Env) (s : State) (m : MethodId) (below : List Frame) (meth : Method) (c : Code) (T : State), p.tables.exec = Jvm.exec → c.code = bytes → c.maxLocals = maxL → meth.sig.returnType = ret → meth.locks = false → meth.name = y.name → s.heap = h →
      Wk p l e rm s m as' below meth c Z EL n0 ws y.cls sf T 0 0 h → Go p e below (Fend Z EL n0 s h ws Qv rm) (T.setTop (entryFrame m as' maxL))) : Met l Z EL n0 y bytes maxL ret wl rm as' h ws sf Qv := by
  refine MetFree.of_bodySF hy hisR ?_
  intro p e s m args below meth c s₁ Bd hml0 hP hK
  obtain ⟨rfl, hZ, hh, hC, hF⟩ := hP
  subst hh
  have e0 : s₁.heap = s.heap := by rw [Bd.state]; rfl
  have hown := findClass_of_methodNamed Bd.named
  have X0 : Stand p l e rm s m args below meth c s₁ [] 0 0 := Stand.of_body Bd
  obtain ⟨s₂, o, st, r1, r2, q⟩ := body p e s m below meth c s₁ Bd.exec Bd.bytes hml0 Bd.returns Bd.notSynchronized (name_of_methodNamed Bd.named Bd.method).1 rfl ⟨s.vm, [], 0, X0, e0, (State.WarmedH.refl s).since 0, Nat.zero_le _, hZ, hown, CHr.refl hC, Fr.nil n0, Keep.refl _ _, O, hF⟩
  exact ⟨s₂, o, st, r1, r2, q⟩
theorem Wk.fin {g : JFrame} (W : Wk p l e rm s m args below meth c Z EL n0 ws own sf T cells slots h') (hEL : EW Z a0 EL) (hs : s.heap = h) (hlk : meth.locks = false) (hc : cells ≤ rm.cells) (hl : slots ≤ rm.slots) {w : Option Value} (hv : meth.sig.returnType = none → w = none) (hq : Qv w h')
    (k : ∀ (vm0 : Vm) (locs : List Loc) (fs : List Frame), Stand p l e rm (s.setVm vm0) m args below meth c T locs cells slots → (∀ (f : JFrame) (acts : List Action), f.method = m → f.locked = none → f.entered = [] → (doReturn e (T.setTop f) acts w).1 = T.setFrames fs) → Steps p.tables e below (T.setTop g) (T.setFrames fs)) : Go p e below (Fend Z EL n0 s h ws Qv rm) (T.setTop g) := by
  obtain ⟨vm0, locs, k0, X, eT, hS, hk, hZ, hown, hC, N, K, Ol, Fs⟩ := W
  subst hs eT
  obtain ⟨fs, hr, hrun, hended, q1, q2, q3, q4⟩ := X.leaveW hS hk hv hlk
  refine ⟨T.setFrames fs, .returned w, k vm0 locs fs X hr, hrun, hended, w, locs, rfl, ⟨hq, N, K⟩, (show CHr Z EL s.vm s.heap T.vm T.heap from hC.trans (CHv.at X hZ hEL hC.1)), q1, q2, q3, q4.mono hc hl⟩
theorem Wk.retG (W : Wk p l e rm s m args below meth c Z EL n0 ws own sf T cells slots h') (hx : p.tables.exec = Jvm.exec) (hEL : EW Z a0 EL) (hs : s.heap = h) (hlk : meth.locks = false) (hc : cells ≤ rm.cells) (hl : slots ≤ rm.slots) {pc : Nat} {Ls : Array Slot} {w : Value} {t : FieldType} {i : Instr} {rest : List Value} (hret : meth.sig.returnType = some t) (hn : narrow t w = w)
    (hi : (i = .ireturn ∧ (t = .int ∨ t = .boolean ∨ t = .byte ∨ t = .char ∨ t = .short) ∧ ∃ z, w = .int z) ∨ (i = .lreturn ∧ t = .long ∧ ∃ z, w = .long z) ∨ (i = .dreturn ∧ t = .double ∧ ∃ z, w = .double z) ∨ (i = .freturn ∧ t = .float ∧ ∃ z, w = .float z) ∨ (i = .areturn ∧ t.isReference = true ∧ w.isRef = true))
    (hd : decode c.code pc = .ok (i, 1)) (hq : Qv (some w) h') : Go p e below (Fend Z EL n0 s h ws Qv rm) (T.setTop (mkF m pc Ls (w :: rest))) :=
  W.fin hEL hs hlk hc hl (w := some w) (fun q => by rw [hret] at q; cases q) hq (fun vm0 locs fs X hr => RoadKit.retOut X hx hret hn hi hd hr)
theorem Wk.retI (W : Wk p l e rm s m args below meth c Z EL n0 ws own sf T cells slots h') (hx : p.tables.exec = Jvm.exec) (hEL : EW Z a0 EL) (hs : s.heap = h) (hlk : meth.locks = false) (hc : cells ≤ rm.cells) (hl : slots ≤ rm.slots) {pc : Nat} {Ls : Array Slot} {w : Int32} {t : FieldType} {rest : List Value} (hret : meth.sig.returnType = some t) (ht : t = .int ∨ t = .boolean ∨ t = .byte ∨ t = .char ∨ t = .short) (hn : narrow t (.int w) = .int w)
    (hd : decode c.code pc = .ok (.ireturn, 1)) (hq : Qv (some (.int w)) h') : Go p e below (Fend Z EL n0 s h ws Qv rm) (T.setTop (mkF m pc Ls (.int w :: rest))) :=
  W.retG hx hEL hs hlk hc hl hret hn (Or.inl ⟨rfl, ht, w, rfl⟩) hd hq
theorem Wk.retA (W : Wk p l e rm s m args below meth c Z EL n0 ws own sf T cells slots h') (hx : p.tables.exec = Jvm.exec) (hEL : EW Z a0 EL) (hs : s.heap = h) (hlk : meth.locks = false) (hc : cells ≤ rm.cells) (hl : slots ≤ rm.slots) {pc : Nat} {Ls : Array Slot} {w : Value} {t : FieldType} {rest : List Value} (hret : meth.sig.returnType = some t) (ht : t.isReference = true) (hw : w.isRef = true)
    (hd : decode c.code pc = .ok (.areturn, 1)) (hq : Qv (some w) h') : Go p e below (Fend Z EL n0 s h ws Qv rm) (T.setTop (mkF m pc Ls (w :: rest))) :=
  W.retG hx hEL hs hlk hc hl hret (by cases t <;> cases w <;> first | rfl | cases ht | cases hw) (Or.inr (Or.inr (Or.inr (Or.inr ⟨rfl, ht, hw⟩)))) hd hq
theorem Wk.retL (W : Wk p l e rm s m args below meth c Z EL n0 ws own sf T cells slots h') (hx : p.tables.exec = Jvm.exec) (hEL : EW Z a0 EL) (hs : s.heap = h) (hlk : meth.locks = false) (hc : cells ≤ rm.cells) (hl : slots ≤ rm.slots) {pc : Nat} {Ls : Array Slot} {w : Int64} {rest : List Value} (hret : meth.sig.returnType = some .long)
    (hd : decode c.code pc = .ok (.lreturn, 1)) (hq : Qv (some (.long w)) h') : Go p e below (Fend Z EL n0 s h ws Qv rm) (T.setTop (mkF m pc Ls (.long w :: rest))) :=
  W.retG hx hEL hs hlk hc hl hret rfl (Or.inr (Or.inl ⟨rfl, rfl, w, rfl⟩)) hd hq
theorem Wk.retV (W : Wk p l e rm s m args below meth c Z EL n0 ws own sf T cells slots h') (hx : p.tables.exec = Jvm.exec) (hEL : EW Z a0 EL) (hs : s.heap = h) (hlk : meth.locks = false) (hc : cells ≤ rm.cells) (hl : slots ≤ rm.slots) {pc : Nat} {Ls : Array Slot} (hret : meth.sig.returnType = none)
    (hd : decode c.code pc = .ok (.return_, 1)) (hq : Qv none h') : Go p e below (Fend Z EL n0 s h ws Qv rm) (T.setTop (mkF m pc Ls [])) :=
  W.fin hEL hs hlk hc hl (w := none) (fun _ => rfl) hq (fun vm0 locs fs X hr => X.returnOut hx hret hd hr)
/-! calls of what has a contract -/
theorem wk_call {U : State} {L : List Loc} {rcells rslots : Nat} (X : Stand p l e R (s.setVm vm0) m args below meth c T locs cells slots) (X' : Stand p l e R ((s.setVm vm0).setVm U.vm) m args below meth c U (locs ++ L) (cells + rcells) (slots + rslots)) (hS' : (s.setVm vm0).Since U.vm U.heap.size) (hle : T.heap.size ≤ U.heap.size) (eT : T.heap = h) (N' : Fr n0 L) (K' : Keep h U.heap ws') (A : CHr Z EL vm0 h U.vm U.heap) (gws : ∀ x ∈ ws', n0 ≤ x ∧ (x ∈ ws ∨ s.heap.size ≤ x))
    (hS : s.Since vm0 k0) (hk : k0 ≤ h.size) (hZ : Z.Warmed39 vm0) (hown : vm0.findClass own = some m.cls) (hC : CHr Z EL s.vm s.heap vm0 h) (N : Fr n0 locs) (K : Keep s.heap h ws) (O : Old Z n0 h) (F : ∀ x ∈ sf, Safe Z EL vm0 h x ∧ x < h.size) : Wk p l e R s m args below meth c Z EL n0 ws own sf U (cells + rcells) (slots + rslots) U.heap :=
  wk_tab (T' := U) (h' := U.heap) (vm1 := U.vm) (locs := locs ++ L) X' rfl K' gws (hS.trans hS' (Nat.le_trans hk (eT ▸ hle))) (Nat.le_refl _) (State.Warmed39.trans (t := s.setVm vm0) hZ hS'.1) ((hS'.1.alike.findClass _ _).trans hown) A hC (N.app N') K O F
theorem Met.pay {sf' : List Addr} {len Wd : Nat} (M : Met l Z EL n0 y bytes maxL ret [] rm as' h ws' sf' Qv) (hZ : Z.Warmed39 vm0) (wc : (Cond.code y bytes maxL ret).before a0 Z = true) (wz : (Cond.initialized y.cls).before a0 Z = true) (hf : rm.frames + 1 ≤ R.frames) (hl : Wd + (maxL + 11) + rm.locals ≤ R.locals) (hEL : EW Z a0 EL) (H : CHv Z EL vm0 h) (HS : ∀ x ∈ sf', Safe Z EL vm0 h x ∧ x < h.size) :
    BackS l R p e below (s.setVm vm0) args y len Wd (fun A a => a = as' ∧ A.U.heap = h ∧ A.cells + rm.cells ≤ R.cells ∧ A.slots + rm.slots ≤ R.slots)
      (fun A _ v B => ∃ L, (Qv v B.U.heap ∧ Fr n0 L ∧ Keep h B.U.heap ws') ∧ B.locs = A.locs ++ L ∧ B.cells = A.cells + rm.cells ∧ B.slots = A.slots + rm.slots ∧ CHr Z EL vm0 h B.U.vm B.U.heap) := by
  refine BackS.of_freeW (bytes := bytes) (maxL := maxL) (ret := ret) (E := fun _ first o t L k n => k = rm.cells ∧ n = rm.slots ∧ (∃ v, o = .returned v ∧ (Qv v t.heap ∧ Fr n0 L ∧ Keep h t.heap ws')) ∧ CHr Z EL first.vm first.heap t.vm t.heap) M hf hl ?_ ?_ (fun _ _ _ _ _ _ _ _ _ => trivial) ?_ ?_
  · intro m meth c A a Y hp
    have hU : Z.Warmed39 A.U.vm := wtrans (s := s.setVm vm0) hZ Y.warmed
    exact ⟨by show (Cond.and _ .tt).before a A.U = true; rw [Cond.before_and, mv hU wc]; rfl, mv hU wc, mv hU wz, hp.2.2.1, hp.2.2.2⟩
  · intro m meth c A a g mk Y hp
    have C0 := CHv.at Y hZ hEL H
    exact ⟨hp.1, wtrans (s := s.setVm vm0) hZ Y.warmed, hp.2.1, C0.1, fun x hx => ⟨C0.safe (HS x hx).2 (HS x hx).1, (HS x hx).2⟩⟩
  · rintro _ _ _ _ ⟨v, L, h1, h2, h3, h4⟩
    exact ⟨L, _, _, h4, rfl, rfl, ⟨v, h1, h2⟩, h3⟩
  · rintro m meth c A a g mk v t L k n Y hp _ _ ⟨e1, e2, ⟨v', e3, e4⟩, e5⟩
    cases e3; subst e1 e2
    refine ⟨L, e4, rfl, rfl, rfl, (CHv.at Y hZ hEL H).trans ?_⟩
    rw [← hp.2.1]; exact e5
theorem Wk.callS (W : Wk p l e R s m args below meth c Z EL n0 ws own sf T cells slots h) (hx : p.tables.exec = Jvm.exec) (hEL : EW Z a0 EL) {index : Nat} (w1 : (Cond.methodLink own index y).before a0 Z = true) (w2 : (Cond.static y).before a0 Z = true) (w3 : (Cond.initialized y.cls).before a0 Z = true) (w4 : (Cond.code y bytes maxL ret).before a0 Z = true)
    (hy : y.cls ≠ "java/lang/invoke/MethodHandle" ∧ y.cls ≠ "java/lang/invoke/VarHandle") {argsL rest : List Value} {sf' : List Addr} (M : Met l Z EL n0 y bytes maxL ret [] rm argsL.toArray h ws' sf' Qv) (hsf : ∀ x ∈ sf', x ∈ sf) (hf : rm.frames + 1 ≤ R.frames) {Wd : Nat} (hl : Wd + (maxL + 11) + rm.locals ≤ R.locals) (hc : cells + rm.cells ≤ R.cells) (hsl : slots + rm.slots ≤ R.slots)
    (gws : ∀ x ∈ ws', n0 ≤ x ∧ (x ∈ ws ∨ s.heap.size ≤ x)) {g : JFrame} (hg : g.method = m) (hsize : g.locals.size = c.maxLocals) (hlen : ∀ sig, parseMethodDescriptor y.desc = some sig → argsL.length = sig.parameters.length) (hstack : g.stack = argsL.reverse ++ rest) (hW : 2 * g.monitorRoom + (rest.map fun v => v.category).sum ≤ Wd)
    (hd : decode c.code g.pc = .ok (.invokestatic index, 3)) (k : ∀ T' h' v, Wk p l e R s m args below meth c Z EL n0 ws own sf T' (cells + rm.cells) (slots + rm.slots) h' → Keep h h' ws' → Qv v h' → Go p e below Q (T'.setTop { g with pc := g.pc + 3, stack := v.toList ++ rest })) : Go p e below Q (T.setTop g) := by
  obtain ⟨vm0, locs, k0, X, eT, hS, hk, hZ, hown, hC, N, K, Ol, Fs⟩ := W
  obtain ⟨v, vm₁, ⟨U, Lb, kb, nb⟩, hw, X', hS', hle, ⟨L, ⟨q, N', K'⟩, e1, e2, e3, A⟩, st⟩ := callSS X hx hown (mvT (s := s.setVm vm0) hZ w1) (mvT (s := s.setVm vm0) hZ w2) (mvT (s := s.setVm vm0) hZ w3) (mvT (s := s.setVm vm0) hZ w4) hy (Met.pay (s := s) (Wd := Wd) M hZ w4 w3 hf hl hEL hC.1 (fun x hx => Fs x (hsf x hx))) hg hsize hlen hstack hW hd (fun _ _ => ⟨rfl, eT, hc, hsl⟩)
  dsimp only [Pt.U, Pt.locs, Pt.cells, Pt.slots] at X' hS' hle q K' e1 e2 e3 A st
  subst e1 e2 e3
  exact Go.on st (k U U.heap v (wk_call X X' hS' hle eT N' K' A gws hS hk hZ hown hC N K Ol Fs) K' q)
theorem Wk.callP (W : Wk p l e R s m args below meth c Z EL n0 ws own sf T cells slots h) (hx : p.tables.exec = Jvm.exec) (hEL : EW Z a0 EL) {index : Nat} (hy1 : y.name = "<init>") (w1 : (Cond.methodLink own index y).before a0 Z = true) (w2 : (Cond.instanceMethod y).before a0 Z = true) (w3 : (Cond.initialized y.cls).before a0 Z = true) (w4 : (Cond.code y bytes maxL none).before a0 Z = true)
    (hy : y.cls ≠ "java/lang/invoke/MethodHandle" ∧ y.cls ≠ "java/lang/invoke/VarHandle") {argsL rest : List Value} {sf' : List Addr} (M : Met l Z EL n0 y bytes maxL none [] rm (.ref a :: argsL).toArray h ws' sf' Qv) (hsf : ∀ x ∈ sf', x ∈ sf) (hf : rm.frames + 1 ≤ R.frames) {Wd : Nat} (hl : Wd + (maxL + 11) + rm.locals ≤ R.locals) (hc : cells + rm.cells ≤ R.cells) (hsl : slots + rm.slots ≤ R.slots)
    (gws : ∀ x ∈ ws', n0 ≤ x ∧ (x ∈ ws ∨ s.heap.size ≤ x)) {g : JFrame} (hg : g.method = m) (hsize : g.locals.size = c.maxLocals) (hlen : ∀ sig, parseMethodDescriptor y.desc = some sig → argsL.length = sig.parameters.length) (hstack : g.stack = argsL.reverse ++ .ref a :: rest) (hW : 2 * g.monitorRoom + (rest.map fun v => v.category).sum ≤ Wd)
    (hd : decode c.code g.pc = .ok (.invokespecial index, 3)) (k : ∀ T' h' v, Wk p l e R s m args below meth c Z EL n0 ws own sf T' (cells + rm.cells) (slots + rm.slots) h' → Keep h h' ws' → Qv v h' → Go p e below Q (T'.setTop { g with pc := g.pc + 3, stack := v.toList ++ rest })) : Go p e below Q (T.setTop g) := by
  obtain ⟨vm0, locs, k0, X, eT, hS, hk, hZ, hown, hC, N, K, Ol, Fs⟩ := W
  obtain ⟨v, vm₁, ⟨U, Lb, kb, nb⟩, hw, X', hS', hle, ⟨L, ⟨q, N', K'⟩, e1, e2, e3, A⟩, st⟩ := X.specialBackS hx hy1 hown (mvT (s := s.setVm vm0) hZ w1) (mvT (s := s.setVm vm0) hZ w2) (mvT (s := s.setVm vm0) hZ w4) hy (Met.pay (s := s) (Wd := Wd) M hZ w4 w3 hf hl hEL hC.1 (fun x hx => Fs x (hsf x hx))) hg hsize (Steps.refl _) hlen hstack hW hd (fun _ _ => ⟨rfl, eT, hc, hsl⟩)
  dsimp only [Pt.U, Pt.locs, Pt.cells, Pt.slots] at X' hS' hle q K' e1 e2 e3 A st
  subst e1 e2 e3
  exact Go.on st (k U U.heap v (wk_call X X' hS' hle eT N' K' A gws hS hk hZ hown hC N K Ol Fs) K' q)
theorem Wk.callV (W : Wk p l e R s m args below meth c Z EL n0 ws own sf T cells slots h) (hx : p.tables.exec = Jvm.exec) (hEL : EW Z a0 EL) {index : Nat} {C : String} (w1 : (Cond.methodLink own index y).before a0 Z = true) (w2 : (Cond.declares y).before a0 Z = true) (w5 : (Cond.selects C y y).before a0 Z = true) (w6 : (Cond.instanceMethod y).before a0 Z = true) (w3 : (Cond.initialized y.cls).before a0 Z = true) (w4 : (Cond.code y bytes maxL ret).before a0 Z = true)
    (hy : y.cls ≠ "java/lang/invoke/MethodHandle" ∧ y.cls ≠ "java/lang/invoke/VarHandle") (Ea : Exa Z h a C) {argsL rest : List Value} {sf' : List Addr} (M : Met l Z EL n0 y bytes maxL ret [] rm (.ref a :: argsL).toArray h ws' sf' Qv) (hsf : ∀ x ∈ sf', x ∈ sf) (hf : rm.frames + 1 ≤ R.frames) {Wd : Nat} (hl : Wd + (maxL + 11) + rm.locals ≤ R.locals) (hc : cells + rm.cells ≤ R.cells) (hsl : slots + rm.slots ≤ R.slots)
    (gws : ∀ x ∈ ws', n0 ≤ x ∧ (x ∈ ws ∨ s.heap.size ≤ x)) {g : JFrame} (hg : g.method = m) (hsize : g.locals.size = c.maxLocals) (hlen : ∀ sig, parseMethodDescriptor y.desc = some sig → argsL.length = sig.parameters.length) (hstack : g.stack = argsL.reverse ++ .ref a :: rest) (hW : 2 * g.monitorRoom + (rest.map fun v => v.category).sum ≤ Wd)
    (hd : decode c.code g.pc = .ok (.invokevirtual index, 3)) (k : ∀ T' h' v, Wk p l e R s m args below meth c Z EL n0 ws own sf T' (cells + rm.cells) (slots + rm.slots) h' → Keep h h' ws' → Qv v h' → Go p e below Q (T'.setTop { g with pc := g.pc + 3, stack := v.toList ++ rest })) : Go p e below Q (T.setTop g) := by
  obtain ⟨vm0, locs, k0, X, eT, hS, hk, hZ, hown, hC, N, K, Ol, Fs⟩ := W
  obtain ⟨cB, kB, qa, qb, qc⟩ := isOf (s := s.setVm vm0) hZ eT Ea
  obtain ⟨v, vm₁, ⟨U, Lb, kb, nb⟩, hw, X', hS', hle, ⟨L, ⟨q, N', K'⟩, e1, e2, e3, A⟩, st⟩ := X.virtualBackS hx (z := y) hown (mvT (s := s.setVm vm0) hZ w1) (mvT (s := s.setVm vm0) hZ w2) (notFace_of_selects (args := #[]) (mvT (s := s.setVm vm0) hZ w5)) (mvT (s := s.setVm vm0) hZ w5) (mvT (s := s.setVm vm0) hZ w6) hy (Met.pay (s := s) (Wd := Wd) M hZ w4 w3 hf hl hEL hC.1 (fun x hx => Fs x (hsf x hx))) qa qc hg hsize (Steps.refl _) hlen hstack hW hd (fun _ _ => ⟨rfl, eT, hc, hsl⟩)
  dsimp only [Pt.U, Pt.locs, Pt.cells, Pt.slots] at X' hS' hle q K' e1 e2 e3 A st
  subst e1 e2 e3
  exact Go.on st (k U U.heap v (wk_call X X' hS' hle eT N' K' A gws hS hk hZ hown hC N K Ol Fs) K' q)
/-! calls that a law of the JDK pays -/
theorem wk_keep (X : Stand p l e R (s.setVm vm0) m args below meth c T' locs cells slots) (e' : T'.heap = h') (E : Keep h h' ws') (gws : ∀ x ∈ ws', n0 ≤ x ∧ (x ∈ ws ∨ s.heap.size ≤ x)) (sws : ∀ x ∈ ws', x ∈ sf) (hS : s.Since vm0 k0) (hk : k0 ≤ h.size) (hZ : Z.Warmed39 vm0) (hown : vm0.findClass own = some m.cls) (hC : CHr Z EL s.vm s.heap vm0 h) (N : Fr n0 locs) (K : Keep s.heap h ws) (O : Old Z n0 h)
    (F : ∀ x ∈ sf, Safe Z EL vm0 h x ∧ x < h.size) : Wk p l e R s m args below meth c Z EL n0 ws own sf T' cells slots h' :=
  wk_tab X e' E gws hS (Nat.le_trans hk E.1) hZ hown (CHr.keep E (fun y hy => (F y (sws y hy)).1) hC.1) hC N K O F
variable {Q1 : Option Value → Heap → List Loc → Prop} {kk nn : Nat}
theorem Wk.specB (W : Wk p l e R s m args below meth c Z EL n0 ws own sf T cells slots h) (hx : p.tables.exec = Jvm.exec) {index : Nat} (hy1 : y.name = "<init>") (w1 : (Cond.methodLink own index y).before a0 Z = true) (w2 : (Cond.instanceMethod y).before a0 Z = true) (w4 : (Cond.code y bytes maxL none).before a0 Z = true)
    (hy : y.cls ≠ "java/lang/invoke/MethodHandle" ∧ y.cls ≠ "java/lang/invoke/VarHandle") {argsL rest : List Value} {Wd : Nat} (hK : ∀ s' : State, Z.Warmed39 s'.vm → Back l R p e below s' args y 3 Wd (fun A as => as = (.ref a :: argsL).toArray ∧ A.U.heap = h ∧ A.cells + kk ≤ R.cells ∧ A.slots + nn ≤ R.slots) (fun A _ v B => ∃ L, Q1 v B.U.heap L ∧ B.locs = A.locs ++ L ∧ B.cells = A.cells + kk ∧ B.slots = A.slots + nn))
    (hq : ∀ v h' L, Q1 v h' L → Fr n0 L ∧ Keep h h' ws' ∧ Qv v h') (hc : cells + kk ≤ R.cells) (hsl : slots + nn ≤ R.slots)
    (gws : ∀ x ∈ ws', n0 ≤ x ∧ (x ∈ ws ∨ s.heap.size ≤ x)) (sws : ∀ x ∈ ws', x ∈ sf) {g : JFrame} (hg : g.method = m) (hsize : g.locals.size = c.maxLocals) (hlen : ∀ sig, parseMethodDescriptor y.desc = some sig → argsL.length = sig.parameters.length) (hstack : g.stack = argsL.reverse ++ .ref a :: rest) (hW : 2 * g.monitorRoom + (rest.map fun v => v.category).sum ≤ Wd)
    (hd : decode c.code g.pc = .ok (.invokespecial index, 3)) (k : ∀ T' h' v, Wk p l e R s m args below meth c Z EL n0 ws own sf T' (cells + kk) (slots + nn) h' → Keep h h' ws' → Qv v h' → Go p e below Q (T'.setTop { g with pc := g.pc + 3, stack := v.toList ++ rest })) : Go p e below Q (T.setTop g) := by
  obtain ⟨vm0, locs, k0, X, eT, hS, hk, hZ, hown, hC, N, K, Ol, Fs⟩ := W
  obtain ⟨v, vm₁, ⟨U, Lb, kb, nb⟩, hw, X', ⟨L, q, e1, e2, e3⟩, st⟩ := X.specialBack hx hy1 hown (mvT (s := s.setVm vm0) hZ w1) (mvT (s := s.setVm vm0) hZ w2) (mvT (s := s.setVm vm0) hZ w4) hy (hK (s.setVm vm0) hZ) hg hsize (Steps.refl _) hlen hstack hW hd (fun _ _ => ⟨rfl, eT, hc, hsl⟩)
  dsimp only [Pt.U, Pt.locs, Pt.cells, Pt.slots] at X' q e1 e2 e3 st
  subst e1 e2 e3
  obtain ⟨N', K', q'⟩ := hq _ _ _ q
  exact Go.on st (k U U.heap v (wk_keep X' rfl K' gws sws hS hk hZ hown hC (N.app N') K Ol Fs) K' q')
theorem Wk.virtB (W : Wk p l e R s m args below meth c Z EL n0 ws own sf T cells slots h) (hx : p.tables.exec = Jvm.exec) {index : Nat} {C : String} (w1 : (Cond.methodLink own index y).before a0 Z = true) (w2 : (Cond.declares y).before a0 Z = true) (w5 : (Cond.selects C y y).before a0 Z = true) (w6 : (Cond.instanceMethod y).before a0 Z = true)
    (hy : y.cls ≠ "java/lang/invoke/MethodHandle" ∧ y.cls ≠ "java/lang/invoke/VarHandle") (Ea : Exa Z h a C) {argsL rest : List Value} {Wd : Nat} (hK : ∀ s' : State, Z.Warmed39 s'.vm → Back l R p e below s' args y 3 Wd (fun A as => as = (.ref a :: argsL).toArray ∧ A.U.heap = h ∧ A.cells + kk ≤ R.cells ∧ A.slots + nn ≤ R.slots) (fun A _ v B => ∃ L, Q1 v B.U.heap L ∧ B.locs = A.locs ++ L ∧ B.cells = A.cells + kk ∧ B.slots = A.slots + nn))
    (hq : ∀ v h' L, Q1 v h' L → Fr n0 L ∧ Keep h h' ws' ∧ Qv v h') (hc : cells + kk ≤ R.cells) (hsl : slots + nn ≤ R.slots)
    (gws : ∀ x ∈ ws', n0 ≤ x ∧ (x ∈ ws ∨ s.heap.size ≤ x)) (sws : ∀ x ∈ ws', x ∈ sf) {g : JFrame} (hg : g.method = m) (hsize : g.locals.size = c.maxLocals) (hlen : ∀ sig, parseMethodDescriptor y.desc = some sig → argsL.length = sig.parameters.length) (hstack : g.stack = argsL.reverse ++ .ref a :: rest) (hW : 2 * g.monitorRoom + (rest.map fun v => v.category).sum ≤ Wd)
    (hd : decode c.code g.pc = .ok (.invokevirtual index, 3)) (k : ∀ T' h' v, Wk p l e R s m args below meth c Z EL n0 ws own sf T' (cells + kk) (slots + nn) h' → Keep h h' ws' → Qv v h' → Go p e below Q (T'.setTop { g with pc := g.pc + 3, stack := v.toList ++ rest })) : Go p e below Q (T.setTop g) := by
  obtain ⟨vm0, locs, k0, X, eT, hS, hk, hZ, hown, hC, N, K, Ol, Fs⟩ := W
  obtain ⟨cB, kB, qa, qb, qc⟩ := isOf (s := s.setVm vm0) hZ eT Ea
  obtain ⟨v, vm₁, ⟨U, Lb, kb, nb⟩, hw, X', ⟨L, q, e1, e2, e3⟩, st⟩ := X.virtualBack hx (z := y) hown (mvT (s := s.setVm vm0) hZ w1) (mvT (s := s.setVm vm0) hZ w2) (notFace_of_selects (args := #[]) (mvT (s := s.setVm vm0) hZ w5)) (mvT (s := s.setVm vm0) hZ w5) (mvT (s := s.setVm vm0) hZ w6) hy (hK (s.setVm vm0) hZ) qa qc hg hsize (Steps.refl _) hlen hstack hW hd (fun _ _ => ⟨rfl, eT, hc, hsl⟩)
  dsimp only [Pt.U, Pt.locs, Pt.cells, Pt.slots] at X' q e1 e2 e3 st
  subst e1 e2 e3
  obtain ⟨N', K', q'⟩ := hq _ _ _ q
  exact Go.on st (k U U.heap v (wk_keep X' rfl K' gws sws hS hk hZ hown hC (N.app N') K Ol Fs) K' q')
theorem Wk.cp (W : Wk p l e R s m args below meth c Z EL n0 ws own sf T cells slots h) (hx : p.tables.exec = Jvm.exec) {index : Nat} (w1 : (Cond.methodLink own index Jvm.Stand.acN).before a0 Z = true) (w2 : (Cond.native Jvm.Stand.acN).before a0 Z = true) (w3 : (Cond.static Jvm.Stand.acN).before a0 Z = true) (w4 : (Cond.initialized "java/lang/System").before a0 Z = true)
    {k1 k2 : ClassId} {ty : FieldType} {z z' sp dp nn : Int32} {vs vd us : List Value} {dv dd : Value} (A : Arv Z h a k1 ty z vs dv) (B : Arv Z h b k2 ty z' vd dd) (hty : refKind ty = false) (h1 : ¬ sp < 0) (h2 : ¬ dp < 0) (h3 : ¬ nn < 0) (h4 : sp.toNatClampNeg + nn.toNatClampNeg ≤ z.toNatClampNeg) (h5 : dp.toNatClampNeg + nn.toNatClampNeg ≤ z'.toNatClampNeg)
    (hus : us = (List.range nn.toNatClampNeg).map fun i => vs.getD (sp.toNatClampNeg + i) dv) (hl : dp.toNatClampNeg + nn.toNatClampNeg ≤ vd.length) (ga : n0 ≤ b) (gw : b ∈ ws ∨ s.heap.size ≤ b) (sb : b ∈ sf)
    {g : JFrame} (hg : g.method = m) (hsize : g.locals.size = c.maxLocals) {rest : List Value} (hs : g.stack = .int nn :: .int dp :: .ref b :: .int sp :: .ref a :: rest) (hd : decode c.code g.pc = .ok (.invokestatic index, 3))
    (hf : 1 ≤ R.frames) {Wd : Nat} (hW : 2 * g.monitorRoom + (rest.map fun v => v.category).sum ≤ Wd) (hlo : Wd + (nativeFrameWords "java/lang/System" "arraycopy" 5 + 11) ≤ R.locals)
    (k : ∀ T' h', Wk p l e R s m args below meth c Z EL n0 ws own sf T' cells slots h' → Keep h h' [b] → Arv Z h' b k2 ty z' (vd.take dp.toNatClampNeg ++ us ++ vd.drop (dp.toNatClampNeg + nn.toNatClampNeg)) dd → Go p e below Q (T'.setTop { g with pc := g.pc + 3, stack := rest })) : Go p e below Q (T.setTop g) := by
  obtain ⟨vm0, locs, k0, X, eT, hS, hk, hZ, hown, hC, N, K, Ol, Fs⟩ := W
  obtain ⟨T', h', L, X', e', N', K', A', st⟩ := RoadKit.cpA X hx hZ hown w1 w2 w3 w4 eT A B (Or.inl ⟨rfl, hty⟩) h1 h2 h3 h4 h5 hus hl N ga hg hsize hs hd hf hW hlo
  exact Go.of st (k T' h' (wk_keep X' e' K' (allS ⟨ga, gw⟩ all0) (allS sb all0) hS hk hZ hown hC N' K Ol Fs) K' A')
theorem Wk.aaload (W : Wk p l e R s m args below meth c Z EL n0 ws own sf T cells slots h) (hx : p.tables.exec = Jvm.exec) {kc : ClassId} {ty : FieldType} {z j : Int32} {vs : List Value} {dv : Value} (V : Arv Z h a kc ty z vs dv) (hty : ty.isReference = true) (hj : ¬ j < 0 ∧ j < z) (hv : vs.getD j.toNatClampNeg dv = v)
    {g : JFrame} (hg : g.method = m) {rest : List Value} (hs : g.stack = .int j :: .ref a :: rest) (hd : decode c.code g.pc = .ok (.aaload, 1)) (k : Go p e below Q (T.setTop { g with pc := g.pc + 1, stack := v :: rest })) : Go p e below Q (T.setTop g) := by
  obtain ⟨vm0, locs, k0, X, eT, hS, hk, hZ, hown, r⟩ := W
  obtain ⟨cl, A, q1, S1, q3, H, G⟩ := V
  exact Go.of (fun t q => X.aaload hx (by rw [eT]; exact A.1) (State.isArrayOf_alike hZ.alike A.2.1) hty A.2.2 (inb_of S1 hj) (H.at (inb_of S1 hj) hv) hg hs hd t q) k
theorem Wk.cloneV (W : Wk p l e R s m args below meth c Z EL n0 ws own sf T cells slots h) (hx : p.tables.exec = Jvm.exec) {ad : String} {index : Nat} (w1 : (Cond.methodLink own index ⟨ad, "clone", "()Ljava/lang/Object;"⟩).before a0 Z = true) (w2 : (Cond.sameMethod ad "java/lang/Object" "clone" "()Ljava/lang/Object;").before a0 Z = true) (w3 : (Cond.native ⟨"java/lang/Object", "clone", "()Ljava/lang/Object;"⟩).before a0 Z = true)
    (w4 : (Cond.instanceMethod ⟨"java/lang/Object", "clone", "()Ljava/lang/Object;"⟩).before a0 Z = true) (w5 : (Cond.selects ad ⟨ad, "clone", "()Ljava/lang/Object;"⟩ ⟨"java/lang/Object", "clone", "()Ljava/lang/Object;"⟩).before a0 Z = true) (w6 : (Cond.castable ad "java/lang/Cloneable").before a0 Z = true)
    {kc : ClassId} {ty : FieldType} {z : Int32} {vs : List Value} {dv : Value} (V : Arv Z h a kc ty z vs dv) (E : Exa Z h a ad) (F : ∀ cl : Cell, Arr Z h a cl ty → FitC Z cl) {g : JFrame} (hg : g.method = m) (hsize : g.locals.size = c.maxLocals) {rest : List Value} (hs : g.stack = .ref a :: rest) (hd : decode c.code g.pc = .ok (.invokevirtual index, 3))
    (hf : 1 ≤ R.frames) {Wd cap : Nat} (hW : 2 * g.monitorRoom + (rest.map fun v => v.category).sum ≤ Wd) (hl : Wd + 14 ≤ R.locals) (hcap : z.toNatClampNeg ≤ cap) (hc : cells + 1 ≤ R.cells) (hsl : slots + cap ≤ R.slots)
    (k : ∀ T' h' b, b = h.size → n0 ≤ b ∧ s.heap.size ≤ b → Wk p l e R s m args below meth c Z EL n0 ws own (b :: sf) T' (cells + 1) (slots + cap) h' → Keep h h' [] → Arv Z h' b kc ty z vs dv → Exa Z h' b ad → Go p e below Q (T'.setTop { g with pc := g.pc + 3, stack := .ref b :: rest })) : Go p e below Q (T.setTop g) := by
  have hle := W.n0le
  have hle' := W.s0le
  obtain ⟨vm0, locs, k0, X, eT, hS, hk, hZ, hown, hC, N, K, O, Fs⟩ := W
  obtain ⟨cl, A, q1, S1, q3, H, G⟩ := V
  obtain ⟨T', h', X', e', Ex, A', E', st⟩ := RoadKit.cloneA X hx hZ hown w1 w2 w3 w4 w5 w6 eT A E (F cl A) hg hsize hs hd hf hW hl (by rw [S1]; exact hcap) hc hsl
  exact Go.of st (k T' h' h.size rfl ⟨hle, hle'⟩ (wk_new X' e' Ex A'.lt hS hk hZ hown hC N K O Fs) ((Keep.refl h []).ext Ex) ⟨cloneOf cl, A', q1, S1, q3, H, G⟩ E')
theorem ne_of_born {h h1 : Heap} (hb : h.size ≤ b) (hlt : a < h1.size) (hle : h1.size ≤ h.size) : a ≠ b := Nat.ne_of_lt (Nat.lt_of_lt_of_le hlt (Nat.le_trans hle hb))
theorem nin1 (q : a ≠ b) : a ∉ [b] := ninS q nin0
theorem all1 {P : Addr → Prop} (q : P a) : ∀ x ∈ [a], P x := allS q all0
theorem all0i {P : Int32 → Prop} : ∀ x ∈ ([] : List Int32), P x := fun _ q => nomatch q
theorem allSi {P : Int32 → Prop} {y : Int32} {L : List Int32} (q : P y) (r : ∀ x ∈ L, P x) : ∀ x ∈ y :: L, P x := fun x z => (List.mem_cons.mp z).elim (fun u => u ▸ q) (r x)
theorem fin256 {P : Int32 → Prop} (t : ∀ k : Fin 256, P (Int32.ofNat k.val)) {q : Int32} (hq : ¬ q < 0 ∧ ¬ (255 : Int32) < q) : P q := by
  have h0 : ¬ q.toInt < 0 := fun z => hq.1 (by rw [Int32.lt_iff_toInt_lt]; exact z)
  have h1 : ¬ 255 < q.toInt := fun z => hq.2 (by rw [Int32.lt_iff_toInt_lt]; exact z)
  have e : q = Int32.ofNat q.toInt.toNat := by
    apply Int32.toInt_inj.mp
    rw [Int32.toInt_ofNat_of_lt (by omega)]
    omega
  rw [e]
  exact t ⟨q.toInt.toNat, by omega⟩
theorem and255 (x : Int32) : ¬ (x &&& (255 : Int32)) < 0 ∧ ¬ (255 : Int32) < (x &&& (255 : Int32)) := by
  have t : ∀ k : Fin 256, ¬ (Int32.ofNat k.val) < 0 ∧ ¬ (255 : Int32) < (Int32.ofNat k.val) := by decide +kernel
  have h : (x &&& 255).toBitVec.toNat < 256 := by
    simp only [Int32.toBitVec_and, BitVec.toNat_and]
    exact Nat.lt_succ_of_le Nat.and_le_right
  have e : (x &&& 255) = Int32.ofNat (x &&& 255).toBitVec.toNat := by
    apply Int32.toBitVec_inj.mp
    show _ = BitVec.ofNat 32 _
    rw [BitVec.ofNat_toNat]; simp
  rw [e]
  exact t ⟨_, h⟩
theorem snd255 {cs : List Int32} (h : ∀ c ∈ cs, ¬ c < 0 ∧ ¬ (255 : Int32) < c) : ∀ c ∈ cs, ¬ (255 : Int32) < c := fun c hc => (h c hc).2
theorem irr32 (x : Int32) : ¬ x < x := by rw [Int32.lt_iff_toInt_lt]; exact Int.lt_irrefl _
theorem char_id {q : Int32} (hq : ¬ q < 0 ∧ ¬ (255 : Int32) < q) : q.toUInt32.toUInt16.toUInt32.toInt32 = q := fin256 (P := fun q => q.toUInt32.toUInt16.toUInt32.toInt32 = q) (by decide +kernel) hq
theorem char255 (x : Int32) : ∃ q : Int32, (x &&& (255 : Int32)).toUInt32.toUInt16.toUInt32.toInt32 = q ∧ (¬ q < 0 ∧ ¬ (255 : Int32) < q) ∧ q = x &&& (255 : Int32) := ⟨x &&& 255, char_id (and255 x), and255 x, rfl⟩
theorem nar_char {q : Int32} (hq : ¬ q < 0 ∧ ¬ (255 : Int32) < q) : nar .char q = q := fin256 (P := fun q => nar .char q = q) (by decide +kernel) hq
theorem and1 (x : Int32) : (x &&& (1 : Int32)) = (0 : Int32) ∨ (x &&& (1 : Int32)) = (1 : Int32) := by
  have t : ∀ k : Fin 2, (Int32.ofNat k.val) = (0 : Int32) ∨ (Int32.ofNat k.val) = (1 : Int32) := by decide +kernel
  have h : (x &&& 1).toBitVec.toNat < 2 := by
    simp only [Int32.toBitVec_and, BitVec.toNat_and]
    exact Nat.lt_succ_of_le Nat.and_le_right
  have e : (x &&& 1) = Int32.ofNat (x &&& 1).toBitVec.toNat := by
    apply Int32.toBitVec_inj.mp
    show _ = BitVec.ofNat 32 _
    rw [BitVec.ofNat_toNat]; simp
  rw [e]
  exact t ⟨_, h⟩
theorem and3 (x : Int32) : (x &&& (3 : Int32)) = (0 : Int32) ∨ (x &&& (3 : Int32)) = (1 : Int32) ∨ (x &&& (3 : Int32)) = (2 : Int32) ∨ (x &&& (3 : Int32)) = (3 : Int32) := by
  have t : ∀ k : Fin 4, (Int32.ofNat k.val) = (0 : Int32) ∨ (Int32.ofNat k.val) = (1 : Int32) ∨ (Int32.ofNat k.val) = (2 : Int32) ∨ (Int32.ofNat k.val) = (3 : Int32) := by decide +kernel
  have h : (x &&& 3).toBitVec.toNat < 4 := by
    simp only [Int32.toBitVec_and, BitVec.toNat_and]
    exact Nat.lt_succ_of_le Nat.and_le_right
  have e : (x &&& 3) = Int32.ofNat (x &&& 3).toBitVec.toNat := by
    apply Int32.toBitVec_inj.mp
    show _ = BitVec.ofNat 32 _
    rw [BitVec.ofNat_toNat]; simp
  rw [e]
  exact t ⟨_, h⟩
theorem and7 (x : Int32) : (x &&& (7 : Int32)) = (0 : Int32) ∨ (x &&& (7 : Int32)) = (1 : Int32) ∨ (x &&& (7 : Int32)) = (2 : Int32) ∨ (x &&& (7 : Int32)) = (3 : Int32) ∨ (x &&& (7 : Int32)) = (4 : Int32) ∨ (x &&& (7 : Int32)) = (5 : Int32) ∨ (x &&& (7 : Int32)) = (6 : Int32) ∨ (x &&& (7 : Int32)) = (7 : Int32) := by
  have t : ∀ k : Fin 8, (Int32.ofNat k.val) = (0 : Int32) ∨ (Int32.ofNat k.val) = (1 : Int32) ∨ (Int32.ofNat k.val) = (2 : Int32) ∨ (Int32.ofNat k.val) = (3 : Int32) ∨ (Int32.ofNat k.val) = (4 : Int32) ∨ (Int32.ofNat k.val) = (5 : Int32) ∨ (Int32.ofNat k.val) = (6 : Int32) ∨ (Int32.ofNat k.val) = (7 : Int32) := by decide +kernel
  have h : (x &&& 7).toBitVec.toNat < 8 := by
    simp only [Int32.toBitVec_and, BitVec.toNat_and]
    exact Nat.lt_succ_of_le Nat.and_le_right
  have e : (x &&& 7) = Int32.ofNat (x &&& 7).toBitVec.toNat := by
    apply Int32.toBitVec_inj.mp
    show _ = BitVec.ofNat 32 _
    rw [BitVec.ofNat_toNat]; simp
  rw [e]
  exact t ⟨_, h⟩
theorem and3_cap (x : Int32) : ¬ (x &&& (3 : Int32)) < 0 ∧ (x &&& (3 : Int32)).toNatClampNeg ≤ 3 := by
  rcases and3 x with e | e | e | e <;> rw [e] <;> decide
theorem nar_byte (x : Int32) : nar .byte (x.toInt8.toInt32) = x.toInt8.toInt32 := by
  show x.toInt8.toInt32.toInt8.toInt32 = x.toInt8.toInt32
  simp
theorem ne_tys {c1 c2 : Cell} {t1 t2 : FieldType} (F : Arr Z h a c1 t1) (G : Arr Z h b c2 t2) (hn : t1 ≠ t2) : a ≠ b := fun q => by
  subst q
  cases F.1.symm.trans G.1
  obtain ⟨-, k1, e1, p1, r1⟩ := F.2.1
  obtain ⟨-, k2, e2, p2, r2⟩ := G.2.1
  cases e1.symm.trans e2
  cases r1.symm.trans r2
  exact hn rfl
end OwnKit
end Jvm.Pilot.@@N@@
namespace Jvm.Pilot.@@N@@
open Jvm Jvm.ClassFile Sem Op Lib Jvm.Free Jvm.Stand Jvm.LawKit Jvm.RoadKit Bundle Jvm.Pilot.@@N@@.Jvm.D
section OwnStr
variable {p : Program} {l : Launch} {e : Env} {R : Room} {s : State} {m : MethodId} {args : Array Value} {below : List Frame} {meth : Method} {c : Code} {T T' : State} {locs : List Loc} {cells slots : Nat} {Z : State} {a0 : Array Value} {h h' : Heap} {EL : List (String × Nat)} {n0 k0 : Nat} {ws ws' sf : List Addr} {own : String} {Q : Outcome → State → Prop} {a b x : Addr} {v : Value} {sl : Nat}
variable {y : MethodName} {bytes : ByteArray} {maxL : Nat} {zc : Int32} {cs ds : List Int32} {kC : ClassId} {N : Int32} {d : Value} {n : Nat} {v0 c0 : Value} {index : Nat} {Wd : Nat} {g : JFrame} {rest : List Value}
/-- a String at x that spells cs -/
def Str (Z : State) (h : Heap) (x : Addr) (cs : List Int32) : Prop := ∃ (t : Addr) (kb : ClassId) (cd N2 : Int32) (vs : List Value), Exa Z h x "java/lang/String" ∧ Fld Z h x "java/lang/String" "value" "[B" (.ref t) ∧ Fld Z h x "java/lang/String" "coder" "B" (.int cd) ∧ Arv Z h t kb .byte N2 vs (.int 0) ∧ StrChars.Road.CodA cs cd N2 vs ∧ (∀ c ∈ cs, ¬ c < 0 ∧ ¬ (65535 : Int32) < c) ∧ cs.length ≤ 4000
theorem Str.exa (S : Str Z h x cs) : Exa Z h x "java/lang/String" := by
  obtain ⟨_, _, _, _, _, E, _⟩ := S
  exact E
theorem Str.keep0 (S : Str Z h x cs) (K : Keep h h' []) : Str Z h' x cs := by
  obtain ⟨t, kb, cd, N2, vs, E, V, C, A, r⟩ := S
  exact ⟨t, kb, cd, N2, vs, E.keep K, V.keep K nin0, C.keep K nin0, A.keep K nin0, r⟩
theorem Str.ext (S : Str Z h x cs) (E : Ext h h') : Str Z h' x cs := S.keep0 ((Keep.refl h []).ext E)
/-- carried over a step that may have written the one object b, no String of hers and no array -/
theorem Str.keepE {C : String} {kI : Nat} (S : Str Z h x cs) (K : Keep h h' [b]) (Eb : Exa Z h b C) (wi : (Cond.instantiable C kI).before a0 Z = true) (hne : x ≠ b) : Str Z h' x cs := by
  obtain ⟨t, kb, cd, N2, vs, E, V, D, A, r⟩ := S
  have ht : t ≠ b := by
    obtain ⟨cl, A1, -⟩ := A
    exact (ne_arr Eb wi A1).symm
  exact ⟨t, kb, cd, N2, vs, E.keep K, V.keep K (nin1 hne), D.keep K (nin1 hne), A.keep K (nin1 ht), r⟩
theorem Str.keepC {C : String} {kI : Nat} (S : Str Z h x cs) (K : Keep h h' [b]) (Eb : Exa Z h b C) (wi : (Cond.instantiable C kI).before a0 Z = true) (hC : "java/lang/String" ≠ C) : Str Z h' x cs := S.keepE K Eb wi (ne_exa S.exa Eb hC)
/-- carried over a step that may have written one array of another kind than byte -/
theorem Str.keepA {kc : ClassId} {ty : FieldType} {z : Int32} {vs : List Value} {dv : Value} (S : Str Z h x cs) (K : Keep h h' [b]) (V : Arv Z h b kc ty z vs dv) (wi : (Cond.instantiable "java/lang/String" 4).before a0 Z = true) (ht : ∀ t : Addr, t < h.size → ∀ (kb : ClassId) (N2 : Int32) (us : List Value), Arv Z h t kb .byte N2 us (.int 0) → t ≠ b) : Str Z h' x cs := by
  obtain ⟨t, kb, cd, N2, us, E, V1, D, A, r⟩ := S
  have hx : x ≠ b := by
    obtain ⟨cl, A1, -⟩ := V
    exact ne_arr E wi A1
  have ht := ht t A.lt kb N2 us A
  exact ⟨t, kb, cd, N2, us, E.keep K, V1.keep K (nin1 hx), D.keep K (nin1 hx), A.keep K (nin1 ht), r⟩
theorem Str.keepT {kc : ClassId} {ty : FieldType} {z : Int32} {vs : List Value} {dv : Value} (S : Str Z h x cs) (K : Keep h h' [b]) (V : Arv Z h b kc ty z vs dv) (wi : (Cond.instantiable "java/lang/String" 4).before a0 Z = true) (ht : FieldType.byte ≠ ty) : Str Z h' x cs :=
  S.keepA K V wi fun t _ kb N2 us A => by
    obtain ⟨c1, A1, -⟩ := A
    obtain ⟨c2, A2, -⟩ := V
    exact ne_tys A1 A2 ht
theorem Str.open_ (S : Str Z h x cs) (hlat : ∀ c ∈ cs, ¬ (255 : Int32) < c) : ∃ (t : Addr) (kb : ClassId), Exa Z h x "java/lang/String" ∧ Fld Z h x "java/lang/String" "value" "[B" (.ref t) ∧ Fld Z h x "java/lang/String" "coder" "B" (.int 0) ∧ Arv Z h t kb .byte (Int32.ofNat cs.length) (cs.map fun c => Value.int (StrChars.lo8 c)) (.int 0) := by
  obtain ⟨t, kb, cd, N2, vs, E, V, C, A, hc, -, -⟩ := S
  rcases hc with ⟨rfl, rfl, rfl, -⟩ | ⟨-, -, -, c, hc, hw⟩
  · exact ⟨t, kb, E, V, C, A⟩
  · exact absurd hw (hlat c hc)
theorem up255 (h : ∀ c ∈ cs, ¬ c < 0 ∧ ¬ (255 : Int32) < c) : ∀ c ∈ cs, ¬ c < 0 ∧ ¬ (65535 : Int32) < c := fun c hc => ⟨(h c hc).1, fun q => (h c hc).2 (by rw [Int32.lt_iff_toInt_lt] at q ⊢; have e1 : (65535 : Int32).toInt = 65535 := rfl; have e2 : (255 : Int32).toInt = 255 := rfl; omega)⟩
theorem pdChars : parseMethodDescriptor "([C)V" = some ⟨[.array .char], none⟩ := by decide +kernel
theorem Wk.newStr (W : Wk p l e R s m args below meth c Z EL n0 ws own sf T cells slots h) (hx : p.tables.exec = Jvm.exec) (hws : ∀ d ∈ StrChars.Road.words, d.before a0 Z = true) (wi : (Cond.instantiable "java/lang/String" 4).before a0 Z = true) (SC : Sta Z Z.heap "java/lang/String" "COMPACT_STRINGS" "Z" (.int zc)) (hz : ¬ zc = 0)
    (w1 : (Cond.methodLink own index ⟨"java/lang/String", "<init>", "([C)V"⟩).before a0 Z = true) (w2 : (Cond.instanceMethod ⟨"java/lang/String", "<init>", "([C)V"⟩).before a0 Z = true) (w4 : (Cond.code ⟨"java/lang/String", "<init>", "([C)V"⟩ bytes maxL none).before a0 Z = true)
    (Ex : Exa Z h x "java/lang/String") (V : Fld Z h x "java/lang/String" "value" "[B" v0) (C : Fld Z h x "java/lang/String" "coder" "B" c0) (A : Arv Z h b kC .char N (cs.map Value.int) d) (hn : cs.length = n) (hN : N = Int32.ofNat n) (l0 : 0 < n) (l2 : n ≤ 4000) (hp : ∀ c ∈ cs, ¬ c < 0 ∧ ¬ (255 : Int32) < c) (gx : n0 ≤ x) (gw : x ∈ ws ∨ s.heap.size ≤ x) (sx : x ∈ sf)
    (hfr : 4 ≤ R.frames) (hlo : Wd + 65 ≤ R.locals) (hc : cells + 1 ≤ R.cells) (hsl : slots + n ≤ R.slots) (hg : g.method = m) (hsize : g.locals.size = c.maxLocals) (hstack : g.stack = .ref b :: .ref x :: rest) (hW : 2 * g.monitorRoom + (rest.map fun v => v.category).sum ≤ Wd) (hd : decode c.code g.pc = .ok (.invokespecial index, 3))
    (k : ∀ T' h', Wk p l e R s m args below meth c Z EL n0 ws own sf T' (cells + 1) (slots + n) h' → Keep h h' [x] → Str Z h' x cs → Go p e below Q (T'.setTop { g with pc := g.pc + 3, stack := rest })) : Go p e below Q (T.setTop g) := by
  have hle := W.n0le
  have hO := W.old
  refine W.specB hx (y := ⟨"java/lang/String", "<init>", "([C)V"⟩) rfl w1 w2 w4 (by decide) (kk := 1) (nn := n) (ws' := [x]) (a := x) (Qv := fun v h' => v = none ∧ Str Z h' x cs) (Q1 := fun v h' L => StrChars.Road.QV Z x N (cs.map fun c => c.toInt8.toInt32) h n0 v h' L) (argsL := [.ref b]) (rest := rest) (Wd := Wd)
    (fun s' hZ' => StrChars.Road.backV (W := Wd) hZ' hws wi gx hle Ex V C A (SC.ext hO.2) hz hn hN l0 l2 hp rfl hfr hlo) (fun v h' L q => ?_) hc hsl (all1 ⟨gx, gw⟩) (all1 sx) hg hsize (lenOf pdChars rfl) hstack hW hd (fun T' h' v W' K' q => ?_)
  · obtain ⟨rfl, q1, q2, q3, q4, t, kb, -, -, -, q5, q6⟩ := q
    refine ⟨q1, q2, rfl, t, kb, 0, N, _, q3, q5, q4, q6, ?_, up255 hp, by omega⟩
    subst hN
    exact StrChars.Road.codOf hn (fun c hc => (hp c hc).2)
  · obtain ⟨rfl, S⟩ := q
    exact k T' h' W' K' S
end OwnStr
end Jvm.Pilot.@@N@@
namespace Jvm.Pilot.@@N@@
open Jvm Jvm.ClassFile Sem Op Lib Jvm.Free Jvm.Stand Jvm.LawKit Jvm.RoadKit Bundle Jvm.Pilot.@@N@@.Jvm.D
section OwnStrMore
variable {p : Program} {l : Launch} {e : Env} {R : Room} {s : State} {m : MethodId} {args : Array Value} {below : List Frame} {meth : Method} {c : Code} {T T' : State} {cells slots : Nat} {Z : State} {a0 : Array Value} {h h' : Heap} {EL : List (String × Nat)} {n0 : Nat} {ws sf : List Addr} {own : String} {Q : Outcome → State → Prop} {a b x y : Addr}
variable {zc : Int32} {cs ds : List Int32} {n : Nat} {index : Nat} {Wd : Nat} {g : JFrame} {rest : List Value} {fm : Value}
theorem pdStrLen : parseMethodDescriptor "()I" = some ⟨[], some .int⟩ := by decide +kernel
theorem Wk.strLen (W : Wk p l e R s m args below meth c Z EL n0 ws own sf T cells slots h) (hx : p.tables.exec = Jvm.exec) (hsw : ∀ d ∈ StrChars.Road.wordsLen, d.before a0 Z = true) (wi : (Cond.instantiable "java/lang/String" 4).before a0 Z = true) (SC : Sta Z Z.heap "java/lang/String" "COMPACT_STRINGS" "Z" (.int zc)) (hz : ¬ zc = 0) (S : Str Z h x cs)
    (w1 : (Cond.methodLink own index ⟨"java/lang/String", "length", "()I"⟩).before a0 Z = true) (w2 : (Cond.declares ⟨"java/lang/String", "length", "()I"⟩).before a0 Z = true) (w5 : (Cond.selects "java/lang/String" ⟨"java/lang/String", "length", "()I"⟩ ⟨"java/lang/String", "length", "()I"⟩).before a0 Z = true) (w6 : (Cond.instanceMethod ⟨"java/lang/String", "length", "()I"⟩).before a0 Z = true)
    (hfr : 2 ≤ R.frames) (hlo : Wd + 25 ≤ R.locals) (hc : cells ≤ R.cells) (hsl : slots ≤ R.slots) (hg : g.method = m) (hsize : g.locals.size = c.maxLocals) (hstack : g.stack = .ref x :: rest) (hW : 2 * g.monitorRoom + (rest.map fun v => v.category).sum ≤ Wd) (hd : decode c.code g.pc = .ok (.invokevirtual index, 3))
    (k : ∀ T', Wk p l e R s m args below meth c Z EL n0 ws own sf T' cells slots h → Go p e below Q (T'.setTop { g with pc := g.pc + 3, stack := (.int (Int32.ofNat cs.length)) :: rest })) : Go p e below Q (T.setTop g) := by
  have hO := W.old
  have hEx := S.exa
  obtain ⟨t, kb, cd, N2, vs, E1, V1, C1, A1, hcd, hbd, hln⟩ := S
  refine W.virtB hx w1 w2 w5 w6 (by decide) hEx (kk := 0) (nn := 0) (ws' := []) (Qv := fun v h' => v = some (.int (Int32.ofNat cs.length)) ∧ h = h') (Q1 := fun v h' L => v = some (.int (Int32.ofNat cs.length)) ∧ L = [] ∧ h' = h) (argsL := []) (rest := rest) (Wd := Wd)
    (fun s' hZ' => StrChars.Road.lenW (W := Wd) hZ' hsw wi E1 V1 C1 A1 hcd hbd (SC.ext hO.2) hz hln hfr hlo) (fun v h' L q => ?_) hc hsl all0 all0 hg hsize (lenOf pdStrLen rfl) hstack hW hd (fun T' h' v W' K' q => ?_)
  · obtain ⟨q1, rfl, rfl⟩ := q
    exact ⟨Fr.nil n0, Keep.refl _ _, q1, rfl⟩
  · obtain ⟨q1, rfl⟩ := q
    subst q1
    exact k T' W'
end OwnStrMore
end Jvm.Pilot.@@N@@
namespace Jvm.Pilot.@@N@@
open Jvm Jvm.ClassFile Sem Op Lib Jvm.Free Jvm.Stand Jvm.LawKit Jvm.RoadKit Bundle Jvm.Pilot.@@N@@.Jvm.D
section OwnStrMore
variable {p : Program} {l : Launch} {e : Env} {R : Room} {s : State} {m : MethodId} {args : Array Value} {below : List Frame} {meth : Method} {c : Code} {T T' : State} {cells slots : Nat} {Z : State} {a0 : Array Value} {h h' : Heap} {EL : List (String × Nat)} {n0 : Nat} {ws sf : List Addr} {own : String} {Q : Outcome → State → Prop} {a b x y : Addr}
variable {zc : Int32} {cs ds : List Int32} {n : Nat} {index : Nat} {Wd : Nat} {g : JFrame} {rest : List Value} {fm : Value}
theorem lat0 {cd N2 : Int32} {vs : List Value} {i : Nat} (hlat : ∀ c ∈ cs, ¬ (255 : Int32) < c) (hc : StrChars.Road.CodA cs cd N2 vs) (hi : i < cs.length) : cd = 0 := by
  rcases hc with ⟨h1, -⟩ | ⟨-, -, -, c, hc, hw⟩
  · exact h1
  · exact absurd hw (hlat c hc)
theorem pdStrChar : parseMethodDescriptor "(I)C" = some ⟨[.int], some .char⟩ := by decide +kernel
theorem Wk.strChar (W : Wk p l e R s m args below meth c Z EL n0 ws own sf T cells slots h) (hx : p.tables.exec = Jvm.exec) (hsw : ∀ d ∈ StrChars.Road.wordsChN, d.before a0 Z = true) (wi : (Cond.instantiable "java/lang/String" 4).before a0 Z = true) (SC : Sta Z Z.heap "java/lang/String" "COMPACT_STRINGS" "Z" (.int zc)) (hz : ¬ zc = 0) (SF : Sta Z Z.heap "jdk/internal/util/Preconditions" "SIOOBE_FORMATTER" "Ljava/util/function/BiFunction;" fm) (rf : fm.isRef = true) (S : Str Z h x cs) (hlat : ∀ c ∈ cs, ¬ (255 : Int32) < c) {i : Nat} {j : Int32} (hi : i < cs.length) (hj : j = Int32.ofNat i)
    (w1 : (Cond.methodLink own index ⟨"java/lang/String", "charAt", "(I)C"⟩).before a0 Z = true) (w2 : (Cond.declares ⟨"java/lang/String", "charAt", "(I)C"⟩).before a0 Z = true) (w5 : (Cond.selects "java/lang/String" ⟨"java/lang/String", "charAt", "(I)C"⟩ ⟨"java/lang/String", "charAt", "(I)C"⟩).before a0 Z = true) (w6 : (Cond.instanceMethod ⟨"java/lang/String", "charAt", "(I)C"⟩).before a0 Z = true)
    (hfr : 4 ≤ R.frames) (hlo : Wd + 53 ≤ R.locals) (hc : cells ≤ R.cells) (hsl : slots ≤ R.slots) (hg : g.method = m) (hsize : g.locals.size = c.maxLocals) (hstack : g.stack = .int j :: .ref x :: rest) (hW : 2 * g.monitorRoom + (rest.map fun v => v.category).sum ≤ Wd) (hd : decode c.code g.pc = .ok (.invokevirtual index, 3))
    (k : ∀ T', Wk p l e R s m args below meth c Z EL n0 ws own sf T' cells slots h → Go p e below Q (T'.setTop { g with pc := g.pc + 3, stack := (.int (cs.getD i 0)) :: rest })) : Go p e below Q (T.setTop g) := by
  have hO := W.old
  have hEx := S.exa
  obtain ⟨t, kb, cd, N2, vs, E1, V1, C1, A1, hcd, hbd, hln⟩ := S
  obtain rfl : cd = 0 := lat0 hlat hcd hi
  refine W.virtB hx w1 w2 w5 w6 (by decide) hEx (kk := 0) (nn := 0) (ws' := []) (Qv := fun v h' => v = some (.int (cs.getD i 0)) ∧ h = h') (Q1 := fun v h' L => v = some (.int (cs.getD i 0)) ∧ L = [] ∧ h' = h) (argsL := [.int j]) (rest := rest) (Wd := Wd)
    (fun s' hZ' => StrChars.Road.chN (W := Wd) (i := i) (j := j) hZ' hsw wi E1 V1 C1 A1 hcd hbd (SC.ext hO.2) hz (SF.ext hO.2) rf hln hi hj hfr hlo) (fun v h' L q => ?_) hc hsl all0 all0 hg hsize (lenOf pdStrChar rfl) hstack hW hd (fun T' h' v W' K' q => ?_)
  · obtain ⟨q1, rfl, rfl⟩ := q
    exact ⟨Fr.nil n0, Keep.refl _ _, q1, rfl⟩
  · obtain ⟨q1, rfl⟩ := q
    subst q1
    exact k T' W'
end OwnStrMore
end Jvm.Pilot.@@N@@
namespace Jvm.Pilot.@@N@@
open Jvm Jvm.ClassFile Sem Op Lib Jvm.Free Jvm.Stand Jvm.LawKit Jvm.RoadKit Bundle Jvm.Pilot.@@N@@.Jvm.D
section OwnStrMore
variable {p : Program} {l : Launch} {e : Env} {R : Room} {s : State} {m : MethodId} {args : Array Value} {below : List Frame} {meth : Method} {c : Code} {T T' : State} {cells slots : Nat} {Z : State} {a0 : Array Value} {h h' : Heap} {EL : List (String × Nat)} {n0 : Nat} {ws sf : List Addr} {own : String} {Q : Outcome → State → Prop} {a b x y : Addr}
variable {zc : Int32} {cs ds : List Int32} {n : Nat} {index : Nat} {Wd : Nat} {g : JFrame} {rest : List Value} {fm : Value}
theorem pdStrEq : parseMethodDescriptor "(Ljava/lang/Object;)Z" = some ⟨[.object "java/lang/Object"], some .boolean⟩ := by decide +kernel
theorem Wk.strEq (W : Wk p l e R s m args below meth c Z EL n0 ws own sf T cells slots h) (hx : p.tables.exec = Jvm.exec) (hsw : ∀ d ∈ StrChars.Road.wordsEq, d.before a0 Z = true) (wi : (Cond.instantiable "java/lang/String" 4).before a0 Z = true) (SC : Sta Z Z.heap "java/lang/String" "COMPACT_STRINGS" "Z" (.int zc)) (hz : ¬ zc = 0) (S : Str Z h x cs) (S' : Str Z h y ds)
    (w1 : (Cond.methodLink own index ⟨"java/lang/String", "equals", "(Ljava/lang/Object;)Z"⟩).before a0 Z = true) (w2 : (Cond.declares ⟨"java/lang/String", "equals", "(Ljava/lang/Object;)Z"⟩).before a0 Z = true) (w5 : (Cond.selects "java/lang/String" ⟨"java/lang/String", "equals", "(Ljava/lang/Object;)Z"⟩ ⟨"java/lang/String", "equals", "(Ljava/lang/Object;)Z"⟩).before a0 Z = true) (w6 : (Cond.instanceMethod ⟨"java/lang/String", "equals", "(Ljava/lang/Object;)Z"⟩).before a0 Z = true)
    (hfr : 2 ≤ R.frames) (hlo : Wd + 28 ≤ R.locals) (hc : cells ≤ R.cells) (hsl : slots ≤ R.slots) (hg : g.method = m) (hsize : g.locals.size = c.maxLocals) (hstack : g.stack = .ref y :: .ref x :: rest) (hW : 2 * g.monitorRoom + (rest.map fun v => v.category).sum ≤ Wd) (hd : decode c.code g.pc = .ok (.invokevirtual index, 3))
    (k : ∀ T' (r : Int32), (r = 1 ∧ cs = ds ∨ r = 0 ∧ ¬ cs = ds) → Wk p l e R s m args below meth c Z EL n0 ws own sf T' cells slots h → Go p e below Q (T'.setTop { g with pc := g.pc + 3, stack := .int r :: rest })) : Go p e below Q (T.setTop g) := by
  have hO := W.old
  have hEx := S.exa
  obtain ⟨t, kb, cd, N2, vs, E1, V1, C1, A1, hcd, hbd, hln⟩ := S
  obtain ⟨t', kb', cd', N2', vs', E1', V1', C1', A1', hcd', hbd', hln'⟩ := S'
  refine W.virtB hx w1 w2 w5 w6 (by decide) hEx (kk := 0) (nn := 0) (ws' := []) (Qv := fun v h' => ((v = some (.int 1) ∧ cs = ds) ∨ (v = some (.int 0) ∧ ¬ cs = ds)) ∧ h = h') (Q1 := fun v h' L => ((v = some (.int 1) ∧ cs = ds) ∨ (v = some (.int 0) ∧ ¬ cs = ds)) ∧ L = [] ∧ h' = h) (argsL := [.ref y]) (rest := rest) (Wd := Wd)
    (fun s' hZ' => StrChars.Road.eqW (W := Wd) hZ' hsw wi E1 V1 C1 A1 hcd hbd hln E1' V1' C1' A1' hcd' hbd' hln' (SC.ext hO.2) hz hfr hlo) (fun v h' L q => ?_) hc hsl all0 all0 hg hsize (lenOf pdStrEq rfl) hstack hW hd (fun T' h' v W' K' q => ?_)
  · obtain ⟨q1, rfl, rfl⟩ := q
    exact ⟨Fr.nil n0, Keep.refl _ _, q1, rfl⟩
  · obtain ⟨q1, rfl⟩ := q
    rcases q1 with ⟨rfl, q1⟩ | ⟨rfl, q1⟩
    · exact k T' 1 (Or.inl ⟨rfl, q1⟩) W'
    · exact k T' 0 (Or.inr ⟨rfl, q1⟩) W'
end OwnStrMore
end Jvm.Pilot.@@N@@
namespace Jvm.Pilot.@@N@@
open Jvm Jvm.ClassFile Sem Op Lib Jvm.Free Jvm.Stand Jvm.LawKit Jvm.RoadKit Bundle Jvm.Pilot.@@N@@.Jvm.D
section OwnStrMore
variable {p : Program} {l : Launch} {e : Env} {R : Room} {s : State} {m : MethodId} {args : Array Value} {below : List Frame} {meth : Method} {c : Code} {T T' : State} {cells slots : Nat} {Z : State} {a0 : Array Value} {h h' : Heap} {EL : List (String × Nat)} {n0 : Nat} {ws sf : List Addr} {own : String} {Q : Outcome → State → Prop} {a b x y : Addr}
variable {zc : Int32} {cs ds : List Int32} {n : Nat} {index : Nat} {Wd : Nat} {g : JFrame} {rest : List Value} {fm : Value}
theorem pdStrEmp : parseMethodDescriptor "()Z" = some ⟨[], some .boolean⟩ := by decide +kernel
theorem Wk.strEmp (W : Wk p l e R s m args below meth c Z EL n0 ws own sf T cells slots h) (hx : p.tables.exec = Jvm.exec) (hsw : ∀ d ∈ StrChars.Road.wordsEmp, d.before a0 Z = true) (wi : (Cond.instantiable "java/lang/String" 4).before a0 Z = true) (S : Str Z h x cs)
    (w1 : (Cond.methodLink own index ⟨"java/lang/String", "isEmpty", "()Z"⟩).before a0 Z = true) (w2 : (Cond.declares ⟨"java/lang/String", "isEmpty", "()Z"⟩).before a0 Z = true) (w5 : (Cond.selects "java/lang/String" ⟨"java/lang/String", "isEmpty", "()Z"⟩ ⟨"java/lang/String", "isEmpty", "()Z"⟩).before a0 Z = true) (w6 : (Cond.instanceMethod ⟨"java/lang/String", "isEmpty", "()Z"⟩).before a0 Z = true)
    (hfr : 1 ≤ R.frames) (hlo : Wd + 12 ≤ R.locals) (hc : cells ≤ R.cells) (hsl : slots ≤ R.slots) (hg : g.method = m) (hsize : g.locals.size = c.maxLocals) (hstack : g.stack = .ref x :: rest) (hW : 2 * g.monitorRoom + (rest.map fun v => v.category).sum ≤ Wd) (hd : decode c.code g.pc = .ok (.invokevirtual index, 3))
    (k : ∀ T', Wk p l e R s m args below meth c Z EL n0 ws own sf T' cells slots h → Go p e below Q (T'.setTop { g with pc := g.pc + 3, stack := (.int (if cs.length = 0 then 1 else 0)) :: rest })) : Go p e below Q (T.setTop g) := by
  have hO := W.old
  have hEx := S.exa
  obtain ⟨t, kb, cd, N2, vs, E1, V1, C1, A1, hcd, hbd, hln⟩ := S
  refine W.virtB hx w1 w2 w5 w6 (by decide) hEx (kk := 0) (nn := 0) (ws' := []) (Qv := fun v h' => v = some (.int (if cs.length = 0 then 1 else 0)) ∧ h = h') (Q1 := fun v h' L => v = some (.int (if cs.length = 0 then 1 else 0)) ∧ L = [] ∧ h' = h) (argsL := []) (rest := rest) (Wd := Wd)
    (fun s' hZ' => StrChars.Road.empW (W := Wd) hZ' hsw wi E1 V1 C1 A1 hcd hbd hln hfr hlo) (fun v h' L q => ?_) hc hsl all0 all0 hg hsize (lenOf pdStrEmp rfl) hstack hW hd (fun T' h' v W' K' q => ?_)
  · obtain ⟨q1, rfl, rfl⟩ := q
    exact ⟨Fr.nil n0, Keep.refl _ _, q1, rfl⟩
  · obtain ⟨q1, rfl⟩ := q
    subst q1
    exact k T' W'
end OwnStrMore
end Jvm.Pilot.@@N@@
namespace Jvm.Pilot.@@N@@
open Jvm Jvm.ClassFile Sem Op Lib Jvm.Free Jvm.Stand Jvm.LawKit Jvm.RoadKit Bundle Jvm.Pilot.@@N@@.Jvm.D
open Jvm.Free.XT (cmpL)
abbrev EL0 : List (String × Nat) := [("com/example/grantwork/grantwork/resources/Resource", 16), ("com/example/grantwork/grantwork/resources/Resource", 74)]
set_option maxRecDepth 65536 in
theorem sa_in : ∀ d ∈ Bundle.stringAtoms, d ∈ tables_1 := by decide +kernel
set_option maxRecDepth 65536 in
theorem ws_in : ∀ d ∈ StrChars.Road.words, d ∈ tables_1 := by decide +kernel
set_option maxRecDepth 65536 in
theorem ln_in : ∀ d ∈ StrChars.Road.wordsLen, d ∈ tables_1 := by decide +kernel
set_option maxRecDepth 65536 in
theorem ch_in : ∀ d ∈ StrChars.Road.wordsChN, d ∈ tables_1 := by decide +kernel
set_option maxRecDepth 65536 in
theorem eq_in : ∀ d ∈ StrChars.Road.wordsEq, d ∈ tables_1 := by decide +kernel
set_option maxRecDepth 65536 in
theorem em_in : ∀ d ∈ StrChars.Road.wordsEmp, d ∈ tables_1 := by decide +kernel
def idxC (c : Int32) : List Int32 → Int32 → Int32
  | [], _ => -1
  | x :: r, i => if x = c then i else idxC c r (i + 1)
theorem lo8_47 {q : Int32} (hq : ¬ q < 0 ∧ ¬ (255 : Int32) < q) (h : StrChars.lo8 q = (47 : Int32)) : q = (47 : Int32) := fin256 (P := fun q => StrChars.lo8 q = (47 : Int32) → q = (47 : Int32)) (by decide +kernel) hq h
theorem lo8_47n {q : Int32} (h : ¬ StrChars.lo8 q = (47 : Int32)) : ¬ q = (47 : Int32) := fun e => h (by rw [e]; decide)
theorem nar_ret {q : Int32} (hq : ¬ q < 0 ∧ ¬ (255 : Int32) < q) : narrow .char (.int q) = .int q := fin256 (P := fun q => narrow .char (.int q) = .int q) (by decide +kernel) hq
theorem pn0 : plainName "java/util/Objects" = true := by first | (simp [plainName, overriddenIn]; done) | decide +kernel
theorem pn1 : plainName "java/lang/String" = true := by first | (simp [plainName, overriddenIn]; done) | decide +kernel
theorem pn2 : plainName "java/lang/StringLatin1" = true := by first | (simp [plainName, overriddenIn]; done) | decide +kernel
theorem pn3 : plainName "java/util/Arrays" = true := by first | (simp [plainName, overriddenIn]; done) | decide +kernel
theorem pn4 : plainName "jdk/internal/util/Preconditions" = true := by first | (simp [plainName, overriddenIn]; done) | decide +kernel
theorem pn5 : plainName "com/example/grantwork/grantwork/resources/ResourceParsePinLaw" = true := by first | (simp [plainName, overriddenIn]; done) | decide +kernel
theorem pn6 : plainName "com/example/grantwork/grantwork/resources/Resource" = true := by first | (simp [plainName, overriddenIn]; done) | decide +kernel
theorem pd0 : parseMethodDescriptor "(IIILjava/util/function/BiFunction;)I" = some ⟨[.int, .int, .int, (.object "java/util/function/BiFunction")], (some .int)⟩ := by decide +kernel
theorem pd1 : parseMethodDescriptor "(I)Z" = some ⟨[.int], (some .boolean)⟩ := by decide +kernel
theorem pd2 : parseMethodDescriptor "(II)I" = some ⟨[.int, .int], (some .int)⟩ := by decide +kernel
theorem pd3 : parseMethodDescriptor "([BIII)I" = some ⟨[(.array .byte), .int, .int, .int], (some .int)⟩ := by decide +kernel
theorem pd4 : parseMethodDescriptor "()Z" = some ⟨[], (some .boolean)⟩ := by decide +kernel
theorem pd5 : parseMethodDescriptor "(II)V" = some ⟨[.int, .int], none⟩ := by decide +kernel
theorem pd6 : parseMethodDescriptor "([BII)[B" = some ⟨[(.array .byte), .int, .int], (some (.array .byte))⟩ := by decide +kernel
theorem pd7 : parseMethodDescriptor "([BB)V" = some ⟨[(.array .byte), .byte], none⟩ := by decide +kernel
theorem pd8 : parseMethodDescriptor "(III)V" = some ⟨[.int, .int, .int], none⟩ := by decide +kernel
theorem pd9 : parseMethodDescriptor "([BII)Ljava/lang/String;" = some ⟨[(.array .byte), .int, .int], (some (.object "java/lang/String"))⟩ := by decide +kernel
theorem pd10 : parseMethodDescriptor "(II)Ljava/lang/String;" = some ⟨[.int, .int], (some (.object "java/lang/String"))⟩ := by decide +kernel
theorem pd11 : parseMethodDescriptor "(I)I" = some ⟨[.int], (some .int)⟩ := by decide +kernel
theorem pd12 : parseMethodDescriptor "(Ljava/lang/Object;Ljava/lang/String;)Ljava/lang/Object;" = some ⟨[(.object "java/lang/Object"), (.object "java/lang/String")], (some (.object "java/lang/Object"))⟩ := by decide +kernel
theorem pd13 : parseMethodDescriptor "(Ljava/lang/String;)Z" = some ⟨[(.object "java/lang/String")], (some .boolean)⟩ := by decide +kernel
theorem pd14 : parseMethodDescriptor "(Ljava/lang/String;Ljava/lang/String;)V" = some ⟨[(.object "java/lang/String"), (.object "java/lang/String")], none⟩ := by decide +kernel
theorem pd15 : parseMethodDescriptor "(I)Ljava/lang/String;" = some ⟨[.int], (some (.object "java/lang/String"))⟩ := by decide +kernel
theorem pd16 : parseMethodDescriptor "(I)C" = some ⟨[.int], (some .char)⟩ := by decide +kernel
theorem pd17 : parseMethodDescriptor "([CI)I" = some ⟨[(.array .char), .int], (some .int)⟩ := by decide +kernel
theorem pd18 : parseMethodDescriptor "(Ljava/lang/String;)Lcom/example/grantwork/grantwork/resources/Resource;" = some ⟨[(.object "java/lang/String")], (some (.object "com/example/grantwork/grantwork/resources/Resource"))⟩ := by decide +kernel
theorem pd19 : parseMethodDescriptor "()Ljava/lang/String;" = some ⟨[], (some (.object "java/lang/String"))⟩ := by decide +kernel
theorem pd20 : parseMethodDescriptor "(Ljava/lang/String;[CII)Z" = some ⟨[(.object "java/lang/String"), (.array .char), .int, .int], (some .boolean)⟩ := by decide +kernel
theorem mI {α : Type} {l : List α} {a : α} (i : Nat) (h : l[i]? = some a) : a ∈ l := List.mem_of_getElem? h
abbrev vi (x : Int32) : Slot := .val (.int x)
abbrev vr (a : Addr) : Slot := .val (.ref a)
abbrev vN : Slot := .val .null
abbrev U0 : Slot := .unset
abbrev S0 : Slot := .second
theorem gof {p : Program} {e : Env} {below : List Frame} {Q : Outcome → State → Prop} {t : State} (T : State) (m : MethodId) (pc : Nat) (L : Array Slot) (S : List Value) (k : ∀ z, Steps p.tables e below (T.setTop (mkF m pc L S)) z → Steps p.tables e below t z) (g : Go p e below Q (T.setTop (mkF m pc L S))) : Go p e below Q t := Go.of k g
theorem d1000_0 : decode jdk_31_method_11_code 0 = .ok (.aload_n 0, 1) := by decide +kernel
theorem d1000_1 : decode jdk_31_method_11_code 1 = .ok (.ifnonnull 12, 3) := by decide +kernel
theorem d1000_13 : decode jdk_31_method_11_code 13 = .ok (.aload_n 0, 1) := by decide +kernel
theorem d1000_14 : decode jdk_31_method_11_code 14 = .ok (.areturn, 1) := by decide +kernel
theorem ef2 (m : MethodId) (x0 : Addr) (x1 : Addr)  : entryFrame m #[(.ref x0), (.ref x1)] 2 = mkF m 0 #[vr x0, vr x1] [] := by first | (simp [entryFrame, mkF, argsToLocals, Value.category]; done) | rfl | rfl
set_option maxRecDepth 65536 in
set_option maxHeartbeats 40000000 in
theorem rm2 (l : Launch) (Z : State) (a0 : Array Value) (hw : ∀ d ∈ tables_1, d.before a0 Z = true) (hEL : EW Z a0 EL0) (zc : Int32) (SC : Sta Z Z.heap "java/lang/String" "COMPACT_STRINGS" "Z" (.int zc)) (hzc : ¬ zc = 0) (fm : Value) (SF : Sta Z Z.heap "jdk/internal/util/Preconditions" "SIOOBE_FORMATTER" "Ljava/util/function/BiFunction;" fm) (rfm : fm.isRef = true) (x1 : Addr) (x2 : Addr) (h0 : Heap) {n0 : Nat} (O0 : Old Z n0 h0)  :
    Met l Z EL0 n0 (⟨"java/util/Objects", "requireNonNull", "(Ljava/lang/Object;Ljava/lang/String;)Ljava/lang/Object;"⟩ : MethodName) jdk_31_method_11_code 2 (some (.object "java/lang/Object")) [] ({ frames := 0, cells := 0, slots := 0, locals := 0 } : Room) #[(.ref x1), (.ref x2)] h0 [] [] (fun v h' => v = some (.ref x1) ∧ h0 = h') := by
  refine Met.of (plainFor_of_name pn0) O0 ?_
  intro p e s m below meth c T0 hx hby hml hret hlk hnm hs W0
  have W0 : Wk p l e _ s m _ below meth c Z EL0 n0 [] "java/util/Objects" [] T0 0 0 h0 := W0
  have hSA := fun d hd => hw d (sa_in d hd)
  have hws := fun d hd => hw d (ws_in d hd)
  have hln := fun d hd => hw d (ln_in d hd)
  have hch := fun d hd => hw d (ch_in d hd)
  have heq := fun d hd => hw d (eq_in d hd)
  have hem := fun d hd => hw d (em_in d hd)
  refine Go.of (fun _ kk => castTop (ef2 m x1 x2) kk) ?_
  refine gof T0 m 14 #[vr x1, vr x2] [(.ref x1)] (fun _ kk => XS.aloadN W0.here hx rfl (hb hby d1000_0) rfl rfl (XS.ifnonnullYes W0.here hx rfl (pc0 := 1) (pc' := 13) rfl (hb hby d1000_1) rfl (by decide +kernel) (by decide +kernel) (XS.aloadN W0.here hx rfl (hb hby d1000_13) rfl rfl kk))) ?_
  exact W0.retA hx hEL hs hlk (by decide +kernel) (by decide +kernel) hret rfl rfl (hb hby d1000_14) ⟨rfl, rfl⟩
theorem d1001_0 : decode jdk_29_method_65_code 0 = .ok (.iload_n 0, 1) := by decide +kernel
theorem d1001_1 : decode jdk_29_method_65_code 1 = .ok (.iload_n 1, 1) := by decide +kernel
theorem d1001_2 : decode jdk_29_method_65_code 2 = .ok (.if_icmp .lt 7, 3) := by decide +kernel
theorem d1001_5 : decode jdk_29_method_65_code 5 = .ok (.iload_n 0, 1) := by decide +kernel
theorem d1001_6 : decode jdk_29_method_65_code 6 = .ok (.goto 4, 3) := by decide +kernel
theorem d1001_10 : decode jdk_29_method_65_code 10 = .ok (.ireturn, 1) := by decide +kernel
theorem ef4 (m : MethodId) (x0 : Int32) (x1 : Int32)  : entryFrame m #[(.int x0), (.int x1)] 2 = mkF m 0 #[vi x0, vi x1] [] := by first | (simp [entryFrame, mkF, argsToLocals, Value.category]; done) | rfl | rfl
set_option maxRecDepth 65536 in
set_option maxHeartbeats 40000000 in
theorem rm4 (l : Launch) (Z : State) (a0 : Array Value) (hw : ∀ d ∈ tables_1, d.before a0 Z = true) (hEL : EW Z a0 EL0) (zc : Int32) (SC : Sta Z Z.heap "java/lang/String" "COMPACT_STRINGS" "Z" (.int zc)) (hzc : ¬ zc = 0) (fm : Value) (SF : Sta Z Z.heap "jdk/internal/util/Preconditions" "SIOOBE_FORMATTER" "Ljava/util/function/BiFunction;" fm) (rfm : fm.isRef = true) (x1 : Int32) (h0 : Heap) {n0 : Nat} (O0 : Old Z n0 h0)  :
    Met l Z EL0 n0 (⟨"java/lang/Math", "max", "(II)I"⟩ : MethodName) jdk_29_method_65_code 2 (some .int) [] ({ frames := 0, cells := 0, slots := 0, locals := 0 } : Room) #[(.int x1), (.int x1)] h0 [] [] (fun v h' => v = some (.int x1) ∧ h0 = h') := by
  refine Met.of (Jvm.Free.JP.mathPlain rfl (by decide +kernel)) O0 ?_
  intro p e s m below meth c T0 hx hby hml hret hlk hnm hs W0
  have W0 : Wk p l e _ s m _ below meth c Z EL0 n0 [] "java/lang/Math" [] T0 0 0 h0 := W0
  have hSA := fun d hd => hw d (sa_in d hd)
  have hws := fun d hd => hw d (ws_in d hd)
  have hln := fun d hd => hw d (ln_in d hd)
  have hch := fun d hd => hw d (ch_in d hd)
  have heq := fun d hd => hw d (eq_in d hd)
  have hem := fun d hd => hw d (em_in d hd)
  refine Go.of (fun _ kk => castTop (ef4 m x1 x1) kk) ?_
  refine gof T0 m 10 #[vi x1, vi x1] [(.int x1)] (fun _ kk => XS.iloadN W0.here hx rfl (hb hby d1001_0) rfl (XS.iloadN W0.here hx rfl (hb hby d1001_1) rfl (XS.icmpNo W0.here hx rfl (hb hby d1001_2) rfl (XT.ii_lt_f (irr32 _)) (XS.iloadN W0.here hx rfl (hb hby d1001_5) rfl (XS.goto W0.here hx rfl (pc0 := 6) (pc' := 10) rfl (hb hby d1001_6) (by decide +kernel) (by decide +kernel) kk))))) ?_
  exact W0.retI hx hEL hs hlk (by decide +kernel) (by decide +kernel) hret (by simp) rfl (hb hby d1001_10) ⟨rfl, rfl⟩
theorem d1002_0 : decode jdk_29_method_69_code 0 = .ok (.iload_n 0, 1) := by decide +kernel
theorem d1002_1 : decode jdk_29_method_69_code 1 = .ok (.iload_n 1, 1) := by decide +kernel
theorem d1002_2 : decode jdk_29_method_69_code 2 = .ok (.if_icmp .gt 7, 3) := by decide +kernel
theorem d1002_5 : decode jdk_29_method_69_code 5 = .ok (.iload_n 0, 1) := by decide +kernel
theorem d1002_6 : decode jdk_29_method_69_code 6 = .ok (.goto 4, 3) := by decide +kernel
theorem d1002_10 : decode jdk_29_method_69_code 10 = .ok (.ireturn, 1) := by decide +kernel
theorem ef5 (m : MethodId) (x0 : Int32) (x1 : Int32)  : entryFrame m #[(.int x0), (.int x1)] 2 = mkF m 0 #[vi x0, vi x1] [] := by first | (simp [entryFrame, mkF, argsToLocals, Value.category]; done) | rfl | rfl
set_option maxRecDepth 65536 in
set_option maxHeartbeats 40000000 in
theorem rm5 (l : Launch) (Z : State) (a0 : Array Value) (hw : ∀ d ∈ tables_1, d.before a0 Z = true) (hEL : EW Z a0 EL0) (zc : Int32) (SC : Sta Z Z.heap "java/lang/String" "COMPACT_STRINGS" "Z" (.int zc)) (hzc : ¬ zc = 0) (fm : Value) (SF : Sta Z Z.heap "jdk/internal/util/Preconditions" "SIOOBE_FORMATTER" "Ljava/util/function/BiFunction;" fm) (rfm : fm.isRef = true) (x1 : Int32) (h0 : Heap) {n0 : Nat} (O0 : Old Z n0 h0)  :
    Met l Z EL0 n0 (⟨"java/lang/Math", "min", "(II)I"⟩ : MethodName) jdk_29_method_69_code 2 (some .int) [] ({ frames := 0, cells := 0, slots := 0, locals := 0 } : Room) #[(.int x1), (.int x1)] h0 [] [] (fun v h' => v = some (.int x1) ∧ h0 = h') := by
  refine Met.of (Jvm.Free.JP.mathPlain rfl (by decide +kernel)) O0 ?_
  intro p e s m below meth c T0 hx hby hml hret hlk hnm hs W0
  have W0 : Wk p l e _ s m _ below meth c Z EL0 n0 [] "java/lang/Math" [] T0 0 0 h0 := W0
  have hSA := fun d hd => hw d (sa_in d hd)
  have hws := fun d hd => hw d (ws_in d hd)
  have hln := fun d hd => hw d (ln_in d hd)
  have hch := fun d hd => hw d (ch_in d hd)
  have heq := fun d hd => hw d (eq_in d hd)
  have hem := fun d hd => hw d (em_in d hd)
  refine Go.of (fun _ kk => castTop (ef5 m x1 x1) kk) ?_
  refine gof T0 m 10 #[vi x1, vi x1] [(.int x1)] (fun _ kk => XS.iloadN W0.here hx rfl (hb hby d1002_0) rfl (XS.iloadN W0.here hx rfl (hb hby d1002_1) rfl (XS.icmpNo W0.here hx rfl (hb hby d1002_2) rfl (XT.ii_gt_f (irr32 _)) (XS.iloadN W0.here hx rfl (hb hby d1002_5) rfl (XS.goto W0.here hx rfl (pc0 := 6) (pc' := 10) rfl (hb hby d1002_6) (by decide +kernel) (by decide +kernel) kk))))) ?_
  exact W0.retI hx hEL hs hlk (by decide +kernel) (by decide +kernel) hret (by simp) rfl (hb hby d1002_10) ⟨rfl, rfl⟩
theorem d1003_0 : decode jdk_42_method_154_code 0 = .ok (.getstatic 38, 3) := by decide +kernel
theorem d1003_3 : decode jdk_42_method_154_code 3 = .ok (.ifCond .eq 14, 3) := by decide +kernel
theorem d1003_6 : decode jdk_42_method_154_code 6 = .ok (.aload_n 0, 1) := by decide +kernel
theorem d1003_7 : decode jdk_42_method_154_code 7 = .ok (.getfield 15, 3) := by decide +kernel
theorem d1003_10 : decode jdk_42_method_154_code 10 = .ok (.ifCond .ne 7, 3) := by decide +kernel
theorem d1003_13 : decode jdk_42_method_154_code 13 = .ok (.iconst 1, 1) := by decide +kernel
theorem d1003_14 : decode jdk_42_method_154_code 14 = .ok (.goto 4, 3) := by decide +kernel
theorem d1003_18 : decode jdk_42_method_154_code 18 = .ok (.ireturn, 1) := by decide +kernel
theorem ef6 (m : MethodId) (x0 : Addr)  : entryFrame m #[(.ref x0)] 1 = mkF m 0 #[vr x0] [] := by first | (simp [entryFrame, mkF, argsToLocals, Value.category]; done) | rfl | rfl
set_option maxRecDepth 65536 in
set_option maxHeartbeats 40000000 in
theorem rm6 (l : Launch) (Z : State) (a0 : Array Value) (hw : ∀ d ∈ tables_1, d.before a0 Z = true) (hEL : EW Z a0 EL0) (zc : Int32) (SC : Sta Z Z.heap "java/lang/String" "COMPACT_STRINGS" "Z" (.int zc)) (hzc : ¬ zc = 0) (fm : Value) (SF : Sta Z Z.heap "jdk/internal/util/Preconditions" "SIOOBE_FORMATTER" "Ljava/util/function/BiFunction;" fm) (rfm : fm.isRef = true) (x1 : Addr) (h0 : Heap) {n0 : Nat} (O0 : Old Z n0 h0) (F1 : Fld Z h0 x1 "java/lang/String" "coder" "B" (.int (0 : Int32))) :
    Met l Z EL0 n0 (⟨"java/lang/String", "isLatin1", "()Z"⟩ : MethodName) jdk_42_method_154_code 1 (some .boolean) [] ({ frames := 0, cells := 0, slots := 0, locals := 0 } : Room) #[(.ref x1)] h0 [] [] (fun v h' => v = some (.int 1) ∧ h0 = h') := by
  refine Met.of (plainFor_of_name pn1) O0 ?_
  intro p e s m below meth c T0 hx hby hml hret hlk hnm hs W0
  have W0 : Wk p l e _ s m _ below meth c Z EL0 n0 [] "java/lang/String" [] T0 0 0 h0 := W0
  have hSA := fun d hd => hw d (sa_in d hd)
  have hws := fun d hd => hw d (ws_in d hd)
  have hln := fun d hd => hw d (ln_in d hd)
  have hch := fun d hd => hw d (ch_in d hd)
  have heq := fun d hd => hw d (eq_in d hd)
  have hem := fun d hd => hw d (em_in d hd)
  refine Go.of (fun _ kk => castTop (ef6 m x1) kk) ?_
  show Go p e below _ (T0.setTop (mkF m 0 #[vr x1] []))
  refine W0.getS hx (host := "") (Or.inl (hw _ (mI 18 rfl))) Via.refl SC rfl (hb hby d1003_0) (fun T1 W1 => ?_)
  refine gof T1 m 7 #[vr x1] [(.ref x1)] (fun _ kk => XS.ifNo W1.here hx rfl (hb hby d1003_3) rfl (XT.i0_eq_f hzc) (XS.aloadN W1.here hx rfl (hb hby d1003_6) rfl rfl kk)) ?_
  refine W1.getF hx (host := "") (Or.inl (hw _ (mI 30 rfl))) Via.refl F1 rfl rfl (hb hby d1003_7) (fun T2 W2 => ?_)
  refine gof T2 m 18 #[vr x1] [(.int 1)] (fun _ kk => XS.ifNo W2.here hx rfl (hb hby d1003_10) rfl (XT.i0_ne_f (by decide +kernel)) (XS.iconst W2.here hx rfl (hb hby d1003_13) (XS.goto W2.here hx rfl (pc0 := 14) (pc' := 18) rfl (hb hby d1003_14) (by decide +kernel) (by decide +kernel) kk))) ?_
  exact W2.retI hx hEL hs hlk (by decide +kernel) (by decide +kernel) hret (by simp) rfl (hb hby d1003_18) ⟨rfl, rfl⟩
theorem d1004_0 : decode jdk_43_method_4_code 0 = .ok (.iload_n 0, 1) := by decide +kernel
theorem d1004_1 : decode jdk_43_method_4_code 1 = .ok (.ifCond .lt 14, 3) := by decide +kernel
theorem d1004_4 : decode jdk_43_method_4_code 4 = .ok (.iload_n 0, 1) := by decide +kernel
theorem d1004_5 : decode jdk_43_method_4_code 5 = .ok (.sipush 255, 3) := by decide +kernel
theorem d1004_8 : decode jdk_43_method_4_code 8 = .ok (.if_icmp .gt 7, 3) := by decide +kernel
theorem d1004_11 : decode jdk_43_method_4_code 11 = .ok (.iconst 1, 1) := by decide +kernel
theorem d1004_12 : decode jdk_43_method_4_code 12 = .ok (.goto 4, 3) := by decide +kernel
theorem d1004_16 : decode jdk_43_method_4_code 16 = .ok (.ireturn, 1) := by decide +kernel
theorem ef7 (m : MethodId) (x0 : Int32)  : entryFrame m #[(.int x0)] 1 = mkF m 0 #[vi x0] [] := by first | (simp [entryFrame, mkF, argsToLocals, Value.category]; done) | rfl | rfl
set_option maxRecDepth 65536 in
set_option maxHeartbeats 40000000 in
theorem rm7 (l : Launch) (Z : State) (a0 : Array Value) (hw : ∀ d ∈ tables_1, d.before a0 Z = true) (hEL : EW Z a0 EL0) (zc : Int32) (SC : Sta Z Z.heap "java/lang/String" "COMPACT_STRINGS" "Z" (.int zc)) (hzc : ¬ zc = 0) (fm : Value) (SF : Sta Z Z.heap "jdk/internal/util/Preconditions" "SIOOBE_FORMATTER" "Ljava/util/function/BiFunction;" fm) (rfm : fm.isRef = true) (q1 : Int32) (h0 : Heap) {n0 : Nat} (O0 : Old Z n0 h0) (cq1 : ¬ q1 < 0 ∧ ¬ (255 : Int32) < q1) :
    Met l Z EL0 n0 (⟨"java/lang/StringLatin1", "canEncode", "(I)Z"⟩ : MethodName) jdk_43_method_4_code 1 (some .boolean) [] ({ frames := 0, cells := 0, slots := 0, locals := 0 } : Room) #[(.int q1)] h0 [] [] (fun v h' => v = some (.int 1) ∧ h0 = h') := by
  refine Met.of (plainFor_of_name pn2) O0 ?_
  intro p e s m below meth c T0 hx hby hml hret hlk hnm hs W0
  have W0 : Wk p l e _ s m _ below meth c Z EL0 n0 [] "java/lang/StringLatin1" [] T0 0 0 h0 := W0
  have hSA := fun d hd => hw d (sa_in d hd)
  have hws := fun d hd => hw d (ws_in d hd)
  have hln := fun d hd => hw d (ln_in d hd)
  have hch := fun d hd => hw d (ch_in d hd)
  have heq := fun d hd => hw d (eq_in d hd)
  have hem := fun d hd => hw d (em_in d hd)
  refine Go.of (fun _ kk => castTop (ef7 m q1) kk) ?_
  refine gof T0 m 16 #[vi q1] [(.int 1)] (fun _ kk => XS.iloadN W0.here hx rfl (hb hby d1004_0) rfl (XS.ifNo W0.here hx rfl (hb hby d1004_1) rfl (XT.i0_lt_f cq1.1) (XS.iloadN W0.here hx rfl (hb hby d1004_4) rfl (XS.sipush W0.here hx rfl (hb hby d1004_5) (XS.icmpNo W0.here hx rfl (hb hby d1004_8) rfl (XT.ii_gt_f cq1.2) (XS.iconst W0.here hx rfl (hb hby d1004_11) (XS.goto W0.here hx rfl (pc0 := 12) (pc' := 16) rfl (hb hby d1004_12) (by decide +kernel) (by decide +kernel) kk))))))) ?_
  exact W0.retI hx hEL hs hlk (by decide +kernel) (by decide +kernel) hret (by simp) rfl (hb hby d1004_16) ⟨rfl, rfl⟩
theorem d1002_9 : decode jdk_29_method_69_code 9 = .ok (.iload_n 1, 1) := by decide +kernel
theorem ef8 (m : MethodId) (x0 : Int32) (x1 : Int32)  : entryFrame m #[(.int x0), (.int x1)] 2 = mkF m 0 #[vi x0, vi x1] [] := by first | (simp [entryFrame, mkF, argsToLocals, Value.category]; done) | rfl | rfl
set_option maxRecDepth 65536 in
set_option maxHeartbeats 40000000 in
theorem rm8 (l : Launch) (Z : State) (a0 : Array Value) (hw : ∀ d ∈ tables_1, d.before a0 Z = true) (hEL : EW Z a0 EL0) (zc : Int32) (SC : Sta Z Z.heap "java/lang/String" "COMPACT_STRINGS" "Z" (.int zc)) (hzc : ¬ zc = 0) (fm : Value) (SF : Sta Z Z.heap "jdk/internal/util/Preconditions" "SIOOBE_FORMATTER" "Ljava/util/function/BiFunction;" fm) (rfm : fm.isRef = true) (x1 : Int32) (x2 : Int32) (h0 : Heap) {n0 : Nat} (O0 : Old Z n0 h0) (hlt : x2 < x1) :
    Met l Z EL0 n0 (⟨"java/lang/Math", "min", "(II)I"⟩ : MethodName) jdk_29_method_69_code 2 (some .int) [] ({ frames := 0, cells := 0, slots := 0, locals := 0 } : Room) #[(.int x1), (.int x2)] h0 [] [] (fun v h' => v = some (.int x2) ∧ h0 = h') := by
  refine Met.of (Jvm.Free.JP.mathPlain rfl (by decide +kernel)) O0 ?_
  intro p e s m below meth c T0 hx hby hml hret hlk hnm hs W0
  have W0 : Wk p l e _ s m _ below meth c Z EL0 n0 [] "java/lang/Math" [] T0 0 0 h0 := W0
  have hSA := fun d hd => hw d (sa_in d hd)
  have hws := fun d hd => hw d (ws_in d hd)
  have hln := fun d hd => hw d (ln_in d hd)
  have hch := fun d hd => hw d (ch_in d hd)
  have heq := fun d hd => hw d (eq_in d hd)
  have hem := fun d hd => hw d (em_in d hd)
  refine Go.of (fun _ kk => castTop (ef8 m x1 x2) kk) ?_
  refine gof T0 m 10 #[vi x1, vi x2] [(.int x2)] (fun _ kk => XS.iloadN W0.here hx rfl (hb hby d1002_0) rfl (XS.iloadN W0.here hx rfl (hb hby d1002_1) rfl (XS.icmpYes W0.here hx rfl (pc0 := 2) (pc' := 9) rfl (hb hby d1002_2) rfl (XT.ii_gt_t hlt) (by decide +kernel) (by decide +kernel) (XS.iloadN W0.here hx rfl (hb hby d1002_9) rfl kk)))) ?_
  exact W0.retI hx hEL hs hlk (by decide +kernel) (by decide +kernel) hret (by simp) rfl (hb hby d1002_10) ⟨rfl, rfl⟩
theorem d1005_0 : decode jdk_65_method_131_code 0 = .ok (.iload_n 1, 1) := by decide +kernel
theorem d1005_1 : decode jdk_65_method_131_code 1 = .ok (.iload_n 0, 1) := by decide +kernel
theorem d1005_2 : decode jdk_65_method_131_code 2 = .ok (.if_icmp .ge 35, 3) := by decide +kernel
theorem d1005_37 : decode jdk_65_method_131_code 37 = .ok (.return_, 1) := by decide +kernel
theorem ef9 (m : MethodId) (x0 : Int32) (x1 : Int32)  : entryFrame m #[(.int x0), (.int x1)] 2 = mkF m 0 #[vi x0, vi x1] [] := by first | (simp [entryFrame, mkF, argsToLocals, Value.category]; done) | rfl | rfl
set_option maxRecDepth 65536 in
set_option maxHeartbeats 40000000 in
theorem rm9 (l : Launch) (Z : State) (a0 : Array Value) (hw : ∀ d ∈ tables_1, d.before a0 Z = true) (hEL : EW Z a0 EL0) (zc : Int32) (SC : Sta Z Z.heap "java/lang/String" "COMPACT_STRINGS" "Z" (.int zc)) (hzc : ¬ zc = 0) (fm : Value) (SF : Sta Z Z.heap "jdk/internal/util/Preconditions" "SIOOBE_FORMATTER" "Ljava/util/function/BiFunction;" fm) (rfm : fm.isRef = true) (x1 : Int32) (x2 : Int32) (h0 : Heap) {n0 : Nat} (O0 : Old Z n0 h0) (hge : ¬ x2 < x1) :
    Met l Z EL0 n0 (⟨"java/util/Arrays", "checkLength", "(II)V"⟩ : MethodName) jdk_65_method_131_code 2 none [] ({ frames := 0, cells := 0, slots := 0, locals := 0 } : Room) #[(.int x1), (.int x2)] h0 [] [] (fun v h' => v = none ∧ h0 = h') := by
  refine Met.of (plainFor_of_name pn3) O0 ?_
  intro p e s m below meth c T0 hx hby hml hret hlk hnm hs W0
  have W0 : Wk p l e _ s m _ below meth c Z EL0 n0 [] "java/util/Arrays" [] T0 0 0 h0 := W0
  have hSA := fun d hd => hw d (sa_in d hd)
  have hws := fun d hd => hw d (ws_in d hd)
  have hln := fun d hd => hw d (ln_in d hd)
  have hch := fun d hd => hw d (ch_in d hd)
  have heq := fun d hd => hw d (eq_in d hd)
  have hem := fun d hd => hw d (em_in d hd)
  refine Go.of (fun _ kk => castTop (ef9 m x1 x2) kk) ?_
  refine gof T0 m 37 #[vi x1, vi x2] [] (fun _ kk => XS.iloadN W0.here hx rfl (hb hby d1005_0) rfl (XS.iloadN W0.here hx rfl (hb hby d1005_1) rfl (XS.icmpYes W0.here hx rfl (pc0 := 2) (pc' := 37) rfl (hb hby d1005_2) rfl (XT.ii_ge_t hge) (by decide +kernel) (by decide +kernel) kk))) ?_
  exact W0.retV hx hEL hs hlk (by decide +kernel) (by decide +kernel) hret (hb hby d1005_37) ⟨rfl, rfl⟩
theorem d1006_0 : decode jdk_41_method_12_code 0 = .ok (.iload_n 0, 1) := by decide +kernel
theorem d1006_1 : decode jdk_41_method_12_code 1 = .ok (.ifCond .lt 13, 3) := by decide +kernel
theorem d1006_4 : decode jdk_41_method_12_code 4 = .ok (.iload_n 0, 1) := by decide +kernel
theorem d1006_5 : decode jdk_41_method_12_code 5 = .ok (.iload_n 1, 1) := by decide +kernel
theorem d1006_6 : decode jdk_41_method_12_code 6 = .ok (.if_icmp .gt 8, 3) := by decide +kernel
theorem d1006_9 : decode jdk_41_method_12_code 9 = .ok (.iload_n 1, 1) := by decide +kernel
theorem d1006_10 : decode jdk_41_method_12_code 10 = .ok (.iload_n 2, 1) := by decide +kernel
theorem d1006_11 : decode jdk_41_method_12_code 11 = .ok (.if_icmp .le 11, 3) := by decide +kernel
theorem d1006_22 : decode jdk_41_method_12_code 22 = .ok (.iload_n 0, 1) := by decide +kernel
theorem d1006_23 : decode jdk_41_method_12_code 23 = .ok (.ireturn, 1) := by decide +kernel
theorem ef10 (m : MethodId) (x0 : Int32) (x1 : Int32) (x2 : Int32) (x3 : Value) (rx3 : x3.isRef = true) : entryFrame m #[(.int x0), (.int x1), (.int x2), x3] 4 = mkF m 0 #[vi x0, vi x1, vi x2, .val x3] [] := by first | (simp [entryFrame, mkF, argsToLocals, Value.category]; done) | rfl | (rcases XT.refc rx3 with rfl | ⟨_, rfl⟩ <;> rfl)
set_option maxRecDepth 65536 in
set_option maxHeartbeats 40000000 in
theorem rm10 (l : Launch) (Z : State) (a0 : Array Value) (hw : ∀ d ∈ tables_1, d.before a0 Z = true) (hEL : EW Z a0 EL0) (zc : Int32) (SC : Sta Z Z.heap "java/lang/String" "COMPACT_STRINGS" "Z" (.int zc)) (hzc : ¬ zc = 0) (fm : Value) (SF : Sta Z Z.heap "jdk/internal/util/Preconditions" "SIOOBE_FORMATTER" "Ljava/util/function/BiFunction;" fm) (rfm : fm.isRef = true) (x1 : Int32) (x2 : Int32) (x3 : Int32) (v4 : Value) (h0 : Heap) {n0 : Nat} (O0 : Old Z n0 h0) (rv4 : v4.isRef = true) (h1 : ¬ x1 < (0 : Int32)) (h2 : ¬ x2 < x1) (h3 : ¬ x3 < x2) :
    Met l Z EL0 n0 (⟨"jdk/internal/util/Preconditions", "checkFromToIndex", "(IIILjava/util/function/BiFunction;)I"⟩ : MethodName) jdk_41_method_12_code 4 (some .int) [] ({ frames := 0, cells := 0, slots := 0, locals := 0 } : Room) #[(.int x1), (.int x2), (.int x3), v4] h0 [] [] (fun v h' => v = some (.int x1) ∧ h0 = h') := by
  refine Met.of (plainFor_of_name pn4) O0 ?_
  intro p e s m below meth c T0 hx hby hml hret hlk hnm hs W0
  have W0 : Wk p l e _ s m _ below meth c Z EL0 n0 [] "jdk/internal/util/Preconditions" [] T0 0 0 h0 := W0
  have hSA := fun d hd => hw d (sa_in d hd)
  have hws := fun d hd => hw d (ws_in d hd)
  have hln := fun d hd => hw d (ln_in d hd)
  have hch := fun d hd => hw d (ch_in d hd)
  have heq := fun d hd => hw d (eq_in d hd)
  have hem := fun d hd => hw d (em_in d hd)
  refine Go.of (fun _ kk => castTop (ef10 m x1 x2 x3 v4 rv4) kk) ?_
  refine gof T0 m 11 #[vi x1, vi x2, vi x3, .val v4] [(.int x3), (.int x2)] (fun _ kk => XS.iloadN W0.here hx rfl (hb hby d1006_0) rfl (XS.ifNo W0.here hx rfl (hb hby d1006_1) rfl (XT.i0_lt_f h1) (XS.iloadN W0.here hx rfl (hb hby d1006_4) rfl (XS.iloadN W0.here hx rfl (hb hby d1006_5) rfl (XS.icmpNo W0.here hx rfl (hb hby d1006_6) rfl (XT.ii_gt_f h2) (XS.iloadN W0.here hx rfl (hb hby d1006_9) rfl (XS.iloadN W0.here hx rfl (hb hby d1006_10) rfl kk))))))) ?_
  refine gof T0 m 23 #[vi x1, vi x2, vi x3, .val v4] [(.int x1)] (fun _ kk => XS.icmpYes W0.here hx rfl (pc0 := 11) (pc' := 22) rfl (hb hby d1006_11) rfl (XT.ii_le_t h3) (by decide +kernel) (by decide +kernel) (XS.iloadN W0.here hx rfl (hb hby d1006_22) rfl kk)) ?_
  exact W0.retI hx hEL hs hlk (by decide +kernel) (by decide +kernel) hret (by simp) rfl (hb hby d1006_23) ⟨rfl, rfl⟩
theorem d1007_0 : decode jdk_42_method_158_code 0 = .ok (.iload_n 0, 1) := by decide +kernel
theorem d1007_1 : decode jdk_42_method_158_code 1 = .ok (.iload_n 1, 1) := by decide +kernel
theorem d1007_2 : decode jdk_42_method_158_code 2 = .ok (.iload_n 2, 1) := by decide +kernel
theorem d1007_3 : decode jdk_42_method_158_code 3 = .ok (.getstatic 1053, 3) := by decide +kernel
theorem d1007_6 : decode jdk_42_method_158_code 6 = .ok (.invokestatic 1062, 3) := by decide +kernel
theorem d1007_9 : decode jdk_42_method_158_code 9 = .ok (.pop, 1) := by decide +kernel
theorem d1007_10 : decode jdk_42_method_158_code 10 = .ok (.return_, 1) := by decide +kernel
theorem ef11 (m : MethodId) (x0 : Int32) (x1 : Int32) (x2 : Int32)  : entryFrame m #[(.int x0), (.int x1), (.int x2)] 3 = mkF m 0 #[vi x0, vi x1, vi x2] [] := by first | (simp [entryFrame, mkF, argsToLocals, Value.category]; done) | rfl | rfl
set_option maxRecDepth 65536 in
set_option maxHeartbeats 40000000 in
theorem rm11 (l : Launch) (Z : State) (a0 : Array Value) (hw : ∀ d ∈ tables_1, d.before a0 Z = true) (hEL : EW Z a0 EL0) (zc : Int32) (SC : Sta Z Z.heap "java/lang/String" "COMPACT_STRINGS" "Z" (.int zc)) (hzc : ¬ zc = 0) (fm : Value) (SF : Sta Z Z.heap "jdk/internal/util/Preconditions" "SIOOBE_FORMATTER" "Ljava/util/function/BiFunction;" fm) (rfm : fm.isRef = true) (x1 : Int32) (x2 : Int32) (x3 : Int32) (h0 : Heap) {n0 : Nat} (O0 : Old Z n0 h0) (h1 : ¬ x1 < (0 : Int32)) (h2 : ¬ x2 < x1) (h3 : ¬ x3 < x2) :
    Met l Z EL0 n0 (⟨"java/lang/String", "checkBoundsBeginEnd", "(III)V"⟩ : MethodName) jdk_42_method_158_code 3 none [] ({ frames := 1, cells := 0, slots := 0, locals := 15 } : Room) #[(.int x1), (.int x2), (.int x3)] h0 [] [] (fun v h' => v = none ∧ h0 = h') := by
  refine Met.of (plainFor_of_name pn1) O0 ?_
  intro p e s m below meth c T0 hx hby hml hret hlk hnm hs W0
  have W0 : Wk p l e _ s m _ below meth c Z EL0 n0 [] "java/lang/String" [] T0 0 0 h0 := W0
  have hSA := fun d hd => hw d (sa_in d hd)
  have hws := fun d hd => hw d (ws_in d hd)
  have hln := fun d hd => hw d (ln_in d hd)
  have hch := fun d hd => hw d (ch_in d hd)
  have heq := fun d hd => hw d (eq_in d hd)
  have hem := fun d hd => hw d (em_in d hd)
  refine Go.of (fun _ kk => castTop (ef11 m x1 x2 x3) kk) ?_
  refine gof T0 m 3 #[vi x1, vi x2, vi x3] [(.int x3), (.int x2), (.int x1)] (fun _ kk => XS.iloadN W0.here hx rfl (hb hby d1007_0) rfl (XS.iloadN W0.here hx rfl (hb hby d1007_1) rfl (XS.iloadN W0.here hx rfl (hb hby d1007_2) rfl kk))) ?_
  refine W0.getS hx (host := "") (Or.inl (hw _ (mI 150 rfl))) Via.refl SF rfl (hb hby d1007_3) (fun T1 W1 => ?_)
  show Go p e below _ (T1.setTop (mkF m 6 #[vi x1, vi x2, vi x3] [fm, (.int x3), (.int x2), (.int x1)]))
  refine W1.callS hx hEL (hw _ (mI 169 rfl)) (hw _ (mI 170 rfl)) (hw _ (mI 151 rfl)) (hw _ (mI 171 rfl)) (by decide +kernel) (argsL := [(.int x1), (.int x2), (.int x3), fm]) (rest := []) (rm10 l Z a0 hw hEL zc SC hzc fm SF rfm x1 x2 x3 fm h0 W1.old rfm h1 h2 h3) all0 (by decide +kernel) (Wd := 0) (by decide +kernel) (by decide +kernel) (by decide +kernel) all0 rfl (by rw [hml]; rfl) (lenOf pd0 rfl) rfl (by show 2 * 0 + _ ≤ _; exact Nat.le_of_eq rfl) (hb hby d1007_6) (fun T2 h2 v2 W2 K2 q2 => ?_)
  obtain ⟨rfl, rfl⟩ := q2
  refine gof T2 m 10 #[vi x1, vi x2, vi x3] [] (fun _ kk => XS.pop W2.here hx rfl (hb hby d1007_9) rfl rfl kk) ?_
  exact W2.retV hx hEL hs hlk (by decide +kernel) (by decide +kernel) hret (hb hby d1007_10) ⟨rfl, rfl⟩
theorem d1008_0 : decode jdk_42_method_151_code 0 = .ok (.aload_n 0, 1) := by decide +kernel
theorem d1008_1 : decode jdk_42_method_151_code 1 = .ok (.invokespecial 1, 3) := by decide +kernel
theorem d1008_4 : decode jdk_42_method_151_code 4 = .ok (.aload_n 0, 1) := by decide +kernel
theorem d1008_5 : decode jdk_42_method_151_code 5 = .ok (.aload_n 1, 1) := by decide +kernel
theorem d1008_6 : decode jdk_42_method_151_code 6 = .ok (.putfield 9, 3) := by decide +kernel
theorem d1008_9 : decode jdk_42_method_151_code 9 = .ok (.aload_n 0, 1) := by decide +kernel
theorem d1008_10 : decode jdk_42_method_151_code 10 = .ok (.iload_n 2, 1) := by decide +kernel
theorem d1008_11 : decode jdk_42_method_151_code 11 = .ok (.putfield 15, 3) := by decide +kernel
theorem d1008_14 : decode jdk_42_method_151_code 14 = .ok (.return_, 1) := by decide +kernel
theorem ef12 (m : MethodId) (x0 : Addr) (x1 : Addr) (x2 : Int32)  : entryFrame m #[(.ref x0), (.ref x1), (.int x2)] 3 = mkF m 0 #[vr x0, vr x1, vi x2] [] := by first | (simp [entryFrame, mkF, argsToLocals, Value.category]; done) | rfl | rfl
set_option maxRecDepth 65536 in
set_option maxHeartbeats 40000000 in
theorem rm12 (l : Launch) (Z : State) (a0 : Array Value) (hw : ∀ d ∈ tables_1, d.before a0 Z = true) (hEL : EW Z a0 EL0) (zc : Int32) (SC : Sta Z Z.heap "java/lang/String" "COMPACT_STRINGS" "Z" (.int zc)) (hzc : ¬ zc = 0) (fm : Value) (SF : Sta Z Z.heap "jdk/internal/util/Preconditions" "SIOOBE_FORMATTER" "Ljava/util/function/BiFunction;" fm) (rfm : fm.isRef = true) (x1 : Addr) (x2 : Addr) (h0 : Heap) {n0 : Nat} (O0 : Old Z n0 h0) (E1 : Exa Z h0 x1 "java/lang/String") (F1 : Fld Z h0 x1 "java/lang/String" "value" "[B" .null) (F2 : Fld Z h0 x1 "java/lang/String" "coder" "B" (.int (0 : Int32))) (g1 : n0 ≤ x1) :
    Met l Z EL0 n0 (⟨"java/lang/String", "<init>", "([BB)V"⟩ : MethodName) jdk_42_method_151_code 3 none [] ({ frames := 1, cells := 0, slots := 0, locals := 12 } : Room) #[(.ref x1), (.ref x2), (.int (0 : Int32))] h0 [x1] [x1] (fun v h' => v = none ∧ Fld Z h' x1 "java/lang/String" "value" "[B" (.ref x2) ∧ Fld Z h' x1 "java/lang/String" "coder" "B" (.int (0 : Int32))) := by
  refine Met.of (plainFor_of_name pn1) O0 ?_
  intro p e s m below meth c T0 hx hby hml hret hlk hnm hs W0
  have W0 : Wk p l e _ s m _ below meth c Z EL0 n0 [x1] "java/lang/String" [x1] T0 0 0 h0 := W0
  have hSA := fun d hd => hw d (sa_in d hd)
  have hws := fun d hd => hw d (ws_in d hd)
  have hln := fun d hd => hw d (ln_in d hd)
  have hch := fun d hd => hw d (ch_in d hd)
  have heq := fun d hd => hw d (eq_in d hd)
  have hem := fun d hd => hw d (em_in d hd)
  refine Go.of (fun _ kk => castTop (ef12 m x1 x2 (0 : Int32)) kk) ?_
  refine gof T0 m 1 #[vr x1, vr x2, vi 0] [(.ref x1)] (fun _ kk => XS.aloadN W0.here hx rfl (hb hby d1008_0) rfl rfl kk) ?_
  refine W0.initO hx (hw _ (mI 15 rfl)) (hw _ (mI 16 rfl)) (hw _ (mI 17 rfl)) rfl (by rw [hml]; rfl) rfl (hb hby d1008_1) (by decide +kernel) (Wd := 0) (by show 2 * 0 + _ ≤ _; exact Nat.le_of_eq rfl) (by decide +kernel) (fun T1 W1 => ?_)
  refine gof T1 m 6 #[vr x1, vr x2, vi 0] [(.ref x2), (.ref x1)] (fun _ kk => XS.aloadN W1.here hx rfl (hb hby d1008_4) rfl rfl (XS.aloadN W1.here hx rfl (hb hby d1008_5) rfl rfl kk)) ?_
  refine W1.putF hx (host := "") (Or.inl (hw _ (mI 32 rfl))) Via.refl F1 E1 (Or.inr ⟨(hw _ (mI 33 rfl)), rfl, hnm⟩) (hw _ (mI 6 rfl)) (ty := (.array .byte)) (by decide +kernel) rfl rfl g1 (Or.inl (mI 0 rfl)) (Or.inl (mI 0 rfl)) rfl rfl (hb hby d1008_6) (fun T2 h2 W2 w2 => ?_)
  have K2 := Keep.of_wr w2
  have k3 := F2.other w2 (Or.inr (slot_ne (Or.inr (hw _ (mI 31 rfl))) (Or.inr (hw _ (mI 33 rfl))) (by decide +kernel) (t := .byte) (t' := (.array .byte)) (by decide +kernel) (by decide +kernel)))
  have k4 := F1.same w2
  refine gof T2 m 11 #[vr x1, vr x2, vi 0] [(.int 0), (.ref x1)] (fun _ kk => XS.aloadN W2.here hx rfl (hb hby d1008_9) rfl rfl (XS.iloadN W2.here hx rfl (hb hby d1008_10) rfl kk)) ?_
  have k5 := (E1.keep K2)
  refine W2.putF hx (host := "") (Or.inl (hw _ (mI 30 rfl))) Via.refl k3 k5 (Or.inr ⟨(hw _ (mI 31 rfl)), rfl, hnm⟩) (hw _ (mI 6 rfl)) (ty := .byte) (by decide +kernel) rfl rfl g1 (Or.inl (mI 0 rfl)) (Or.inl (mI 0 rfl)) rfl rfl (hb hby d1008_11) (fun T6 h6 W6 w6 => ?_)
  have K6 := Keep.of_wr w6
  have k7 := k4.other w6 (Or.inr (slot_ne (Or.inr (hw _ (mI 33 rfl))) (Or.inr (hw _ (mI 31 rfl))) (by decide +kernel) (t := (.array .byte)) (t' := .byte) (by decide +kernel) (by decide +kernel)))
  have k8 := k3.same w6
  show Go p e below _ (T6.setTop (mkF m 14 #[vr x1, vr x2, vi 0] []))
  exact W6.retV hx hEL hs hlk (by decide +kernel) (by decide +kernel) hret (hb hby d1008_14) ⟨rfl, k7, k8⟩
theorem d1009_0 : decode jdk_43_method_23_code 0 = .ok (.iload_n 1, 1) := by decide +kernel
theorem d1009_1 : decode jdk_43_method_23_code 1 = .ok (.i2b, 1) := by decide +kernel
theorem d1009_2 : decode jdk_43_method_23_code 2 = .ok (.istore 4, 2) := by decide +kernel
theorem d1009_4 : decode jdk_43_method_23_code 4 = .ok (.iload_n 2, 1) := by decide +kernel
theorem d1009_5 : decode jdk_43_method_23_code 5 = .ok (.istore 5, 2) := by decide +kernel
theorem d1009_7 : decode jdk_43_method_23_code 7 = .ok (.iload 5, 2) := by decide +kernel
theorem d1009_9 : decode jdk_43_method_23_code 9 = .ok (.iload_n 3, 1) := by decide +kernel
theorem d1009_10 : decode jdk_43_method_23_code 10 = .ok (.if_icmp .ge 21, 3) := by decide +kernel
theorem d1009_13 : decode jdk_43_method_23_code 13 = .ok (.aload_n 0, 1) := by decide +kernel
theorem d1009_14 : decode jdk_43_method_23_code 14 = .ok (.iload 5, 2) := by decide +kernel
theorem d1009_16 : decode jdk_43_method_23_code 16 = .ok (.baload, 1) := by decide +kernel
theorem d1009_17 : decode jdk_43_method_23_code 17 = .ok (.iload 4, 2) := by decide +kernel
theorem d1009_19 : decode jdk_43_method_23_code 19 = .ok (.if_icmp .ne 6, 3) := by decide +kernel
theorem d1009_22 : decode jdk_43_method_23_code 22 = .ok (.iload 5, 2) := by decide +kernel
theorem d1009_24 : decode jdk_43_method_23_code 24 = .ok (.ireturn, 1) := by decide +kernel
theorem d1009_25 : decode jdk_43_method_23_code 25 = .ok (.iinc 5 1, 3) := by decide +kernel
theorem d1009_28 : decode jdk_43_method_23_code 28 = .ok (.goto (-21), 3) := by decide +kernel
theorem d1009_31 : decode jdk_43_method_23_code 31 = .ok (.iconst (-1), 1) := by decide +kernel
theorem d1009_32 : decode jdk_43_method_23_code 32 = .ok (.ireturn, 1) := by decide +kernel
theorem ef110 (m : MethodId) (x0 : Addr) (x1 : Int32) (x2 : Int32) (x3 : Int32)  : entryFrame m #[(.ref x0), (.int x1), (.int x2), (.int x3)] 6 = mkF m 0 #[vr x0, vi x1, vi x2, vi x3, U0, U0] [] := by first | (simp [entryFrame, mkF, argsToLocals, Value.category]; done) | rfl | rfl
set_option maxRecDepth 65536 in
set_option maxHeartbeats 40000000 in
theorem rm110 (l : Launch) (Z : State) (a0 : Array Value) (hw : ∀ d ∈ tables_1, d.before a0 Z = true) (hEL : EW Z a0 EL0) (zc : Int32) (SC : Sta Z Z.heap "java/lang/String" "COMPACT_STRINGS" "Z" (.int zc)) (hzc : ¬ zc = 0) (fm : Value) (SF : Sta Z Z.heap "jdk/internal/util/Preconditions" "SIOOBE_FORMATTER" "Ljava/util/function/BiFunction;" fm) (rfm : fm.isRef = true) (x1 : Addr) (kc : ClassId) (q1 : Int32) (h0 : Heap) {n0 : Nat} (O0 : Old Z n0 h0) (A1 : Arv Z h0 x1 kc .byte (1 : Int32) [(.int (StrChars.lo8 q1))] (.int (0 : Int32))) (cq1 : ¬ q1 < 0 ∧ ¬ (255 : Int32) < q1) :
    Met l Z EL0 n0 (⟨"java/lang/StringLatin1", "indexOfChar", "([BIII)I"⟩ : MethodName) jdk_43_method_23_code 6 (some .int) [] ({ frames := 0, cells := 0, slots := 0, locals := 0 } : Room) #[(.ref x1), (.int (47 : Int32)), (.int (0 : Int32)), (.int (1 : Int32))] h0 [] [] (fun v h' => v = some (.int (idxC (47 : Int32) [q1] (0 : Int32))) ∧ h0 = h') := by
  refine Met.of (plainFor_of_name pn2) O0 ?_
  intro p e s m below meth c T0 hx hby hml hret hlk hnm hs W0
  have W0 : Wk p l e _ s m _ below meth c Z EL0 n0 [] "java/lang/StringLatin1" [] T0 0 0 h0 := W0
  have hSA := fun d hd => hw d (sa_in d hd)
  have hws := fun d hd => hw d (ws_in d hd)
  have hln := fun d hd => hw d (ln_in d hd)
  have hch := fun d hd => hw d (ch_in d hd)
  have heq := fun d hd => hw d (eq_in d hd)
  have hem := fun d hd => hw d (em_in d hd)
  refine Go.of (fun _ kk => castTop (ef110 m x1 (47 : Int32) (0 : Int32) (1 : Int32)) kk) ?_
  refine gof T0 m 10 #[vr x1, vi 47, vi 0, vi 1, vi 47, vi 0] [(.int 1), (.int 0)] (fun _ kk => XS.iloadN W0.here hx rfl (hb hby d1009_0) rfl (XS.i2b W0.here hx rfl (hb hby d1009_1) rfl (XS.istore W0.here hx rfl (hb hby d1009_2) rfl (l' := #[vr x1, vi 47, vi 0, vi 1, vi 47, U0]) rfl (XS.iloadN W0.here hx rfl (hb hby d1009_4) rfl (XS.istore W0.here hx rfl (hb hby d1009_5) rfl (l' := #[vr x1, vi 47, vi 0, vi 1, vi 47, vi 0]) rfl (XS.iload W0.here hx rfl (hb hby d1009_7) rfl (XS.iloadN W0.here hx rfl (hb hby d1009_9) rfl kk))))))) ?_
  refine gof T0 m 16 #[vr x1, vi 47, vi 0, vi 1, vi 47, vi 0] [(.int 0), (.ref x1)] (fun _ kk => XS.icmpNo W0.here hx rfl (hb hby d1009_10) rfl (XT.ii_ge_f (by decide +kernel)) (XS.aloadN W0.here hx rfl (hb hby d1009_13) rfl rfl (XS.iload W0.here hx rfl (hb hby d1009_14) rfl kk))) ?_
  refine W0.baload hx A1 ⟨by decide, by decide⟩ (v := (.int (StrChars.lo8 q1))) rfl rfl rfl (hb hby d1009_16) ?_
  refine gof T0 m 19 #[vr x1, vi 47, vi 0, vi 1, vi 47, vi 0] [(.int 47), (.int (StrChars.lo8 q1))] (fun _ kk => XS.iload W0.here hx rfl (hb hby d1009_17) rfl kk) ?_
  by_cases c1 : (StrChars.lo8 q1) = (47 : Int32)
  · refine gof T0 m 24 #[vr x1, vi 47, vi 0, vi 1, vi 47, vi 0] [(.int 0)] (fun _ kk => XS.icmpNo W0.here hx rfl (hb hby d1009_19) rfl (XT.ii_ne_f c1) (XS.iload W0.here hx rfl (hb hby d1009_22) rfl kk)) ?_
    have e0 : q1 = (47 : Int32) := lo8_47 cq1 c1
    have ea : (idxC (47 : Int32) [q1] (0 : Int32)) = (0 : Int32) := by simp [idxC, e0]
    exact W0.retI hx hEL hs hlk (by decide +kernel) (by decide +kernel) hret (by simp) rfl (hb hby d1009_24) ⟨by rw [ea], rfl⟩
  · refine gof T0 m 32 #[vr x1, vi 47, vi 0, vi 1, vi 47, vi 1] [(.int (-1 : Int32))] (fun _ kk => XS.icmpYes W0.here hx rfl (pc0 := 19) (pc' := 25) rfl (hb hby d1009_19) rfl (XT.ii_ne_t c1) (by decide +kernel) (by decide +kernel) (XS.iinc W0.here hx rfl (hb hby d1009_25) rfl (l' := #[vr x1, vi 47, vi 0, vi 1, vi 47, vi 1]) rfl (XS.goto W0.here hx rfl (pc0 := 28) (pc' := 7) rfl (hb hby d1009_28) (by decide +kernel) (by decide +kernel) (XS.iload W0.here hx rfl (hb hby d1009_7) rfl (XS.iloadN W0.here hx rfl (hb hby d1009_9) rfl (XS.icmpYes W0.here hx rfl (pc0 := 10) (pc' := 31) rfl (hb hby d1009_10) rfl (XT.ii_ge_t (by decide +kernel)) (by decide +kernel) (by decide +kernel) (XS.iconst W0.here hx rfl (hb hby d1009_31) kk))))))) ?_
    have e0 : ¬ q1 = (47 : Int32) := lo8_47n c1
    have ea : (idxC (47 : Int32) [q1] (0 : Int32)) = (-1 : Int32) := by simp [idxC, e0]
    exact W0.retI hx hEL hs hlk (by decide +kernel) (by decide +kernel) hret (by simp) rfl (hb hby d1009_32) ⟨by rw [ea], rfl⟩
theorem d1010_0 : decode jdk_43_method_22_code 0 = .ok (.iload_n 1, 1) := by decide +kernel
theorem d1010_1 : decode jdk_43_method_22_code 1 = .ok (.invokestatic 88, 3) := by decide +kernel
theorem d1010_4 : decode jdk_43_method_22_code 4 = .ok (.ifCond .ne 5, 3) := by decide +kernel
theorem d1010_9 : decode jdk_43_method_22_code 9 = .ok (.iload_n 2, 1) := by decide +kernel
theorem d1010_10 : decode jdk_43_method_22_code 10 = .ok (.iconst 0, 1) := by decide +kernel
theorem d1010_11 : decode jdk_43_method_22_code 11 = .ok (.invokestatic 92, 3) := by decide +kernel
theorem d1010_14 : decode jdk_43_method_22_code 14 = .ok (.istore_n 2, 1) := by decide +kernel
theorem d1010_15 : decode jdk_43_method_22_code 15 = .ok (.iload_n 3, 1) := by decide +kernel
theorem d1010_16 : decode jdk_43_method_22_code 16 = .ok (.aload_n 0, 1) := by decide +kernel
theorem d1010_17 : decode jdk_43_method_22_code 17 = .ok (.arraylength, 1) := by decide +kernel
theorem d1010_18 : decode jdk_43_method_22_code 18 = .ok (.invokestatic 38, 3) := by decide +kernel
theorem d1010_21 : decode jdk_43_method_22_code 21 = .ok (.istore_n 3, 1) := by decide +kernel
theorem d1010_22 : decode jdk_43_method_22_code 22 = .ok (.iload_n 2, 1) := by decide +kernel
theorem d1010_23 : decode jdk_43_method_22_code 23 = .ok (.iload_n 3, 1) := by decide +kernel
theorem d1010_24 : decode jdk_43_method_22_code 24 = .ok (.if_icmp .lt 5, 3) := by decide +kernel
theorem d1010_29 : decode jdk_43_method_22_code 29 = .ok (.aload_n 0, 1) := by decide +kernel
theorem d1010_30 : decode jdk_43_method_22_code 30 = .ok (.iload_n 1, 1) := by decide +kernel
theorem d1010_31 : decode jdk_43_method_22_code 31 = .ok (.iload_n 2, 1) := by decide +kernel
theorem d1010_32 : decode jdk_43_method_22_code 32 = .ok (.iload_n 3, 1) := by decide +kernel
theorem d1010_33 : decode jdk_43_method_22_code 33 = .ok (.invokestatic 95, 3) := by decide +kernel
theorem d1010_36 : decode jdk_43_method_22_code 36 = .ok (.ireturn, 1) := by decide +kernel
theorem ef111 (m : MethodId) (x0 : Addr) (x1 : Int32) (x2 : Int32) (x3 : Int32)  : entryFrame m #[(.ref x0), (.int x1), (.int x2), (.int x3)] 4 = mkF m 0 #[vr x0, vi x1, vi x2, vi x3] [] := by first | (simp [entryFrame, mkF, argsToLocals, Value.category]; done) | rfl | rfl
set_option maxRecDepth 65536 in
set_option maxHeartbeats 40000000 in
theorem rm111 (l : Launch) (Z : State) (a0 : Array Value) (hw : ∀ d ∈ tables_1, d.before a0 Z = true) (hEL : EW Z a0 EL0) (zc : Int32) (SC : Sta Z Z.heap "java/lang/String" "COMPACT_STRINGS" "Z" (.int zc)) (hzc : ¬ zc = 0) (fm : Value) (SF : Sta Z Z.heap "jdk/internal/util/Preconditions" "SIOOBE_FORMATTER" "Ljava/util/function/BiFunction;" fm) (rfm : fm.isRef = true) (x1 : Addr) (kc : ClassId) (q1 : Int32) (h0 : Heap) {n0 : Nat} (O0 : Old Z n0 h0) (A1 : Arv Z h0 x1 kc .byte (1 : Int32) [(.int (StrChars.lo8 q1))] (.int (0 : Int32))) (cq1 : ¬ q1 < 0 ∧ ¬ (255 : Int32) < q1) :
    Met l Z EL0 n0 (⟨"java/lang/StringLatin1", "indexOf", "([BIII)I"⟩ : MethodName) jdk_43_method_22_code 4 (some .int) [] ({ frames := 1, cells := 0, slots := 0, locals := 17 } : Room) #[(.ref x1), (.int (47 : Int32)), (.int (0 : Int32)), (.int (1 : Int32))] h0 [] [] (fun v h' => v = some (.int (idxC (47 : Int32) [q1] (0 : Int32))) ∧ h0 = h') := by
  refine Met.of (plainFor_of_name pn2) O0 ?_
  intro p e s m below meth c T0 hx hby hml hret hlk hnm hs W0
  have W0 : Wk p l e _ s m _ below meth c Z EL0 n0 [] "java/lang/StringLatin1" [] T0 0 0 h0 := W0
  have hSA := fun d hd => hw d (sa_in d hd)
  have hws := fun d hd => hw d (ws_in d hd)
  have hln := fun d hd => hw d (ln_in d hd)
  have hch := fun d hd => hw d (ch_in d hd)
  have heq := fun d hd => hw d (eq_in d hd)
  have hem := fun d hd => hw d (em_in d hd)
  refine Go.of (fun _ kk => castTop (ef111 m x1 (47 : Int32) (0 : Int32) (1 : Int32)) kk) ?_
  refine gof T0 m 1 #[vr x1, vi 47, vi 0, vi 1] [(.int 47)] (fun _ kk => XS.iloadN W0.here hx rfl (hb hby d1010_0) rfl kk) ?_
  refine W0.callS hx hEL (hw _ (mI 82 rfl)) (hw _ (mI 83 rfl)) (hw _ (mI 80 rfl)) (hw _ (mI 84 rfl)) (by decide +kernel) (argsL := [(.int (47 : Int32))]) (rest := []) (rm7 l Z a0 hw hEL zc SC hzc fm SF rfm (47 : Int32) h0 W0.old ⟨by decide, by decide⟩) all0 (by decide +kernel) (Wd := 0) (by decide +kernel) (by decide +kernel) (by decide +kernel) all0 rfl (by rw [hml]; rfl) (lenOf pd1 rfl) rfl (by show 2 * 0 + _ ≤ _; exact Nat.le_of_eq rfl) (hb hby d1010_1) (fun T1 h1 v1 W1 K1 q1 => ?_)
  obtain ⟨rfl, rfl⟩ := q1
  refine gof T1 m 11 #[vr x1, vi 47, vi 0, vi 1] [(.int 0), (.int 0)] (fun _ kk => XS.ifYes W1.here hx rfl (pc0 := 4) (pc' := 9) rfl (hb hby d1010_4) rfl (XT.i0_ne_t (by decide +kernel)) (by decide +kernel) (by decide +kernel) (XS.iloadN W1.here hx rfl (hb hby d1010_9) rfl (XS.iconst W1.here hx rfl (hb hby d1010_10) kk))) ?_
  refine W1.callS hx hEL (hw _ (mI 85 rfl)) (hw _ (mI 86 rfl)) (hw _ (mI 87 rfl)) (hw _ (mI 88 rfl)) (by decide +kernel) (argsL := [(.int (0 : Int32)), (.int (0 : Int32))]) (rest := []) (rm4 l Z a0 hw hEL zc SC hzc fm SF rfm (0 : Int32) h0 W1.old ) all0 (by decide +kernel) (Wd := 0) (by decide +kernel) (by decide +kernel) (by decide +kernel) all0 rfl (by rw [hml]; rfl) (lenOf pd2 rfl) rfl (by show 2 * 0 + _ ≤ _; exact Nat.le_of_eq rfl) (hb hby d1010_11) (fun T2 h2 v2 W2 K2 q2 => ?_)
  obtain ⟨rfl, rfl⟩ := q2
  refine gof T2 m 17 #[vr x1, vi 47, vi 0, vi 1] [(.ref x1), (.int 1)] (fun _ kk => XS.istoreN W2.here hx rfl (hb hby d1010_14) rfl (l' := #[vr x1, vi 47, vi 0, vi 1]) rfl (XS.iloadN W2.here hx rfl (hb hby d1010_15) rfl (XS.aloadN W2.here hx rfl (hb hby d1010_16) rfl rfl kk))) ?_
  refine W2.alen hx A1 rfl rfl (hb hby d1010_17) ?_
  show Go p e below _ (T2.setTop (mkF m 18 #[vr x1, vi 47, vi 0, vi 1] [(.int 1), (.int 1)]))
  refine W2.callS hx hEL (hw _ (mI 89 rfl)) (hw _ (mI 90 rfl)) (hw _ (mI 87 rfl)) (hw _ (mI 91 rfl)) (by decide +kernel) (argsL := [(.int (1 : Int32)), (.int (1 : Int32))]) (rest := []) (rm5 l Z a0 hw hEL zc SC hzc fm SF rfm (1 : Int32) h0 W2.old ) all0 (by decide +kernel) (Wd := 0) (by decide +kernel) (by decide +kernel) (by decide +kernel) all0 rfl (by rw [hml]; rfl) (lenOf pd2 rfl) rfl (by show 2 * 0 + _ ≤ _; exact Nat.le_of_eq rfl) (hb hby d1010_18) (fun T3 h3 v3 W3 K3 q3 => ?_)
  obtain ⟨rfl, rfl⟩ := q3
  refine gof T3 m 32 #[vr x1, vi 47, vi 0, vi 1] [(.int 0), (.int 47), (.ref x1)] (fun _ kk => XS.istoreN W3.here hx rfl (hb hby d1010_21) rfl (l' := #[vr x1, vi 47, vi 0, vi 1]) rfl (XS.iloadN W3.here hx rfl (hb hby d1010_22) rfl (XS.iloadN W3.here hx rfl (hb hby d1010_23) rfl (XS.icmpYes W3.here hx rfl (pc0 := 24) (pc' := 29) rfl (hb hby d1010_24) rfl (XT.ii_lt_t (by decide +kernel)) (by decide +kernel) (by decide +kernel) (XS.aloadN W3.here hx rfl (hb hby d1010_29) rfl rfl (XS.iloadN W3.here hx rfl (hb hby d1010_30) rfl (XS.iloadN W3.here hx rfl (hb hby d1010_31) rfl kk))))))) ?_
  refine gof T3 m 33 #[vr x1, vi 47, vi 0, vi 1] [(.int 1), (.int 0), (.int 47), (.ref x1)] (fun _ kk => XS.iloadN W3.here hx rfl (hb hby d1010_32) rfl kk) ?_
  refine W3.callS hx hEL (hw _ (mI 92 rfl)) (hw _ (mI 93 rfl)) (hw _ (mI 80 rfl)) (hw _ (mI 94 rfl)) (by decide +kernel) (argsL := [(.ref x1), (.int (47 : Int32)), (.int (0 : Int32)), (.int (1 : Int32))]) (rest := []) (rm110 l Z a0 hw hEL zc SC hzc fm SF rfm x1 kc q1 h0 W3.old A1 cq1) all0 (by decide +kernel) (Wd := 0) (by decide +kernel) (by decide +kernel) (by decide +kernel) all0 rfl (by rw [hml]; rfl) (lenOf pd3 rfl) rfl (by show 2 * 0 + _ ≤ _; exact Nat.le_of_eq rfl) (hb hby d1010_33) (fun T4 h4 v4 W4 K4 q4 => ?_)
  obtain ⟨rfl, rfl⟩ := q4
  show Go p e below _ (T4.setTop (mkF m 36 #[vr x1, vi 47, vi 0, vi 1] [(.int (idxC (47 : Int32) [q1] (0 : Int32)))]))
  exact W4.retI hx hEL hs hlk (by decide +kernel) (by decide +kernel) hret (by simp) rfl (hb hby d1010_36) ⟨rfl, rfl⟩
theorem d1011_0 : decode jdk_42_method_80_code 0 = .ok (.aload_n 0, 1) := by decide +kernel
theorem d1011_1 : decode jdk_42_method_80_code 1 = .ok (.invokevirtual 492, 3) := by decide +kernel
theorem d1011_4 : decode jdk_42_method_80_code 4 = .ok (.ifCond .eq 19, 3) := by decide +kernel
theorem d1011_7 : decode jdk_42_method_80_code 7 = .ok (.aload_n 0, 1) := by decide +kernel
theorem d1011_8 : decode jdk_42_method_80_code 8 = .ok (.getfield 9, 3) := by decide +kernel
theorem d1011_11 : decode jdk_42_method_80_code 11 = .ok (.iload_n 1, 1) := by decide +kernel
theorem d1011_12 : decode jdk_42_method_80_code 12 = .ok (.iload_n 2, 1) := by decide +kernel
theorem d1011_13 : decode jdk_42_method_80_code 13 = .ok (.aload_n 0, 1) := by decide +kernel
theorem d1011_14 : decode jdk_42_method_80_code 14 = .ok (.invokevirtual 505, 3) := by decide +kernel
theorem d1011_17 : decode jdk_42_method_80_code 17 = .ok (.invokestatic 637, 3) := by decide +kernel
theorem d1011_20 : decode jdk_42_method_80_code 20 = .ok (.goto 16, 3) := by decide +kernel
theorem d1011_36 : decode jdk_42_method_80_code 36 = .ok (.ireturn, 1) := by decide +kernel
theorem ef112 (m : MethodId) (x0 : Addr) (x1 : Int32) (x2 : Int32)  : entryFrame m #[(.ref x0), (.int x1), (.int x2)] 3 = mkF m 0 #[vr x0, vi x1, vi x2] [] := by first | (simp [entryFrame, mkF, argsToLocals, Value.category]; done) | rfl | rfl
set_option maxRecDepth 65536 in
set_option maxHeartbeats 40000000 in
theorem rm112 (l : Launch) (Z : State) (a0 : Array Value) (hw : ∀ d ∈ tables_1, d.before a0 Z = true) (hEL : EW Z a0 EL0) (zc : Int32) (SC : Sta Z Z.heap "java/lang/String" "COMPACT_STRINGS" "Z" (.int zc)) (hzc : ¬ zc = 0) (fm : Value) (SF : Sta Z Z.heap "jdk/internal/util/Preconditions" "SIOOBE_FORMATTER" "Ljava/util/function/BiFunction;" fm) (rfm : fm.isRef = true) (x1 : Addr) (q1 : Int32) (h0 : Heap) {n0 : Nat} (O0 : Old Z n0 h0) (S1 : Str Z h0 x1 [q1]) (cq1 : ¬ q1 < 0 ∧ ¬ (255 : Int32) < q1) :
    Met l Z EL0 n0 (⟨"java/lang/String", "indexOf", "(II)I"⟩ : MethodName) jdk_42_method_80_code 3 (some .int) [] ({ frames := 2, cells := 0, slots := 0, locals := 32 } : Room) #[(.ref x1), (.int (47 : Int32)), (.int (0 : Int32))] h0 [] [] (fun v h' => v = some (.int (idxC (47 : Int32) [q1] (0 : Int32))) ∧ h0 = h') := by
  refine Met.of (plainFor_of_name pn1) O0 ?_
  intro p e s m below meth c T0 hx hby hml hret hlk hnm hs W0
  have W0 : Wk p l e _ s m _ below meth c Z EL0 n0 [] "java/lang/String" [] T0 0 0 h0 := W0
  have hSA := fun d hd => hw d (sa_in d hd)
  have hws := fun d hd => hw d (ws_in d hd)
  have hln := fun d hd => hw d (ln_in d hd)
  have hch := fun d hd => hw d (ch_in d hd)
  have heq := fun d hd => hw d (eq_in d hd)
  have hem := fun d hd => hw d (em_in d hd)
  refine Go.of (fun _ kk => castTop (ef112 m x1 (47 : Int32) (0 : Int32)) kk) ?_
  show Go p e below _ (T0.setTop (mkF m 0 #[vr x1, vi 47, vi 0] []))
  obtain ⟨t1, kb1, E1, Fv1, Fc1, A1⟩ := S1.open_ (snd255 (allSi cq1 all0i))
  have V1 : Arv Z h0 t1 kb1 .byte (1 : Int32) [(.int (StrChars.lo8 q1))] (.int (0 : Int32)) := A1
  refine gof T0 m 1 #[vr x1, vi 47, vi 0] [(.ref x1)] (fun _ kk => XS.aloadN W0.here hx rfl (hb hby d1011_0) rfl rfl kk) ?_
  refine W0.callV hx hEL (hw _ (mI 63 rfl)) (hw _ (mI 64 rfl)) (hw _ (mI 66 rfl)) (hw _ (mI 65 rfl)) (hw _ (mI 7 rfl)) (hw _ (mI 67 rfl)) (by decide +kernel) E1 (a := x1) (argsL := []) (rest := []) (rm6 l Z a0 hw hEL zc SC hzc fm SF rfm x1 h0 W0.old Fc1) all0 (by decide +kernel) (Wd := 0) (by decide +kernel) (by decide +kernel) (by decide +kernel) all0 rfl (by rw [hml]; rfl) (lenOf pd4 rfl) rfl (by show 2 * 0 + _ ≤ _; exact Nat.le_of_eq rfl) (hb hby d1011_1) (fun T2 h2 v2 W2 K2 q2 => ?_)
  obtain ⟨rfl, rfl⟩ := q2
  refine gof T2 m 8 #[vr x1, vi 47, vi 0] [(.ref x1)] (fun _ kk => XS.ifNo W2.here hx rfl (hb hby d1011_4) rfl (XT.i0_eq_f (by decide +kernel)) (XS.aloadN W2.here hx rfl (hb hby d1011_7) rfl rfl kk)) ?_
  refine W2.getF hx (host := "") (Or.inl (hw _ (mI 32 rfl))) Via.refl Fv1 rfl rfl (hb hby d1011_8) (fun T3 W3 => ?_)
  refine gof T3 m 14 #[vr x1, vi 47, vi 0] [(.ref x1), (.int 0), (.int 47), (.ref t1)] (fun _ kk => XS.iloadN W3.here hx rfl (hb hby d1011_11) rfl (XS.iloadN W3.here hx rfl (hb hby d1011_12) rfl (XS.aloadN W3.here hx rfl (hb hby d1011_13) rfl rfl kk))) ?_
  refine W3.strLen hx hln (hw _ (mI 6 rfl)) SC hzc S1 (hw _ (mI 68 rfl)) (hw _ (mI 69 rfl)) (hw _ (mI 71 rfl)) (hw _ (mI 70 rfl)) (by decide +kernel) (Wd := 3) (by decide +kernel) (by decide +kernel) (by decide +kernel) rfl (by rw [hml]; rfl) rfl (by show 2 * 0 + _ ≤ _; exact Nat.le_of_eq rfl) (hb hby d1011_14) (fun T4 W4 => ?_)
  show Go p e below _ (T4.setTop (mkF m 17 #[vr x1, vi 47, vi 0] [(.int 1), (.int 0), (.int 47), (.ref t1)]))
  refine W4.callS hx hEL (hw _ (mI 78 rfl)) (hw _ (mI 79 rfl)) (hw _ (mI 80 rfl)) (hw _ (mI 81 rfl)) (by decide +kernel) (argsL := [(.ref t1), (.int (47 : Int32)), (.int (0 : Int32)), (.int (1 : Int32))]) (rest := []) (rm111 l Z a0 hw hEL zc SC hzc fm SF rfm t1 kb1 q1 h0 W4.old V1 cq1) all0 (by decide +kernel) (Wd := 0) (by decide +kernel) (by decide +kernel) (by decide +kernel) all0 rfl (by rw [hml]; rfl) (lenOf pd3 rfl) rfl (by show 2 * 0 + _ ≤ _; exact Nat.le_of_eq rfl) (hb hby d1011_17) (fun T5 h5 v5 W5 K5 q5 => ?_)
  obtain ⟨rfl, rfl⟩ := q5
  refine gof T5 m 36 #[vr x1, vi 47, vi 0] [(.int (idxC (47 : Int32) [q1] (0 : Int32)))] (fun _ kk => XS.goto W5.here hx rfl (pc0 := 20) (pc' := 36) rfl (hb hby d1011_20) (by decide +kernel) (by decide +kernel) kk) ?_
  exact W5.retI hx hEL hs hlk (by decide +kernel) (by decide +kernel) hret (by simp) rfl (hb hby d1011_36) ⟨rfl, rfl⟩
theorem d1012_0 : decode jdk_42_method_79_code 0 = .ok (.aload_n 0, 1) := by decide +kernel
theorem d1012_1 : decode jdk_42_method_79_code 1 = .ok (.iload_n 1, 1) := by decide +kernel
theorem d1012_2 : decode jdk_42_method_79_code 2 = .ok (.iconst 0, 1) := by decide +kernel
theorem d1012_3 : decode jdk_42_method_79_code 3 = .ok (.invokevirtual 633, 3) := by decide +kernel
theorem d1012_6 : decode jdk_42_method_79_code 6 = .ok (.ireturn, 1) := by decide +kernel
theorem ef113 (m : MethodId) (x0 : Addr) (x1 : Int32)  : entryFrame m #[(.ref x0), (.int x1)] 2 = mkF m 0 #[vr x0, vi x1] [] := by first | (simp [entryFrame, mkF, argsToLocals, Value.category]; done) | rfl | rfl
set_option maxRecDepth 65536 in
set_option maxHeartbeats 40000000 in
theorem rm113 (l : Launch) (Z : State) (a0 : Array Value) (hw : ∀ d ∈ tables_1, d.before a0 Z = true) (hEL : EW Z a0 EL0) (zc : Int32) (SC : Sta Z Z.heap "java/lang/String" "COMPACT_STRINGS" "Z" (.int zc)) (hzc : ¬ zc = 0) (fm : Value) (SF : Sta Z Z.heap "jdk/internal/util/Preconditions" "SIOOBE_FORMATTER" "Ljava/util/function/BiFunction;" fm) (rfm : fm.isRef = true) (x1 : Addr) (q1 : Int32) (h0 : Heap) {n0 : Nat} (O0 : Old Z n0 h0) (S1 : Str Z h0 x1 [q1]) (cq1 : ¬ q1 < 0 ∧ ¬ (255 : Int32) < q1) :
    Met l Z EL0 n0 (⟨"java/lang/String", "indexOf", "(I)I"⟩ : MethodName) jdk_42_method_79_code 2 (some .int) [] ({ frames := 3, cells := 0, slots := 0, locals := 46 } : Room) #[(.ref x1), (.int (47 : Int32))] h0 [] [] (fun v h' => v = some (.int (idxC (47 : Int32) [q1] (0 : Int32))) ∧ h0 = h') := by
  refine Met.of (plainFor_of_name pn1) O0 ?_
  intro p e s m below meth c T0 hx hby hml hret hlk hnm hs W0
  have W0 : Wk p l e _ s m _ below meth c Z EL0 n0 [] "java/lang/String" [] T0 0 0 h0 := W0
  have hSA := fun d hd => hw d (sa_in d hd)
  have hws := fun d hd => hw d (ws_in d hd)
  have hln := fun d hd => hw d (ln_in d hd)
  have hch := fun d hd => hw d (ch_in d hd)
  have heq := fun d hd => hw d (eq_in d hd)
  have hem := fun d hd => hw d (em_in d hd)
  refine Go.of (fun _ kk => castTop (ef113 m x1 (47 : Int32)) kk) ?_
  show Go p e below _ (T0.setTop (mkF m 0 #[vr x1, vi 47] []))
  obtain ⟨t1, kb1, E1, Fv1, Fc1, A1⟩ := S1.open_ (snd255 (allSi cq1 all0i))
  have V1 : Arv Z h0 t1 kb1 .byte (1 : Int32) [(.int (StrChars.lo8 q1))] (.int (0 : Int32)) := A1
  refine gof T0 m 3 #[vr x1, vi 47] [(.int 0), (.int 47), (.ref x1)] (fun _ kk => XS.aloadN W0.here hx rfl (hb hby d1012_0) rfl rfl (XS.iloadN W0.here hx rfl (hb hby d1012_1) rfl (XS.iconst W0.here hx rfl (hb hby d1012_2) kk))) ?_
  refine W0.callV hx hEL (hw _ (mI 58 rfl)) (hw _ (mI 59 rfl)) (hw _ (mI 61 rfl)) (hw _ (mI 60 rfl)) (hw _ (mI 7 rfl)) (hw _ (mI 62 rfl)) (by decide +kernel) E1 (a := x1) (argsL := [(.int (47 : Int32)), (.int (0 : Int32))]) (rest := []) (rm112 l Z a0 hw hEL zc SC hzc fm SF rfm x1 q1 h0 W0.old S1 cq1) all0 (by decide +kernel) (Wd := 0) (by decide +kernel) (by decide +kernel) (by decide +kernel) all0 rfl (by rw [hml]; rfl) (lenOf pd2 rfl) rfl (by show 2 * 0 + _ ≤ _; exact Nat.le_of_eq rfl) (hb hby d1012_3) (fun T2 h2 v2 W2 K2 q2 => ?_)
  obtain ⟨rfl, rfl⟩ := q2
  show Go p e below _ (T2.setTop (mkF m 6 #[vr x1, vi 47] [(.int (idxC (47 : Int32) [q1] (0 : Int32)))]))
  exact W2.retI hx hEL hs hlk (by decide +kernel) (by decide +kernel) hret (by simp) rfl (hb hby d1012_6) ⟨rfl, rfl⟩
theorem ef120 (m : MethodId) (x0 : Addr) (x1 : Int32) (x2 : Int32) (x3 : Int32)  : entryFrame m #[(.ref x0), (.int x1), (.int x2), (.int x3)] 6 = mkF m 0 #[vr x0, vi x1, vi x2, vi x3, U0, U0] [] := by first | (simp [entryFrame, mkF, argsToLocals, Value.category]; done) | rfl | rfl
set_option maxRecDepth 65536 in
set_option maxHeartbeats 40000000 in
theorem rm120 (l : Launch) (Z : State) (a0 : Array Value) (hw : ∀ d ∈ tables_1, d.before a0 Z = true) (hEL : EW Z a0 EL0) (zc : Int32) (SC : Sta Z Z.heap "java/lang/String" "COMPACT_STRINGS" "Z" (.int zc)) (hzc : ¬ zc = 0) (fm : Value) (SF : Sta Z Z.heap "jdk/internal/util/Preconditions" "SIOOBE_FORMATTER" "Ljava/util/function/BiFunction;" fm) (rfm : fm.isRef = true) (x1 : Addr) (kc : ClassId) (q1 : Int32) (q2 : Int32) (h0 : Heap) {n0 : Nat} (O0 : Old Z n0 h0) (A1 : Arv Z h0 x1 kc .byte (2 : Int32) [(.int (StrChars.lo8 q1)), (.int (StrChars.lo8 q2))] (.int (0 : Int32))) (cq1 : ¬ q1 < 0 ∧ ¬ (255 : Int32) < q1) (cq2 : ¬ q2 < 0 ∧ ¬ (255 : Int32) < q2) :
    Met l Z EL0 n0 (⟨"java/lang/StringLatin1", "indexOfChar", "([BIII)I"⟩ : MethodName) jdk_43_method_23_code 6 (some .int) [] ({ frames := 0, cells := 0, slots := 0, locals := 0 } : Room) #[(.ref x1), (.int (47 : Int32)), (.int (0 : Int32)), (.int (2 : Int32))] h0 [] [] (fun v h' => v = some (.int (idxC (47 : Int32) [q1, q2] (0 : Int32))) ∧ h0 = h') := by
  refine Met.of (plainFor_of_name pn2) O0 ?_
  intro p e s m below meth c T0 hx hby hml hret hlk hnm hs W0
  have W0 : Wk p l e _ s m _ below meth c Z EL0 n0 [] "java/lang/StringLatin1" [] T0 0 0 h0 := W0
  have hSA := fun d hd => hw d (sa_in d hd)
  have hws := fun d hd => hw d (ws_in d hd)
  have hln := fun d hd => hw d (ln_in d hd)
  have hch := fun d hd => hw d (ch_in d hd)
  have heq := fun d hd => hw d (eq_in d hd)
  have hem := fun d hd => hw d (em_in d hd)
  refine Go.of (fun _ kk => castTop (ef120 m x1 (47 : Int32) (0 : Int32) (2 : Int32)) kk) ?_
  refine gof T0 m 10 #[vr x1, vi 47, vi 0, vi 2, vi 47, vi 0] [(.int 2), (.int 0)] (fun _ kk => XS.iloadN W0.here hx rfl (hb hby d1009_0) rfl (XS.i2b W0.here hx rfl (hb hby d1009_1) rfl (XS.istore W0.here hx rfl (hb hby d1009_2) rfl (l' := #[vr x1, vi 47, vi 0, vi 2, vi 47, U0]) rfl (XS.iloadN W0.here hx rfl (hb hby d1009_4) rfl (XS.istore W0.here hx rfl (hb hby d1009_5) rfl (l' := #[vr x1, vi 47, vi 0, vi 2, vi 47, vi 0]) rfl (XS.iload W0.here hx rfl (hb hby d1009_7) rfl (XS.iloadN W0.here hx rfl (hb hby d1009_9) rfl kk))))))) ?_
  refine gof T0 m 16 #[vr x1, vi 47, vi 0, vi 2, vi 47, vi 0] [(.int 0), (.ref x1)] (fun _ kk => XS.icmpNo W0.here hx rfl (hb hby d1009_10) rfl (XT.ii_ge_f (by decide +kernel)) (XS.aloadN W0.here hx rfl (hb hby d1009_13) rfl rfl (XS.iload W0.here hx rfl (hb hby d1009_14) rfl kk))) ?_
  refine W0.baload hx A1 ⟨by decide, by decide⟩ (v := (.int (StrChars.lo8 q1))) rfl rfl rfl (hb hby d1009_16) ?_
  refine gof T0 m 19 #[vr x1, vi 47, vi 0, vi 2, vi 47, vi 0] [(.int 47), (.int (StrChars.lo8 q1))] (fun _ kk => XS.iload W0.here hx rfl (hb hby d1009_17) rfl kk) ?_
  by_cases c1 : (StrChars.lo8 q1) = (47 : Int32)
  · refine gof T0 m 24 #[vr x1, vi 47, vi 0, vi 2, vi 47, vi 0] [(.int 0)] (fun _ kk => XS.icmpNo W0.here hx rfl (hb hby d1009_19) rfl (XT.ii_ne_f c1) (XS.iload W0.here hx rfl (hb hby d1009_22) rfl kk)) ?_
    have e0 : q1 = (47 : Int32) := lo8_47 cq1 c1
    have ea : (idxC (47 : Int32) [q1, q2] (0 : Int32)) = (0 : Int32) := by simp [idxC, e0]
    exact W0.retI hx hEL hs hlk (by decide +kernel) (by decide +kernel) hret (by simp) rfl (hb hby d1009_24) ⟨by rw [ea], rfl⟩
  · refine gof T0 m 14 #[vr x1, vi 47, vi 0, vi 2, vi 47, vi 1] [(.ref x1)] (fun _ kk => XS.icmpYes W0.here hx rfl (pc0 := 19) (pc' := 25) rfl (hb hby d1009_19) rfl (XT.ii_ne_t c1) (by decide +kernel) (by decide +kernel) (XS.iinc W0.here hx rfl (hb hby d1009_25) rfl (l' := #[vr x1, vi 47, vi 0, vi 2, vi 47, vi 1]) rfl (XS.goto W0.here hx rfl (pc0 := 28) (pc' := 7) rfl (hb hby d1009_28) (by decide +kernel) (by decide +kernel) (XS.iload W0.here hx rfl (hb hby d1009_7) rfl (XS.iloadN W0.here hx rfl (hb hby d1009_9) rfl (XS.icmpNo W0.here hx rfl (hb hby d1009_10) rfl (XT.ii_ge_f (by decide +kernel)) (XS.aloadN W0.here hx rfl (hb hby d1009_13) rfl rfl kk))))))) ?_
    refine gof T0 m 16 #[vr x1, vi 47, vi 0, vi 2, vi 47, vi 1] [(.int 1), (.ref x1)] (fun _ kk => XS.iload W0.here hx rfl (hb hby d1009_14) rfl kk) ?_
    refine W0.baload hx A1 ⟨by decide, by decide⟩ (v := (.int (StrChars.lo8 q2))) rfl rfl rfl (hb hby d1009_16) ?_
    refine gof T0 m 19 #[vr x1, vi 47, vi 0, vi 2, vi 47, vi 1] [(.int 47), (.int (StrChars.lo8 q2))] (fun _ kk => XS.iload W0.here hx rfl (hb hby d1009_17) rfl kk) ?_
    by_cases c2 : (StrChars.lo8 q2) = (47 : Int32)
    · refine gof T0 m 24 #[vr x1, vi 47, vi 0, vi 2, vi 47, vi 1] [(.int 1)] (fun _ kk => XS.icmpNo W0.here hx rfl (hb hby d1009_19) rfl (XT.ii_ne_f c2) (XS.iload W0.here hx rfl (hb hby d1009_22) rfl kk)) ?_
      have e0 : ¬ q1 = (47 : Int32) := lo8_47n c1
      have e1 : q2 = (47 : Int32) := lo8_47 cq2 c2
      have ea : (idxC (47 : Int32) [q1, q2] (0 : Int32)) = (1 : Int32) := by simp [idxC, e0, e1]
      exact W0.retI hx hEL hs hlk (by decide +kernel) (by decide +kernel) hret (by simp) rfl (hb hby d1009_24) ⟨by rw [ea], rfl⟩
    · refine gof T0 m 32 #[vr x1, vi 47, vi 0, vi 2, vi 47, vi 2] [(.int (-1 : Int32))] (fun _ kk => XS.icmpYes W0.here hx rfl (pc0 := 19) (pc' := 25) rfl (hb hby d1009_19) rfl (XT.ii_ne_t c2) (by decide +kernel) (by decide +kernel) (XS.iinc W0.here hx rfl (hb hby d1009_25) rfl (l' := #[vr x1, vi 47, vi 0, vi 2, vi 47, vi 2]) rfl (XS.goto W0.here hx rfl (pc0 := 28) (pc' := 7) rfl (hb hby d1009_28) (by decide +kernel) (by decide +kernel) (XS.iload W0.here hx rfl (hb hby d1009_7) rfl (XS.iloadN W0.here hx rfl (hb hby d1009_9) rfl (XS.icmpYes W0.here hx rfl (pc0 := 10) (pc' := 31) rfl (hb hby d1009_10) rfl (XT.ii_ge_t (by decide +kernel)) (by decide +kernel) (by decide +kernel) (XS.iconst W0.here hx rfl (hb hby d1009_31) kk))))))) ?_
      have e0 : ¬ q1 = (47 : Int32) := lo8_47n c1
      have e1 : ¬ q2 = (47 : Int32) := lo8_47n c2
      have ea : (idxC (47 : Int32) [q1, q2] (0 : Int32)) = (-1 : Int32) := by simp [idxC, e0, e1]
      exact W0.retI hx hEL hs hlk (by decide +kernel) (by decide +kernel) hret (by simp) rfl (hb hby d1009_32) ⟨by rw [ea], rfl⟩
theorem ef121 (m : MethodId) (x0 : Addr) (x1 : Int32) (x2 : Int32) (x3 : Int32)  : entryFrame m #[(.ref x0), (.int x1), (.int x2), (.int x3)] 4 = mkF m 0 #[vr x0, vi x1, vi x2, vi x3] [] := by first | (simp [entryFrame, mkF, argsToLocals, Value.category]; done) | rfl | rfl
set_option maxRecDepth 65536 in
set_option maxHeartbeats 40000000 in
theorem rm121 (l : Launch) (Z : State) (a0 : Array Value) (hw : ∀ d ∈ tables_1, d.before a0 Z = true) (hEL : EW Z a0 EL0) (zc : Int32) (SC : Sta Z Z.heap "java/lang/String" "COMPACT_STRINGS" "Z" (.int zc)) (hzc : ¬ zc = 0) (fm : Value) (SF : Sta Z Z.heap "jdk/internal/util/Preconditions" "SIOOBE_FORMATTER" "Ljava/util/function/BiFunction;" fm) (rfm : fm.isRef = true) (x1 : Addr) (kc : ClassId) (q1 : Int32) (q2 : Int32) (h0 : Heap) {n0 : Nat} (O0 : Old Z n0 h0) (A1 : Arv Z h0 x1 kc .byte (2 : Int32) [(.int (StrChars.lo8 q1)), (.int (StrChars.lo8 q2))] (.int (0 : Int32))) (cq1 : ¬ q1 < 0 ∧ ¬ (255 : Int32) < q1) (cq2 : ¬ q2 < 0 ∧ ¬ (255 : Int32) < q2) :
    Met l Z EL0 n0 (⟨"java/lang/StringLatin1", "indexOf", "([BIII)I"⟩ : MethodName) jdk_43_method_22_code 4 (some .int) [] ({ frames := 1, cells := 0, slots := 0, locals := 17 } : Room) #[(.ref x1), (.int (47 : Int32)), (.int (0 : Int32)), (.int (2 : Int32))] h0 [] [] (fun v h' => v = some (.int (idxC (47 : Int32) [q1, q2] (0 : Int32))) ∧ h0 = h') := by
  refine Met.of (plainFor_of_name pn2) O0 ?_
  intro p e s m below meth c T0 hx hby hml hret hlk hnm hs W0
  have W0 : Wk p l e _ s m _ below meth c Z EL0 n0 [] "java/lang/StringLatin1" [] T0 0 0 h0 := W0
  have hSA := fun d hd => hw d (sa_in d hd)
  have hws := fun d hd => hw d (ws_in d hd)
  have hln := fun d hd => hw d (ln_in d hd)
  have hch := fun d hd => hw d (ch_in d hd)
  have heq := fun d hd => hw d (eq_in d hd)
  have hem := fun d hd => hw d (em_in d hd)
  refine Go.of (fun _ kk => castTop (ef121 m x1 (47 : Int32) (0 : Int32) (2 : Int32)) kk) ?_
  refine gof T0 m 1 #[vr x1, vi 47, vi 0, vi 2] [(.int 47)] (fun _ kk => XS.iloadN W0.here hx rfl (hb hby d1010_0) rfl kk) ?_
  refine W0.callS hx hEL (hw _ (mI 82 rfl)) (hw _ (mI 83 rfl)) (hw _ (mI 80 rfl)) (hw _ (mI 84 rfl)) (by decide +kernel) (argsL := [(.int (47 : Int32))]) (rest := []) (rm7 l Z a0 hw hEL zc SC hzc fm SF rfm (47 : Int32) h0 W0.old ⟨by decide, by decide⟩) all0 (by decide +kernel) (Wd := 0) (by decide +kernel) (by decide +kernel) (by decide +kernel) all0 rfl (by rw [hml]; rfl) (lenOf pd1 rfl) rfl (by show 2 * 0 + _ ≤ _; exact Nat.le_of_eq rfl) (hb hby d1010_1) (fun T1 h1 v1 W1 K1 q1 => ?_)
  obtain ⟨rfl, rfl⟩ := q1
  refine gof T1 m 11 #[vr x1, vi 47, vi 0, vi 2] [(.int 0), (.int 0)] (fun _ kk => XS.ifYes W1.here hx rfl (pc0 := 4) (pc' := 9) rfl (hb hby d1010_4) rfl (XT.i0_ne_t (by decide +kernel)) (by decide +kernel) (by decide +kernel) (XS.iloadN W1.here hx rfl (hb hby d1010_9) rfl (XS.iconst W1.here hx rfl (hb hby d1010_10) kk))) ?_
  refine W1.callS hx hEL (hw _ (mI 85 rfl)) (hw _ (mI 86 rfl)) (hw _ (mI 87 rfl)) (hw _ (mI 88 rfl)) (by decide +kernel) (argsL := [(.int (0 : Int32)), (.int (0 : Int32))]) (rest := []) (rm4 l Z a0 hw hEL zc SC hzc fm SF rfm (0 : Int32) h0 W1.old ) all0 (by decide +kernel) (Wd := 0) (by decide +kernel) (by decide +kernel) (by decide +kernel) all0 rfl (by rw [hml]; rfl) (lenOf pd2 rfl) rfl (by show 2 * 0 + _ ≤ _; exact Nat.le_of_eq rfl) (hb hby d1010_11) (fun T2 h2 v2 W2 K2 q2 => ?_)
  obtain ⟨rfl, rfl⟩ := q2
  refine gof T2 m 17 #[vr x1, vi 47, vi 0, vi 2] [(.ref x1), (.int 2)] (fun _ kk => XS.istoreN W2.here hx rfl (hb hby d1010_14) rfl (l' := #[vr x1, vi 47, vi 0, vi 2]) rfl (XS.iloadN W2.here hx rfl (hb hby d1010_15) rfl (XS.aloadN W2.here hx rfl (hb hby d1010_16) rfl rfl kk))) ?_
  refine W2.alen hx A1 rfl rfl (hb hby d1010_17) ?_
  show Go p e below _ (T2.setTop (mkF m 18 #[vr x1, vi 47, vi 0, vi 2] [(.int 2), (.int 2)]))
  refine W2.callS hx hEL (hw _ (mI 89 rfl)) (hw _ (mI 90 rfl)) (hw _ (mI 87 rfl)) (hw _ (mI 91 rfl)) (by decide +kernel) (argsL := [(.int (2 : Int32)), (.int (2 : Int32))]) (rest := []) (rm5 l Z a0 hw hEL zc SC hzc fm SF rfm (2 : Int32) h0 W2.old ) all0 (by decide +kernel) (Wd := 0) (by decide +kernel) (by decide +kernel) (by decide +kernel) all0 rfl (by rw [hml]; rfl) (lenOf pd2 rfl) rfl (by show 2 * 0 + _ ≤ _; exact Nat.le_of_eq rfl) (hb hby d1010_18) (fun T3 h3 v3 W3 K3 q3 => ?_)
  obtain ⟨rfl, rfl⟩ := q3
  refine gof T3 m 32 #[vr x1, vi 47, vi 0, vi 2] [(.int 0), (.int 47), (.ref x1)] (fun _ kk => XS.istoreN W3.here hx rfl (hb hby d1010_21) rfl (l' := #[vr x1, vi 47, vi 0, vi 2]) rfl (XS.iloadN W3.here hx rfl (hb hby d1010_22) rfl (XS.iloadN W3.here hx rfl (hb hby d1010_23) rfl (XS.icmpYes W3.here hx rfl (pc0 := 24) (pc' := 29) rfl (hb hby d1010_24) rfl (XT.ii_lt_t (by decide +kernel)) (by decide +kernel) (by decide +kernel) (XS.aloadN W3.here hx rfl (hb hby d1010_29) rfl rfl (XS.iloadN W3.here hx rfl (hb hby d1010_30) rfl (XS.iloadN W3.here hx rfl (hb hby d1010_31) rfl kk))))))) ?_
  refine gof T3 m 33 #[vr x1, vi 47, vi 0, vi 2] [(.int 2), (.int 0), (.int 47), (.ref x1)] (fun _ kk => XS.iloadN W3.here hx rfl (hb hby d1010_32) rfl kk) ?_
  refine W3.callS hx hEL (hw _ (mI 92 rfl)) (hw _ (mI 93 rfl)) (hw _ (mI 80 rfl)) (hw _ (mI 94 rfl)) (by decide +kernel) (argsL := [(.ref x1), (.int (47 : Int32)), (.int (0 : Int32)), (.int (2 : Int32))]) (rest := []) (rm120 l Z a0 hw hEL zc SC hzc fm SF rfm x1 kc q1 q2 h0 W3.old A1 cq1 cq2) all0 (by decide +kernel) (Wd := 0) (by decide +kernel) (by decide +kernel) (by decide +kernel) all0 rfl (by rw [hml]; rfl) (lenOf pd3 rfl) rfl (by show 2 * 0 + _ ≤ _; exact Nat.le_of_eq rfl) (hb hby d1010_33) (fun T4 h4 v4 W4 K4 q4 => ?_)
  obtain ⟨rfl, rfl⟩ := q4
  show Go p e below _ (T4.setTop (mkF m 36 #[vr x1, vi 47, vi 0, vi 2] [(.int (idxC (47 : Int32) [q1, q2] (0 : Int32)))]))
  exact W4.retI hx hEL hs hlk (by decide +kernel) (by decide +kernel) hret (by simp) rfl (hb hby d1010_36) ⟨rfl, rfl⟩
theorem ef122 (m : MethodId) (x0 : Addr) (x1 : Int32) (x2 : Int32)  : entryFrame m #[(.ref x0), (.int x1), (.int x2)] 3 = mkF m 0 #[vr x0, vi x1, vi x2] [] := by first | (simp [entryFrame, mkF, argsToLocals, Value.category]; done) | rfl | rfl
set_option maxRecDepth 65536 in
set_option maxHeartbeats 40000000 in
theorem rm122 (l : Launch) (Z : State) (a0 : Array Value) (hw : ∀ d ∈ tables_1, d.before a0 Z = true) (hEL : EW Z a0 EL0) (zc : Int32) (SC : Sta Z Z.heap "java/lang/String" "COMPACT_STRINGS" "Z" (.int zc)) (hzc : ¬ zc = 0) (fm : Value) (SF : Sta Z Z.heap "jdk/internal/util/Preconditions" "SIOOBE_FORMATTER" "Ljava/util/function/BiFunction;" fm) (rfm : fm.isRef = true) (x1 : Addr) (q1 : Int32) (q2 : Int32) (h0 : Heap) {n0 : Nat} (O0 : Old Z n0 h0) (S1 : Str Z h0 x1 [q1, q2]) (cq1 : ¬ q1 < 0 ∧ ¬ (255 : Int32) < q1) (cq2 : ¬ q2 < 0 ∧ ¬ (255 : Int32) < q2) :
    Met l Z EL0 n0 (⟨"java/lang/String", "indexOf", "(II)I"⟩ : MethodName) jdk_42_method_80_code 3 (some .int) [] ({ frames := 2, cells := 0, slots := 0, locals := 32 } : Room) #[(.ref x1), (.int (47 : Int32)), (.int (0 : Int32))] h0 [] [] (fun v h' => v = some (.int (idxC (47 : Int32) [q1, q2] (0 : Int32))) ∧ h0 = h') := by
  refine Met.of (plainFor_of_name pn1) O0 ?_
  intro p e s m below meth c T0 hx hby hml hret hlk hnm hs W0
  have W0 : Wk p l e _ s m _ below meth c Z EL0 n0 [] "java/lang/String" [] T0 0 0 h0 := W0
  have hSA := fun d hd => hw d (sa_in d hd)
  have hws := fun d hd => hw d (ws_in d hd)
  have hln := fun d hd => hw d (ln_in d hd)
  have hch := fun d hd => hw d (ch_in d hd)
  have heq := fun d hd => hw d (eq_in d hd)
  have hem := fun d hd => hw d (em_in d hd)
  refine Go.of (fun _ kk => castTop (ef122 m x1 (47 : Int32) (0 : Int32)) kk) ?_
  show Go p e below _ (T0.setTop (mkF m 0 #[vr x1, vi 47, vi 0] []))
  obtain ⟨t1, kb1, E1, Fv1, Fc1, A1⟩ := S1.open_ (snd255 (allSi cq1 (allSi cq2 all0i)))
  have V1 : Arv Z h0 t1 kb1 .byte (2 : Int32) [(.int (StrChars.lo8 q1)), (.int (StrChars.lo8 q2))] (.int (0 : Int32)) := A1
  refine gof T0 m 1 #[vr x1, vi 47, vi 0] [(.ref x1)] (fun _ kk => XS.aloadN W0.here hx rfl (hb hby d1011_0) rfl rfl kk) ?_
  refine W0.callV hx hEL (hw _ (mI 63 rfl)) (hw _ (mI 64 rfl)) (hw _ (mI 66 rfl)) (hw _ (mI 65 rfl)) (hw _ (mI 7 rfl)) (hw _ (mI 67 rfl)) (by decide +kernel) E1 (a := x1) (argsL := []) (rest := []) (rm6 l Z a0 hw hEL zc SC hzc fm SF rfm x1 h0 W0.old Fc1) all0 (by decide +kernel) (Wd := 0) (by decide +kernel) (by decide +kernel) (by decide +kernel) all0 rfl (by rw [hml]; rfl) (lenOf pd4 rfl) rfl (by show 2 * 0 + _ ≤ _; exact Nat.le_of_eq rfl) (hb hby d1011_1) (fun T2 h2 v2 W2 K2 q2 => ?_)
  obtain ⟨rfl, rfl⟩ := q2
  refine gof T2 m 8 #[vr x1, vi 47, vi 0] [(.ref x1)] (fun _ kk => XS.ifNo W2.here hx rfl (hb hby d1011_4) rfl (XT.i0_eq_f (by decide +kernel)) (XS.aloadN W2.here hx rfl (hb hby d1011_7) rfl rfl kk)) ?_
  refine W2.getF hx (host := "") (Or.inl (hw _ (mI 32 rfl))) Via.refl Fv1 rfl rfl (hb hby d1011_8) (fun T3 W3 => ?_)
  refine gof T3 m 14 #[vr x1, vi 47, vi 0] [(.ref x1), (.int 0), (.int 47), (.ref t1)] (fun _ kk => XS.iloadN W3.here hx rfl (hb hby d1011_11) rfl (XS.iloadN W3.here hx rfl (hb hby d1011_12) rfl (XS.aloadN W3.here hx rfl (hb hby d1011_13) rfl rfl kk))) ?_
  refine W3.strLen hx hln (hw _ (mI 6 rfl)) SC hzc S1 (hw _ (mI 68 rfl)) (hw _ (mI 69 rfl)) (hw _ (mI 71 rfl)) (hw _ (mI 70 rfl)) (by decide +kernel) (Wd := 3) (by decide +kernel) (by decide +kernel) (by decide +kernel) rfl (by rw [hml]; rfl) rfl (by show 2 * 0 + _ ≤ _; exact Nat.le_of_eq rfl) (hb hby d1011_14) (fun T4 W4 => ?_)
  show Go p e below _ (T4.setTop (mkF m 17 #[vr x1, vi 47, vi 0] [(.int 2), (.int 0), (.int 47), (.ref t1)]))
  refine W4.callS hx hEL (hw _ (mI 78 rfl)) (hw _ (mI 79 rfl)) (hw _ (mI 80 rfl)) (hw _ (mI 81 rfl)) (by decide +kernel) (argsL := [(.ref t1), (.int (47 : Int32)), (.int (0 : Int32)), (.int (2 : Int32))]) (rest := []) (rm121 l Z a0 hw hEL zc SC hzc fm SF rfm t1 kb1 q1 q2 h0 W4.old V1 cq1 cq2) all0 (by decide +kernel) (Wd := 0) (by decide +kernel) (by decide +kernel) (by decide +kernel) all0 rfl (by rw [hml]; rfl) (lenOf pd3 rfl) rfl (by show 2 * 0 + _ ≤ _; exact Nat.le_of_eq rfl) (hb hby d1011_17) (fun T5 h5 v5 W5 K5 q5 => ?_)
  obtain ⟨rfl, rfl⟩ := q5
  refine gof T5 m 36 #[vr x1, vi 47, vi 0] [(.int (idxC (47 : Int32) [q1, q2] (0 : Int32)))] (fun _ kk => XS.goto W5.here hx rfl (pc0 := 20) (pc' := 36) rfl (hb hby d1011_20) (by decide +kernel) (by decide +kernel) kk) ?_
  exact W5.retI hx hEL hs hlk (by decide +kernel) (by decide +kernel) hret (by simp) rfl (hb hby d1011_36) ⟨rfl, rfl⟩
theorem ef123 (m : MethodId) (x0 : Addr) (x1 : Int32)  : entryFrame m #[(.ref x0), (.int x1)] 2 = mkF m 0 #[vr x0, vi x1] [] := by first | (simp [entryFrame, mkF, argsToLocals, Value.category]; done) | rfl | rfl
set_option maxRecDepth 65536 in
set_option maxHeartbeats 40000000 in
theorem rm123 (l : Launch) (Z : State) (a0 : Array Value) (hw : ∀ d ∈ tables_1, d.before a0 Z = true) (hEL : EW Z a0 EL0) (zc : Int32) (SC : Sta Z Z.heap "java/lang/String" "COMPACT_STRINGS" "Z" (.int zc)) (hzc : ¬ zc = 0) (fm : Value) (SF : Sta Z Z.heap "jdk/internal/util/Preconditions" "SIOOBE_FORMATTER" "Ljava/util/function/BiFunction;" fm) (rfm : fm.isRef = true) (x1 : Addr) (q1 : Int32) (q2 : Int32) (h0 : Heap) {n0 : Nat} (O0 : Old Z n0 h0) (S1 : Str Z h0 x1 [q1, q2]) (cq1 : ¬ q1 < 0 ∧ ¬ (255 : Int32) < q1) (cq2 : ¬ q2 < 0 ∧ ¬ (255 : Int32) < q2) :
    Met l Z EL0 n0 (⟨"java/lang/String", "indexOf", "(I)I"⟩ : MethodName) jdk_42_method_79_code 2 (some .int) [] ({ frames := 3, cells := 0, slots := 0, locals := 46 } : Room) #[(.ref x1), (.int (47 : Int32))] h0 [] [] (fun v h' => v = some (.int (idxC (47 : Int32) [q1, q2] (0 : Int32))) ∧ h0 = h') := by
  refine Met.of (plainFor_of_name pn1) O0 ?_
  intro p e s m below meth c T0 hx hby hml hret hlk hnm hs W0
  have W0 : Wk p l e _ s m _ below meth c Z EL0 n0 [] "java/lang/String" [] T0 0 0 h0 := W0
  have hSA := fun d hd => hw d (sa_in d hd)
  have hws := fun d hd => hw d (ws_in d hd)
  have hln := fun d hd => hw d (ln_in d hd)
  have hch := fun d hd => hw d (ch_in d hd)
  have heq := fun d hd => hw d (eq_in d hd)
  have hem := fun d hd => hw d (em_in d hd)
  refine Go.of (fun _ kk => castTop (ef123 m x1 (47 : Int32)) kk) ?_
  show Go p e below _ (T0.setTop (mkF m 0 #[vr x1, vi 47] []))
  obtain ⟨t1, kb1, E1, Fv1, Fc1, A1⟩ := S1.open_ (snd255 (allSi cq1 (allSi cq2 all0i)))
  have V1 : Arv Z h0 t1 kb1 .byte (2 : Int32) [(.int (StrChars.lo8 q1)), (.int (StrChars.lo8 q2))] (.int (0 : Int32)) := A1
  refine gof T0 m 3 #[vr x1, vi 47] [(.int 0), (.int 47), (.ref x1)] (fun _ kk => XS.aloadN W0.here hx rfl (hb hby d1012_0) rfl rfl (XS.iloadN W0.here hx rfl (hb hby d1012_1) rfl (XS.iconst W0.here hx rfl (hb hby d1012_2) kk))) ?_
  refine W0.callV hx hEL (hw _ (mI 58 rfl)) (hw _ (mI 59 rfl)) (hw _ (mI 61 rfl)) (hw _ (mI 60 rfl)) (hw _ (mI 7 rfl)) (hw _ (mI 62 rfl)) (by decide +kernel) E1 (a := x1) (argsL := [(.int (47 : Int32)), (.int (0 : Int32))]) (rest := []) (rm122 l Z a0 hw hEL zc SC hzc fm SF rfm x1 q1 q2 h0 W0.old S1 cq1 cq2) all0 (by decide +kernel) (Wd := 0) (by decide +kernel) (by decide +kernel) (by decide +kernel) all0 rfl (by rw [hml]; rfl) (lenOf pd2 rfl) rfl (by show 2 * 0 + _ ≤ _; exact Nat.le_of_eq rfl) (hb hby d1012_3) (fun T2 h2 v2 W2 K2 q2 => ?_)
  obtain ⟨rfl, rfl⟩ := q2
  show Go p e below _ (T2.setTop (mkF m 6 #[vr x1, vi 47] [(.int (idxC (47 : Int32) [q1, q2] (0 : Int32)))]))
  exact W2.retI hx hEL hs hlk (by decide +kernel) (by decide +kernel) hret (by simp) rfl (hb hby d1012_6) ⟨rfl, rfl⟩
theorem ef130 (m : MethodId) (x0 : Addr) (x1 : Int32) (x2 : Int32) (x3 : Int32)  : entryFrame m #[(.ref x0), (.int x1), (.int x2), (.int x3)] 6 = mkF m 0 #[vr x0, vi x1, vi x2, vi x3, U0, U0] [] := by first | (simp [entryFrame, mkF, argsToLocals, Value.category]; done) | rfl | rfl
set_option maxRecDepth 65536 in
set_option maxHeartbeats 40000000 in
theorem rm130 (l : Launch) (Z : State) (a0 : Array Value) (hw : ∀ d ∈ tables_1, d.before a0 Z = true) (hEL : EW Z a0 EL0) (zc : Int32) (SC : Sta Z Z.heap "java/lang/String" "COMPACT_STRINGS" "Z" (.int zc)) (hzc : ¬ zc = 0) (fm : Value) (SF : Sta Z Z.heap "jdk/internal/util/Preconditions" "SIOOBE_FORMATTER" "Ljava/util/function/BiFunction;" fm) (rfm : fm.isRef = true) (x1 : Addr) (kc : ClassId) (q1 : Int32) (q2 : Int32) (q3 : Int32) (h0 : Heap) {n0 : Nat} (O0 : Old Z n0 h0) (A1 : Arv Z h0 x1 kc .byte (3 : Int32) [(.int (StrChars.lo8 q1)), (.int (StrChars.lo8 q2)), (.int (StrChars.lo8 q3))] (.int (0 : Int32))) (cq1 : ¬ q1 < 0 ∧ ¬ (255 : Int32) < q1) (cq2 : ¬ q2 < 0 ∧ ¬ (255 : Int32) < q2) (cq3 : ¬ q3 < 0 ∧ ¬ (255 : Int32) < q3) :
    Met l Z EL0 n0 (⟨"java/lang/StringLatin1", "indexOfChar", "([BIII)I"⟩ : MethodName) jdk_43_method_23_code 6 (some .int) [] ({ frames := 0, cells := 0, slots := 0, locals := 0 } : Room) #[(.ref x1), (.int (47 : Int32)), (.int (0 : Int32)), (.int (3 : Int32))] h0 [] [] (fun v h' => v = some (.int (idxC (47 : Int32) [q1, q2, q3] (0 : Int32))) ∧ h0 = h') := by
  refine Met.of (plainFor_of_name pn2) O0 ?_
  intro p e s m below meth c T0 hx hby hml hret hlk hnm hs W0
  have W0 : Wk p l e _ s m _ below meth c Z EL0 n0 [] "java/lang/StringLatin1" [] T0 0 0 h0 := W0
  have hSA := fun d hd => hw d (sa_in d hd)
  have hws := fun d hd => hw d (ws_in d hd)
  have hln := fun d hd => hw d (ln_in d hd)
  have hch := fun d hd => hw d (ch_in d hd)
  have heq := fun d hd => hw d (eq_in d hd)
  have hem := fun d hd => hw d (em_in d hd)
  refine Go.of (fun _ kk => castTop (ef130 m x1 (47 : Int32) (0 : Int32) (3 : Int32)) kk) ?_
  refine gof T0 m 10 #[vr x1, vi 47, vi 0, vi 3, vi 47, vi 0] [(.int 3), (.int 0)] (fun _ kk => XS.iloadN W0.here hx rfl (hb hby d1009_0) rfl (XS.i2b W0.here hx rfl (hb hby d1009_1) rfl (XS.istore W0.here hx rfl (hb hby d1009_2) rfl (l' := #[vr x1, vi 47, vi 0, vi 3, vi 47, U0]) rfl (XS.iloadN W0.here hx rfl (hb hby d1009_4) rfl (XS.istore W0.here hx rfl (hb hby d1009_5) rfl (l' := #[vr x1, vi 47, vi 0, vi 3, vi 47, vi 0]) rfl (XS.iload W0.here hx rfl (hb hby d1009_7) rfl (XS.iloadN W0.here hx rfl (hb hby d1009_9) rfl kk))))))) ?_
  refine gof T0 m 16 #[vr x1, vi 47, vi 0, vi 3, vi 47, vi 0] [(.int 0), (.ref x1)] (fun _ kk => XS.icmpNo W0.here hx rfl (hb hby d1009_10) rfl (XT.ii_ge_f (by decide +kernel)) (XS.aloadN W0.here hx rfl (hb hby d1009_13) rfl rfl (XS.iload W0.here hx rfl (hb hby d1009_14) rfl kk))) ?_
  refine W0.baload hx A1 ⟨by decide, by decide⟩ (v := (.int (StrChars.lo8 q1))) rfl rfl rfl (hb hby d1009_16) ?_
  refine gof T0 m 19 #[vr x1, vi 47, vi 0, vi 3, vi 47, vi 0] [(.int 47), (.int (StrChars.lo8 q1))] (fun _ kk => XS.iload W0.here hx rfl (hb hby d1009_17) rfl kk) ?_
  by_cases c1 : (StrChars.lo8 q1) = (47 : Int32)
  · refine gof T0 m 24 #[vr x1, vi 47, vi 0, vi 3, vi 47, vi 0] [(.int 0)] (fun _ kk => XS.icmpNo W0.here hx rfl (hb hby d1009_19) rfl (XT.ii_ne_f c1) (XS.iload W0.here hx rfl (hb hby d1009_22) rfl kk)) ?_
    have e0 : q1 = (47 : Int32) := lo8_47 cq1 c1
    have ea : (idxC (47 : Int32) [q1, q2, q3] (0 : Int32)) = (0 : Int32) := by simp [idxC, e0]
    exact W0.retI hx hEL hs hlk (by decide +kernel) (by decide +kernel) hret (by simp) rfl (hb hby d1009_24) ⟨by rw [ea], rfl⟩
  · refine gof T0 m 14 #[vr x1, vi 47, vi 0, vi 3, vi 47, vi 1] [(.ref x1)] (fun _ kk => XS.icmpYes W0.here hx rfl (pc0 := 19) (pc' := 25) rfl (hb hby d1009_19) rfl (XT.ii_ne_t c1) (by decide +kernel) (by decide +kernel) (XS.iinc W0.here hx rfl (hb hby d1009_25) rfl (l' := #[vr x1, vi 47, vi 0, vi 3, vi 47, vi 1]) rfl (XS.goto W0.here hx rfl (pc0 := 28) (pc' := 7) rfl (hb hby d1009_28) (by decide +kernel) (by decide +kernel) (XS.iload W0.here hx rfl (hb hby d1009_7) rfl (XS.iloadN W0.here hx rfl (hb hby d1009_9) rfl (XS.icmpNo W0.here hx rfl (hb hby d1009_10) rfl (XT.ii_ge_f (by decide +kernel)) (XS.aloadN W0.here hx rfl (hb hby d1009_13) rfl rfl kk))))))) ?_
    refine gof T0 m 16 #[vr x1, vi 47, vi 0, vi 3, vi 47, vi 1] [(.int 1), (.ref x1)] (fun _ kk => XS.iload W0.here hx rfl (hb hby d1009_14) rfl kk) ?_
    refine W0.baload hx A1 ⟨by decide, by decide⟩ (v := (.int (StrChars.lo8 q2))) rfl rfl rfl (hb hby d1009_16) ?_
    refine gof T0 m 19 #[vr x1, vi 47, vi 0, vi 3, vi 47, vi 1] [(.int 47), (.int (StrChars.lo8 q2))] (fun _ kk => XS.iload W0.here hx rfl (hb hby d1009_17) rfl kk) ?_
    by_cases c2 : (StrChars.lo8 q2) = (47 : Int32)
    · refine gof T0 m 24 #[vr x1, vi 47, vi 0, vi 3, vi 47, vi 1] [(.int 1)] (fun _ kk => XS.icmpNo W0.here hx rfl (hb hby d1009_19) rfl (XT.ii_ne_f c2) (XS.iload W0.here hx rfl (hb hby d1009_22) rfl kk)) ?_
      have e0 : ¬ q1 = (47 : Int32) := lo8_47n c1
      have e1 : q2 = (47 : Int32) := lo8_47 cq2 c2
      have ea : (idxC (47 : Int32) [q1, q2, q3] (0 : Int32)) = (1 : Int32) := by simp [idxC, e0, e1]
      exact W0.retI hx hEL hs hlk (by decide +kernel) (by decide +kernel) hret (by simp) rfl (hb hby d1009_24) ⟨by rw [ea], rfl⟩
    · refine gof T0 m 14 #[vr x1, vi 47, vi 0, vi 3, vi 47, vi 2] [(.ref x1)] (fun _ kk => XS.icmpYes W0.here hx rfl (pc0 := 19) (pc' := 25) rfl (hb hby d1009_19) rfl (XT.ii_ne_t c2) (by decide +kernel) (by decide +kernel) (XS.iinc W0.here hx rfl (hb hby d1009_25) rfl (l' := #[vr x1, vi 47, vi 0, vi 3, vi 47, vi 2]) rfl (XS.goto W0.here hx rfl (pc0 := 28) (pc' := 7) rfl (hb hby d1009_28) (by decide +kernel) (by decide +kernel) (XS.iload W0.here hx rfl (hb hby d1009_7) rfl (XS.iloadN W0.here hx rfl (hb hby d1009_9) rfl (XS.icmpNo W0.here hx rfl (hb hby d1009_10) rfl (XT.ii_ge_f (by decide +kernel)) (XS.aloadN W0.here hx rfl (hb hby d1009_13) rfl rfl kk))))))) ?_
      refine gof T0 m 16 #[vr x1, vi 47, vi 0, vi 3, vi 47, vi 2] [(.int 2), (.ref x1)] (fun _ kk => XS.iload W0.here hx rfl (hb hby d1009_14) rfl kk) ?_
      refine W0.baload hx A1 ⟨by decide, by decide⟩ (v := (.int (StrChars.lo8 q3))) rfl rfl rfl (hb hby d1009_16) ?_
      refine gof T0 m 19 #[vr x1, vi 47, vi 0, vi 3, vi 47, vi 2] [(.int 47), (.int (StrChars.lo8 q3))] (fun _ kk => XS.iload W0.here hx rfl (hb hby d1009_17) rfl kk) ?_
      by_cases c3 : (StrChars.lo8 q3) = (47 : Int32)
      · refine gof T0 m 24 #[vr x1, vi 47, vi 0, vi 3, vi 47, vi 2] [(.int 2)] (fun _ kk => XS.icmpNo W0.here hx rfl (hb hby d1009_19) rfl (XT.ii_ne_f c3) (XS.iload W0.here hx rfl (hb hby d1009_22) rfl kk)) ?_
        have e0 : ¬ q1 = (47 : Int32) := lo8_47n c1
        have e1 : ¬ q2 = (47 : Int32) := lo8_47n c2
        have e2 : q3 = (47 : Int32) := lo8_47 cq3 c3
        have ea : (idxC (47 : Int32) [q1, q2, q3] (0 : Int32)) = (2 : Int32) := by simp [idxC, e0, e1, e2]
        exact W0.retI hx hEL hs hlk (by decide +kernel) (by decide +kernel) hret (by simp) rfl (hb hby d1009_24) ⟨by rw [ea], rfl⟩
      · refine gof T0 m 32 #[vr x1, vi 47, vi 0, vi 3, vi 47, vi 3] [(.int (-1 : Int32))] (fun _ kk => XS.icmpYes W0.here hx rfl (pc0 := 19) (pc' := 25) rfl (hb hby d1009_19) rfl (XT.ii_ne_t c3) (by decide +kernel) (by decide +kernel) (XS.iinc W0.here hx rfl (hb hby d1009_25) rfl (l' := #[vr x1, vi 47, vi 0, vi 3, vi 47, vi 3]) rfl (XS.goto W0.here hx rfl (pc0 := 28) (pc' := 7) rfl (hb hby d1009_28) (by decide +kernel) (by decide +kernel) (XS.iload W0.here hx rfl (hb hby d1009_7) rfl (XS.iloadN W0.here hx rfl (hb hby d1009_9) rfl (XS.icmpYes W0.here hx rfl (pc0 := 10) (pc' := 31) rfl (hb hby d1009_10) rfl (XT.ii_ge_t (by decide +kernel)) (by decide +kernel) (by decide +kernel) (XS.iconst W0.here hx rfl (hb hby d1009_31) kk))))))) ?_
        have e0 : ¬ q1 = (47 : Int32) := lo8_47n c1
        have e1 : ¬ q2 = (47 : Int32) := lo8_47n c2
        have e2 : ¬ q3 = (47 : Int32) := lo8_47n c3
        have ea : (idxC (47 : Int32) [q1, q2, q3] (0 : Int32)) = (-1 : Int32) := by simp [idxC, e0, e1, e2]
        exact W0.retI hx hEL hs hlk (by decide +kernel) (by decide +kernel) hret (by simp) rfl (hb hby d1009_32) ⟨by rw [ea], rfl⟩
theorem ef131 (m : MethodId) (x0 : Addr) (x1 : Int32) (x2 : Int32) (x3 : Int32)  : entryFrame m #[(.ref x0), (.int x1), (.int x2), (.int x3)] 4 = mkF m 0 #[vr x0, vi x1, vi x2, vi x3] [] := by first | (simp [entryFrame, mkF, argsToLocals, Value.category]; done) | rfl | rfl
set_option maxRecDepth 65536 in
set_option maxHeartbeats 40000000 in
theorem rm131 (l : Launch) (Z : State) (a0 : Array Value) (hw : ∀ d ∈ tables_1, d.before a0 Z = true) (hEL : EW Z a0 EL0) (zc : Int32) (SC : Sta Z Z.heap "java/lang/String" "COMPACT_STRINGS" "Z" (.int zc)) (hzc : ¬ zc = 0) (fm : Value) (SF : Sta Z Z.heap "jdk/internal/util/Preconditions" "SIOOBE_FORMATTER" "Ljava/util/function/BiFunction;" fm) (rfm : fm.isRef = true) (x1 : Addr) (kc : ClassId) (q1 : Int32) (q2 : Int32) (q3 : Int32) (h0 : Heap) {n0 : Nat} (O0 : Old Z n0 h0) (A1 : Arv Z h0 x1 kc .byte (3 : Int32) [(.int (StrChars.lo8 q1)), (.int (StrChars.lo8 q2)), (.int (StrChars.lo8 q3))] (.int (0 : Int32))) (cq1 : ¬ q1 < 0 ∧ ¬ (255 : Int32) < q1) (cq2 : ¬ q2 < 0 ∧ ¬ (255 : Int32) < q2) (cq3 : ¬ q3 < 0 ∧ ¬ (255 : Int32) < q3) :
    Met l Z EL0 n0 (⟨"java/lang/StringLatin1", "indexOf", "([BIII)I"⟩ : MethodName) jdk_43_method_22_code 4 (some .int) [] ({ frames := 1, cells := 0, slots := 0, locals := 17 } : Room) #[(.ref x1), (.int (47 : Int32)), (.int (0 : Int32)), (.int (3 : Int32))] h0 [] [] (fun v h' => v = some (.int (idxC (47 : Int32) [q1, q2, q3] (0 : Int32))) ∧ h0 = h') := by
  refine Met.of (plainFor_of_name pn2) O0 ?_
  intro p e s m below meth c T0 hx hby hml hret hlk hnm hs W0
  have W0 : Wk p l e _ s m _ below meth c Z EL0 n0 [] "java/lang/StringLatin1" [] T0 0 0 h0 := W0
  have hSA := fun d hd => hw d (sa_in d hd)
  have hws := fun d hd => hw d (ws_in d hd)
  have hln := fun d hd => hw d (ln_in d hd)
  have hch := fun d hd => hw d (ch_in d hd)
  have heq := fun d hd => hw d (eq_in d hd)
  have hem := fun d hd => hw d (em_in d hd)
  refine Go.of (fun _ kk => castTop (ef131 m x1 (47 : Int32) (0 : Int32) (3 : Int32)) kk) ?_
  refine gof T0 m 1 #[vr x1, vi 47, vi 0, vi 3] [(.int 47)] (fun _ kk => XS.iloadN W0.here hx rfl (hb hby d1010_0) rfl kk) ?_
  refine W0.callS hx hEL (hw _ (mI 82 rfl)) (hw _ (mI 83 rfl)) (hw _ (mI 80 rfl)) (hw _ (mI 84 rfl)) (by decide +kernel) (argsL := [(.int (47 : Int32))]) (rest := []) (rm7 l Z a0 hw hEL zc SC hzc fm SF rfm (47 : Int32) h0 W0.old ⟨by decide, by decide⟩) all0 (by decide +kernel) (Wd := 0) (by decide +kernel) (by decide +kernel) (by decide +kernel) all0 rfl (by rw [hml]; rfl) (lenOf pd1 rfl) rfl (by show 2 * 0 + _ ≤ _; exact Nat.le_of_eq rfl) (hb hby d1010_1) (fun T1 h1 v1 W1 K1 q1 => ?_)
  obtain ⟨rfl, rfl⟩ := q1
  refine gof T1 m 11 #[vr x1, vi 47, vi 0, vi 3] [(.int 0), (.int 0)] (fun _ kk => XS.ifYes W1.here hx rfl (pc0 := 4) (pc' := 9) rfl (hb hby d1010_4) rfl (XT.i0_ne_t (by decide +kernel)) (by decide +kernel) (by decide +kernel) (XS.iloadN W1.here hx rfl (hb hby d1010_9) rfl (XS.iconst W1.here hx rfl (hb hby d1010_10) kk))) ?_
  refine W1.callS hx hEL (hw _ (mI 85 rfl)) (hw _ (mI 86 rfl)) (hw _ (mI 87 rfl)) (hw _ (mI 88 rfl)) (by decide +kernel) (argsL := [(.int (0 : Int32)), (.int (0 : Int32))]) (rest := []) (rm4 l Z a0 hw hEL zc SC hzc fm SF rfm (0 : Int32) h0 W1.old ) all0 (by decide +kernel) (Wd := 0) (by decide +kernel) (by decide +kernel) (by decide +kernel) all0 rfl (by rw [hml]; rfl) (lenOf pd2 rfl) rfl (by show 2 * 0 + _ ≤ _; exact Nat.le_of_eq rfl) (hb hby d1010_11) (fun T2 h2 v2 W2 K2 q2 => ?_)
  obtain ⟨rfl, rfl⟩ := q2
  refine gof T2 m 17 #[vr x1, vi 47, vi 0, vi 3] [(.ref x1), (.int 3)] (fun _ kk => XS.istoreN W2.here hx rfl (hb hby d1010_14) rfl (l' := #[vr x1, vi 47, vi 0, vi 3]) rfl (XS.iloadN W2.here hx rfl (hb hby d1010_15) rfl (XS.aloadN W2.here hx rfl (hb hby d1010_16) rfl rfl kk))) ?_
  refine W2.alen hx A1 rfl rfl (hb hby d1010_17) ?_
  show Go p e below _ (T2.setTop (mkF m 18 #[vr x1, vi 47, vi 0, vi 3] [(.int 3), (.int 3)]))
  refine W2.callS hx hEL (hw _ (mI 89 rfl)) (hw _ (mI 90 rfl)) (hw _ (mI 87 rfl)) (hw _ (mI 91 rfl)) (by decide +kernel) (argsL := [(.int (3 : Int32)), (.int (3 : Int32))]) (rest := []) (rm5 l Z a0 hw hEL zc SC hzc fm SF rfm (3 : Int32) h0 W2.old ) all0 (by decide +kernel) (Wd := 0) (by decide +kernel) (by decide +kernel) (by decide +kernel) all0 rfl (by rw [hml]; rfl) (lenOf pd2 rfl) rfl (by show 2 * 0 + _ ≤ _; exact Nat.le_of_eq rfl) (hb hby d1010_18) (fun T3 h3 v3 W3 K3 q3 => ?_)
  obtain ⟨rfl, rfl⟩ := q3
  refine gof T3 m 32 #[vr x1, vi 47, vi 0, vi 3] [(.int 0), (.int 47), (.ref x1)] (fun _ kk => XS.istoreN W3.here hx rfl (hb hby d1010_21) rfl (l' := #[vr x1, vi 47, vi 0, vi 3]) rfl (XS.iloadN W3.here hx rfl (hb hby d1010_22) rfl (XS.iloadN W3.here hx rfl (hb hby d1010_23) rfl (XS.icmpYes W3.here hx rfl (pc0 := 24) (pc' := 29) rfl (hb hby d1010_24) rfl (XT.ii_lt_t (by decide +kernel)) (by decide +kernel) (by decide +kernel) (XS.aloadN W3.here hx rfl (hb hby d1010_29) rfl rfl (XS.iloadN W3.here hx rfl (hb hby d1010_30) rfl (XS.iloadN W3.here hx rfl (hb hby d1010_31) rfl kk))))))) ?_
  refine gof T3 m 33 #[vr x1, vi 47, vi 0, vi 3] [(.int 3), (.int 0), (.int 47), (.ref x1)] (fun _ kk => XS.iloadN W3.here hx rfl (hb hby d1010_32) rfl kk) ?_
  refine W3.callS hx hEL (hw _ (mI 92 rfl)) (hw _ (mI 93 rfl)) (hw _ (mI 80 rfl)) (hw _ (mI 94 rfl)) (by decide +kernel) (argsL := [(.ref x1), (.int (47 : Int32)), (.int (0 : Int32)), (.int (3 : Int32))]) (rest := []) (rm130 l Z a0 hw hEL zc SC hzc fm SF rfm x1 kc q1 q2 q3 h0 W3.old A1 cq1 cq2 cq3) all0 (by decide +kernel) (Wd := 0) (by decide +kernel) (by decide +kernel) (by decide +kernel) all0 rfl (by rw [hml]; rfl) (lenOf pd3 rfl) rfl (by show 2 * 0 + _ ≤ _; exact Nat.le_of_eq rfl) (hb hby d1010_33) (fun T4 h4 v4 W4 K4 q4 => ?_)
  obtain ⟨rfl, rfl⟩ := q4
  show Go p e below _ (T4.setTop (mkF m 36 #[vr x1, vi 47, vi 0, vi 3] [(.int (idxC (47 : Int32) [q1, q2, q3] (0 : Int32)))]))
  exact W4.retI hx hEL hs hlk (by decide +kernel) (by decide +kernel) hret (by simp) rfl (hb hby d1010_36) ⟨rfl, rfl⟩
theorem ef132 (m : MethodId) (x0 : Addr) (x1 : Int32) (x2 : Int32)  : entryFrame m #[(.ref x0), (.int x1), (.int x2)] 3 = mkF m 0 #[vr x0, vi x1, vi x2] [] := by first | (simp [entryFrame, mkF, argsToLocals, Value.category]; done) | rfl | rfl
set_option maxRecDepth 65536 in
set_option maxHeartbeats 40000000 in
theorem rm132 (l : Launch) (Z : State) (a0 : Array Value) (hw : ∀ d ∈ tables_1, d.before a0 Z = true) (hEL : EW Z a0 EL0) (zc : Int32) (SC : Sta Z Z.heap "java/lang/String" "COMPACT_STRINGS" "Z" (.int zc)) (hzc : ¬ zc = 0) (fm : Value) (SF : Sta Z Z.heap "jdk/internal/util/Preconditions" "SIOOBE_FORMATTER" "Ljava/util/function/BiFunction;" fm) (rfm : fm.isRef = true) (x1 : Addr) (q1 : Int32) (q2 : Int32) (q3 : Int32) (h0 : Heap) {n0 : Nat} (O0 : Old Z n0 h0) (S1 : Str Z h0 x1 [q1, q2, q3]) (cq1 : ¬ q1 < 0 ∧ ¬ (255 : Int32) < q1) (cq2 : ¬ q2 < 0 ∧ ¬ (255 : Int32) < q2) (cq3 : ¬ q3 < 0 ∧ ¬ (255 : Int32) < q3) :
    Met l Z EL0 n0 (⟨"java/lang/String", "indexOf", "(II)I"⟩ : MethodName) jdk_42_method_80_code 3 (some .int) [] ({ frames := 2, cells := 0, slots := 0, locals := 32 } : Room) #[(.ref x1), (.int (47 : Int32)), (.int (0 : Int32))] h0 [] [] (fun v h' => v = some (.int (idxC (47 : Int32) [q1, q2, q3] (0 : Int32))) ∧ h0 = h') := by
  refine Met.of (plainFor_of_name pn1) O0 ?_
  intro p e s m below meth c T0 hx hby hml hret hlk hnm hs W0
  have W0 : Wk p l e _ s m _ below meth c Z EL0 n0 [] "java/lang/String" [] T0 0 0 h0 := W0
  have hSA := fun d hd => hw d (sa_in d hd)
  have hws := fun d hd => hw d (ws_in d hd)
  have hln := fun d hd => hw d (ln_in d hd)
  have hch := fun d hd => hw d (ch_in d hd)
  have heq := fun d hd => hw d (eq_in d hd)
  have hem := fun d hd => hw d (em_in d hd)
  refine Go.of (fun _ kk => castTop (ef132 m x1 (47 : Int32) (0 : Int32)) kk) ?_
  show Go p e below _ (T0.setTop (mkF m 0 #[vr x1, vi 47, vi 0] []))
  obtain ⟨t1, kb1, E1, Fv1, Fc1, A1⟩ := S1.open_ (snd255 (allSi cq1 (allSi cq2 (allSi cq3 all0i))))
  have V1 : Arv Z h0 t1 kb1 .byte (3 : Int32) [(.int (StrChars.lo8 q1)), (.int (StrChars.lo8 q2)), (.int (StrChars.lo8 q3))] (.int (0 : Int32)) := A1
  refine gof T0 m 1 #[vr x1, vi 47, vi 0] [(.ref x1)] (fun _ kk => XS.aloadN W0.here hx rfl (hb hby d1011_0) rfl rfl kk) ?_
  refine W0.callV hx hEL (hw _ (mI 63 rfl)) (hw _ (mI 64 rfl)) (hw _ (mI 66 rfl)) (hw _ (mI 65 rfl)) (hw _ (mI 7 rfl)) (hw _ (mI 67 rfl)) (by decide +kernel) E1 (a := x1) (argsL := []) (rest := []) (rm6 l Z a0 hw hEL zc SC hzc fm SF rfm x1 h0 W0.old Fc1) all0 (by decide +kernel) (Wd := 0) (by decide +kernel) (by decide +kernel) (by decide +kernel) all0 rfl (by rw [hml]; rfl) (lenOf pd4 rfl) rfl (by show 2 * 0 + _ ≤ _; exact Nat.le_of_eq rfl) (hb hby d1011_1) (fun T2 h2 v2 W2 K2 q2 => ?_)
  obtain ⟨rfl, rfl⟩ := q2
  refine gof T2 m 8 #[vr x1, vi 47, vi 0] [(.ref x1)] (fun _ kk => XS.ifNo W2.here hx rfl (hb hby d1011_4) rfl (XT.i0_eq_f (by decide +kernel)) (XS.aloadN W2.here hx rfl (hb hby d1011_7) rfl rfl kk)) ?_
  refine W2.getF hx (host := "") (Or.inl (hw _ (mI 32 rfl))) Via.refl Fv1 rfl rfl (hb hby d1011_8) (fun T3 W3 => ?_)
  refine gof T3 m 14 #[vr x1, vi 47, vi 0] [(.ref x1), (.int 0), (.int 47), (.ref t1)] (fun _ kk => XS.iloadN W3.here hx rfl (hb hby d1011_11) rfl (XS.iloadN W3.here hx rfl (hb hby d1011_12) rfl (XS.aloadN W3.here hx rfl (hb hby d1011_13) rfl rfl kk))) ?_
  refine W3.strLen hx hln (hw _ (mI 6 rfl)) SC hzc S1 (hw _ (mI 68 rfl)) (hw _ (mI 69 rfl)) (hw _ (mI 71 rfl)) (hw _ (mI 70 rfl)) (by decide +kernel) (Wd := 3) (by decide +kernel) (by decide +kernel) (by decide +kernel) rfl (by rw [hml]; rfl) rfl (by show 2 * 0 + _ ≤ _; exact Nat.le_of_eq rfl) (hb hby d1011_14) (fun T4 W4 => ?_)
  show Go p e below _ (T4.setTop (mkF m 17 #[vr x1, vi 47, vi 0] [(.int 3), (.int 0), (.int 47), (.ref t1)]))
  refine W4.callS hx hEL (hw _ (mI 78 rfl)) (hw _ (mI 79 rfl)) (hw _ (mI 80 rfl)) (hw _ (mI 81 rfl)) (by decide +kernel) (argsL := [(.ref t1), (.int (47 : Int32)), (.int (0 : Int32)), (.int (3 : Int32))]) (rest := []) (rm131 l Z a0 hw hEL zc SC hzc fm SF rfm t1 kb1 q1 q2 q3 h0 W4.old V1 cq1 cq2 cq3) all0 (by decide +kernel) (Wd := 0) (by decide +kernel) (by decide +kernel) (by decide +kernel) all0 rfl (by rw [hml]; rfl) (lenOf pd3 rfl) rfl (by show 2 * 0 + _ ≤ _; exact Nat.le_of_eq rfl) (hb hby d1011_17) (fun T5 h5 v5 W5 K5 q5 => ?_)
  obtain ⟨rfl, rfl⟩ := q5
  refine gof T5 m 36 #[vr x1, vi 47, vi 0] [(.int (idxC (47 : Int32) [q1, q2, q3] (0 : Int32)))] (fun _ kk => XS.goto W5.here hx rfl (pc0 := 20) (pc' := 36) rfl (hb hby d1011_20) (by decide +kernel) (by decide +kernel) kk) ?_
  exact W5.retI hx hEL hs hlk (by decide +kernel) (by decide +kernel) hret (by simp) rfl (hb hby d1011_36) ⟨rfl, rfl⟩
theorem ef133 (m : MethodId) (x0 : Addr) (x1 : Int32)  : entryFrame m #[(.ref x0), (.int x1)] 2 = mkF m 0 #[vr x0, vi x1] [] := by first | (simp [entryFrame, mkF, argsToLocals, Value.category]; done) | rfl | rfl
set_option maxRecDepth 65536 in
set_option maxHeartbeats 40000000 in
theorem rm133 (l : Launch) (Z : State) (a0 : Array Value) (hw : ∀ d ∈ tables_1, d.before a0 Z = true) (hEL : EW Z a0 EL0) (zc : Int32) (SC : Sta Z Z.heap "java/lang/String" "COMPACT_STRINGS" "Z" (.int zc)) (hzc : ¬ zc = 0) (fm : Value) (SF : Sta Z Z.heap "jdk/internal/util/Preconditions" "SIOOBE_FORMATTER" "Ljava/util/function/BiFunction;" fm) (rfm : fm.isRef = true) (x1 : Addr) (q1 : Int32) (q2 : Int32) (q3 : Int32) (h0 : Heap) {n0 : Nat} (O0 : Old Z n0 h0) (S1 : Str Z h0 x1 [q1, q2, q3]) (cq1 : ¬ q1 < 0 ∧ ¬ (255 : Int32) < q1) (cq2 : ¬ q2 < 0 ∧ ¬ (255 : Int32) < q2) (cq3 : ¬ q3 < 0 ∧ ¬ (255 : Int32) < q3) :
    Met l Z EL0 n0 (⟨"java/lang/String", "indexOf", "(I)I"⟩ : MethodName) jdk_42_method_79_code 2 (some .int) [] ({ frames := 3, cells := 0, slots := 0, locals := 46 } : Room) #[(.ref x1), (.int (47 : Int32))] h0 [] [] (fun v h' => v = some (.int (idxC (47 : Int32) [q1, q2, q3] (0 : Int32))) ∧ h0 = h') := by
  refine Met.of (plainFor_of_name pn1) O0 ?_
  intro p e s m below meth c T0 hx hby hml hret hlk hnm hs W0
  have W0 : Wk p l e _ s m _ below meth c Z EL0 n0 [] "java/lang/String" [] T0 0 0 h0 := W0
  have hSA := fun d hd => hw d (sa_in d hd)
  have hws := fun d hd => hw d (ws_in d hd)
  have hln := fun d hd => hw d (ln_in d hd)
  have hch := fun d hd => hw d (ch_in d hd)
  have heq := fun d hd => hw d (eq_in d hd)
  have hem := fun d hd => hw d (em_in d hd)
  refine Go.of (fun _ kk => castTop (ef133 m x1 (47 : Int32)) kk) ?_
  show Go p e below _ (T0.setTop (mkF m 0 #[vr x1, vi 47] []))
  obtain ⟨t1, kb1, E1, Fv1, Fc1, A1⟩ := S1.open_ (snd255 (allSi cq1 (allSi cq2 (allSi cq3 all0i))))
  have V1 : Arv Z h0 t1 kb1 .byte (3 : Int32) [(.int (StrChars.lo8 q1)), (.int (StrChars.lo8 q2)), (.int (StrChars.lo8 q3))] (.int (0 : Int32)) := A1
  refine gof T0 m 3 #[vr x1, vi 47] [(.int 0), (.int 47), (.ref x1)] (fun _ kk => XS.aloadN W0.here hx rfl (hb hby d1012_0) rfl rfl (XS.iloadN W0.here hx rfl (hb hby d1012_1) rfl (XS.iconst W0.here hx rfl (hb hby d1012_2) kk))) ?_
  refine W0.callV hx hEL (hw _ (mI 58 rfl)) (hw _ (mI 59 rfl)) (hw _ (mI 61 rfl)) (hw _ (mI 60 rfl)) (hw _ (mI 7 rfl)) (hw _ (mI 62 rfl)) (by decide +kernel) E1 (a := x1) (argsL := [(.int (47 : Int32)), (.int (0 : Int32))]) (rest := []) (rm132 l Z a0 hw hEL zc SC hzc fm SF rfm x1 q1 q2 q3 h0 W0.old S1 cq1 cq2 cq3) all0 (by decide +kernel) (Wd := 0) (by decide +kernel) (by decide +kernel) (by decide +kernel) all0 rfl (by rw [hml]; rfl) (lenOf pd2 rfl) rfl (by show 2 * 0 + _ ≤ _; exact Nat.le_of_eq rfl) (hb hby d1012_3) (fun T2 h2 v2 W2 K2 q2 => ?_)
  obtain ⟨rfl, rfl⟩ := q2
  show Go p e below _ (T2.setTop (mkF m 6 #[vr x1, vi 47] [(.int (idxC (47 : Int32) [q1, q2, q3] (0 : Int32)))]))
  exact W2.retI hx hEL hs hlk (by decide +kernel) (by decide +kernel) hret (by simp) rfl (hb hby d1012_6) ⟨rfl, rfl⟩
theorem ef140 (m : MethodId) (x0 : Addr) (x1 : Int32) (x2 : Int32) (x3 : Int32)  : entryFrame m #[(.ref x0), (.int x1), (.int x2), (.int x3)] 6 = mkF m 0 #[vr x0, vi x1, vi x2, vi x3, U0, U0] [] := by first | (simp [entryFrame, mkF, argsToLocals, Value.category]; done) | rfl | rfl
set_option maxRecDepth 65536 in
set_option maxHeartbeats 40000000 in
theorem rm140 (l : Launch) (Z : State) (a0 : Array Value) (hw : ∀ d ∈ tables_1, d.before a0 Z = true) (hEL : EW Z a0 EL0) (zc : Int32) (SC : Sta Z Z.heap "java/lang/String" "COMPACT_STRINGS" "Z" (.int zc)) (hzc : ¬ zc = 0) (fm : Value) (SF : Sta Z Z.heap "jdk/internal/util/Preconditions" "SIOOBE_FORMATTER" "Ljava/util/function/BiFunction;" fm) (rfm : fm.isRef = true) (x1 : Addr) (kc : ClassId) (q1 : Int32) (q2 : Int32) (q3 : Int32) (q4 : Int32) (h0 : Heap) {n0 : Nat} (O0 : Old Z n0 h0) (A1 : Arv Z h0 x1 kc .byte (4 : Int32) [(.int (StrChars.lo8 q1)), (.int (StrChars.lo8 q2)), (.int (StrChars.lo8 q3)), (.int (StrChars.lo8 q4))] (.int (0 : Int32))) (cq1 : ¬ q1 < 0 ∧ ¬ (255 : Int32) < q1) (cq2 : ¬ q2 < 0 ∧ ¬ (255 : Int32) < q2) (cq3 : ¬ q3 < 0 ∧ ¬ (255 : Int32) < q3) (cq4 : ¬ q4 < 0 ∧ ¬ (255 : Int32) < q4) :
    Met l Z EL0 n0 (⟨"java/lang/StringLatin1", "indexOfChar", "([BIII)I"⟩ : MethodName) jdk_43_method_23_code 6 (some .int) [] ({ frames := 0, cells := 0, slots := 0, locals := 0 } : Room) #[(.ref x1), (.int (47 : Int32)), (.int (0 : Int32)), (.int (4 : Int32))] h0 [] [] (fun v h' => v = some (.int (idxC (47 : Int32) [q1, q2, q3, q4] (0 : Int32))) ∧ h0 = h') := by
  refine Met.of (plainFor_of_name pn2) O0 ?_
  intro p e s m below meth c T0 hx hby hml hret hlk hnm hs W0
  have W0 : Wk p l e _ s m _ below meth c Z EL0 n0 [] "java/lang/StringLatin1" [] T0 0 0 h0 := W0
  have hSA := fun d hd => hw d (sa_in d hd)
  have hws := fun d hd => hw d (ws_in d hd)
  have hln := fun d hd => hw d (ln_in d hd)
  have hch := fun d hd => hw d (ch_in d hd)
  have heq := fun d hd => hw d (eq_in d hd)
  have hem := fun d hd => hw d (em_in d hd)
  refine Go.of (fun _ kk => castTop (ef140 m x1 (47 : Int32) (0 : Int32) (4 : Int32)) kk) ?_
  refine gof T0 m 10 #[vr x1, vi 47, vi 0, vi 4, vi 47, vi 0] [(.int 4), (.int 0)] (fun _ kk => XS.iloadN W0.here hx rfl (hb hby d1009_0) rfl (XS.i2b W0.here hx rfl (hb hby d1009_1) rfl (XS.istore W0.here hx rfl (hb hby d1009_2) rfl (l' := #[vr x1, vi 47, vi 0, vi 4, vi 47, U0]) rfl (XS.iloadN W0.here hx rfl (hb hby d1009_4) rfl (XS.istore W0.here hx rfl (hb hby d1009_5) rfl (l' := #[vr x1, vi 47, vi 0, vi 4, vi 47, vi 0]) rfl (XS.iload W0.here hx rfl (hb hby d1009_7) rfl (XS.iloadN W0.here hx rfl (hb hby d1009_9) rfl kk))))))) ?_
  refine gof T0 m 16 #[vr x1, vi 47, vi 0, vi 4, vi 47, vi 0] [(.int 0), (.ref x1)] (fun _ kk => XS.icmpNo W0.here hx rfl (hb hby d1009_10) rfl (XT.ii_ge_f (by decide +kernel)) (XS.aloadN W0.here hx rfl (hb hby d1009_13) rfl rfl (XS.iload W0.here hx rfl (hb hby d1009_14) rfl kk))) ?_
  refine W0.baload hx A1 ⟨by decide, by decide⟩ (v := (.int (StrChars.lo8 q1))) rfl rfl rfl (hb hby d1009_16) ?_
  refine gof T0 m 19 #[vr x1, vi 47, vi 0, vi 4, vi 47, vi 0] [(.int 47), (.int (StrChars.lo8 q1))] (fun _ kk => XS.iload W0.here hx rfl (hb hby d1009_17) rfl kk) ?_
  by_cases c1 : (StrChars.lo8 q1) = (47 : Int32)
  · refine gof T0 m 24 #[vr x1, vi 47, vi 0, vi 4, vi 47, vi 0] [(.int 0)] (fun _ kk => XS.icmpNo W0.here hx rfl (hb hby d1009_19) rfl (XT.ii_ne_f c1) (XS.iload W0.here hx rfl (hb hby d1009_22) rfl kk)) ?_
    have e0 : q1 = (47 : Int32) := lo8_47 cq1 c1
    have ea : (idxC (47 : Int32) [q1, q2, q3, q4] (0 : Int32)) = (0 : Int32) := by simp [idxC, e0]
    exact W0.retI hx hEL hs hlk (by decide +kernel) (by decide +kernel) hret (by simp) rfl (hb hby d1009_24) ⟨by rw [ea], rfl⟩
  · refine gof T0 m 14 #[vr x1, vi 47, vi 0, vi 4, vi 47, vi 1] [(.ref x1)] (fun _ kk => XS.icmpYes W0.here hx rfl (pc0 := 19) (pc' := 25) rfl (hb hby d1009_19) rfl (XT.ii_ne_t c1) (by decide +kernel) (by decide +kernel) (XS.iinc W0.here hx rfl (hb hby d1009_25) rfl (l' := #[vr x1, vi 47, vi 0, vi 4, vi 47, vi 1]) rfl (XS.goto W0.here hx rfl (pc0 := 28) (pc' := 7) rfl (hb hby d1009_28) (by decide +kernel) (by decide +kernel) (XS.iload W0.here hx rfl (hb hby d1009_7) rfl (XS.iloadN W0.here hx rfl (hb hby d1009_9) rfl (XS.icmpNo W0.here hx rfl (hb hby d1009_10) rfl (XT.ii_ge_f (by decide +kernel)) (XS.aloadN W0.here hx rfl (hb hby d1009_13) rfl rfl kk))))))) ?_
    refine gof T0 m 16 #[vr x1, vi 47, vi 0, vi 4, vi 47, vi 1] [(.int 1), (.ref x1)] (fun _ kk => XS.iload W0.here hx rfl (hb hby d1009_14) rfl kk) ?_
    refine W0.baload hx A1 ⟨by decide, by decide⟩ (v := (.int (StrChars.lo8 q2))) rfl rfl rfl (hb hby d1009_16) ?_
    refine gof T0 m 19 #[vr x1, vi 47, vi 0, vi 4, vi 47, vi 1] [(.int 47), (.int (StrChars.lo8 q2))] (fun _ kk => XS.iload W0.here hx rfl (hb hby d1009_17) rfl kk) ?_
    by_cases c2 : (StrChars.lo8 q2) = (47 : Int32)
    · refine gof T0 m 24 #[vr x1, vi 47, vi 0, vi 4, vi 47, vi 1] [(.int 1)] (fun _ kk => XS.icmpNo W0.here hx rfl (hb hby d1009_19) rfl (XT.ii_ne_f c2) (XS.iload W0.here hx rfl (hb hby d1009_22) rfl kk)) ?_
      have e0 : ¬ q1 = (47 : Int32) := lo8_47n c1
      have e1 : q2 = (47 : Int32) := lo8_47 cq2 c2
      have ea : (idxC (47 : Int32) [q1, q2, q3, q4] (0 : Int32)) = (1 : Int32) := by simp [idxC, e0, e1]
      exact W0.retI hx hEL hs hlk (by decide +kernel) (by decide +kernel) hret (by simp) rfl (hb hby d1009_24) ⟨by rw [ea], rfl⟩
    · refine gof T0 m 14 #[vr x1, vi 47, vi 0, vi 4, vi 47, vi 2] [(.ref x1)] (fun _ kk => XS.icmpYes W0.here hx rfl (pc0 := 19) (pc' := 25) rfl (hb hby d1009_19) rfl (XT.ii_ne_t c2) (by decide +kernel) (by decide +kernel) (XS.iinc W0.here hx rfl (hb hby d1009_25) rfl (l' := #[vr x1, vi 47, vi 0, vi 4, vi 47, vi 2]) rfl (XS.goto W0.here hx rfl (pc0 := 28) (pc' := 7) rfl (hb hby d1009_28) (by decide +kernel) (by decide +kernel) (XS.iload W0.here hx rfl (hb hby d1009_7) rfl (XS.iloadN W0.here hx rfl (hb hby d1009_9) rfl (XS.icmpNo W0.here hx rfl (hb hby d1009_10) rfl (XT.ii_ge_f (by decide +kernel)) (XS.aloadN W0.here hx rfl (hb hby d1009_13) rfl rfl kk))))))) ?_
      refine gof T0 m 16 #[vr x1, vi 47, vi 0, vi 4, vi 47, vi 2] [(.int 2), (.ref x1)] (fun _ kk => XS.iload W0.here hx rfl (hb hby d1009_14) rfl kk) ?_
      refine W0.baload hx A1 ⟨by decide, by decide⟩ (v := (.int (StrChars.lo8 q3))) rfl rfl rfl (hb hby d1009_16) ?_
      refine gof T0 m 19 #[vr x1, vi 47, vi 0, vi 4, vi 47, vi 2] [(.int 47), (.int (StrChars.lo8 q3))] (fun _ kk => XS.iload W0.here hx rfl (hb hby d1009_17) rfl kk) ?_
      by_cases c3 : (StrChars.lo8 q3) = (47 : Int32)
      · refine gof T0 m 24 #[vr x1, vi 47, vi 0, vi 4, vi 47, vi 2] [(.int 2)] (fun _ kk => XS.icmpNo W0.here hx rfl (hb hby d1009_19) rfl (XT.ii_ne_f c3) (XS.iload W0.here hx rfl (hb hby d1009_22) rfl kk)) ?_
        have e0 : ¬ q1 = (47 : Int32) := lo8_47n c1
        have e1 : ¬ q2 = (47 : Int32) := lo8_47n c2
        have e2 : q3 = (47 : Int32) := lo8_47 cq3 c3
        have ea : (idxC (47 : Int32) [q1, q2, q3, q4] (0 : Int32)) = (2 : Int32) := by simp [idxC, e0, e1, e2]
        exact W0.retI hx hEL hs hlk (by decide +kernel) (by decide +kernel) hret (by simp) rfl (hb hby d1009_24) ⟨by rw [ea], rfl⟩
      · refine gof T0 m 14 #[vr x1, vi 47, vi 0, vi 4, vi 47, vi 3] [(.ref x1)] (fun _ kk => XS.icmpYes W0.here hx rfl (pc0 := 19) (pc' := 25) rfl (hb hby d1009_19) rfl (XT.ii_ne_t c3) (by decide +kernel) (by decide +kernel) (XS.iinc W0.here hx rfl (hb hby d1009_25) rfl (l' := #[vr x1, vi 47, vi 0, vi 4, vi 47, vi 3]) rfl (XS.goto W0.here hx rfl (pc0 := 28) (pc' := 7) rfl (hb hby d1009_28) (by decide +kernel) (by decide +kernel) (XS.iload W0.here hx rfl (hb hby d1009_7) rfl (XS.iloadN W0.here hx rfl (hb hby d1009_9) rfl (XS.icmpNo W0.here hx rfl (hb hby d1009_10) rfl (XT.ii_ge_f (by decide +kernel)) (XS.aloadN W0.here hx rfl (hb hby d1009_13) rfl rfl kk))))))) ?_
        refine gof T0 m 16 #[vr x1, vi 47, vi 0, vi 4, vi 47, vi 3] [(.int 3), (.ref x1)] (fun _ kk => XS.iload W0.here hx rfl (hb hby d1009_14) rfl kk) ?_
        refine W0.baload hx A1 ⟨by decide, by decide⟩ (v := (.int (StrChars.lo8 q4))) rfl rfl rfl (hb hby d1009_16) ?_
        refine gof T0 m 19 #[vr x1, vi 47, vi 0, vi 4, vi 47, vi 3] [(.int 47), (.int (StrChars.lo8 q4))] (fun _ kk => XS.iload W0.here hx rfl (hb hby d1009_17) rfl kk) ?_
        by_cases c4 : (StrChars.lo8 q4) = (47 : Int32)
        · refine gof T0 m 24 #[vr x1, vi 47, vi 0, vi 4, vi 47, vi 3] [(.int 3)] (fun _ kk => XS.icmpNo W0.here hx rfl (hb hby d1009_19) rfl (XT.ii_ne_f c4) (XS.iload W0.here hx rfl (hb hby d1009_22) rfl kk)) ?_
          have e0 : ¬ q1 = (47 : Int32) := lo8_47n c1
          have e1 : ¬ q2 = (47 : Int32) := lo8_47n c2
          have e2 : ¬ q3 = (47 : Int32) := lo8_47n c3
          have e3 : q4 = (47 : Int32) := lo8_47 cq4 c4
          have ea : (idxC (47 : Int32) [q1, q2, q3, q4] (0 : Int32)) = (3 : Int32) := by simp [idxC, e0, e1, e2, e3]
          exact W0.retI hx hEL hs hlk (by decide +kernel) (by decide +kernel) hret (by simp) rfl (hb hby d1009_24) ⟨by rw [ea], rfl⟩
        · refine gof T0 m 32 #[vr x1, vi 47, vi 0, vi 4, vi 47, vi 4] [(.int (-1 : Int32))] (fun _ kk => XS.icmpYes W0.here hx rfl (pc0 := 19) (pc' := 25) rfl (hb hby d1009_19) rfl (XT.ii_ne_t c4) (by decide +kernel) (by decide +kernel) (XS.iinc W0.here hx rfl (hb hby d1009_25) rfl (l' := #[vr x1, vi 47, vi 0, vi 4, vi 47, vi 4]) rfl (XS.goto W0.here hx rfl (pc0 := 28) (pc' := 7) rfl (hb hby d1009_28) (by decide +kernel) (by decide +kernel) (XS.iload W0.here hx rfl (hb hby d1009_7) rfl (XS.iloadN W0.here hx rfl (hb hby d1009_9) rfl (XS.icmpYes W0.here hx rfl (pc0 := 10) (pc' := 31) rfl (hb hby d1009_10) rfl (XT.ii_ge_t (by decide +kernel)) (by decide +kernel) (by decide +kernel) (XS.iconst W0.here hx rfl (hb hby d1009_31) kk))))))) ?_
          have e0 : ¬ q1 = (47 : Int32) := lo8_47n c1
          have e1 : ¬ q2 = (47 : Int32) := lo8_47n c2
          have e2 : ¬ q3 = (47 : Int32) := lo8_47n c3
          have e3 : ¬ q4 = (47 : Int32) := lo8_47n c4
          have ea : (idxC (47 : Int32) [q1, q2, q3, q4] (0 : Int32)) = (-1 : Int32) := by simp [idxC, e0, e1, e2, e3]
          exact W0.retI hx hEL hs hlk (by decide +kernel) (by decide +kernel) hret (by simp) rfl (hb hby d1009_32) ⟨by rw [ea], rfl⟩
theorem ef141 (m : MethodId) (x0 : Addr) (x1 : Int32) (x2 : Int32) (x3 : Int32)  : entryFrame m #[(.ref x0), (.int x1), (.int x2), (.int x3)] 4 = mkF m 0 #[vr x0, vi x1, vi x2, vi x3] [] := by first | (simp [entryFrame, mkF, argsToLocals, Value.category]; done) | rfl | rfl
set_option maxRecDepth 65536 in
set_option maxHeartbeats 40000000 in
theorem rm141 (l : Launch) (Z : State) (a0 : Array Value) (hw : ∀ d ∈ tables_1, d.before a0 Z = true) (hEL : EW Z a0 EL0) (zc : Int32) (SC : Sta Z Z.heap "java/lang/String" "COMPACT_STRINGS" "Z" (.int zc)) (hzc : ¬ zc = 0) (fm : Value) (SF : Sta Z Z.heap "jdk/internal/util/Preconditions" "SIOOBE_FORMATTER" "Ljava/util/function/BiFunction;" fm) (rfm : fm.isRef = true) (x1 : Addr) (kc : ClassId) (q1 : Int32) (q2 : Int32) (q3 : Int32) (q4 : Int32) (h0 : Heap) {n0 : Nat} (O0 : Old Z n0 h0) (A1 : Arv Z h0 x1 kc .byte (4 : Int32) [(.int (StrChars.lo8 q1)), (.int (StrChars.lo8 q2)), (.int (StrChars.lo8 q3)), (.int (StrChars.lo8 q4))] (.int (0 : Int32))) (cq1 : ¬ q1 < 0 ∧ ¬ (255 : Int32) < q1) (cq2 : ¬ q2 < 0 ∧ ¬ (255 : Int32) < q2) (cq3 : ¬ q3 < 0 ∧ ¬ (255 : Int32) < q3) (cq4 : ¬ q4 < 0 ∧ ¬ (255 : Int32) < q4) :
    Met l Z EL0 n0 (⟨"java/lang/StringLatin1", "indexOf", "([BIII)I"⟩ : MethodName) jdk_43_method_22_code 4 (some .int) [] ({ frames := 1, cells := 0, slots := 0, locals := 17 } : Room) #[(.ref x1), (.int (47 : Int32)), (.int (0 : Int32)), (.int (4 : Int32))] h0 [] [] (fun v h' => v = some (.int (idxC (47 : Int32) [q1, q2, q3, q4] (0 : Int32))) ∧ h0 = h') := by
  refine Met.of (plainFor_of_name pn2) O0 ?_
  intro p e s m below meth c T0 hx hby hml hret hlk hnm hs W0
  have W0 : Wk p l e _ s m _ below meth c Z EL0 n0 [] "java/lang/StringLatin1" [] T0 0 0 h0 := W0
  have hSA := fun d hd => hw d (sa_in d hd)
  have hws := fun d hd => hw d (ws_in d hd)
  have hln := fun d hd => hw d (ln_in d hd)
  have hch := fun d hd => hw d (ch_in d hd)
  have heq := fun d hd => hw d (eq_in d hd)
  have hem := fun d hd => hw d (em_in d hd)
  refine Go.of (fun _ kk => castTop (ef141 m x1 (47 : Int32) (0 : Int32) (4 : Int32)) kk) ?_
  refine gof T0 m 1 #[vr x1, vi 47, vi 0, vi 4] [(.int 47)] (fun _ kk => XS.iloadN W0.here hx rfl (hb hby d1010_0) rfl kk) ?_
  refine W0.callS hx hEL (hw _ (mI 82 rfl)) (hw _ (mI 83 rfl)) (hw _ (mI 80 rfl)) (hw _ (mI 84 rfl)) (by decide +kernel) (argsL := [(.int (47 : Int32))]) (rest := []) (rm7 l Z a0 hw hEL zc SC hzc fm SF rfm (47 : Int32) h0 W0.old ⟨by decide, by decide⟩) all0 (by decide +kernel) (Wd := 0) (by decide +kernel) (by decide +kernel) (by decide +kernel) all0 rfl (by rw [hml]; rfl) (lenOf pd1 rfl) rfl (by show 2 * 0 + _ ≤ _; exact Nat.le_of_eq rfl) (hb hby d1010_1) (fun T1 h1 v1 W1 K1 q1 => ?_)
  obtain ⟨rfl, rfl⟩ := q1
  refine gof T1 m 11 #[vr x1, vi 47, vi 0, vi 4] [(.int 0), (.int 0)] (fun _ kk => XS.ifYes W1.here hx rfl (pc0 := 4) (pc' := 9) rfl (hb hby d1010_4) rfl (XT.i0_ne_t (by decide +kernel)) (by decide +kernel) (by decide +kernel) (XS.iloadN W1.here hx rfl (hb hby d1010_9) rfl (XS.iconst W1.here hx rfl (hb hby d1010_10) kk))) ?_
  refine W1.callS hx hEL (hw _ (mI 85 rfl)) (hw _ (mI 86 rfl)) (hw _ (mI 87 rfl)) (hw _ (mI 88 rfl)) (by decide +kernel) (argsL := [(.int (0 : Int32)), (.int (0 : Int32))]) (rest := []) (rm4 l Z a0 hw hEL zc SC hzc fm SF rfm (0 : Int32) h0 W1.old ) all0 (by decide +kernel) (Wd := 0) (by decide +kernel) (by decide +kernel) (by decide +kernel) all0 rfl (by rw [hml]; rfl) (lenOf pd2 rfl) rfl (by show 2 * 0 + _ ≤ _; exact Nat.le_of_eq rfl) (hb hby d1010_11) (fun T2 h2 v2 W2 K2 q2 => ?_)
  obtain ⟨rfl, rfl⟩ := q2
  refine gof T2 m 17 #[vr x1, vi 47, vi 0, vi 4] [(.ref x1), (.int 4)] (fun _ kk => XS.istoreN W2.here hx rfl (hb hby d1010_14) rfl (l' := #[vr x1, vi 47, vi 0, vi 4]) rfl (XS.iloadN W2.here hx rfl (hb hby d1010_15) rfl (XS.aloadN W2.here hx rfl (hb hby d1010_16) rfl rfl kk))) ?_
  refine W2.alen hx A1 rfl rfl (hb hby d1010_17) ?_
  show Go p e below _ (T2.setTop (mkF m 18 #[vr x1, vi 47, vi 0, vi 4] [(.int 4), (.int 4)]))
  refine W2.callS hx hEL (hw _ (mI 89 rfl)) (hw _ (mI 90 rfl)) (hw _ (mI 87 rfl)) (hw _ (mI 91 rfl)) (by decide +kernel) (argsL := [(.int (4 : Int32)), (.int (4 : Int32))]) (rest := []) (rm5 l Z a0 hw hEL zc SC hzc fm SF rfm (4 : Int32) h0 W2.old ) all0 (by decide +kernel) (Wd := 0) (by decide +kernel) (by decide +kernel) (by decide +kernel) all0 rfl (by rw [hml]; rfl) (lenOf pd2 rfl) rfl (by show 2 * 0 + _ ≤ _; exact Nat.le_of_eq rfl) (hb hby d1010_18) (fun T3 h3 v3 W3 K3 q3 => ?_)
  obtain ⟨rfl, rfl⟩ := q3
  refine gof T3 m 32 #[vr x1, vi 47, vi 0, vi 4] [(.int 0), (.int 47), (.ref x1)] (fun _ kk => XS.istoreN W3.here hx rfl (hb hby d1010_21) rfl (l' := #[vr x1, vi 47, vi 0, vi 4]) rfl (XS.iloadN W3.here hx rfl (hb hby d1010_22) rfl (XS.iloadN W3.here hx rfl (hb hby d1010_23) rfl (XS.icmpYes W3.here hx rfl (pc0 := 24) (pc' := 29) rfl (hb hby d1010_24) rfl (XT.ii_lt_t (by decide +kernel)) (by decide +kernel) (by decide +kernel) (XS.aloadN W3.here hx rfl (hb hby d1010_29) rfl rfl (XS.iloadN W3.here hx rfl (hb hby d1010_30) rfl (XS.iloadN W3.here hx rfl (hb hby d1010_31) rfl kk))))))) ?_
  refine gof T3 m 33 #[vr x1, vi 47, vi 0, vi 4] [(.int 4), (.int 0), (.int 47), (.ref x1)] (fun _ kk => XS.iloadN W3.here hx rfl (hb hby d1010_32) rfl kk) ?_
  refine W3.callS hx hEL (hw _ (mI 92 rfl)) (hw _ (mI 93 rfl)) (hw _ (mI 80 rfl)) (hw _ (mI 94 rfl)) (by decide +kernel) (argsL := [(.ref x1), (.int (47 : Int32)), (.int (0 : Int32)), (.int (4 : Int32))]) (rest := []) (rm140 l Z a0 hw hEL zc SC hzc fm SF rfm x1 kc q1 q2 q3 q4 h0 W3.old A1 cq1 cq2 cq3 cq4) all0 (by decide +kernel) (Wd := 0) (by decide +kernel) (by decide +kernel) (by decide +kernel) all0 rfl (by rw [hml]; rfl) (lenOf pd3 rfl) rfl (by show 2 * 0 + _ ≤ _; exact Nat.le_of_eq rfl) (hb hby d1010_33) (fun T4 h4 v4 W4 K4 q4 => ?_)
  obtain ⟨rfl, rfl⟩ := q4
  show Go p e below _ (T4.setTop (mkF m 36 #[vr x1, vi 47, vi 0, vi 4] [(.int (idxC (47 : Int32) [q1, q2, q3, q4] (0 : Int32)))]))
  exact W4.retI hx hEL hs hlk (by decide +kernel) (by decide +kernel) hret (by simp) rfl (hb hby d1010_36) ⟨rfl, rfl⟩
theorem ef142 (m : MethodId) (x0 : Addr) (x1 : Int32) (x2 : Int32)  : entryFrame m #[(.ref x0), (.int x1), (.int x2)] 3 = mkF m 0 #[vr x0, vi x1, vi x2] [] := by first | (simp [entryFrame, mkF, argsToLocals, Value.category]; done) | rfl | rfl
set_option maxRecDepth 65536 in
set_option maxHeartbeats 40000000 in
theorem rm142 (l : Launch) (Z : State) (a0 : Array Value) (hw : ∀ d ∈ tables_1, d.before a0 Z = true) (hEL : EW Z a0 EL0) (zc : Int32) (SC : Sta Z Z.heap "java/lang/String" "COMPACT_STRINGS" "Z" (.int zc)) (hzc : ¬ zc = 0) (fm : Value) (SF : Sta Z Z.heap "jdk/internal/util/Preconditions" "SIOOBE_FORMATTER" "Ljava/util/function/BiFunction;" fm) (rfm : fm.isRef = true) (x1 : Addr) (q1 : Int32) (q2 : Int32) (q3 : Int32) (q4 : Int32) (h0 : Heap) {n0 : Nat} (O0 : Old Z n0 h0) (S1 : Str Z h0 x1 [q1, q2, q3, q4]) (cq1 : ¬ q1 < 0 ∧ ¬ (255 : Int32) < q1) (cq2 : ¬ q2 < 0 ∧ ¬ (255 : Int32) < q2) (cq3 : ¬ q3 < 0 ∧ ¬ (255 : Int32) < q3) (cq4 : ¬ q4 < 0 ∧ ¬ (255 : Int32) < q4) :
    Met l Z EL0 n0 (⟨"java/lang/String", "indexOf", "(II)I"⟩ : MethodName) jdk_42_method_80_code 3 (some .int) [] ({ frames := 2, cells := 0, slots := 0, locals := 32 } : Room) #[(.ref x1), (.int (47 : Int32)), (.int (0 : Int32))] h0 [] [] (fun v h' => v = some (.int (idxC (47 : Int32) [q1, q2, q3, q4] (0 : Int32))) ∧ h0 = h') := by
  refine Met.of (plainFor_of_name pn1) O0 ?_
  intro p e s m below meth c T0 hx hby hml hret hlk hnm hs W0
  have W0 : Wk p l e _ s m _ below meth c Z EL0 n0 [] "java/lang/String" [] T0 0 0 h0 := W0
  have hSA := fun d hd => hw d (sa_in d hd)
  have hws := fun d hd => hw d (ws_in d hd)
  have hln := fun d hd => hw d (ln_in d hd)
  have hch := fun d hd => hw d (ch_in d hd)
  have heq := fun d hd => hw d (eq_in d hd)
  have hem := fun d hd => hw d (em_in d hd)
  refine Go.of (fun _ kk => castTop (ef142 m x1 (47 : Int32) (0 : Int32)) kk) ?_
  show Go p e below _ (T0.setTop (mkF m 0 #[vr x1, vi 47, vi 0] []))
  obtain ⟨t1, kb1, E1, Fv1, Fc1, A1⟩ := S1.open_ (snd255 (allSi cq1 (allSi cq2 (allSi cq3 (allSi cq4 all0i)))))
  have V1 : Arv Z h0 t1 kb1 .byte (4 : Int32) [(.int (StrChars.lo8 q1)), (.int (StrChars.lo8 q2)), (.int (StrChars.lo8 q3)), (.int (StrChars.lo8 q4))] (.int (0 : Int32)) := A1
  refine gof T0 m 1 #[vr x1, vi 47, vi 0] [(.ref x1)] (fun _ kk => XS.aloadN W0.here hx rfl (hb hby d1011_0) rfl rfl kk) ?_
  refine W0.callV hx hEL (hw _ (mI 63 rfl)) (hw _ (mI 64 rfl)) (hw _ (mI 66 rfl)) (hw _ (mI 65 rfl)) (hw _ (mI 7 rfl)) (hw _ (mI 67 rfl)) (by decide +kernel) E1 (a := x1) (argsL := []) (rest := []) (rm6 l Z a0 hw hEL zc SC hzc fm SF rfm x1 h0 W0.old Fc1) all0 (by decide +kernel) (Wd := 0) (by decide +kernel) (by decide +kernel) (by decide +kernel) all0 rfl (by rw [hml]; rfl) (lenOf pd4 rfl) rfl (by show 2 * 0 + _ ≤ _; exact Nat.le_of_eq rfl) (hb hby d1011_1) (fun T2 h2 v2 W2 K2 q2 => ?_)
  obtain ⟨rfl, rfl⟩ := q2
  refine gof T2 m 8 #[vr x1, vi 47, vi 0] [(.ref x1)] (fun _ kk => XS.ifNo W2.here hx rfl (hb hby d1011_4) rfl (XT.i0_eq_f (by decide +kernel)) (XS.aloadN W2.here hx rfl (hb hby d1011_7) rfl rfl kk)) ?_
  refine W2.getF hx (host := "") (Or.inl (hw _ (mI 32 rfl))) Via.refl Fv1 rfl rfl (hb hby d1011_8) (fun T3 W3 => ?_)
  refine gof T3 m 14 #[vr x1, vi 47, vi 0] [(.ref x1), (.int 0), (.int 47), (.ref t1)] (fun _ kk => XS.iloadN W3.here hx rfl (hb hby d1011_11) rfl (XS.iloadN W3.here hx rfl (hb hby d1011_12) rfl (XS.aloadN W3.here hx rfl (hb hby d1011_13) rfl rfl kk))) ?_
  refine W3.strLen hx hln (hw _ (mI 6 rfl)) SC hzc S1 (hw _ (mI 68 rfl)) (hw _ (mI 69 rfl)) (hw _ (mI 71 rfl)) (hw _ (mI 70 rfl)) (by decide +kernel) (Wd := 3) (by decide +kernel) (by decide +kernel) (by decide +kernel) rfl (by rw [hml]; rfl) rfl (by show 2 * 0 + _ ≤ _; exact Nat.le_of_eq rfl) (hb hby d1011_14) (fun T4 W4 => ?_)
  show Go p e below _ (T4.setTop (mkF m 17 #[vr x1, vi 47, vi 0] [(.int 4), (.int 0), (.int 47), (.ref t1)]))
  refine W4.callS hx hEL (hw _ (mI 78 rfl)) (hw _ (mI 79 rfl)) (hw _ (mI 80 rfl)) (hw _ (mI 81 rfl)) (by decide +kernel) (argsL := [(.ref t1), (.int (47 : Int32)), (.int (0 : Int32)), (.int (4 : Int32))]) (rest := []) (rm141 l Z a0 hw hEL zc SC hzc fm SF rfm t1 kb1 q1 q2 q3 q4 h0 W4.old V1 cq1 cq2 cq3 cq4) all0 (by decide +kernel) (Wd := 0) (by decide +kernel) (by decide +kernel) (by decide +kernel) all0 rfl (by rw [hml]; rfl) (lenOf pd3 rfl) rfl (by show 2 * 0 + _ ≤ _; exact Nat.le_of_eq rfl) (hb hby d1011_17) (fun T5 h5 v5 W5 K5 q5 => ?_)
  obtain ⟨rfl, rfl⟩ := q5
  refine gof T5 m 36 #[vr x1, vi 47, vi 0] [(.int (idxC (47 : Int32) [q1, q2, q3, q4] (0 : Int32)))] (fun _ kk => XS.goto W5.here hx rfl (pc0 := 20) (pc' := 36) rfl (hb hby d1011_20) (by decide +kernel) (by decide +kernel) kk) ?_
  exact W5.retI hx hEL hs hlk (by decide +kernel) (by decide +kernel) hret (by simp) rfl (hb hby d1011_36) ⟨rfl, rfl⟩
theorem ef143 (m : MethodId) (x0 : Addr) (x1 : Int32)  : entryFrame m #[(.ref x0), (.int x1)] 2 = mkF m 0 #[vr x0, vi x1] [] := by first | (simp [entryFrame, mkF, argsToLocals, Value.category]; done) | rfl | rfl
set_option maxRecDepth 65536 in
set_option maxHeartbeats 40000000 in
theorem rm143 (l : Launch) (Z : State) (a0 : Array Value) (hw : ∀ d ∈ tables_1, d.before a0 Z = true) (hEL : EW Z a0 EL0) (zc : Int32) (SC : Sta Z Z.heap "java/lang/String" "COMPACT_STRINGS" "Z" (.int zc)) (hzc : ¬ zc = 0) (fm : Value) (SF : Sta Z Z.heap "jdk/internal/util/Preconditions" "SIOOBE_FORMATTER" "Ljava/util/function/BiFunction;" fm) (rfm : fm.isRef = true) (x1 : Addr) (q1 : Int32) (q2 : Int32) (q3 : Int32) (q4 : Int32) (h0 : Heap) {n0 : Nat} (O0 : Old Z n0 h0) (S1 : Str Z h0 x1 [q1, q2, q3, q4]) (cq1 : ¬ q1 < 0 ∧ ¬ (255 : Int32) < q1) (cq2 : ¬ q2 < 0 ∧ ¬ (255 : Int32) < q2) (cq3 : ¬ q3 < 0 ∧ ¬ (255 : Int32) < q3) (cq4 : ¬ q4 < 0 ∧ ¬ (255 : Int32) < q4) :
    Met l Z EL0 n0 (⟨"java/lang/String", "indexOf", "(I)I"⟩ : MethodName) jdk_42_method_79_code 2 (some .int) [] ({ frames := 3, cells := 0, slots := 0, locals := 46 } : Room) #[(.ref x1), (.int (47 : Int32))] h0 [] [] (fun v h' => v = some (.int (idxC (47 : Int32) [q1, q2, q3, q4] (0 : Int32))) ∧ h0 = h') := by
  refine Met.of (plainFor_of_name pn1) O0 ?_
  intro p e s m below meth c T0 hx hby hml hret hlk hnm hs W0
  have W0 : Wk p l e _ s m _ below meth c Z EL0 n0 [] "java/lang/String" [] T0 0 0 h0 := W0
  have hSA := fun d hd => hw d (sa_in d hd)
  have hws := fun d hd => hw d (ws_in d hd)
  have hln := fun d hd => hw d (ln_in d hd)
  have hch := fun d hd => hw d (ch_in d hd)
  have heq := fun d hd => hw d (eq_in d hd)
  have hem := fun d hd => hw d (em_in d hd)
  refine Go.of (fun _ kk => castTop (ef143 m x1 (47 : Int32)) kk) ?_
  show Go p e below _ (T0.setTop (mkF m 0 #[vr x1, vi 47] []))
  obtain ⟨t1, kb1, E1, Fv1, Fc1, A1⟩ := S1.open_ (snd255 (allSi cq1 (allSi cq2 (allSi cq3 (allSi cq4 all0i)))))
  have V1 : Arv Z h0 t1 kb1 .byte (4 : Int32) [(.int (StrChars.lo8 q1)), (.int (StrChars.lo8 q2)), (.int (StrChars.lo8 q3)), (.int (StrChars.lo8 q4))] (.int (0 : Int32)) := A1
  refine gof T0 m 3 #[vr x1, vi 47] [(.int 0), (.int 47), (.ref x1)] (fun _ kk => XS.aloadN W0.here hx rfl (hb hby d1012_0) rfl rfl (XS.iloadN W0.here hx rfl (hb hby d1012_1) rfl (XS.iconst W0.here hx rfl (hb hby d1012_2) kk))) ?_
  refine W0.callV hx hEL (hw _ (mI 58 rfl)) (hw _ (mI 59 rfl)) (hw _ (mI 61 rfl)) (hw _ (mI 60 rfl)) (hw _ (mI 7 rfl)) (hw _ (mI 62 rfl)) (by decide +kernel) E1 (a := x1) (argsL := [(.int (47 : Int32)), (.int (0 : Int32))]) (rest := []) (rm142 l Z a0 hw hEL zc SC hzc fm SF rfm x1 q1 q2 q3 q4 h0 W0.old S1 cq1 cq2 cq3 cq4) all0 (by decide +kernel) (Wd := 0) (by decide +kernel) (by decide +kernel) (by decide +kernel) all0 rfl (by rw [hml]; rfl) (lenOf pd2 rfl) rfl (by show 2 * 0 + _ ≤ _; exact Nat.le_of_eq rfl) (hb hby d1012_3) (fun T2 h2 v2 W2 K2 q2 => ?_)
  obtain ⟨rfl, rfl⟩ := q2
  show Go p e below _ (T2.setTop (mkF m 6 #[vr x1, vi 47] [(.int (idxC (47 : Int32) [q1, q2, q3, q4] (0 : Int32)))]))
  exact W2.retI hx hEL hs hlk (by decide +kernel) (by decide +kernel) hret (by simp) rfl (hb hby d1012_6) ⟨rfl, rfl⟩
theorem d1013_0 : decode jdk_65_method_133_code 0 = .ok (.iload_n 1, 1) := by decide +kernel
theorem d1013_1 : decode jdk_65_method_133_code 1 = .ok (.iload_n 2, 1) := by decide +kernel
theorem d1013_2 : decode jdk_65_method_133_code 2 = .ok (.invokestatic 343, 3) := by decide +kernel
theorem d1013_5 : decode jdk_65_method_133_code 5 = .ok (.iload_n 2, 1) := by decide +kernel
theorem d1013_6 : decode jdk_65_method_133_code 6 = .ok (.iload_n 1, 1) := by decide +kernel
theorem d1013_7 : decode jdk_65_method_133_code 7 = .ok (.isub, 1) := by decide +kernel
theorem d1013_8 : decode jdk_65_method_133_code 8 = .ok (.istore_n 3, 1) := by decide +kernel
theorem d1013_9 : decode jdk_65_method_133_code 9 = .ok (.iload_n 3, 1) := by decide +kernel
theorem d1013_10 : decode jdk_65_method_133_code 10 = .ok (.newarray .byte, 2) := by decide +kernel
theorem d1013_12 : decode jdk_65_method_133_code 12 = .ok (.astore 4, 2) := by decide +kernel
theorem d1013_14 : decode jdk_65_method_133_code 14 = .ok (.aload_n 0, 1) := by decide +kernel
theorem d1013_15 : decode jdk_65_method_133_code 15 = .ok (.iload_n 1, 1) := by decide +kernel
theorem d1013_16 : decode jdk_65_method_133_code 16 = .ok (.aload 4, 2) := by decide +kernel
theorem d1013_18 : decode jdk_65_method_133_code 18 = .ok (.iconst 0, 1) := by decide +kernel
theorem d1013_19 : decode jdk_65_method_133_code 19 = .ok (.aload_n 0, 1) := by decide +kernel
theorem d1013_20 : decode jdk_65_method_133_code 20 = .ok (.arraylength, 1) := by decide +kernel
theorem d1013_21 : decode jdk_65_method_133_code 21 = .ok (.iload_n 1, 1) := by decide +kernel
theorem d1013_22 : decode jdk_65_method_133_code 22 = .ok (.isub, 1) := by decide +kernel
theorem d1013_23 : decode jdk_65_method_133_code 23 = .ok (.iload_n 3, 1) := by decide +kernel
theorem d1013_24 : decode jdk_65_method_133_code 24 = .ok (.invokestatic 304, 3) := by decide +kernel
theorem d1013_27 : decode jdk_65_method_133_code 27 = .ok (.invokestatic 150, 3) := by decide +kernel
theorem d1013_30 : decode jdk_65_method_133_code 30 = .ok (.aload 4, 2) := by decide +kernel
theorem d1013_32 : decode jdk_65_method_133_code 32 = .ok (.areturn, 1) := by decide +kernel
theorem ef300 (m : MethodId) (x0 : Addr) (x1 : Int32) (x2 : Int32)  : entryFrame m #[(.ref x0), (.int x1), (.int x2)] 5 = mkF m 0 #[vr x0, vi x1, vi x2, U0, U0] [] := by first | (simp [entryFrame, mkF, argsToLocals, Value.category]; done) | rfl | rfl
set_option maxRecDepth 65536 in
set_option maxHeartbeats 40000000 in
theorem rm300 (l : Launch) (Z : State) (a0 : Array Value) (hw : ∀ d ∈ tables_1, d.before a0 Z = true) (hEL : EW Z a0 EL0) (zc : Int32) (SC : Sta Z Z.heap "java/lang/String" "COMPACT_STRINGS" "Z" (.int zc)) (hzc : ¬ zc = 0) (fm : Value) (SF : Sta Z Z.heap "jdk/internal/util/Preconditions" "SIOOBE_FORMATTER" "Ljava/util/function/BiFunction;" fm) (rfm : fm.isRef = true) (x1 : Addr) (kc : ClassId) (q1 : Int32) (q2 : Int32) (q3 : Int32) (h0 : Heap) {n0 : Nat} (O0 : Old Z n0 h0) (A1 : Arv Z h0 x1 kc .byte (3 : Int32) [(.int (StrChars.lo8 q1)), (.int (StrChars.lo8 q2)), (.int (StrChars.lo8 q3))] (.int (0 : Int32))) (cq1 : ¬ q1 < 0 ∧ ¬ (255 : Int32) < q1) (cq2 : ¬ q2 < 0 ∧ ¬ (255 : Int32) < q2) (cq3 : ¬ q3 < 0 ∧ ¬ (255 : Int32) < q3) :
    Met l Z EL0 n0 (⟨"java/util/Arrays", "copyOfRangeByte", "([BII)[B"⟩ : MethodName) jdk_65_method_133_code 5 (some (.array .byte)) [] ({ frames := 1, cells := 1, slots := 1, locals := 18 } : Room) #[(.ref x1), (.int (0 : Int32)), (.int (1 : Int32))] h0 [] [] (fun v h' => ∃ (r : Addr) (kc : ClassId), v = some (.ref r) ∧ h0.size ≤ r ∧ Arv Z h' r kc .byte (1 : Int32) [(.int (StrChars.lo8 q1))] (.int (0 : Int32))) := by
  refine Met.of (plainFor_of_name pn3) O0 ?_
  intro p e s m below meth c T0 hx hby hml hret hlk hnm hs W0
  have W0 : Wk p l e _ s m _ below meth c Z EL0 n0 [] "java/util/Arrays" [] T0 0 0 h0 := W0
  have hSA := fun d hd => hw d (sa_in d hd)
  have hws := fun d hd => hw d (ws_in d hd)
  have hln := fun d hd => hw d (ln_in d hd)
  have hch := fun d hd => hw d (ch_in d hd)
  have heq := fun d hd => hw d (eq_in d hd)
  have hem := fun d hd => hw d (em_in d hd)
  refine Go.of (fun _ kk => castTop (ef300 m x1 (0 : Int32) (1 : Int32)) kk) ?_
  refine gof T0 m 2 #[vr x1, vi 0, vi 1, U0, U0] [(.int 1), (.int 0)] (fun _ kk => XS.iloadN W0.here hx rfl (hb hby d1013_0) rfl (XS.iloadN W0.here hx rfl (hb hby d1013_1) rfl kk)) ?_
  refine W0.callS hx hEL (hw _ (mI 183 rfl)) (hw _ (mI 184 rfl)) (hw _ (mI 178 rfl)) (hw _ (mI 185 rfl)) (by decide +kernel) (argsL := [(.int (0 : Int32)), (.int (1 : Int32))]) (rest := []) (rm9 l Z a0 hw hEL zc SC hzc fm SF rfm (0 : Int32) (1 : Int32) h0 W0.old (by decide +kernel)) all0 (by decide +kernel) (Wd := 0) (by decide +kernel) (by decide +kernel) (by decide +kernel) all0 rfl (by rw [hml]; rfl) (lenOf pd5 rfl) rfl (by show 2 * 0 + _ ≤ _; exact Nat.le_of_eq rfl) (hb hby d1013_2) (fun T1 h1 v1 W1 K1 q1 => ?_)
  obtain ⟨rfl, rfl⟩ := q1
  refine gof T1 m 10 #[vr x1, vi 0, vi 1, vi 1, U0] [(.int 1)] (fun _ kk => XS.iloadN W1.here hx rfl (hb hby d1013_5) rfl (XS.iloadN W1.here hx rfl (hb hby d1013_6) rfl (XS.isub W1.here hx rfl (hb hby d1013_7) rfl (XS.istoreN W1.here hx rfl (hb hby d1013_8) rfl (l' := #[vr x1, vi 0, vi 1, vi 1, U0]) rfl (XS.iloadN W1.here hx rfl (hb hby d1013_9) rfl kk))))) ?_
  refine W1.newP hx (hw _ (mI 23 rfl)) rfl (hb hby d1013_10) rfl (by decide +kernel) (cap := 1) (by decide +kernel) (by decide +kernel) (by decide +kernel) (by decide +kernel) (fun T2 h2 b2 c2 eb2 gb2 W2 K2 A2 => ?_)
  have V2 : Arv Z h2 b2 c2 .byte (1 : Int32) [(.int (0 : Int32))] (.int (0 : Int32)) := A2
  refine gof T2 m 20 #[vr x1, vi 0, vi 1, vi 1, vr b2] [(.ref x1), (.int 0), (.ref b2), (.int 0), (.ref x1)] (fun _ kk => XS.astore W2.here hx rfl (hb hby d1013_12) rfl rfl (l' := #[vr x1, vi 0, vi 1, vi 1, vr b2]) rfl (XS.aloadN W2.here hx rfl (hb hby d1013_14) rfl rfl (XS.iloadN W2.here hx rfl (hb hby d1013_15) rfl (XS.aload W2.here hx rfl (hb hby d1013_16) rfl rfl (XS.iconst W2.here hx rfl (hb hby d1013_18) (XS.aloadN W2.here hx rfl (hb hby d1013_19) rfl rfl kk)))))) ?_
  have k3 := (A1.keep K2 nin0)
  refine W2.alen hx k3 rfl rfl (hb hby d1013_20) ?_
  refine gof T2 m 24 #[vr x1, vi 0, vi 1, vi 1, vr b2] [(.int 1), (.int 3), (.int 0), (.ref b2), (.int 0), (.ref x1)] (fun _ kk => XS.iloadN W2.here hx rfl (hb hby d1013_21) rfl (XS.isub W2.here hx rfl (hb hby d1013_22) rfl (XS.iloadN W2.here hx rfl (hb hby d1013_23) rfl kk))) ?_
  refine W2.callS hx hEL (hw _ (mI 186 rfl)) (hw _ (mI 90 rfl)) (hw _ (mI 87 rfl)) (hw _ (mI 91 rfl)) (by decide +kernel) (argsL := [(.int (3 : Int32)), (.int (1 : Int32))]) (rest := [(.int (0 : Int32)), (.ref b2), (.int (0 : Int32)), (.ref x1)]) (rm8 l Z a0 hw hEL zc SC hzc fm SF rfm (3 : Int32) (1 : Int32) h2 W2.old (by decide +kernel)) all0 (by decide +kernel) (Wd := 4) (by decide +kernel) (by decide +kernel) (by decide +kernel) all0 rfl (by rw [hml]; rfl) (lenOf pd2 rfl) rfl (by show 2 * 0 + _ ≤ _; exact Nat.le_of_eq rfl) (hb hby d1013_24) (fun T4 h4 v4 W4 K4 q4 => ?_)
  obtain ⟨rfl, rfl⟩ := q4
  show Go p e below _ (T4.setTop (mkF m 27 #[vr x1, vi 0, vi 1, vi 1, vr b2] [(.int 1), (.int 0), (.ref b2), (.int 0), (.ref x1)]))
  refine W4.cp hx (hw _ (mI 187 rfl)) (hw _ (mI 190 rfl)) (hw _ (mI 188 rfl)) (hw _ (mI 189 rfl)) (us := [(.int (StrChars.lo8 q1))]) k3 V2 rfl (by decide) (by decide) (by decide) (by decide) (by decide) rfl (Nat.le_of_ble_eq_true rfl) gb2.1 (Or.inr gb2.2) (mI 0 rfl) rfl (by rw [hml]; rfl) rfl (hb hby d1013_27) (by decide +kernel) (Wd := 0) (by show 2 * 0 + _ ≤ _; exact Nat.le_of_eq rfl) (by decide +kernel) (fun T5 h5 W5 K5 A5 => ?_)
  have V5 : Arv Z h5 b2 c2 .byte (1 : Int32) [(.int (StrChars.lo8 q1))] (.int (0 : Int32)) := A5
  refine gof T5 m 32 #[vr x1, vi 0, vi 1, vi 1, vr b2] [(.ref b2)] (fun _ kk => XS.aload W5.here hx rfl (hb hby d1013_30) rfl rfl kk) ?_
  exact W5.retA hx hEL hs hlk (by decide +kernel) (by decide +kernel) hret rfl rfl (hb hby d1013_32) ⟨b2, c2, rfl, hs ▸ gb2.2, V5⟩
theorem d1014_0 : decode jdk_65_method_132_code 0 = .ok (.iload_n 1, 1) := by decide +kernel
theorem d1014_1 : decode jdk_65_method_132_code 1 = .ok (.ifCond .ne 9, 3) := by decide +kernel
theorem d1014_4 : decode jdk_65_method_132_code 4 = .ok (.iload_n 2, 1) := by decide +kernel
theorem d1014_5 : decode jdk_65_method_132_code 5 = .ok (.aload_n 0, 1) := by decide +kernel
theorem d1014_6 : decode jdk_65_method_132_code 6 = .ok (.arraylength, 1) := by decide +kernel
theorem d1014_7 : decode jdk_65_method_132_code 7 = .ok (.if_icmp .eq 10, 3) := by decide +kernel
theorem d1014_10 : decode jdk_65_method_132_code 10 = .ok (.aload_n 0, 1) := by decide +kernel
theorem d1014_11 : decode jdk_65_method_132_code 11 = .ok (.iload_n 1, 1) := by decide +kernel
theorem d1014_12 : decode jdk_65_method_132_code 12 = .ok (.iload_n 2, 1) := by decide +kernel
theorem d1014_13 : decode jdk_65_method_132_code 13 = .ok (.invokestatic 339, 3) := by decide +kernel
theorem d1014_16 : decode jdk_65_method_132_code 16 = .ok (.areturn, 1) := by decide +kernel
theorem ef301 (m : MethodId) (x0 : Addr) (x1 : Int32) (x2 : Int32)  : entryFrame m #[(.ref x0), (.int x1), (.int x2)] 3 = mkF m 0 #[vr x0, vi x1, vi x2] [] := by first | (simp [entryFrame, mkF, argsToLocals, Value.category]; done) | rfl | rfl
set_option maxRecDepth 65536 in
set_option maxHeartbeats 40000000 in
theorem rm301 (l : Launch) (Z : State) (a0 : Array Value) (hw : ∀ d ∈ tables_1, d.before a0 Z = true) (hEL : EW Z a0 EL0) (zc : Int32) (SC : Sta Z Z.heap "java/lang/String" "COMPACT_STRINGS" "Z" (.int zc)) (hzc : ¬ zc = 0) (fm : Value) (SF : Sta Z Z.heap "jdk/internal/util/Preconditions" "SIOOBE_FORMATTER" "Ljava/util/function/BiFunction;" fm) (rfm : fm.isRef = true) (x1 : Addr) (kc : ClassId) (q1 : Int32) (q2 : Int32) (q3 : Int32) (h0 : Heap) {n0 : Nat} (O0 : Old Z n0 h0) (A1 : Arv Z h0 x1 kc .byte (3 : Int32) [(.int (StrChars.lo8 q1)), (.int (StrChars.lo8 q2)), (.int (StrChars.lo8 q3))] (.int (0 : Int32))) (cq1 : ¬ q1 < 0 ∧ ¬ (255 : Int32) < q1) (cq2 : ¬ q2 < 0 ∧ ¬ (255 : Int32) < q2) (cq3 : ¬ q3 < 0 ∧ ¬ (255 : Int32) < q3) :
    Met l Z EL0 n0 (⟨"java/util/Arrays", "copyOfRange", "([BII)[B"⟩ : MethodName) jdk_65_method_132_code 3 (some (.array .byte)) [] ({ frames := 2, cells := 1, slots := 1, locals := 34 } : Room) #[(.ref x1), (.int (0 : Int32)), (.int (1 : Int32))] h0 [] [] (fun v h' => ∃ (r : Addr) (kc : ClassId), v = some (.ref r) ∧ h0.size ≤ r ∧ Arv Z h' r kc .byte (1 : Int32) [(.int (StrChars.lo8 q1))] (.int (0 : Int32))) := by
  refine Met.of (plainFor_of_name pn3) O0 ?_
  intro p e s m below meth c T0 hx hby hml hret hlk hnm hs W0
  have W0 : Wk p l e _ s m _ below meth c Z EL0 n0 [] "java/util/Arrays" [] T0 0 0 h0 := W0
  have hSA := fun d hd => hw d (sa_in d hd)
  have hws := fun d hd => hw d (ws_in d hd)
  have hln := fun d hd => hw d (ln_in d hd)
  have hch := fun d hd => hw d (ch_in d hd)
  have heq := fun d hd => hw d (eq_in d hd)
  have hem := fun d hd => hw d (em_in d hd)
  refine Go.of (fun _ kk => castTop (ef301 m x1 (0 : Int32) (1 : Int32)) kk) ?_
  refine gof T0 m 6 #[vr x1, vi 0, vi 1] [(.ref x1), (.int 1)] (fun _ kk => XS.iloadN W0.here hx rfl (hb hby d1014_0) rfl (XS.ifNo W0.here hx rfl (hb hby d1014_1) rfl (XT.i0_ne_f (by decide +kernel)) (XS.iloadN W0.here hx rfl (hb hby d1014_4) rfl (XS.aloadN W0.here hx rfl (hb hby d1014_5) rfl rfl kk)))) ?_
  refine W0.alen hx A1 rfl rfl (hb hby d1014_6) ?_
  refine gof T0 m 13 #[vr x1, vi 0, vi 1] [(.int 1), (.int 0), (.ref x1)] (fun _ kk => XS.icmpNo W0.here hx rfl (hb hby d1014_7) rfl (XT.ii_eq_f (by decide +kernel)) (XS.aloadN W0.here hx rfl (hb hby d1014_10) rfl rfl (XS.iloadN W0.here hx rfl (hb hby d1014_11) rfl (XS.iloadN W0.here hx rfl (hb hby d1014_12) rfl kk)))) ?_
  refine W0.callS hx hEL (hw _ (mI 180 rfl)) (hw _ (mI 181 rfl)) (hw _ (mI 178 rfl)) (hw _ (mI 182 rfl)) (by decide +kernel) (argsL := [(.ref x1), (.int (0 : Int32)), (.int (1 : Int32))]) (rest := []) (rm300 l Z a0 hw hEL zc SC hzc fm SF rfm x1 kc q1 q2 q3 h0 W0.old A1 cq1 cq2 cq3) all0 (by decide +kernel) (Wd := 0) (by decide +kernel) (by decide +kernel) (by decide +kernel) all0 rfl (by rw [hml]; rfl) (lenOf pd6 rfl) rfl (by show 2 * 0 + _ ≤ _; exact Nat.le_of_eq rfl) (hb hby d1014_13) (fun T1 h1 v1 W1 K1 q1 => ?_)
  obtain ⟨r1, kc1, rfl, lr1, A1⟩ := q1
  have gr1 : n0 ≤ r1 ∧ s.heap.size ≤ r1 := ⟨Nat.le_trans W0.n0le lr1, Nat.le_trans W0.s0le lr1⟩
  show Go p e below _ (T1.setTop (mkF m 16 #[vr x1, vi 0, vi 1] [(.ref r1)]))
  exact W1.retA hx hEL hs hlk (by decide +kernel) (by decide +kernel) hret rfl rfl (hb hby d1014_16) ⟨r1, kc1, rfl, hs ▸ gr1.2, A1⟩
theorem d1015_0 : decode jdk_43_method_47_code 0 = .ok (.iload_n 2, 1) := by decide +kernel
theorem d1015_1 : decode jdk_43_method_47_code 1 = .ok (.ifCond .ne 6, 3) := by decide +kernel
theorem d1015_7 : decode jdk_43_method_47_code 7 = .ok (.new 1, 3) := by decide +kernel
theorem d1015_10 : decode jdk_43_method_47_code 10 = .ok (.dup, 1) := by decide +kernel
theorem d1015_11 : decode jdk_43_method_47_code 11 = .ok (.aload_n 0, 1) := by decide +kernel
theorem d1015_12 : decode jdk_43_method_47_code 12 = .ok (.iload_n 1, 1) := by decide +kernel
theorem d1015_13 : decode jdk_43_method_47_code 13 = .ok (.iload_n 1, 1) := by decide +kernel
theorem d1015_14 : decode jdk_43_method_47_code 14 = .ok (.iload_n 2, 1) := by decide +kernel
theorem d1015_15 : decode jdk_43_method_47_code 15 = .ok (.iadd, 1) := by decide +kernel
theorem d1015_16 : decode jdk_43_method_47_code 16 = .ok (.invokestatic 232, 3) := by decide +kernel
theorem d1015_19 : decode jdk_43_method_47_code 19 = .ok (.iconst 0, 1) := by decide +kernel
theorem d1015_20 : decode jdk_43_method_47_code 20 = .ok (.invokespecial 112, 3) := by decide +kernel
theorem d1015_23 : decode jdk_43_method_47_code 23 = .ok (.areturn, 1) := by decide +kernel
theorem ef302 (m : MethodId) (x0 : Addr) (x1 : Int32) (x2 : Int32)  : entryFrame m #[(.ref x0), (.int x1), (.int x2)] 3 = mkF m 0 #[vr x0, vi x1, vi x2] [] := by first | (simp [entryFrame, mkF, argsToLocals, Value.category]; done) | rfl | rfl
set_option maxRecDepth 65536 in
set_option maxHeartbeats 40000000 in
theorem rm302 (l : Launch) (Z : State) (a0 : Array Value) (hw : ∀ d ∈ tables_1, d.before a0 Z = true) (hEL : EW Z a0 EL0) (zc : Int32) (SC : Sta Z Z.heap "java/lang/String" "COMPACT_STRINGS" "Z" (.int zc)) (hzc : ¬ zc = 0) (fm : Value) (SF : Sta Z Z.heap "jdk/internal/util/Preconditions" "SIOOBE_FORMATTER" "Ljava/util/function/BiFunction;" fm) (rfm : fm.isRef = true) (x1 : Addr) (kc : ClassId) (q1 : Int32) (q2 : Int32) (q3 : Int32) (h0 : Heap) {n0 : Nat} (O0 : Old Z n0 h0) (A1 : Arv Z h0 x1 kc .byte (3 : Int32) [(.int (StrChars.lo8 q1)), (.int (StrChars.lo8 q2)), (.int (StrChars.lo8 q3))] (.int (0 : Int32))) (cq1 : ¬ q1 < 0 ∧ ¬ (255 : Int32) < q1) (cq2 : ¬ q2 < 0 ∧ ¬ (255 : Int32) < q2) (cq3 : ¬ q3 < 0 ∧ ¬ (255 : Int32) < q3) :
    Met l Z EL0 n0 (⟨"java/lang/StringLatin1", "newString", "([BII)Ljava/lang/String;"⟩ : MethodName) jdk_43_method_47_code 3 (some (.object "java/lang/String")) [] ({ frames := 3, cells := 2, slots := 5, locals := 50 } : Room) #[(.ref x1), (.int (0 : Int32)), (.int (1 : Int32))] h0 [] [] (fun v h' => ∃ r : Addr, v = some (.ref r) ∧ h0.size ≤ r ∧ Str Z h' r [q1]) := by
  refine Met.of (plainFor_of_name pn2) O0 ?_
  intro p e s m below meth c T0 hx hby hml hret hlk hnm hs W0
  have W0 : Wk p l e _ s m _ below meth c Z EL0 n0 [] "java/lang/StringLatin1" [] T0 0 0 h0 := W0
  have hSA := fun d hd => hw d (sa_in d hd)
  have hws := fun d hd => hw d (ws_in d hd)
  have hln := fun d hd => hw d (ln_in d hd)
  have hch := fun d hd => hw d (ch_in d hd)
  have heq := fun d hd => hw d (eq_in d hd)
  have hem := fun d hd => hw d (em_in d hd)
  refine Go.of (fun _ kk => castTop (ef302 m x1 (0 : Int32) (1 : Int32)) kk) ?_
  refine gof T0 m 7 #[vr x1, vi 0, vi 1] [] (fun _ kk => XS.iloadN W0.here hx rfl (hb hby d1015_0) rfl (XS.ifYes W0.here hx rfl (pc0 := 1) (pc' := 7) rfl (hb hby d1015_1) rfl (XT.i0_ne_t (by decide +kernel)) (by decide +kernel) (by decide +kernel) kk)) ?_
  refine W0.newO hx (hw _ (mI 175 rfl)) (hw _ (mI 6 rfl)) (hw _ (mI 7 rfl)) rfl (hb hby d1015_7) (by decide +kernel) (by decide +kernel) (fun T1 h1 b1 eb1 gb1 W1 K1 E1 D1 => ?_)
  have k2 : Fld Z h1 b1 "java/lang/String" "coder" "B" (.int (0 : Int32)) := D1 (Or.inr (hw _ (mI 31 rfl))) (ty := .byte) (by decide +kernel)
  have k3 : Fld Z h1 b1 "java/lang/String" "value" "[B" .null := D1 (Or.inr (hw _ (mI 33 rfl))) (ty := (.array .byte)) (by decide +kernel)
  refine gof T1 m 16 #[vr x1, vi 0, vi 1] [(.int 1), (.int 0), (.ref x1), (.ref b1), (.ref b1)] (fun _ kk => XS.dup W1.here hx rfl (hb hby d1015_10) rfl rfl (XS.aloadN W1.here hx rfl (hb hby d1015_11) rfl rfl (XS.iloadN W1.here hx rfl (hb hby d1015_12) rfl (XS.iloadN W1.here hx rfl (hb hby d1015_13) rfl (XS.iloadN W1.here hx rfl (hb hby d1015_14) rfl (XS.iadd W1.here hx rfl (hb hby d1015_15) rfl kk)))))) ?_
  have k5 := (A1.keep K1 nin0)
  refine W1.callS hx hEL (hw _ (mI 176 rfl)) (hw _ (mI 177 rfl)) (hw _ (mI 178 rfl)) (hw _ (mI 179 rfl)) (by decide +kernel) (argsL := [(.ref x1), (.int (0 : Int32)), (.int (1 : Int32))]) (rest := [(.ref b1), (.ref b1)]) (rm301 l Z a0 hw hEL zc SC hzc fm SF rfm x1 kc q1 q2 q3 h1 W1.old k5 cq1 cq2 cq3) all0 (by decide +kernel) (Wd := 2) (by decide +kernel) (by decide +kernel) (by decide +kernel) all0 rfl (by rw [hml]; rfl) (lenOf pd6 rfl) rfl (by show 2 * 0 + _ ≤ _; exact Nat.le_of_eq rfl) (hb hby d1015_16) (fun T4 h4 v4 W4 K4 q4 => ?_)
  obtain ⟨r4, kc4, rfl, lr4, A4⟩ := q4
  have gr4 : n0 ≤ r4 ∧ s.heap.size ≤ r4 := ⟨Nat.le_trans W1.n0le lr4, Nat.le_trans W1.s0le lr4⟩
  refine gof T4 m 20 #[vr x1, vi 0, vi 1] [(.int 0), (.ref r4), (.ref b1), (.ref b1)] (fun _ kk => XS.iconst W4.here hx rfl (hb hby d1015_19) kk) ?_
  have k7 := (E1.keep K4)
  have k8 := (k3.keep K4 nin0)
  have k9 := (k2.keep K4 nin0)
  refine W4.callP hx hEL rfl (hw _ (mI 191 rfl)) (hw _ (mI 192 rfl)) (hw _ (mI 7 rfl)) (hw _ (mI 193 rfl)) (by decide +kernel) (a := b1) (argsL := [(.ref r4), (.int (0 : Int32))]) (rest := [(.ref b1)]) (rm12 l Z a0 hw hEL zc SC hzc fm SF rfm b1 r4 h4 W4.old k7 k8 k9 gb1.1) (allS (mI 0 rfl) all0) (by decide +kernel) (Wd := 1) (by decide +kernel) (by decide +kernel) (by decide +kernel) (allS ⟨gb1.1, (Or.inr gb1.2)⟩ all0) rfl (by rw [hml]; rfl) (lenOf pd7 rfl) rfl (by show 2 * 0 + _ ≤ _; exact Nat.le_of_eq rfl) (hb hby d1015_20) (fun T6 h6 v6 W6 K6 q6 => ?_)
  obtain ⟨rfl, Fv6, Fc6⟩ := q6
  show Go p e below _ (T6.setTop (mkF m 23 #[vr x1, vi 0, vi 1] [(.ref b1)]))
  have k10 := (k7.keep K6)
  have k11 := (A4.keep K6 (ninS (ne_of_born lr4 E1.lt (Nat.le_refl _)).symm nin0))
  exact W6.retA hx hEL hs hlk (by decide +kernel) (by decide +kernel) hret rfl rfl (hb hby d1015_23) ⟨b1, rfl, hs ▸ gb1.2, ⟨r4, kc4, _, _, _, k10, Fv6, Fc6, k11, StrChars.Road.codOf (cs := [q1]) (n := 1) rfl (allSi cq1.2 all0i), up255 (allSi cq1 all0i), Nat.le_of_ble_eq_true rfl⟩⟩
theorem d1016_0 : decode jdk_42_method_92_code 0 = .ok (.aload_n 0, 1) := by decide +kernel
theorem d1016_1 : decode jdk_42_method_92_code 1 = .ok (.invokevirtual 505, 3) := by decide +kernel
theorem d1016_4 : decode jdk_42_method_92_code 4 = .ok (.istore_n 3, 1) := by decide +kernel
theorem d1016_5 : decode jdk_42_method_92_code 5 = .ok (.iload_n 1, 1) := by decide +kernel
theorem d1016_6 : decode jdk_42_method_92_code 6 = .ok (.iload_n 2, 1) := by decide +kernel
theorem d1016_7 : decode jdk_42_method_92_code 7 = .ok (.iload_n 3, 1) := by decide +kernel
theorem d1016_8 : decode jdk_42_method_92_code 8 = .ok (.invokestatic 521, 3) := by decide +kernel
theorem d1016_11 : decode jdk_42_method_92_code 11 = .ok (.iload_n 1, 1) := by decide +kernel
theorem d1016_12 : decode jdk_42_method_92_code 12 = .ok (.ifCond .ne 10, 3) := by decide +kernel
theorem d1016_15 : decode jdk_42_method_92_code 15 = .ok (.iload_n 2, 1) := by decide +kernel
theorem d1016_16 : decode jdk_42_method_92_code 16 = .ok (.iload_n 3, 1) := by decide +kernel
theorem d1016_17 : decode jdk_42_method_92_code 17 = .ok (.if_icmp .ne 5, 3) := by decide +kernel
theorem d1016_22 : decode jdk_42_method_92_code 22 = .ok (.iload_n 2, 1) := by decide +kernel
theorem d1016_23 : decode jdk_42_method_92_code 23 = .ok (.iload_n 1, 1) := by decide +kernel
theorem d1016_24 : decode jdk_42_method_92_code 24 = .ok (.isub, 1) := by decide +kernel
theorem d1016_25 : decode jdk_42_method_92_code 25 = .ok (.istore 4, 2) := by decide +kernel
theorem d1016_27 : decode jdk_42_method_92_code 27 = .ok (.aload_n 0, 1) := by decide +kernel
theorem d1016_28 : decode jdk_42_method_92_code 28 = .ok (.invokevirtual 492, 3) := by decide +kernel
theorem d1016_31 : decode jdk_42_method_92_code 31 = .ok (.ifCond .eq 16, 3) := by decide +kernel
theorem d1016_34 : decode jdk_42_method_92_code 34 = .ok (.aload_n 0, 1) := by decide +kernel
theorem d1016_35 : decode jdk_42_method_92_code 35 = .ok (.getfield 9, 3) := by decide +kernel
theorem d1016_38 : decode jdk_42_method_92_code 38 = .ok (.iload_n 1, 1) := by decide +kernel
theorem d1016_39 : decode jdk_42_method_92_code 39 = .ok (.iload 4, 2) := by decide +kernel
theorem d1016_41 : decode jdk_42_method_92_code 41 = .ok (.invokestatic 685, 3) := by decide +kernel
theorem d1016_44 : decode jdk_42_method_92_code 44 = .ok (.goto 13, 3) := by decide +kernel
theorem d1016_57 : decode jdk_42_method_92_code 57 = .ok (.areturn, 1) := by decide +kernel
theorem ef303 (m : MethodId) (x0 : Addr) (x1 : Int32) (x2 : Int32)  : entryFrame m #[(.ref x0), (.int x1), (.int x2)] 5 = mkF m 0 #[vr x0, vi x1, vi x2, U0, U0] [] := by first | (simp [entryFrame, mkF, argsToLocals, Value.category]; done) | rfl | rfl
set_option maxRecDepth 65536 in
set_option maxHeartbeats 40000000 in
theorem rm303 (l : Launch) (Z : State) (a0 : Array Value) (hw : ∀ d ∈ tables_1, d.before a0 Z = true) (hEL : EW Z a0 EL0) (zc : Int32) (SC : Sta Z Z.heap "java/lang/String" "COMPACT_STRINGS" "Z" (.int zc)) (hzc : ¬ zc = 0) (fm : Value) (SF : Sta Z Z.heap "jdk/internal/util/Preconditions" "SIOOBE_FORMATTER" "Ljava/util/function/BiFunction;" fm) (rfm : fm.isRef = true) (x1 : Addr) (q1 : Int32) (q2 : Int32) (q3 : Int32) (h0 : Heap) {n0 : Nat} (O0 : Old Z n0 h0) (S1 : Str Z h0 x1 [q1, q2, q3]) (cq1 : ¬ q1 < 0 ∧ ¬ (255 : Int32) < q1) (cq2 : ¬ q2 < 0 ∧ ¬ (255 : Int32) < q2) (cq3 : ¬ q3 < 0 ∧ ¬ (255 : Int32) < q3) :
    Met l Z EL0 n0 (⟨"java/lang/String", "substring", "(II)Ljava/lang/String;"⟩ : MethodName) jdk_42_method_92_code 5 (some (.object "java/lang/String")) [] ({ frames := 4, cells := 2, slots := 5, locals := 64 } : Room) #[(.ref x1), (.int (0 : Int32)), (.int (1 : Int32))] h0 [] [] (fun v h' => ∃ r : Addr, v = some (.ref r) ∧ h0.size ≤ r ∧ Str Z h' r [q1]) := by
  refine Met.of (plainFor_of_name pn1) O0 ?_
  intro p e s m below meth c T0 hx hby hml hret hlk hnm hs W0
  have W0 : Wk p l e _ s m _ below meth c Z EL0 n0 [] "java/lang/String" [] T0 0 0 h0 := W0
  have hSA := fun d hd => hw d (sa_in d hd)
  have hws := fun d hd => hw d (ws_in d hd)
  have hln := fun d hd => hw d (ln_in d hd)
  have hch := fun d hd => hw d (ch_in d hd)
  have heq := fun d hd => hw d (eq_in d hd)
  have hem := fun d hd => hw d (em_in d hd)
  refine Go.of (fun _ kk => castTop (ef303 m x1 (0 : Int32) (1 : Int32)) kk) ?_
  show Go p e below _ (T0.setTop (mkF m 0 #[vr x1, vi 0, vi 1, U0, U0] []))
  obtain ⟨t1, kb1, E1, Fv1, Fc1, A1⟩ := S1.open_ (snd255 (allSi cq1 (allSi cq2 (allSi cq3 all0i))))
  have V1 : Arv Z h0 t1 kb1 .byte (3 : Int32) [(.int (StrChars.lo8 q1)), (.int (StrChars.lo8 q2)), (.int (StrChars.lo8 q3))] (.int (0 : Int32)) := A1
  refine gof T0 m 1 #[vr x1, vi 0, vi 1, U0, U0] [(.ref x1)] (fun _ kk => XS.aloadN W0.here hx rfl (hb hby d1016_0) rfl rfl kk) ?_
  refine W0.strLen hx hln (hw _ (mI 6 rfl)) SC hzc S1 (hw _ (mI 68 rfl)) (hw _ (mI 69 rfl)) (hw _ (mI 71 rfl)) (hw _ (mI 70 rfl)) (by decide +kernel) (Wd := 0) (by decide +kernel) (by decide +kernel) (by decide +kernel) rfl (by rw [hml]; rfl) rfl (by show 2 * 0 + _ ≤ _; exact Nat.le_of_eq rfl) (hb hby d1016_1) (fun T2 W2 => ?_)
  show Go p e below _ (T2.setTop (mkF m 4 #[vr x1, vi 0, vi 1, U0, U0] [(.int 3)]))
  refine gof T2 m 8 #[vr x1, vi 0, vi 1, vi 3, U0] [(.int 3), (.int 1), (.int 0)] (fun _ kk => XS.istoreN W2.here hx rfl (hb hby d1016_4) rfl (l' := #[vr x1, vi 0, vi 1, vi 3, U0]) rfl (XS.iloadN W2.here hx rfl (hb hby d1016_5) rfl (XS.iloadN W2.here hx rfl (hb hby d1016_6) rfl (XS.iloadN W2.here hx rfl (hb hby d1016_7) rfl kk)))) ?_
  refine W2.callS hx hEL (hw _ (mI 166 rfl)) (hw _ (mI 167 rfl)) (hw _ (mI 7 rfl)) (hw _ (mI 168 rfl)) (by decide +kernel) (argsL := [(.int (0 : Int32)), (.int (1 : Int32)), (.int (3 : Int32))]) (rest := []) (rm11 l Z a0 hw hEL zc SC hzc fm SF rfm (0 : Int32) (1 : Int32) (3 : Int32) h0 W2.old (by decide +kernel) (by decide +kernel) (by decide +kernel)) all0 (by decide +kernel) (Wd := 0) (by decide +kernel) (by decide +kernel) (by decide +kernel) all0 rfl (by rw [hml]; rfl) (lenOf pd8 rfl) rfl (by show 2 * 0 + _ ≤ _; exact Nat.le_of_eq rfl) (hb hby d1016_8) (fun T3 h3 v3 W3 K3 q3 => ?_)
  obtain ⟨rfl, rfl⟩ := q3
  refine gof T3 m 24 #[vr x1, vi 0, vi 1, vi 3, U0] [(.int 0), (.int 1)] (fun _ kk => XS.iloadN W3.here hx rfl (hb hby d1016_11) rfl (XS.ifNo W3.here hx rfl (hb hby d1016_12) rfl (XT.i0_ne_f (by decide +kernel)) (XS.iloadN W3.here hx rfl (hb hby d1016_15) rfl (XS.iloadN W3.here hx rfl (hb hby d1016_16) rfl (XS.icmpYes W3.here hx rfl (pc0 := 17) (pc' := 22) rfl (hb hby d1016_17) rfl (XT.ii_ne_t (by decide +kernel)) (by decide +kernel) (by decide +kernel) (XS.iloadN W3.here hx rfl (hb hby d1016_22) rfl (XS.iloadN W3.here hx rfl (hb hby d1016_23) rfl kk))))))) ?_
  refine gof T3 m 28 #[vr x1, vi 0, vi 1, vi 3, vi 1] [(.ref x1)] (fun _ kk => XS.isub W3.here hx rfl (hb hby d1016_24) rfl (XS.istore W3.here hx rfl (hb hby d1016_25) rfl (l' := #[vr x1, vi 0, vi 1, vi 3, vi 1]) rfl (XS.aloadN W3.here hx rfl (hb hby d1016_27) rfl rfl kk))) ?_
  refine W3.callV hx hEL (hw _ (mI 63 rfl)) (hw _ (mI 64 rfl)) (hw _ (mI 66 rfl)) (hw _ (mI 65 rfl)) (hw _ (mI 7 rfl)) (hw _ (mI 67 rfl)) (by decide +kernel) E1 (a := x1) (argsL := []) (rest := []) (rm6 l Z a0 hw hEL zc SC hzc fm SF rfm x1 h0 W3.old Fc1) all0 (by decide +kernel) (Wd := 0) (by decide +kernel) (by decide +kernel) (by decide +kernel) all0 rfl (by rw [hml]; rfl) (lenOf pd4 rfl) rfl (by show 2 * 0 + _ ≤ _; exact Nat.le_of_eq rfl) (hb hby d1016_28) (fun T4 h4 v4 W4 K4 q4 => ?_)
  obtain ⟨rfl, rfl⟩ := q4
  refine gof T4 m 35 #[vr x1, vi 0, vi 1, vi 3, vi 1] [(.ref x1)] (fun _ kk => XS.ifNo W4.here hx rfl (hb hby d1016_31) rfl (XT.i0_eq_f (by decide +kernel)) (XS.aloadN W4.here hx rfl (hb hby d1016_34) rfl rfl kk)) ?_
  refine W4.getF hx (host := "") (Or.inl (hw _ (mI 32 rfl))) Via.refl Fv1 rfl rfl (hb hby d1016_35) (fun T5 W5 => ?_)
  refine gof T5 m 41 #[vr x1, vi 0, vi 1, vi 3, vi 1] [(.int 1), (.int 0), (.ref t1)] (fun _ kk => XS.iloadN W5.here hx rfl (hb hby d1016_38) rfl (XS.iload W5.here hx rfl (hb hby d1016_39) rfl kk)) ?_
  refine W5.callS hx hEL (hw _ (mI 172 rfl)) (hw _ (mI 173 rfl)) (hw _ (mI 80 rfl)) (hw _ (mI 174 rfl)) (by decide +kernel) (argsL := [(.ref t1), (.int (0 : Int32)), (.int (1 : Int32))]) (rest := []) (rm302 l Z a0 hw hEL zc SC hzc fm SF rfm t1 kb1 q1 q2 q3 h0 W5.old V1 cq1 cq2 cq3) all0 (by decide +kernel) (Wd := 0) (by decide +kernel) (by decide +kernel) (by decide +kernel) all0 rfl (by rw [hml]; rfl) (lenOf pd9 rfl) rfl (by show 2 * 0 + _ ≤ _; exact Nat.le_of_eq rfl) (hb hby d1016_41) (fun T6 h6 v6 W6 K6 q6 => ?_)
  obtain ⟨r6, rfl, lr6, S6⟩ := q6
  have gr6 : n0 ≤ r6 ∧ s.heap.size ≤ r6 := ⟨Nat.le_trans W5.n0le lr6, Nat.le_trans W5.s0le lr6⟩
  have E6 := S6.exa
  refine gof T6 m 57 #[vr x1, vi 0, vi 1, vi 3, vi 1] [(.ref r6)] (fun _ kk => XS.goto W6.here hx rfl (pc0 := 44) (pc' := 57) rfl (hb hby d1016_44) (by decide +kernel) (by decide +kernel) kk) ?_
  exact W6.retA hx hEL hs hlk (by decide +kernel) (by decide +kernel) hret rfl rfl (hb hby d1016_57) ⟨r6, rfl, hs ▸ gr6.2, S6⟩
theorem ef310 (m : MethodId) (x0 : Addr) (x1 : Int32) (x2 : Int32)  : entryFrame m #[(.ref x0), (.int x1), (.int x2)] 5 = mkF m 0 #[vr x0, vi x1, vi x2, U0, U0] [] := by first | (simp [entryFrame, mkF, argsToLocals, Value.category]; done) | rfl | rfl
set_option maxRecDepth 65536 in
set_option maxHeartbeats 40000000 in
theorem rm310 (l : Launch) (Z : State) (a0 : Array Value) (hw : ∀ d ∈ tables_1, d.before a0 Z = true) (hEL : EW Z a0 EL0) (zc : Int32) (SC : Sta Z Z.heap "java/lang/String" "COMPACT_STRINGS" "Z" (.int zc)) (hzc : ¬ zc = 0) (fm : Value) (SF : Sta Z Z.heap "jdk/internal/util/Preconditions" "SIOOBE_FORMATTER" "Ljava/util/function/BiFunction;" fm) (rfm : fm.isRef = true) (x1 : Addr) (kc : ClassId) (q1 : Int32) (q2 : Int32) (q3 : Int32) (q4 : Int32) (h0 : Heap) {n0 : Nat} (O0 : Old Z n0 h0) (A1 : Arv Z h0 x1 kc .byte (4 : Int32) [(.int (StrChars.lo8 q1)), (.int (StrChars.lo8 q2)), (.int (StrChars.lo8 q3)), (.int (StrChars.lo8 q4))] (.int (0 : Int32))) (cq1 : ¬ q1 < 0 ∧ ¬ (255 : Int32) < q1) (cq2 : ¬ q2 < 0 ∧ ¬ (255 : Int32) < q2) (cq3 : ¬ q3 < 0 ∧ ¬ (255 : Int32) < q3) (cq4 : ¬ q4 < 0 ∧ ¬ (255 : Int32) < q4) :
    Met l Z EL0 n0 (⟨"java/util/Arrays", "copyOfRangeByte", "([BII)[B"⟩ : MethodName) jdk_65_method_133_code 5 (some (.array .byte)) [] ({ frames := 1, cells := 1, slots := 1, locals := 18 } : Room) #[(.ref x1), (.int (0 : Int32)), (.int (1 : Int32))] h0 [] [] (fun v h' => ∃ (r : Addr) (kc : ClassId), v = some (.ref r) ∧ h0.size ≤ r ∧ Arv Z h' r kc .byte (1 : Int32) [(.int (StrChars.lo8 q1))] (.int (0 : Int32))) := by
  refine Met.of (plainFor_of_name pn3) O0 ?_
  intro p e s m below meth c T0 hx hby hml hret hlk hnm hs W0
  have W0 : Wk p l e _ s m _ below meth c Z EL0 n0 [] "java/util/Arrays" [] T0 0 0 h0 := W0
  have hSA := fun d hd => hw d (sa_in d hd)
  have hws := fun d hd => hw d (ws_in d hd)
  have hln := fun d hd => hw d (ln_in d hd)
  have hch := fun d hd => hw d (ch_in d hd)
  have heq := fun d hd => hw d (eq_in d hd)
  have hem := fun d hd => hw d (em_in d hd)
  refine Go.of (fun _ kk => castTop (ef310 m x1 (0 : Int32) (1 : Int32)) kk) ?_
  refine gof T0 m 2 #[vr x1, vi 0, vi 1, U0, U0] [(.int 1), (.int 0)] (fun _ kk => XS.iloadN W0.here hx rfl (hb hby d1013_0) rfl (XS.iloadN W0.here hx rfl (hb hby d1013_1) rfl kk)) ?_
  refine W0.callS hx hEL (hw _ (mI 183 rfl)) (hw _ (mI 184 rfl)) (hw _ (mI 178 rfl)) (hw _ (mI 185 rfl)) (by decide +kernel) (argsL := [(.int (0 : Int32)), (.int (1 : Int32))]) (rest := []) (rm9 l Z a0 hw hEL zc SC hzc fm SF rfm (0 : Int32) (1 : Int32) h0 W0.old (by decide +kernel)) all0 (by decide +kernel) (Wd := 0) (by decide +kernel) (by decide +kernel) (by decide +kernel) all0 rfl (by rw [hml]; rfl) (lenOf pd5 rfl) rfl (by show 2 * 0 + _ ≤ _; exact Nat.le_of_eq rfl) (hb hby d1013_2) (fun T1 h1 v1 W1 K1 q1 => ?_)
  obtain ⟨rfl, rfl⟩ := q1
  refine gof T1 m 10 #[vr x1, vi 0, vi 1, vi 1, U0] [(.int 1)] (fun _ kk => XS.iloadN W1.here hx rfl (hb hby d1013_5) rfl (XS.iloadN W1.here hx rfl (hb hby d1013_6) rfl (XS.isub W1.here hx rfl (hb hby d1013_7) rfl (XS.istoreN W1.here hx rfl (hb hby d1013_8) rfl (l' := #[vr x1, vi 0, vi 1, vi 1, U0]) rfl (XS.iloadN W1.here hx rfl (hb hby d1013_9) rfl kk))))) ?_
  refine W1.newP hx (hw _ (mI 23 rfl)) rfl (hb hby d1013_10) rfl (by decide +kernel) (cap := 1) (by decide +kernel) (by decide +kernel) (by decide +kernel) (by decide +kernel) (fun T2 h2 b2 c2 eb2 gb2 W2 K2 A2 => ?_)
  have V2 : Arv Z h2 b2 c2 .byte (1 : Int32) [(.int (0 : Int32))] (.int (0 : Int32)) := A2
  refine gof T2 m 20 #[vr x1, vi 0, vi 1, vi 1, vr b2] [(.ref x1), (.int 0), (.ref b2), (.int 0), (.ref x1)] (fun _ kk => XS.astore W2.here hx rfl (hb hby d1013_12) rfl rfl (l' := #[vr x1, vi 0, vi 1, vi 1, vr b2]) rfl (XS.aloadN W2.here hx rfl (hb hby d1013_14) rfl rfl (XS.iloadN W2.here hx rfl (hb hby d1013_15) rfl (XS.aload W2.here hx rfl (hb hby d1013_16) rfl rfl (XS.iconst W2.here hx rfl (hb hby d1013_18) (XS.aloadN W2.here hx rfl (hb hby d1013_19) rfl rfl kk)))))) ?_
  have k3 := (A1.keep K2 nin0)
  refine W2.alen hx k3 rfl rfl (hb hby d1013_20) ?_
  refine gof T2 m 24 #[vr x1, vi 0, vi 1, vi 1, vr b2] [(.int 1), (.int 4), (.int 0), (.ref b2), (.int 0), (.ref x1)] (fun _ kk => XS.iloadN W2.here hx rfl (hb hby d1013_21) rfl (XS.isub W2.here hx rfl (hb hby d1013_22) rfl (XS.iloadN W2.here hx rfl (hb hby d1013_23) rfl kk))) ?_
  refine W2.callS hx hEL (hw _ (mI 186 rfl)) (hw _ (mI 90 rfl)) (hw _ (mI 87 rfl)) (hw _ (mI 91 rfl)) (by decide +kernel) (argsL := [(.int (4 : Int32)), (.int (1 : Int32))]) (rest := [(.int (0 : Int32)), (.ref b2), (.int (0 : Int32)), (.ref x1)]) (rm8 l Z a0 hw hEL zc SC hzc fm SF rfm (4 : Int32) (1 : Int32) h2 W2.old (by decide +kernel)) all0 (by decide +kernel) (Wd := 4) (by decide +kernel) (by decide +kernel) (by decide +kernel) all0 rfl (by rw [hml]; rfl) (lenOf pd2 rfl) rfl (by show 2 * 0 + _ ≤ _; exact Nat.le_of_eq rfl) (hb hby d1013_24) (fun T4 h4 v4 W4 K4 q4 => ?_)
  obtain ⟨rfl, rfl⟩ := q4
  show Go p e below _ (T4.setTop (mkF m 27 #[vr x1, vi 0, vi 1, vi 1, vr b2] [(.int 1), (.int 0), (.ref b2), (.int 0), (.ref x1)]))
  refine W4.cp hx (hw _ (mI 187 rfl)) (hw _ (mI 190 rfl)) (hw _ (mI 188 rfl)) (hw _ (mI 189 rfl)) (us := [(.int (StrChars.lo8 q1))]) k3 V2 rfl (by decide) (by decide) (by decide) (by decide) (by decide) rfl (Nat.le_of_ble_eq_true rfl) gb2.1 (Or.inr gb2.2) (mI 0 rfl) rfl (by rw [hml]; rfl) rfl (hb hby d1013_27) (by decide +kernel) (Wd := 0) (by show 2 * 0 + _ ≤ _; exact Nat.le_of_eq rfl) (by decide +kernel) (fun T5 h5 W5 K5 A5 => ?_)
  have V5 : Arv Z h5 b2 c2 .byte (1 : Int32) [(.int (StrChars.lo8 q1))] (.int (0 : Int32)) := A5
  refine gof T5 m 32 #[vr x1, vi 0, vi 1, vi 1, vr b2] [(.ref b2)] (fun _ kk => XS.aload W5.here hx rfl (hb hby d1013_30) rfl rfl kk) ?_
  exact W5.retA hx hEL hs hlk (by decide +kernel) (by decide +kernel) hret rfl rfl (hb hby d1013_32) ⟨b2, c2, rfl, hs ▸ gb2.2, V5⟩
theorem ef311 (m : MethodId) (x0 : Addr) (x1 : Int32) (x2 : Int32)  : entryFrame m #[(.ref x0), (.int x1), (.int x2)] 3 = mkF m 0 #[vr x0, vi x1, vi x2] [] := by first | (simp [entryFrame, mkF, argsToLocals, Value.category]; done) | rfl | rfl
set_option maxRecDepth 65536 in
set_option maxHeartbeats 40000000 in
theorem rm311 (l : Launch) (Z : State) (a0 : Array Value) (hw : ∀ d ∈ tables_1, d.before a0 Z = true) (hEL : EW Z a0 EL0) (zc : Int32) (SC : Sta Z Z.heap "java/lang/String" "COMPACT_STRINGS" "Z" (.int zc)) (hzc : ¬ zc = 0) (fm : Value) (SF : Sta Z Z.heap "jdk/internal/util/Preconditions" "SIOOBE_FORMATTER" "Ljava/util/function/BiFunction;" fm) (rfm : fm.isRef = true) (x1 : Addr) (kc : ClassId) (q1 : Int32) (q2 : Int32) (q3 : Int32) (q4 : Int32) (h0 : Heap) {n0 : Nat} (O0 : Old Z n0 h0) (A1 : Arv Z h0 x1 kc .byte (4 : Int32) [(.int (StrChars.lo8 q1)), (.int (StrChars.lo8 q2)), (.int (StrChars.lo8 q3)), (.int (StrChars.lo8 q4))] (.int (0 : Int32))) (cq1 : ¬ q1 < 0 ∧ ¬ (255 : Int32) < q1) (cq2 : ¬ q2 < 0 ∧ ¬ (255 : Int32) < q2) (cq3 : ¬ q3 < 0 ∧ ¬ (255 : Int32) < q3) (cq4 : ¬ q4 < 0 ∧ ¬ (255 : Int32) < q4) :
    Met l Z EL0 n0 (⟨"java/util/Arrays", "copyOfRange", "([BII)[B"⟩ : MethodName) jdk_65_method_132_code 3 (some (.array .byte)) [] ({ frames := 2, cells := 1, slots := 1, locals := 34 } : Room) #[(.ref x1), (.int (0 : Int32)), (.int (1 : Int32))] h0 [] [] (fun v h' => ∃ (r : Addr) (kc : ClassId), v = some (.ref r) ∧ h0.size ≤ r ∧ Arv Z h' r kc .byte (1 : Int32) [(.int (StrChars.lo8 q1))] (.int (0 : Int32))) := by
  refine Met.of (plainFor_of_name pn3) O0 ?_
  intro p e s m below meth c T0 hx hby hml hret hlk hnm hs W0
  have W0 : Wk p l e _ s m _ below meth c Z EL0 n0 [] "java/util/Arrays" [] T0 0 0 h0 := W0
  have hSA := fun d hd => hw d (sa_in d hd)
  have hws := fun d hd => hw d (ws_in d hd)
  have hln := fun d hd => hw d (ln_in d hd)
  have hch := fun d hd => hw d (ch_in d hd)
  have heq := fun d hd => hw d (eq_in d hd)
  have hem := fun d hd => hw d (em_in d hd)
  refine Go.of (fun _ kk => castTop (ef311 m x1 (0 : Int32) (1 : Int32)) kk) ?_
  refine gof T0 m 6 #[vr x1, vi 0, vi 1] [(.ref x1), (.int 1)] (fun _ kk => XS.iloadN W0.here hx rfl (hb hby d1014_0) rfl (XS.ifNo W0.here hx rfl (hb hby d1014_1) rfl (XT.i0_ne_f (by decide +kernel)) (XS.iloadN W0.here hx rfl (hb hby d1014_4) rfl (XS.aloadN W0.here hx rfl (hb hby d1014_5) rfl rfl kk)))) ?_
  refine W0.alen hx A1 rfl rfl (hb hby d1014_6) ?_
  refine gof T0 m 13 #[vr x1, vi 0, vi 1] [(.int 1), (.int 0), (.ref x1)] (fun _ kk => XS.icmpNo W0.here hx rfl (hb hby d1014_7) rfl (XT.ii_eq_f (by decide +kernel)) (XS.aloadN W0.here hx rfl (hb hby d1014_10) rfl rfl (XS.iloadN W0.here hx rfl (hb hby d1014_11) rfl (XS.iloadN W0.here hx rfl (hb hby d1014_12) rfl kk)))) ?_
  refine W0.callS hx hEL (hw _ (mI 180 rfl)) (hw _ (mI 181 rfl)) (hw _ (mI 178 rfl)) (hw _ (mI 182 rfl)) (by decide +kernel) (argsL := [(.ref x1), (.int (0 : Int32)), (.int (1 : Int32))]) (rest := []) (rm310 l Z a0 hw hEL zc SC hzc fm SF rfm x1 kc q1 q2 q3 q4 h0 W0.old A1 cq1 cq2 cq3 cq4) all0 (by decide +kernel) (Wd := 0) (by decide +kernel) (by decide +kernel) (by decide +kernel) all0 rfl (by rw [hml]; rfl) (lenOf pd6 rfl) rfl (by show 2 * 0 + _ ≤ _; exact Nat.le_of_eq rfl) (hb hby d1014_13) (fun T1 h1 v1 W1 K1 q1 => ?_)
  obtain ⟨r1, kc1, rfl, lr1, A1⟩ := q1
  have gr1 : n0 ≤ r1 ∧ s.heap.size ≤ r1 := ⟨Nat.le_trans W0.n0le lr1, Nat.le_trans W0.s0le lr1⟩
  show Go p e below _ (T1.setTop (mkF m 16 #[vr x1, vi 0, vi 1] [(.ref r1)]))
  exact W1.retA hx hEL hs hlk (by decide +kernel) (by decide +kernel) hret rfl rfl (hb hby d1014_16) ⟨r1, kc1, rfl, hs ▸ gr1.2, A1⟩
theorem ef312 (m : MethodId) (x0 : Addr) (x1 : Int32) (x2 : Int32)  : entryFrame m #[(.ref x0), (.int x1), (.int x2)] 3 = mkF m 0 #[vr x0, vi x1, vi x2] [] := by first | (simp [entryFrame, mkF, argsToLocals, Value.category]; done) | rfl | rfl
set_option maxRecDepth 65536 in
set_option maxHeartbeats 40000000 in
theorem rm312 (l : Launch) (Z : State) (a0 : Array Value) (hw : ∀ d ∈ tables_1, d.before a0 Z = true) (hEL : EW Z a0 EL0) (zc : Int32) (SC : Sta Z Z.heap "java/lang/String" "COMPACT_STRINGS" "Z" (.int zc)) (hzc : ¬ zc = 0) (fm : Value) (SF : Sta Z Z.heap "jdk/internal/util/Preconditions" "SIOOBE_FORMATTER" "Ljava/util/function/BiFunction;" fm) (rfm : fm.isRef = true) (x1 : Addr) (kc : ClassId) (q1 : Int32) (q2 : Int32) (q3 : Int32) (q4 : Int32) (h0 : Heap) {n0 : Nat} (O0 : Old Z n0 h0) (A1 : Arv Z h0 x1 kc .byte (4 : Int32) [(.int (StrChars.lo8 q1)), (.int (StrChars.lo8 q2)), (.int (StrChars.lo8 q3)), (.int (StrChars.lo8 q4))] (.int (0 : Int32))) (cq1 : ¬ q1 < 0 ∧ ¬ (255 : Int32) < q1) (cq2 : ¬ q2 < 0 ∧ ¬ (255 : Int32) < q2) (cq3 : ¬ q3 < 0 ∧ ¬ (255 : Int32) < q3) (cq4 : ¬ q4 < 0 ∧ ¬ (255 : Int32) < q4) :
    Met l Z EL0 n0 (⟨"java/lang/StringLatin1", "newString", "([BII)Ljava/lang/String;"⟩ : MethodName) jdk_43_method_47_code 3 (some (.object "java/lang/String")) [] ({ frames := 3, cells := 2, slots := 5, locals := 50 } : Room) #[(.ref x1), (.int (0 : Int32)), (.int (1 : Int32))] h0 [] [] (fun v h' => ∃ r : Addr, v = some (.ref r) ∧ h0.size ≤ r ∧ Str Z h' r [q1]) := by
  refine Met.of (plainFor_of_name pn2) O0 ?_
  intro p e s m below meth c T0 hx hby hml hret hlk hnm hs W0
  have W0 : Wk p l e _ s m _ below meth c Z EL0 n0 [] "java/lang/StringLatin1" [] T0 0 0 h0 := W0
  have hSA := fun d hd => hw d (sa_in d hd)
  have hws := fun d hd => hw d (ws_in d hd)
  have hln := fun d hd => hw d (ln_in d hd)
  have hch := fun d hd => hw d (ch_in d hd)
  have heq := fun d hd => hw d (eq_in d hd)
  have hem := fun d hd => hw d (em_in d hd)
  refine Go.of (fun _ kk => castTop (ef312 m x1 (0 : Int32) (1 : Int32)) kk) ?_
  refine gof T0 m 7 #[vr x1, vi 0, vi 1] [] (fun _ kk => XS.iloadN W0.here hx rfl (hb hby d1015_0) rfl (XS.ifYes W0.here hx rfl (pc0 := 1) (pc' := 7) rfl (hb hby d1015_1) rfl (XT.i0_ne_t (by decide +kernel)) (by decide +kernel) (by decide +kernel) kk)) ?_
  refine W0.newO hx (hw _ (mI 175 rfl)) (hw _ (mI 6 rfl)) (hw _ (mI 7 rfl)) rfl (hb hby d1015_7) (by decide +kernel) (by decide +kernel) (fun T1 h1 b1 eb1 gb1 W1 K1 E1 D1 => ?_)
  have k2 : Fld Z h1 b1 "java/lang/String" "coder" "B" (.int (0 : Int32)) := D1 (Or.inr (hw _ (mI 31 rfl))) (ty := .byte) (by decide +kernel)
  have k3 : Fld Z h1 b1 "java/lang/String" "value" "[B" .null := D1 (Or.inr (hw _ (mI 33 rfl))) (ty := (.array .byte)) (by decide +kernel)
  refine gof T1 m 16 #[vr x1, vi 0, vi 1] [(.int 1), (.int 0), (.ref x1), (.ref b1), (.ref b1)] (fun _ kk => XS.dup W1.here hx rfl (hb hby d1015_10) rfl rfl (XS.aloadN W1.here hx rfl (hb hby d1015_11) rfl rfl (XS.iloadN W1.here hx rfl (hb hby d1015_12) rfl (XS.iloadN W1.here hx rfl (hb hby d1015_13) rfl (XS.iloadN W1.here hx rfl (hb hby d1015_14) rfl (XS.iadd W1.here hx rfl (hb hby d1015_15) rfl kk)))))) ?_
  have k5 := (A1.keep K1 nin0)
  refine W1.callS hx hEL (hw _ (mI 176 rfl)) (hw _ (mI 177 rfl)) (hw _ (mI 178 rfl)) (hw _ (mI 179 rfl)) (by decide +kernel) (argsL := [(.ref x1), (.int (0 : Int32)), (.int (1 : Int32))]) (rest := [(.ref b1), (.ref b1)]) (rm311 l Z a0 hw hEL zc SC hzc fm SF rfm x1 kc q1 q2 q3 q4 h1 W1.old k5 cq1 cq2 cq3 cq4) all0 (by decide +kernel) (Wd := 2) (by decide +kernel) (by decide +kernel) (by decide +kernel) all0 rfl (by rw [hml]; rfl) (lenOf pd6 rfl) rfl (by show 2 * 0 + _ ≤ _; exact Nat.le_of_eq rfl) (hb hby d1015_16) (fun T4 h4 v4 W4 K4 q4 => ?_)
  obtain ⟨r4, kc4, rfl, lr4, A4⟩ := q4
  have gr4 : n0 ≤ r4 ∧ s.heap.size ≤ r4 := ⟨Nat.le_trans W1.n0le lr4, Nat.le_trans W1.s0le lr4⟩
  refine gof T4 m 20 #[vr x1, vi 0, vi 1] [(.int 0), (.ref r4), (.ref b1), (.ref b1)] (fun _ kk => XS.iconst W4.here hx rfl (hb hby d1015_19) kk) ?_
  have k7 := (E1.keep K4)
  have k8 := (k3.keep K4 nin0)
  have k9 := (k2.keep K4 nin0)
  refine W4.callP hx hEL rfl (hw _ (mI 191 rfl)) (hw _ (mI 192 rfl)) (hw _ (mI 7 rfl)) (hw _ (mI 193 rfl)) (by decide +kernel) (a := b1) (argsL := [(.ref r4), (.int (0 : Int32))]) (rest := [(.ref b1)]) (rm12 l Z a0 hw hEL zc SC hzc fm SF rfm b1 r4 h4 W4.old k7 k8 k9 gb1.1) (allS (mI 0 rfl) all0) (by decide +kernel) (Wd := 1) (by decide +kernel) (by decide +kernel) (by decide +kernel) (allS ⟨gb1.1, (Or.inr gb1.2)⟩ all0) rfl (by rw [hml]; rfl) (lenOf pd7 rfl) rfl (by show 2 * 0 + _ ≤ _; exact Nat.le_of_eq rfl) (hb hby d1015_20) (fun T6 h6 v6 W6 K6 q6 => ?_)
  obtain ⟨rfl, Fv6, Fc6⟩ := q6
  show Go p e below _ (T6.setTop (mkF m 23 #[vr x1, vi 0, vi 1] [(.ref b1)]))
  have k10 := (k7.keep K6)
  have k11 := (A4.keep K6 (ninS (ne_of_born lr4 E1.lt (Nat.le_refl _)).symm nin0))
  exact W6.retA hx hEL hs hlk (by decide +kernel) (by decide +kernel) hret rfl rfl (hb hby d1015_23) ⟨b1, rfl, hs ▸ gb1.2, ⟨r4, kc4, _, _, _, k10, Fv6, Fc6, k11, StrChars.Road.codOf (cs := [q1]) (n := 1) rfl (allSi cq1.2 all0i), up255 (allSi cq1 all0i), Nat.le_of_ble_eq_true rfl⟩⟩
theorem ef313 (m : MethodId) (x0 : Addr) (x1 : Int32) (x2 : Int32)  : entryFrame m #[(.ref x0), (.int x1), (.int x2)] 5 = mkF m 0 #[vr x0, vi x1, vi x2, U0, U0] [] := by first | (simp [entryFrame, mkF, argsToLocals, Value.category]; done) | rfl | rfl
set_option maxRecDepth 65536 in
set_option maxHeartbeats 40000000 in
theorem rm313 (l : Launch) (Z : State) (a0 : Array Value) (hw : ∀ d ∈ tables_1, d.before a0 Z = true) (hEL : EW Z a0 EL0) (zc : Int32) (SC : Sta Z Z.heap "java/lang/String" "COMPACT_STRINGS" "Z" (.int zc)) (hzc : ¬ zc = 0) (fm : Value) (SF : Sta Z Z.heap "jdk/internal/util/Preconditions" "SIOOBE_FORMATTER" "Ljava/util/function/BiFunction;" fm) (rfm : fm.isRef = true) (x1 : Addr) (q1 : Int32) (q2 : Int32) (q3 : Int32) (q4 : Int32) (h0 : Heap) {n0 : Nat} (O0 : Old Z n0 h0) (S1 : Str Z h0 x1 [q1, q2, q3, q4]) (cq1 : ¬ q1 < 0 ∧ ¬ (255 : Int32) < q1) (cq2 : ¬ q2 < 0 ∧ ¬ (255 : Int32) < q2) (cq3 : ¬ q3 < 0 ∧ ¬ (255 : Int32) < q3) (cq4 : ¬ q4 < 0 ∧ ¬ (255 : Int32) < q4) :
    Met l Z EL0 n0 (⟨"java/lang/String", "substring", "(II)Ljava/lang/String;"⟩ : MethodName) jdk_42_method_92_code 5 (some (.object "java/lang/String")) [] ({ frames := 4, cells := 2, slots := 5, locals := 64 } : Room) #[(.ref x1), (.int (0 : Int32)), (.int (1 : Int32))] h0 [] [] (fun v h' => ∃ r : Addr, v = some (.ref r) ∧ h0.size ≤ r ∧ Str Z h' r [q1]) := by
  refine Met.of (plainFor_of_name pn1) O0 ?_
  intro p e s m below meth c T0 hx hby hml hret hlk hnm hs W0
  have W0 : Wk p l e _ s m _ below meth c Z EL0 n0 [] "java/lang/String" [] T0 0 0 h0 := W0
  have hSA := fun d hd => hw d (sa_in d hd)
  have hws := fun d hd => hw d (ws_in d hd)
  have hln := fun d hd => hw d (ln_in d hd)
  have hch := fun d hd => hw d (ch_in d hd)
  have heq := fun d hd => hw d (eq_in d hd)
  have hem := fun d hd => hw d (em_in d hd)
  refine Go.of (fun _ kk => castTop (ef313 m x1 (0 : Int32) (1 : Int32)) kk) ?_
  show Go p e below _ (T0.setTop (mkF m 0 #[vr x1, vi 0, vi 1, U0, U0] []))
  obtain ⟨t1, kb1, E1, Fv1, Fc1, A1⟩ := S1.open_ (snd255 (allSi cq1 (allSi cq2 (allSi cq3 (allSi cq4 all0i)))))
  have V1 : Arv Z h0 t1 kb1 .byte (4 : Int32) [(.int (StrChars.lo8 q1)), (.int (StrChars.lo8 q2)), (.int (StrChars.lo8 q3)), (.int (StrChars.lo8 q4))] (.int (0 : Int32)) := A1
  refine gof T0 m 1 #[vr x1, vi 0, vi 1, U0, U0] [(.ref x1)] (fun _ kk => XS.aloadN W0.here hx rfl (hb hby d1016_0) rfl rfl kk) ?_
  refine W0.strLen hx hln (hw _ (mI 6 rfl)) SC hzc S1 (hw _ (mI 68 rfl)) (hw _ (mI 69 rfl)) (hw _ (mI 71 rfl)) (hw _ (mI 70 rfl)) (by decide +kernel) (Wd := 0) (by decide +kernel) (by decide +kernel) (by decide +kernel) rfl (by rw [hml]; rfl) rfl (by show 2 * 0 + _ ≤ _; exact Nat.le_of_eq rfl) (hb hby d1016_1) (fun T2 W2 => ?_)
  show Go p e below _ (T2.setTop (mkF m 4 #[vr x1, vi 0, vi 1, U0, U0] [(.int 4)]))
  refine gof T2 m 8 #[vr x1, vi 0, vi 1, vi 4, U0] [(.int 4), (.int 1), (.int 0)] (fun _ kk => XS.istoreN W2.here hx rfl (hb hby d1016_4) rfl (l' := #[vr x1, vi 0, vi 1, vi 4, U0]) rfl (XS.iloadN W2.here hx rfl (hb hby d1016_5) rfl (XS.iloadN W2.here hx rfl (hb hby d1016_6) rfl (XS.iloadN W2.here hx rfl (hb hby d1016_7) rfl kk)))) ?_
  refine W2.callS hx hEL (hw _ (mI 166 rfl)) (hw _ (mI 167 rfl)) (hw _ (mI 7 rfl)) (hw _ (mI 168 rfl)) (by decide +kernel) (argsL := [(.int (0 : Int32)), (.int (1 : Int32)), (.int (4 : Int32))]) (rest := []) (rm11 l Z a0 hw hEL zc SC hzc fm SF rfm (0 : Int32) (1 : Int32) (4 : Int32) h0 W2.old (by decide +kernel) (by decide +kernel) (by decide +kernel)) all0 (by decide +kernel) (Wd := 0) (by decide +kernel) (by decide +kernel) (by decide +kernel) all0 rfl (by rw [hml]; rfl) (lenOf pd8 rfl) rfl (by show 2 * 0 + _ ≤ _; exact Nat.le_of_eq rfl) (hb hby d1016_8) (fun T3 h3 v3 W3 K3 q3 => ?_)
  obtain ⟨rfl, rfl⟩ := q3
  refine gof T3 m 24 #[vr x1, vi 0, vi 1, vi 4, U0] [(.int 0), (.int 1)] (fun _ kk => XS.iloadN W3.here hx rfl (hb hby d1016_11) rfl (XS.ifNo W3.here hx rfl (hb hby d1016_12) rfl (XT.i0_ne_f (by decide +kernel)) (XS.iloadN W3.here hx rfl (hb hby d1016_15) rfl (XS.iloadN W3.here hx rfl (hb hby d1016_16) rfl (XS.icmpYes W3.here hx rfl (pc0 := 17) (pc' := 22) rfl (hb hby d1016_17) rfl (XT.ii_ne_t (by decide +kernel)) (by decide +kernel) (by decide +kernel) (XS.iloadN W3.here hx rfl (hb hby d1016_22) rfl (XS.iloadN W3.here hx rfl (hb hby d1016_23) rfl kk))))))) ?_
  refine gof T3 m 28 #[vr x1, vi 0, vi 1, vi 4, vi 1] [(.ref x1)] (fun _ kk => XS.isub W3.here hx rfl (hb hby d1016_24) rfl (XS.istore W3.here hx rfl (hb hby d1016_25) rfl (l' := #[vr x1, vi 0, vi 1, vi 4, vi 1]) rfl (XS.aloadN W3.here hx rfl (hb hby d1016_27) rfl rfl kk))) ?_
  refine W3.callV hx hEL (hw _ (mI 63 rfl)) (hw _ (mI 64 rfl)) (hw _ (mI 66 rfl)) (hw _ (mI 65 rfl)) (hw _ (mI 7 rfl)) (hw _ (mI 67 rfl)) (by decide +kernel) E1 (a := x1) (argsL := []) (rest := []) (rm6 l Z a0 hw hEL zc SC hzc fm SF rfm x1 h0 W3.old Fc1) all0 (by decide +kernel) (Wd := 0) (by decide +kernel) (by decide +kernel) (by decide +kernel) all0 rfl (by rw [hml]; rfl) (lenOf pd4 rfl) rfl (by show 2 * 0 + _ ≤ _; exact Nat.le_of_eq rfl) (hb hby d1016_28) (fun T4 h4 v4 W4 K4 q4 => ?_)
  obtain ⟨rfl, rfl⟩ := q4
  refine gof T4 m 35 #[vr x1, vi 0, vi 1, vi 4, vi 1] [(.ref x1)] (fun _ kk => XS.ifNo W4.here hx rfl (hb hby d1016_31) rfl (XT.i0_eq_f (by decide +kernel)) (XS.aloadN W4.here hx rfl (hb hby d1016_34) rfl rfl kk)) ?_
  refine W4.getF hx (host := "") (Or.inl (hw _ (mI 32 rfl))) Via.refl Fv1 rfl rfl (hb hby d1016_35) (fun T5 W5 => ?_)
  refine gof T5 m 41 #[vr x1, vi 0, vi 1, vi 4, vi 1] [(.int 1), (.int 0), (.ref t1)] (fun _ kk => XS.iloadN W5.here hx rfl (hb hby d1016_38) rfl (XS.iload W5.here hx rfl (hb hby d1016_39) rfl kk)) ?_
  refine W5.callS hx hEL (hw _ (mI 172 rfl)) (hw _ (mI 173 rfl)) (hw _ (mI 80 rfl)) (hw _ (mI 174 rfl)) (by decide +kernel) (argsL := [(.ref t1), (.int (0 : Int32)), (.int (1 : Int32))]) (rest := []) (rm312 l Z a0 hw hEL zc SC hzc fm SF rfm t1 kb1 q1 q2 q3 q4 h0 W5.old V1 cq1 cq2 cq3 cq4) all0 (by decide +kernel) (Wd := 0) (by decide +kernel) (by decide +kernel) (by decide +kernel) all0 rfl (by rw [hml]; rfl) (lenOf pd9 rfl) rfl (by show 2 * 0 + _ ≤ _; exact Nat.le_of_eq rfl) (hb hby d1016_41) (fun T6 h6 v6 W6 K6 q6 => ?_)
  obtain ⟨r6, rfl, lr6, S6⟩ := q6
  have gr6 : n0 ≤ r6 ∧ s.heap.size ≤ r6 := ⟨Nat.le_trans W5.n0le lr6, Nat.le_trans W5.s0le lr6⟩
  have E6 := S6.exa
  refine gof T6 m 57 #[vr x1, vi 0, vi 1, vi 4, vi 1] [(.ref r6)] (fun _ kk => XS.goto W6.here hx rfl (pc0 := 44) (pc' := 57) rfl (hb hby d1016_44) (by decide +kernel) (by decide +kernel) kk) ?_
  exact W6.retA hx hEL hs hlk (by decide +kernel) (by decide +kernel) hret rfl rfl (hb hby d1016_57) ⟨r6, rfl, hs ▸ gr6.2, S6⟩
theorem ef320 (m : MethodId) (x0 : Addr) (x1 : Int32) (x2 : Int32)  : entryFrame m #[(.ref x0), (.int x1), (.int x2)] 5 = mkF m 0 #[vr x0, vi x1, vi x2, U0, U0] [] := by first | (simp [entryFrame, mkF, argsToLocals, Value.category]; done) | rfl | rfl
set_option maxRecDepth 65536 in
set_option maxHeartbeats 40000000 in
theorem rm320 (l : Launch) (Z : State) (a0 : Array Value) (hw : ∀ d ∈ tables_1, d.before a0 Z = true) (hEL : EW Z a0 EL0) (zc : Int32) (SC : Sta Z Z.heap "java/lang/String" "COMPACT_STRINGS" "Z" (.int zc)) (hzc : ¬ zc = 0) (fm : Value) (SF : Sta Z Z.heap "jdk/internal/util/Preconditions" "SIOOBE_FORMATTER" "Ljava/util/function/BiFunction;" fm) (rfm : fm.isRef = true) (x1 : Addr) (kc : ClassId) (q1 : Int32) (q2 : Int32) (q3 : Int32) (q4 : Int32) (h0 : Heap) {n0 : Nat} (O0 : Old Z n0 h0) (A1 : Arv Z h0 x1 kc .byte (4 : Int32) [(.int (StrChars.lo8 q1)), (.int (StrChars.lo8 q2)), (.int (StrChars.lo8 q3)), (.int (StrChars.lo8 q4))] (.int (0 : Int32))) (cq1 : ¬ q1 < 0 ∧ ¬ (255 : Int32) < q1) (cq2 : ¬ q2 < 0 ∧ ¬ (255 : Int32) < q2) (cq3 : ¬ q3 < 0 ∧ ¬ (255 : Int32) < q3) (cq4 : ¬ q4 < 0 ∧ ¬ (255 : Int32) < q4) :
    Met l Z EL0 n0 (⟨"java/util/Arrays", "copyOfRangeByte", "([BII)[B"⟩ : MethodName) jdk_65_method_133_code 5 (some (.array .byte)) [] ({ frames := 1, cells := 1, slots := 2, locals := 18 } : Room) #[(.ref x1), (.int (0 : Int32)), (.int (2 : Int32))] h0 [] [] (fun v h' => ∃ (r : Addr) (kc : ClassId), v = some (.ref r) ∧ h0.size ≤ r ∧ Arv Z h' r kc .byte (2 : Int32) [(.int (StrChars.lo8 q1)), (.int (StrChars.lo8 q2))] (.int (0 : Int32))) := by
  refine Met.of (plainFor_of_name pn3) O0 ?_
  intro p e s m below meth c T0 hx hby hml hret hlk hnm hs W0
  have W0 : Wk p l e _ s m _ below meth c Z EL0 n0 [] "java/util/Arrays" [] T0 0 0 h0 := W0
  have hSA := fun d hd => hw d (sa_in d hd)
  have hws := fun d hd => hw d (ws_in d hd)
  have hln := fun d hd => hw d (ln_in d hd)
  have hch := fun d hd => hw d (ch_in d hd)
  have heq := fun d hd => hw d (eq_in d hd)
  have hem := fun d hd => hw d (em_in d hd)
  refine Go.of (fun _ kk => castTop (ef320 m x1 (0 : Int32) (2 : Int32)) kk) ?_
  refine gof T0 m 2 #[vr x1, vi 0, vi 2, U0, U0] [(.int 2), (.int 0)] (fun _ kk => XS.iloadN W0.here hx rfl (hb hby d1013_0) rfl (XS.iloadN W0.here hx rfl (hb hby d1013_1) rfl kk)) ?_
  refine W0.callS hx hEL (hw _ (mI 183 rfl)) (hw _ (mI 184 rfl)) (hw _ (mI 178 rfl)) (hw _ (mI 185 rfl)) (by decide +kernel) (argsL := [(.int (0 : Int32)), (.int (2 : Int32))]) (rest := []) (rm9 l Z a0 hw hEL zc SC hzc fm SF rfm (0 : Int32) (2 : Int32) h0 W0.old (by decide +kernel)) all0 (by decide +kernel) (Wd := 0) (by decide +kernel) (by decide +kernel) (by decide +kernel) all0 rfl (by rw [hml]; rfl) (lenOf pd5 rfl) rfl (by show 2 * 0 + _ ≤ _; exact Nat.le_of_eq rfl) (hb hby d1013_2) (fun T1 h1 v1 W1 K1 q1 => ?_)
  obtain ⟨rfl, rfl⟩ := q1
  refine gof T1 m 10 #[vr x1, vi 0, vi 2, vi 2, U0] [(.int 2)] (fun _ kk => XS.iloadN W1.here hx rfl (hb hby d1013_5) rfl (XS.iloadN W1.here hx rfl (hb hby d1013_6) rfl (XS.isub W1.here hx rfl (hb hby d1013_7) rfl (XS.istoreN W1.here hx rfl (hb hby d1013_8) rfl (l' := #[vr x1, vi 0, vi 2, vi 2, U0]) rfl (XS.iloadN W1.here hx rfl (hb hby d1013_9) rfl kk))))) ?_
  refine W1.newP hx (hw _ (mI 23 rfl)) rfl (hb hby d1013_10) rfl (by decide +kernel) (cap := 2) (by decide +kernel) (by decide +kernel) (by decide +kernel) (by decide +kernel) (fun T2 h2 b2 c2 eb2 gb2 W2 K2 A2 => ?_)
  have V2 : Arv Z h2 b2 c2 .byte (2 : Int32) [(.int (0 : Int32)), (.int (0 : Int32))] (.int (0 : Int32)) := A2
  refine gof T2 m 20 #[vr x1, vi 0, vi 2, vi 2, vr b2] [(.ref x1), (.int 0), (.ref b2), (.int 0), (.ref x1)] (fun _ kk => XS.astore W2.here hx rfl (hb hby d1013_12) rfl rfl (l' := #[vr x1, vi 0, vi 2, vi 2, vr b2]) rfl (XS.aloadN W2.here hx rfl (hb hby d1013_14) rfl rfl (XS.iloadN W2.here hx rfl (hb hby d1013_15) rfl (XS.aload W2.here hx rfl (hb hby d1013_16) rfl rfl (XS.iconst W2.here hx rfl (hb hby d1013_18) (XS.aloadN W2.here hx rfl (hb hby d1013_19) rfl rfl kk)))))) ?_
  have k3 := (A1.keep K2 nin0)
  refine W2.alen hx k3 rfl rfl (hb hby d1013_20) ?_
  refine gof T2 m 24 #[vr x1, vi 0, vi 2, vi 2, vr b2] [(.int 2), (.int 4), (.int 0), (.ref b2), (.int 0), (.ref x1)] (fun _ kk => XS.iloadN W2.here hx rfl (hb hby d1013_21) rfl (XS.isub W2.here hx rfl (hb hby d1013_22) rfl (XS.iloadN W2.here hx rfl (hb hby d1013_23) rfl kk))) ?_
  refine W2.callS hx hEL (hw _ (mI 186 rfl)) (hw _ (mI 90 rfl)) (hw _ (mI 87 rfl)) (hw _ (mI 91 rfl)) (by decide +kernel) (argsL := [(.int (4 : Int32)), (.int (2 : Int32))]) (rest := [(.int (0 : Int32)), (.ref b2), (.int (0 : Int32)), (.ref x1)]) (rm8 l Z a0 hw hEL zc SC hzc fm SF rfm (4 : Int32) (2 : Int32) h2 W2.old (by decide +kernel)) all0 (by decide +kernel) (Wd := 4) (by decide +kernel) (by decide +kernel) (by decide +kernel) all0 rfl (by rw [hml]; rfl) (lenOf pd2 rfl) rfl (by show 2 * 0 + _ ≤ _; exact Nat.le_of_eq rfl) (hb hby d1013_24) (fun T4 h4 v4 W4 K4 q4 => ?_)
  obtain ⟨rfl, rfl⟩ := q4
  show Go p e below _ (T4.setTop (mkF m 27 #[vr x1, vi 0, vi 2, vi 2, vr b2] [(.int 2), (.int 0), (.ref b2), (.int 0), (.ref x1)]))
  refine W4.cp hx (hw _ (mI 187 rfl)) (hw _ (mI 190 rfl)) (hw _ (mI 188 rfl)) (hw _ (mI 189 rfl)) (us := [(.int (StrChars.lo8 q1)), (.int (StrChars.lo8 q2))]) k3 V2 rfl (by decide) (by decide) (by decide) (by decide) (by decide) rfl (Nat.le_of_ble_eq_true rfl) gb2.1 (Or.inr gb2.2) (mI 0 rfl) rfl (by rw [hml]; rfl) rfl (hb hby d1013_27) (by decide +kernel) (Wd := 0) (by show 2 * 0 + _ ≤ _; exact Nat.le_of_eq rfl) (by decide +kernel) (fun T5 h5 W5 K5 A5 => ?_)
  have V5 : Arv Z h5 b2 c2 .byte (2 : Int32) [(.int (StrChars.lo8 q1)), (.int (StrChars.lo8 q2))] (.int (0 : Int32)) := A5
  refine gof T5 m 32 #[vr x1, vi 0, vi 2, vi 2, vr b2] [(.ref b2)] (fun _ kk => XS.aload W5.here hx rfl (hb hby d1013_30) rfl rfl kk) ?_
  exact W5.retA hx hEL hs hlk (by decide +kernel) (by decide +kernel) hret rfl rfl (hb hby d1013_32) ⟨b2, c2, rfl, hs ▸ gb2.2, V5⟩
theorem ef321 (m : MethodId) (x0 : Addr) (x1 : Int32) (x2 : Int32)  : entryFrame m #[(.ref x0), (.int x1), (.int x2)] 3 = mkF m 0 #[vr x0, vi x1, vi x2] [] := by first | (simp [entryFrame, mkF, argsToLocals, Value.category]; done) | rfl | rfl
set_option maxRecDepth 65536 in
set_option maxHeartbeats 40000000 in
theorem rm321 (l : Launch) (Z : State) (a0 : Array Value) (hw : ∀ d ∈ tables_1, d.before a0 Z = true) (hEL : EW Z a0 EL0) (zc : Int32) (SC : Sta Z Z.heap "java/lang/String" "COMPACT_STRINGS" "Z" (.int zc)) (hzc : ¬ zc = 0) (fm : Value) (SF : Sta Z Z.heap "jdk/internal/util/Preconditions" "SIOOBE_FORMATTER" "Ljava/util/function/BiFunction;" fm) (rfm : fm.isRef = true) (x1 : Addr) (kc : ClassId) (q1 : Int32) (q2 : Int32) (q3 : Int32) (q4 : Int32) (h0 : Heap) {n0 : Nat} (O0 : Old Z n0 h0) (A1 : Arv Z h0 x1 kc .byte (4 : Int32) [(.int (StrChars.lo8 q1)), (.int (StrChars.lo8 q2)), (.int (StrChars.lo8 q3)), (.int (StrChars.lo8 q4))] (.int (0 : Int32))) (cq1 : ¬ q1 < 0 ∧ ¬ (255 : Int32) < q1) (cq2 : ¬ q2 < 0 ∧ ¬ (255 : Int32) < q2) (cq3 : ¬ q3 < 0 ∧ ¬ (255 : Int32) < q3) (cq4 : ¬ q4 < 0 ∧ ¬ (255 : Int32) < q4) :
    Met l Z EL0 n0 (⟨"java/util/Arrays", "copyOfRange", "([BII)[B"⟩ : MethodName) jdk_65_method_132_code 3 (some (.array .byte)) [] ({ frames := 2, cells := 1, slots := 2, locals := 34 } : Room) #[(.ref x1), (.int (0 : Int32)), (.int (2 : Int32))] h0 [] [] (fun v h' => ∃ (r : Addr) (kc : ClassId), v = some (.ref r) ∧ h0.size ≤ r ∧ Arv Z h' r kc .byte (2 : Int32) [(.int (StrChars.lo8 q1)), (.int (StrChars.lo8 q2))] (.int (0 : Int32))) := by
  refine Met.of (plainFor_of_name pn3) O0 ?_
  intro p e s m below meth c T0 hx hby hml hret hlk hnm hs W0
  have W0 : Wk p l e _ s m _ below meth c Z EL0 n0 [] "java/util/Arrays" [] T0 0 0 h0 := W0
  have hSA := fun d hd => hw d (sa_in d hd)
  have hws := fun d hd => hw d (ws_in d hd)
  have hln := fun d hd => hw d (ln_in d hd)
  have hch := fun d hd => hw d (ch_in d hd)
  have heq := fun d hd => hw d (eq_in d hd)
  have hem := fun d hd => hw d (em_in d hd)
  refine Go.of (fun _ kk => castTop (ef321 m x1 (0 : Int32) (2 : Int32)) kk) ?_
  refine gof T0 m 6 #[vr x1, vi 0, vi 2] [(.ref x1), (.int 2)] (fun _ kk => XS.iloadN W0.here hx rfl (hb hby d1014_0) rfl (XS.ifNo W0.here hx rfl (hb hby d1014_1) rfl (XT.i0_ne_f (by decide +kernel)) (XS.iloadN W0.here hx rfl (hb hby d1014_4) rfl (XS.aloadN W0.here hx rfl (hb hby d1014_5) rfl rfl kk)))) ?_
  refine W0.alen hx A1 rfl rfl (hb hby d1014_6) ?_
  refine gof T0 m 13 #[vr x1, vi 0, vi 2] [(.int 2), (.int 0), (.ref x1)] (fun _ kk => XS.icmpNo W0.here hx rfl (hb hby d1014_7) rfl (XT.ii_eq_f (by decide +kernel)) (XS.aloadN W0.here hx rfl (hb hby d1014_10) rfl rfl (XS.iloadN W0.here hx rfl (hb hby d1014_11) rfl (XS.iloadN W0.here hx rfl (hb hby d1014_12) rfl kk)))) ?_
  refine W0.callS hx hEL (hw _ (mI 180 rfl)) (hw _ (mI 181 rfl)) (hw _ (mI 178 rfl)) (hw _ (mI 182 rfl)) (by decide +kernel) (argsL := [(.ref x1), (.int (0 : Int32)), (.int (2 : Int32))]) (rest := []) (rm320 l Z a0 hw hEL zc SC hzc fm SF rfm x1 kc q1 q2 q3 q4 h0 W0.old A1 cq1 cq2 cq3 cq4) all0 (by decide +kernel) (Wd := 0) (by decide +kernel) (by decide +kernel) (by decide +kernel) all0 rfl (by rw [hml]; rfl) (lenOf pd6 rfl) rfl (by show 2 * 0 + _ ≤ _; exact Nat.le_of_eq rfl) (hb hby d1014_13) (fun T1 h1 v1 W1 K1 q1 => ?_)
  obtain ⟨r1, kc1, rfl, lr1, A1⟩ := q1
  have gr1 : n0 ≤ r1 ∧ s.heap.size ≤ r1 := ⟨Nat.le_trans W0.n0le lr1, Nat.le_trans W0.s0le lr1⟩
  show Go p e below _ (T1.setTop (mkF m 16 #[vr x1, vi 0, vi 2] [(.ref r1)]))
  exact W1.retA hx hEL hs hlk (by decide +kernel) (by decide +kernel) hret rfl rfl (hb hby d1014_16) ⟨r1, kc1, rfl, hs ▸ gr1.2, A1⟩
theorem ef322 (m : MethodId) (x0 : Addr) (x1 : Int32) (x2 : Int32)  : entryFrame m #[(.ref x0), (.int x1), (.int x2)] 3 = mkF m 0 #[vr x0, vi x1, vi x2] [] := by first | (simp [entryFrame, mkF, argsToLocals, Value.category]; done) | rfl | rfl
set_option maxRecDepth 65536 in
set_option maxHeartbeats 40000000 in
theorem rm322 (l : Launch) (Z : State) (a0 : Array Value) (hw : ∀ d ∈ tables_1, d.before a0 Z = true) (hEL : EW Z a0 EL0) (zc : Int32) (SC : Sta Z Z.heap "java/lang/String" "COMPACT_STRINGS" "Z" (.int zc)) (hzc : ¬ zc = 0) (fm : Value) (SF : Sta Z Z.heap "jdk/internal/util/Preconditions" "SIOOBE_FORMATTER" "Ljava/util/function/BiFunction;" fm) (rfm : fm.isRef = true) (x1 : Addr) (kc : ClassId) (q1 : Int32) (q2 : Int32) (q3 : Int32) (q4 : Int32) (h0 : Heap) {n0 : Nat} (O0 : Old Z n0 h0) (A1 : Arv Z h0 x1 kc .byte (4 : Int32) [(.int (StrChars.lo8 q1)), (.int (StrChars.lo8 q2)), (.int (StrChars.lo8 q3)), (.int (StrChars.lo8 q4))] (.int (0 : Int32))) (cq1 : ¬ q1 < 0 ∧ ¬ (255 : Int32) < q1) (cq2 : ¬ q2 < 0 ∧ ¬ (255 : Int32) < q2) (cq3 : ¬ q3 < 0 ∧ ¬ (255 : Int32) < q3) (cq4 : ¬ q4 < 0 ∧ ¬ (255 : Int32) < q4) :
    Met l Z EL0 n0 (⟨"java/lang/StringLatin1", "newString", "([BII)Ljava/lang/String;"⟩ : MethodName) jdk_43_method_47_code 3 (some (.object "java/lang/String")) [] ({ frames := 3, cells := 2, slots := 6, locals := 50 } : Room) #[(.ref x1), (.int (0 : Int32)), (.int (2 : Int32))] h0 [] [] (fun v h' => ∃ r : Addr, v = some (.ref r) ∧ h0.size ≤ r ∧ Str Z h' r [q1, q2]) := by
  refine Met.of (plainFor_of_name pn2) O0 ?_
  intro p e s m below meth c T0 hx hby hml hret hlk hnm hs W0
  have W0 : Wk p l e _ s m _ below meth c Z EL0 n0 [] "java/lang/StringLatin1" [] T0 0 0 h0 := W0
  have hSA := fun d hd => hw d (sa_in d hd)
  have hws := fun d hd => hw d (ws_in d hd)
  have hln := fun d hd => hw d (ln_in d hd)
  have hch := fun d hd => hw d (ch_in d hd)
  have heq := fun d hd => hw d (eq_in d hd)
  have hem := fun d hd => hw d (em_in d hd)
  refine Go.of (fun _ kk => castTop (ef322 m x1 (0 : Int32) (2 : Int32)) kk) ?_
  refine gof T0 m 7 #[vr x1, vi 0, vi 2] [] (fun _ kk => XS.iloadN W0.here hx rfl (hb hby d1015_0) rfl (XS.ifYes W0.here hx rfl (pc0 := 1) (pc' := 7) rfl (hb hby d1015_1) rfl (XT.i0_ne_t (by decide +kernel)) (by decide +kernel) (by decide +kernel) kk)) ?_
  refine W0.newO hx (hw _ (mI 175 rfl)) (hw _ (mI 6 rfl)) (hw _ (mI 7 rfl)) rfl (hb hby d1015_7) (by decide +kernel) (by decide +kernel) (fun T1 h1 b1 eb1 gb1 W1 K1 E1 D1 => ?_)
  have k2 : Fld Z h1 b1 "java/lang/String" "coder" "B" (.int (0 : Int32)) := D1 (Or.inr (hw _ (mI 31 rfl))) (ty := .byte) (by decide +kernel)
  have k3 : Fld Z h1 b1 "java/lang/String" "value" "[B" .null := D1 (Or.inr (hw _ (mI 33 rfl))) (ty := (.array .byte)) (by decide +kernel)
  refine gof T1 m 16 #[vr x1, vi 0, vi 2] [(.int 2), (.int 0), (.ref x1), (.ref b1), (.ref b1)] (fun _ kk => XS.dup W1.here hx rfl (hb hby d1015_10) rfl rfl (XS.aloadN W1.here hx rfl (hb hby d1015_11) rfl rfl (XS.iloadN W1.here hx rfl (hb hby d1015_12) rfl (XS.iloadN W1.here hx rfl (hb hby d1015_13) rfl (XS.iloadN W1.here hx rfl (hb hby d1015_14) rfl (XS.iadd W1.here hx rfl (hb hby d1015_15) rfl kk)))))) ?_
  have k5 := (A1.keep K1 nin0)
  refine W1.callS hx hEL (hw _ (mI 176 rfl)) (hw _ (mI 177 rfl)) (hw _ (mI 178 rfl)) (hw _ (mI 179 rfl)) (by decide +kernel) (argsL := [(.ref x1), (.int (0 : Int32)), (.int (2 : Int32))]) (rest := [(.ref b1), (.ref b1)]) (rm321 l Z a0 hw hEL zc SC hzc fm SF rfm x1 kc q1 q2 q3 q4 h1 W1.old k5 cq1 cq2 cq3 cq4) all0 (by decide +kernel) (Wd := 2) (by decide +kernel) (by decide +kernel) (by decide +kernel) all0 rfl (by rw [hml]; rfl) (lenOf pd6 rfl) rfl (by show 2 * 0 + _ ≤ _; exact Nat.le_of_eq rfl) (hb hby d1015_16) (fun T4 h4 v4 W4 K4 q4 => ?_)
  obtain ⟨r4, kc4, rfl, lr4, A4⟩ := q4
  have gr4 : n0 ≤ r4 ∧ s.heap.size ≤ r4 := ⟨Nat.le_trans W1.n0le lr4, Nat.le_trans W1.s0le lr4⟩
  refine gof T4 m 20 #[vr x1, vi 0, vi 2] [(.int 0), (.ref r4), (.ref b1), (.ref b1)] (fun _ kk => XS.iconst W4.here hx rfl (hb hby d1015_19) kk) ?_
  have k7 := (E1.keep K4)
  have k8 := (k3.keep K4 nin0)
  have k9 := (k2.keep K4 nin0)
  refine W4.callP hx hEL rfl (hw _ (mI 191 rfl)) (hw _ (mI 192 rfl)) (hw _ (mI 7 rfl)) (hw _ (mI 193 rfl)) (by decide +kernel) (a := b1) (argsL := [(.ref r4), (.int (0 : Int32))]) (rest := [(.ref b1)]) (rm12 l Z a0 hw hEL zc SC hzc fm SF rfm b1 r4 h4 W4.old k7 k8 k9 gb1.1) (allS (mI 0 rfl) all0) (by decide +kernel) (Wd := 1) (by decide +kernel) (by decide +kernel) (by decide +kernel) (allS ⟨gb1.1, (Or.inr gb1.2)⟩ all0) rfl (by rw [hml]; rfl) (lenOf pd7 rfl) rfl (by show 2 * 0 + _ ≤ _; exact Nat.le_of_eq rfl) (hb hby d1015_20) (fun T6 h6 v6 W6 K6 q6 => ?_)
  obtain ⟨rfl, Fv6, Fc6⟩ := q6
  show Go p e below _ (T6.setTop (mkF m 23 #[vr x1, vi 0, vi 2] [(.ref b1)]))
  have k10 := (k7.keep K6)
  have k11 := (A4.keep K6 (ninS (ne_of_born lr4 E1.lt (Nat.le_refl _)).symm nin0))
  exact W6.retA hx hEL hs hlk (by decide +kernel) (by decide +kernel) hret rfl rfl (hb hby d1015_23) ⟨b1, rfl, hs ▸ gb1.2, ⟨r4, kc4, _, _, _, k10, Fv6, Fc6, k11, StrChars.Road.codOf (cs := [q1, q2]) (n := 2) rfl (allSi cq1.2 (allSi cq2.2 all0i)), up255 (allSi cq1 (allSi cq2 all0i)), Nat.le_of_ble_eq_true rfl⟩⟩
theorem ef323 (m : MethodId) (x0 : Addr) (x1 : Int32) (x2 : Int32)  : entryFrame m #[(.ref x0), (.int x1), (.int x2)] 5 = mkF m 0 #[vr x0, vi x1, vi x2, U0, U0] [] := by first | (simp [entryFrame, mkF, argsToLocals, Value.category]; done) | rfl | rfl
set_option maxRecDepth 65536 in
set_option maxHeartbeats 40000000 in
theorem rm323 (l : Launch) (Z : State) (a0 : Array Value) (hw : ∀ d ∈ tables_1, d.before a0 Z = true) (hEL : EW Z a0 EL0) (zc : Int32) (SC : Sta Z Z.heap "java/lang/String" "COMPACT_STRINGS" "Z" (.int zc)) (hzc : ¬ zc = 0) (fm : Value) (SF : Sta Z Z.heap "jdk/internal/util/Preconditions" "SIOOBE_FORMATTER" "Ljava/util/function/BiFunction;" fm) (rfm : fm.isRef = true) (x1 : Addr) (q1 : Int32) (q2 : Int32) (q3 : Int32) (q4 : Int32) (h0 : Heap) {n0 : Nat} (O0 : Old Z n0 h0) (S1 : Str Z h0 x1 [q1, q2, q3, q4]) (cq1 : ¬ q1 < 0 ∧ ¬ (255 : Int32) < q1) (cq2 : ¬ q2 < 0 ∧ ¬ (255 : Int32) < q2) (cq3 : ¬ q3 < 0 ∧ ¬ (255 : Int32) < q3) (cq4 : ¬ q4 < 0 ∧ ¬ (255 : Int32) < q4) :
    Met l Z EL0 n0 (⟨"java/lang/String", "substring", "(II)Ljava/lang/String;"⟩ : MethodName) jdk_42_method_92_code 5 (some (.object "java/lang/String")) [] ({ frames := 4, cells := 2, slots := 6, locals := 64 } : Room) #[(.ref x1), (.int (0 : Int32)), (.int (2 : Int32))] h0 [] [] (fun v h' => ∃ r : Addr, v = some (.ref r) ∧ h0.size ≤ r ∧ Str Z h' r [q1, q2]) := by
  refine Met.of (plainFor_of_name pn1) O0 ?_
  intro p e s m below meth c T0 hx hby hml hret hlk hnm hs W0
  have W0 : Wk p l e _ s m _ below meth c Z EL0 n0 [] "java/lang/String" [] T0 0 0 h0 := W0
  have hSA := fun d hd => hw d (sa_in d hd)
  have hws := fun d hd => hw d (ws_in d hd)
  have hln := fun d hd => hw d (ln_in d hd)
  have hch := fun d hd => hw d (ch_in d hd)
  have heq := fun d hd => hw d (eq_in d hd)
  have hem := fun d hd => hw d (em_in d hd)
  refine Go.of (fun _ kk => castTop (ef323 m x1 (0 : Int32) (2 : Int32)) kk) ?_
  show Go p e below _ (T0.setTop (mkF m 0 #[vr x1, vi 0, vi 2, U0, U0] []))
  obtain ⟨t1, kb1, E1, Fv1, Fc1, A1⟩ := S1.open_ (snd255 (allSi cq1 (allSi cq2 (allSi cq3 (allSi cq4 all0i)))))
  have V1 : Arv Z h0 t1 kb1 .byte (4 : Int32) [(.int (StrChars.lo8 q1)), (.int (StrChars.lo8 q2)), (.int (StrChars.lo8 q3)), (.int (StrChars.lo8 q4))] (.int (0 : Int32)) := A1
  refine gof T0 m 1 #[vr x1, vi 0, vi 2, U0, U0] [(.ref x1)] (fun _ kk => XS.aloadN W0.here hx rfl (hb hby d1016_0) rfl rfl kk) ?_
  refine W0.strLen hx hln (hw _ (mI 6 rfl)) SC hzc S1 (hw _ (mI 68 rfl)) (hw _ (mI 69 rfl)) (hw _ (mI 71 rfl)) (hw _ (mI 70 rfl)) (by decide +kernel) (Wd := 0) (by decide +kernel) (by decide +kernel) (by decide +kernel) rfl (by rw [hml]; rfl) rfl (by show 2 * 0 + _ ≤ _; exact Nat.le_of_eq rfl) (hb hby d1016_1) (fun T2 W2 => ?_)
  show Go p e below _ (T2.setTop (mkF m 4 #[vr x1, vi 0, vi 2, U0, U0] [(.int 4)]))
  refine gof T2 m 8 #[vr x1, vi 0, vi 2, vi 4, U0] [(.int 4), (.int 2), (.int 0)] (fun _ kk => XS.istoreN W2.here hx rfl (hb hby d1016_4) rfl (l' := #[vr x1, vi 0, vi 2, vi 4, U0]) rfl (XS.iloadN W2.here hx rfl (hb hby d1016_5) rfl (XS.iloadN W2.here hx rfl (hb hby d1016_6) rfl (XS.iloadN W2.here hx rfl (hb hby d1016_7) rfl kk)))) ?_
  refine W2.callS hx hEL (hw _ (mI 166 rfl)) (hw _ (mI 167 rfl)) (hw _ (mI 7 rfl)) (hw _ (mI 168 rfl)) (by decide +kernel) (argsL := [(.int (0 : Int32)), (.int (2 : Int32)), (.int (4 : Int32))]) (rest := []) (rm11 l Z a0 hw hEL zc SC hzc fm SF rfm (0 : Int32) (2 : Int32) (4 : Int32) h0 W2.old (by decide +kernel) (by decide +kernel) (by decide +kernel)) all0 (by decide +kernel) (Wd := 0) (by decide +kernel) (by decide +kernel) (by decide +kernel) all0 rfl (by rw [hml]; rfl) (lenOf pd8 rfl) rfl (by show 2 * 0 + _ ≤ _; exact Nat.le_of_eq rfl) (hb hby d1016_8) (fun T3 h3 v3 W3 K3 q3 => ?_)
  obtain ⟨rfl, rfl⟩ := q3
  refine gof T3 m 24 #[vr x1, vi 0, vi 2, vi 4, U0] [(.int 0), (.int 2)] (fun _ kk => XS.iloadN W3.here hx rfl (hb hby d1016_11) rfl (XS.ifNo W3.here hx rfl (hb hby d1016_12) rfl (XT.i0_ne_f (by decide +kernel)) (XS.iloadN W3.here hx rfl (hb hby d1016_15) rfl (XS.iloadN W3.here hx rfl (hb hby d1016_16) rfl (XS.icmpYes W3.here hx rfl (pc0 := 17) (pc' := 22) rfl (hb hby d1016_17) rfl (XT.ii_ne_t (by decide +kernel)) (by decide +kernel) (by decide +kernel) (XS.iloadN W3.here hx rfl (hb hby d1016_22) rfl (XS.iloadN W3.here hx rfl (hb hby d1016_23) rfl kk))))))) ?_
  refine gof T3 m 28 #[vr x1, vi 0, vi 2, vi 4, vi 2] [(.ref x1)] (fun _ kk => XS.isub W3.here hx rfl (hb hby d1016_24) rfl (XS.istore W3.here hx rfl (hb hby d1016_25) rfl (l' := #[vr x1, vi 0, vi 2, vi 4, vi 2]) rfl (XS.aloadN W3.here hx rfl (hb hby d1016_27) rfl rfl kk))) ?_
  refine W3.callV hx hEL (hw _ (mI 63 rfl)) (hw _ (mI 64 rfl)) (hw _ (mI 66 rfl)) (hw _ (mI 65 rfl)) (hw _ (mI 7 rfl)) (hw _ (mI 67 rfl)) (by decide +kernel) E1 (a := x1) (argsL := []) (rest := []) (rm6 l Z a0 hw hEL zc SC hzc fm SF rfm x1 h0 W3.old Fc1) all0 (by decide +kernel) (Wd := 0) (by decide +kernel) (by decide +kernel) (by decide +kernel) all0 rfl (by rw [hml]; rfl) (lenOf pd4 rfl) rfl (by show 2 * 0 + _ ≤ _; exact Nat.le_of_eq rfl) (hb hby d1016_28) (fun T4 h4 v4 W4 K4 q4 => ?_)
  obtain ⟨rfl, rfl⟩ := q4
  refine gof T4 m 35 #[vr x1, vi 0, vi 2, vi 4, vi 2] [(.ref x1)] (fun _ kk => XS.ifNo W4.here hx rfl (hb hby d1016_31) rfl (XT.i0_eq_f (by decide +kernel)) (XS.aloadN W4.here hx rfl (hb hby d1016_34) rfl rfl kk)) ?_
  refine W4.getF hx (host := "") (Or.inl (hw _ (mI 32 rfl))) Via.refl Fv1 rfl rfl (hb hby d1016_35) (fun T5 W5 => ?_)
  refine gof T5 m 41 #[vr x1, vi 0, vi 2, vi 4, vi 2] [(.int 2), (.int 0), (.ref t1)] (fun _ kk => XS.iloadN W5.here hx rfl (hb hby d1016_38) rfl (XS.iload W5.here hx rfl (hb hby d1016_39) rfl kk)) ?_
  refine W5.callS hx hEL (hw _ (mI 172 rfl)) (hw _ (mI 173 rfl)) (hw _ (mI 80 rfl)) (hw _ (mI 174 rfl)) (by decide +kernel) (argsL := [(.ref t1), (.int (0 : Int32)), (.int (2 : Int32))]) (rest := []) (rm322 l Z a0 hw hEL zc SC hzc fm SF rfm t1 kb1 q1 q2 q3 q4 h0 W5.old V1 cq1 cq2 cq3 cq4) all0 (by decide +kernel) (Wd := 0) (by decide +kernel) (by decide +kernel) (by decide +kernel) all0 rfl (by rw [hml]; rfl) (lenOf pd9 rfl) rfl (by show 2 * 0 + _ ≤ _; exact Nat.le_of_eq rfl) (hb hby d1016_41) (fun T6 h6 v6 W6 K6 q6 => ?_)
  obtain ⟨r6, rfl, lr6, S6⟩ := q6
  have gr6 : n0 ≤ r6 ∧ s.heap.size ≤ r6 := ⟨Nat.le_trans W5.n0le lr6, Nat.le_trans W5.s0le lr6⟩
  have E6 := S6.exa
  refine gof T6 m 57 #[vr x1, vi 0, vi 2, vi 4, vi 2] [(.ref r6)] (fun _ kk => XS.goto W6.here hx rfl (pc0 := 44) (pc' := 57) rfl (hb hby d1016_44) (by decide +kernel) (by decide +kernel) kk) ?_
  exact W6.retA hx hEL hs hlk (by decide +kernel) (by decide +kernel) hret rfl rfl (hb hby d1016_57) ⟨r6, rfl, hs ▸ gr6.2, S6⟩
theorem ef330 (m : MethodId) (x0 : Addr) (x1 : Int32) (x2 : Int32)  : entryFrame m #[(.ref x0), (.int x1), (.int x2)] 5 = mkF m 0 #[vr x0, vi x1, vi x2, U0, U0] [] := by first | (simp [entryFrame, mkF, argsToLocals, Value.category]; done) | rfl | rfl
set_option maxRecDepth 65536 in
set_option maxHeartbeats 40000000 in
theorem rm330 (l : Launch) (Z : State) (a0 : Array Value) (hw : ∀ d ∈ tables_1, d.before a0 Z = true) (hEL : EW Z a0 EL0) (zc : Int32) (SC : Sta Z Z.heap "java/lang/String" "COMPACT_STRINGS" "Z" (.int zc)) (hzc : ¬ zc = 0) (fm : Value) (SF : Sta Z Z.heap "jdk/internal/util/Preconditions" "SIOOBE_FORMATTER" "Ljava/util/function/BiFunction;" fm) (rfm : fm.isRef = true) (x1 : Addr) (kc : ClassId) (q1 : Int32) (q2 : Int32) (q3 : Int32) (h0 : Heap) {n0 : Nat} (O0 : Old Z n0 h0) (A1 : Arv Z h0 x1 kc .byte (3 : Int32) [(.int (StrChars.lo8 q1)), (.int (StrChars.lo8 q2)), (.int (StrChars.lo8 q3))] (.int (0 : Int32))) (cq1 : ¬ q1 < 0 ∧ ¬ (255 : Int32) < q1) (cq2 : ¬ q2 < 0 ∧ ¬ (255 : Int32) < q2) (cq3 : ¬ q3 < 0 ∧ ¬ (255 : Int32) < q3) :
    Met l Z EL0 n0 (⟨"java/util/Arrays", "copyOfRangeByte", "([BII)[B"⟩ : MethodName) jdk_65_method_133_code 5 (some (.array .byte)) [] ({ frames := 1, cells := 1, slots := 1, locals := 18 } : Room) #[(.ref x1), (.int (2 : Int32)), (.int (3 : Int32))] h0 [] [] (fun v h' => ∃ (r : Addr) (kc : ClassId), v = some (.ref r) ∧ h0.size ≤ r ∧ Arv Z h' r kc .byte (1 : Int32) [(.int (StrChars.lo8 q3))] (.int (0 : Int32))) := by
  refine Met.of (plainFor_of_name pn3) O0 ?_
  intro p e s m below meth c T0 hx hby hml hret hlk hnm hs W0
  have W0 : Wk p l e _ s m _ below meth c Z EL0 n0 [] "java/util/Arrays" [] T0 0 0 h0 := W0
  have hSA := fun d hd => hw d (sa_in d hd)
  have hws := fun d hd => hw d (ws_in d hd)
  have hln := fun d hd => hw d (ln_in d hd)
  have hch := fun d hd => hw d (ch_in d hd)
  have heq := fun d hd => hw d (eq_in d hd)
  have hem := fun d hd => hw d (em_in d hd)
  refine Go.of (fun _ kk => castTop (ef330 m x1 (2 : Int32) (3 : Int32)) kk) ?_
  refine gof T0 m 2 #[vr x1, vi 2, vi 3, U0, U0] [(.int 3), (.int 2)] (fun _ kk => XS.iloadN W0.here hx rfl (hb hby d1013_0) rfl (XS.iloadN W0.here hx rfl (hb hby d1013_1) rfl kk)) ?_
  refine W0.callS hx hEL (hw _ (mI 183 rfl)) (hw _ (mI 184 rfl)) (hw _ (mI 178 rfl)) (hw _ (mI 185 rfl)) (by decide +kernel) (argsL := [(.int (2 : Int32)), (.int (3 : Int32))]) (rest := []) (rm9 l Z a0 hw hEL zc SC hzc fm SF rfm (2 : Int32) (3 : Int32) h0 W0.old (by decide +kernel)) all0 (by decide +kernel) (Wd := 0) (by decide +kernel) (by decide +kernel) (by decide +kernel) all0 rfl (by rw [hml]; rfl) (lenOf pd5 rfl) rfl (by show 2 * 0 + _ ≤ _; exact Nat.le_of_eq rfl) (hb hby d1013_2) (fun T1 h1 v1 W1 K1 q1 => ?_)
  obtain ⟨rfl, rfl⟩ := q1
  refine gof T1 m 10 #[vr x1, vi 2, vi 3, vi 1, U0] [(.int 1)] (fun _ kk => XS.iloadN W1.here hx rfl (hb hby d1013_5) rfl (XS.iloadN W1.here hx rfl (hb hby d1013_6) rfl (XS.isub W1.here hx rfl (hb hby d1013_7) rfl (XS.istoreN W1.here hx rfl (hb hby d1013_8) rfl (l' := #[vr x1, vi 2, vi 3, vi 1, U0]) rfl (XS.iloadN W1.here hx rfl (hb hby d1013_9) rfl kk))))) ?_
  refine W1.newP hx (hw _ (mI 23 rfl)) rfl (hb hby d1013_10) rfl (by decide +kernel) (cap := 1) (by decide +kernel) (by decide +kernel) (by decide +kernel) (by decide +kernel) (fun T2 h2 b2 c2 eb2 gb2 W2 K2 A2 => ?_)
  have V2 : Arv Z h2 b2 c2 .byte (1 : Int32) [(.int (0 : Int32))] (.int (0 : Int32)) := A2
  refine gof T2 m 20 #[vr x1, vi 2, vi 3, vi 1, vr b2] [(.ref x1), (.int 0), (.ref b2), (.int 2), (.ref x1)] (fun _ kk => XS.astore W2.here hx rfl (hb hby d1013_12) rfl rfl (l' := #[vr x1, vi 2, vi 3, vi 1, vr b2]) rfl (XS.aloadN W2.here hx rfl (hb hby d1013_14) rfl rfl (XS.iloadN W2.here hx rfl (hb hby d1013_15) rfl (XS.aload W2.here hx rfl (hb hby d1013_16) rfl rfl (XS.iconst W2.here hx rfl (hb hby d1013_18) (XS.aloadN W2.here hx rfl (hb hby d1013_19) rfl rfl kk)))))) ?_
  have k3 := (A1.keep K2 nin0)
  refine W2.alen hx k3 rfl rfl (hb hby d1013_20) ?_
  refine gof T2 m 24 #[vr x1, vi 2, vi 3, vi 1, vr b2] [(.int 1), (.int 1), (.int 0), (.ref b2), (.int 2), (.ref x1)] (fun _ kk => XS.iloadN W2.here hx rfl (hb hby d1013_21) rfl (XS.isub W2.here hx rfl (hb hby d1013_22) rfl (XS.iloadN W2.here hx rfl (hb hby d1013_23) rfl kk))) ?_
  refine W2.callS hx hEL (hw _ (mI 186 rfl)) (hw _ (mI 90 rfl)) (hw _ (mI 87 rfl)) (hw _ (mI 91 rfl)) (by decide +kernel) (argsL := [(.int (1 : Int32)), (.int (1 : Int32))]) (rest := [(.int (0 : Int32)), (.ref b2), (.int (2 : Int32)), (.ref x1)]) (rm5 l Z a0 hw hEL zc SC hzc fm SF rfm (1 : Int32) h2 W2.old ) all0 (by decide +kernel) (Wd := 4) (by decide +kernel) (by decide +kernel) (by decide +kernel) all0 rfl (by rw [hml]; rfl) (lenOf pd2 rfl) rfl (by show 2 * 0 + _ ≤ _; exact Nat.le_of_eq rfl) (hb hby d1013_24) (fun T4 h4 v4 W4 K4 q4 => ?_)
  obtain ⟨rfl, rfl⟩ := q4
  show Go p e below _ (T4.setTop (mkF m 27 #[vr x1, vi 2, vi 3, vi 1, vr b2] [(.int 1), (.int 0), (.ref b2), (.int 2), (.ref x1)]))
  refine W4.cp hx (hw _ (mI 187 rfl)) (hw _ (mI 190 rfl)) (hw _ (mI 188 rfl)) (hw _ (mI 189 rfl)) (us := [(.int (StrChars.lo8 q3))]) k3 V2 rfl (by decide) (by decide) (by decide) (by decide) (by decide) rfl (Nat.le_of_ble_eq_true rfl) gb2.1 (Or.inr gb2.2) (mI 0 rfl) rfl (by rw [hml]; rfl) rfl (hb hby d1013_27) (by decide +kernel) (Wd := 0) (by show 2 * 0 + _ ≤ _; exact Nat.le_of_eq rfl) (by decide +kernel) (fun T5 h5 W5 K5 A5 => ?_)
  have V5 : Arv Z h5 b2 c2 .byte (1 : Int32) [(.int (StrChars.lo8 q3))] (.int (0 : Int32)) := A5
  refine gof T5 m 32 #[vr x1, vi 2, vi 3, vi 1, vr b2] [(.ref b2)] (fun _ kk => XS.aload W5.here hx rfl (hb hby d1013_30) rfl rfl kk) ?_
  exact W5.retA hx hEL hs hlk (by decide +kernel) (by decide +kernel) hret rfl rfl (hb hby d1013_32) ⟨b2, c2, rfl, hs ▸ gb2.2, V5⟩
theorem ef331 (m : MethodId) (x0 : Addr) (x1 : Int32) (x2 : Int32)  : entryFrame m #[(.ref x0), (.int x1), (.int x2)] 3 = mkF m 0 #[vr x0, vi x1, vi x2] [] := by first | (simp [entryFrame, mkF, argsToLocals, Value.category]; done) | rfl | rfl
set_option maxRecDepth 65536 in
set_option maxHeartbeats 40000000 in
theorem rm331 (l : Launch) (Z : State) (a0 : Array Value) (hw : ∀ d ∈ tables_1, d.before a0 Z = true) (hEL : EW Z a0 EL0) (zc : Int32) (SC : Sta Z Z.heap "java/lang/String" "COMPACT_STRINGS" "Z" (.int zc)) (hzc : ¬ zc = 0) (fm : Value) (SF : Sta Z Z.heap "jdk/internal/util/Preconditions" "SIOOBE_FORMATTER" "Ljava/util/function/BiFunction;" fm) (rfm : fm.isRef = true) (x1 : Addr) (kc : ClassId) (q1 : Int32) (q2 : Int32) (q3 : Int32) (h0 : Heap) {n0 : Nat} (O0 : Old Z n0 h0) (A1 : Arv Z h0 x1 kc .byte (3 : Int32) [(.int (StrChars.lo8 q1)), (.int (StrChars.lo8 q2)), (.int (StrChars.lo8 q3))] (.int (0 : Int32))) (cq1 : ¬ q1 < 0 ∧ ¬ (255 : Int32) < q1) (cq2 : ¬ q2 < 0 ∧ ¬ (255 : Int32) < q2) (cq3 : ¬ q3 < 0 ∧ ¬ (255 : Int32) < q3) :
    Met l Z EL0 n0 (⟨"java/util/Arrays", "copyOfRange", "([BII)[B"⟩ : MethodName) jdk_65_method_132_code 3 (some (.array .byte)) [] ({ frames := 2, cells := 1, slots := 1, locals := 34 } : Room) #[(.ref x1), (.int (2 : Int32)), (.int (3 : Int32))] h0 [] [] (fun v h' => ∃ (r : Addr) (kc : ClassId), v = some (.ref r) ∧ h0.size ≤ r ∧ Arv Z h' r kc .byte (1 : Int32) [(.int (StrChars.lo8 q3))] (.int (0 : Int32))) := by
  refine Met.of (plainFor_of_name pn3) O0 ?_
  intro p e s m below meth c T0 hx hby hml hret hlk hnm hs W0
  have W0 : Wk p l e _ s m _ below meth c Z EL0 n0 [] "java/util/Arrays" [] T0 0 0 h0 := W0
  have hSA := fun d hd => hw d (sa_in d hd)
  have hws := fun d hd => hw d (ws_in d hd)
  have hln := fun d hd => hw d (ln_in d hd)
  have hch := fun d hd => hw d (ch_in d hd)
  have heq := fun d hd => hw d (eq_in d hd)
  have hem := fun d hd => hw d (em_in d hd)
  refine Go.of (fun _ kk => castTop (ef331 m x1 (2 : Int32) (3 : Int32)) kk) ?_
  refine gof T0 m 13 #[vr x1, vi 2, vi 3] [(.int 3), (.int 2), (.ref x1)] (fun _ kk => XS.iloadN W0.here hx rfl (hb hby d1014_0) rfl (XS.ifYes W0.here hx rfl (pc0 := 1) (pc' := 10) rfl (hb hby d1014_1) rfl (XT.i0_ne_t (by decide +kernel)) (by decide +kernel) (by decide +kernel) (XS.aloadN W0.here hx rfl (hb hby d1014_10) rfl rfl (XS.iloadN W0.here hx rfl (hb hby d1014_11) rfl (XS.iloadN W0.here hx rfl (hb hby d1014_12) rfl kk))))) ?_
  refine W0.callS hx hEL (hw _ (mI 180 rfl)) (hw _ (mI 181 rfl)) (hw _ (mI 178 rfl)) (hw _ (mI 182 rfl)) (by decide +kernel) (argsL := [(.ref x1), (.int (2 : Int32)), (.int (3 : Int32))]) (rest := []) (rm330 l Z a0 hw hEL zc SC hzc fm SF rfm x1 kc q1 q2 q3 h0 W0.old A1 cq1 cq2 cq3) all0 (by decide +kernel) (Wd := 0) (by decide +kernel) (by decide +kernel) (by decide +kernel) all0 rfl (by rw [hml]; rfl) (lenOf pd6 rfl) rfl (by show 2 * 0 + _ ≤ _; exact Nat.le_of_eq rfl) (hb hby d1014_13) (fun T1 h1 v1 W1 K1 q1 => ?_)
  obtain ⟨r1, kc1, rfl, lr1, A1⟩ := q1
  have gr1 : n0 ≤ r1 ∧ s.heap.size ≤ r1 := ⟨Nat.le_trans W0.n0le lr1, Nat.le_trans W0.s0le lr1⟩
  show Go p e below _ (T1.setTop (mkF m 16 #[vr x1, vi 2, vi 3] [(.ref r1)]))
  exact W1.retA hx hEL hs hlk (by decide +kernel) (by decide +kernel) hret rfl rfl (hb hby d1014_16) ⟨r1, kc1, rfl, hs ▸ gr1.2, A1⟩
theorem ef332 (m : MethodId) (x0 : Addr) (x1 : Int32) (x2 : Int32)  : entryFrame m #[(.ref x0), (.int x1), (.int x2)] 3 = mkF m 0 #[vr x0, vi x1, vi x2] [] := by first | (simp [entryFrame, mkF, argsToLocals, Value.category]; done) | rfl | rfl
set_option maxRecDepth 65536 in
set_option maxHeartbeats 40000000 in
theorem rm332 (l : Launch) (Z : State) (a0 : Array Value) (hw : ∀ d ∈ tables_1, d.before a0 Z = true) (hEL : EW Z a0 EL0) (zc : Int32) (SC : Sta Z Z.heap "java/lang/String" "COMPACT_STRINGS" "Z" (.int zc)) (hzc : ¬ zc = 0) (fm : Value) (SF : Sta Z Z.heap "jdk/internal/util/Preconditions" "SIOOBE_FORMATTER" "Ljava/util/function/BiFunction;" fm) (rfm : fm.isRef = true) (x1 : Addr) (kc : ClassId) (q1 : Int32) (q2 : Int32) (q3 : Int32) (h0 : Heap) {n0 : Nat} (O0 : Old Z n0 h0) (A1 : Arv Z h0 x1 kc .byte (3 : Int32) [(.int (StrChars.lo8 q1)), (.int (StrChars.lo8 q2)), (.int (StrChars.lo8 q3))] (.int (0 : Int32))) (cq1 : ¬ q1 < 0 ∧ ¬ (255 : Int32) < q1) (cq2 : ¬ q2 < 0 ∧ ¬ (255 : Int32) < q2) (cq3 : ¬ q3 < 0 ∧ ¬ (255 : Int32) < q3) :
    Met l Z EL0 n0 (⟨"java/lang/StringLatin1", "newString", "([BII)Ljava/lang/String;"⟩ : MethodName) jdk_43_method_47_code 3 (some (.object "java/lang/String")) [] ({ frames := 3, cells := 2, slots := 5, locals := 50 } : Room) #[(.ref x1), (.int (2 : Int32)), (.int (1 : Int32))] h0 [] [] (fun v h' => ∃ r : Addr, v = some (.ref r) ∧ h0.size ≤ r ∧ Str Z h' r [q3]) := by
  refine Met.of (plainFor_of_name pn2) O0 ?_
  intro p e s m below meth c T0 hx hby hml hret hlk hnm hs W0
  have W0 : Wk p l e _ s m _ below meth c Z EL0 n0 [] "java/lang/StringLatin1" [] T0 0 0 h0 := W0
  have hSA := fun d hd => hw d (sa_in d hd)
  have hws := fun d hd => hw d (ws_in d hd)
  have hln := fun d hd => hw d (ln_in d hd)
  have hch := fun d hd => hw d (ch_in d hd)
  have heq := fun d hd => hw d (eq_in d hd)
  have hem := fun d hd => hw d (em_in d hd)
  refine Go.of (fun _ kk => castTop (ef332 m x1 (2 : Int32) (1 : Int32)) kk) ?_
  refine gof T0 m 7 #[vr x1, vi 2, vi 1] [] (fun _ kk => XS.iloadN W0.here hx rfl (hb hby d1015_0) rfl (XS.ifYes W0.here hx rfl (pc0 := 1) (pc' := 7) rfl (hb hby d1015_1) rfl (XT.i0_ne_t (by decide +kernel)) (by decide +kernel) (by decide +kernel) kk)) ?_
  refine W0.newO hx (hw _ (mI 175 rfl)) (hw _ (mI 6 rfl)) (hw _ (mI 7 rfl)) rfl (hb hby d1015_7) (by decide +kernel) (by decide +kernel) (fun T1 h1 b1 eb1 gb1 W1 K1 E1 D1 => ?_)
  have k2 : Fld Z h1 b1 "java/lang/String" "coder" "B" (.int (0 : Int32)) := D1 (Or.inr (hw _ (mI 31 rfl))) (ty := .byte) (by decide +kernel)
  have k3 : Fld Z h1 b1 "java/lang/String" "value" "[B" .null := D1 (Or.inr (hw _ (mI 33 rfl))) (ty := (.array .byte)) (by decide +kernel)
  refine gof T1 m 16 #[vr x1, vi 2, vi 1] [(.int 3), (.int 2), (.ref x1), (.ref b1), (.ref b1)] (fun _ kk => XS.dup W1.here hx rfl (hb hby d1015_10) rfl rfl (XS.aloadN W1.here hx rfl (hb hby d1015_11) rfl rfl (XS.iloadN W1.here hx rfl (hb hby d1015_12) rfl (XS.iloadN W1.here hx rfl (hb hby d1015_13) rfl (XS.iloadN W1.here hx rfl (hb hby d1015_14) rfl (XS.iadd W1.here hx rfl (hb hby d1015_15) rfl kk)))))) ?_
  have k5 := (A1.keep K1 nin0)
  refine W1.callS hx hEL (hw _ (mI 176 rfl)) (hw _ (mI 177 rfl)) (hw _ (mI 178 rfl)) (hw _ (mI 179 rfl)) (by decide +kernel) (argsL := [(.ref x1), (.int (2 : Int32)), (.int (3 : Int32))]) (rest := [(.ref b1), (.ref b1)]) (rm331 l Z a0 hw hEL zc SC hzc fm SF rfm x1 kc q1 q2 q3 h1 W1.old k5 cq1 cq2 cq3) all0 (by decide +kernel) (Wd := 2) (by decide +kernel) (by decide +kernel) (by decide +kernel) all0 rfl (by rw [hml]; rfl) (lenOf pd6 rfl) rfl (by show 2 * 0 + _ ≤ _; exact Nat.le_of_eq rfl) (hb hby d1015_16) (fun T4 h4 v4 W4 K4 q4 => ?_)
  obtain ⟨r4, kc4, rfl, lr4, A4⟩ := q4
  have gr4 : n0 ≤ r4 ∧ s.heap.size ≤ r4 := ⟨Nat.le_trans W1.n0le lr4, Nat.le_trans W1.s0le lr4⟩
  refine gof T4 m 20 #[vr x1, vi 2, vi 1] [(.int 0), (.ref r4), (.ref b1), (.ref b1)] (fun _ kk => XS.iconst W4.here hx rfl (hb hby d1015_19) kk) ?_
  have k7 := (E1.keep K4)
  have k8 := (k3.keep K4 nin0)
  have k9 := (k2.keep K4 nin0)
  refine W4.callP hx hEL rfl (hw _ (mI 191 rfl)) (hw _ (mI 192 rfl)) (hw _ (mI 7 rfl)) (hw _ (mI 193 rfl)) (by decide +kernel) (a := b1) (argsL := [(.ref r4), (.int (0 : Int32))]) (rest := [(.ref b1)]) (rm12 l Z a0 hw hEL zc SC hzc fm SF rfm b1 r4 h4 W4.old k7 k8 k9 gb1.1) (allS (mI 0 rfl) all0) (by decide +kernel) (Wd := 1) (by decide +kernel) (by decide +kernel) (by decide +kernel) (allS ⟨gb1.1, (Or.inr gb1.2)⟩ all0) rfl (by rw [hml]; rfl) (lenOf pd7 rfl) rfl (by show 2 * 0 + _ ≤ _; exact Nat.le_of_eq rfl) (hb hby d1015_20) (fun T6 h6 v6 W6 K6 q6 => ?_)
  obtain ⟨rfl, Fv6, Fc6⟩ := q6
  show Go p e below _ (T6.setTop (mkF m 23 #[vr x1, vi 2, vi 1] [(.ref b1)]))
  have k10 := (k7.keep K6)
  have k11 := (A4.keep K6 (ninS (ne_of_born lr4 E1.lt (Nat.le_refl _)).symm nin0))
  exact W6.retA hx hEL hs hlk (by decide +kernel) (by decide +kernel) hret rfl rfl (hb hby d1015_23) ⟨b1, rfl, hs ▸ gb1.2, ⟨r4, kc4, _, _, _, k10, Fv6, Fc6, k11, StrChars.Road.codOf (cs := [q3]) (n := 1) rfl (allSi cq3.2 all0i), up255 (allSi cq3 all0i), Nat.le_of_ble_eq_true rfl⟩⟩
theorem ef333 (m : MethodId) (x0 : Addr) (x1 : Int32) (x2 : Int32)  : entryFrame m #[(.ref x0), (.int x1), (.int x2)] 5 = mkF m 0 #[vr x0, vi x1, vi x2, U0, U0] [] := by first | (simp [entryFrame, mkF, argsToLocals, Value.category]; done) | rfl | rfl
set_option maxRecDepth 65536 in
set_option maxHeartbeats 40000000 in
theorem rm333 (l : Launch) (Z : State) (a0 : Array Value) (hw : ∀ d ∈ tables_1, d.before a0 Z = true) (hEL : EW Z a0 EL0) (zc : Int32) (SC : Sta Z Z.heap "java/lang/String" "COMPACT_STRINGS" "Z" (.int zc)) (hzc : ¬ zc = 0) (fm : Value) (SF : Sta Z Z.heap "jdk/internal/util/Preconditions" "SIOOBE_FORMATTER" "Ljava/util/function/BiFunction;" fm) (rfm : fm.isRef = true) (x1 : Addr) (q1 : Int32) (q2 : Int32) (q3 : Int32) (h0 : Heap) {n0 : Nat} (O0 : Old Z n0 h0) (S1 : Str Z h0 x1 [q1, q2, q3]) (cq1 : ¬ q1 < 0 ∧ ¬ (255 : Int32) < q1) (cq2 : ¬ q2 < 0 ∧ ¬ (255 : Int32) < q2) (cq3 : ¬ q3 < 0 ∧ ¬ (255 : Int32) < q3) :
    Met l Z EL0 n0 (⟨"java/lang/String", "substring", "(II)Ljava/lang/String;"⟩ : MethodName) jdk_42_method_92_code 5 (some (.object "java/lang/String")) [] ({ frames := 4, cells := 2, slots := 5, locals := 64 } : Room) #[(.ref x1), (.int (2 : Int32)), (.int (3 : Int32))] h0 [] [] (fun v h' => ∃ r : Addr, v = some (.ref r) ∧ h0.size ≤ r ∧ Str Z h' r [q3]) := by
  refine Met.of (plainFor_of_name pn1) O0 ?_
  intro p e s m below meth c T0 hx hby hml hret hlk hnm hs W0
  have W0 : Wk p l e _ s m _ below meth c Z EL0 n0 [] "java/lang/String" [] T0 0 0 h0 := W0
  have hSA := fun d hd => hw d (sa_in d hd)
  have hws := fun d hd => hw d (ws_in d hd)
  have hln := fun d hd => hw d (ln_in d hd)
  have hch := fun d hd => hw d (ch_in d hd)
  have heq := fun d hd => hw d (eq_in d hd)
  have hem := fun d hd => hw d (em_in d hd)
  refine Go.of (fun _ kk => castTop (ef333 m x1 (2 : Int32) (3 : Int32)) kk) ?_
  show Go p e below _ (T0.setTop (mkF m 0 #[vr x1, vi 2, vi 3, U0, U0] []))
  obtain ⟨t1, kb1, E1, Fv1, Fc1, A1⟩ := S1.open_ (snd255 (allSi cq1 (allSi cq2 (allSi cq3 all0i))))
  have V1 : Arv Z h0 t1 kb1 .byte (3 : Int32) [(.int (StrChars.lo8 q1)), (.int (StrChars.lo8 q2)), (.int (StrChars.lo8 q3))] (.int (0 : Int32)) := A1
  refine gof T0 m 1 #[vr x1, vi 2, vi 3, U0, U0] [(.ref x1)] (fun _ kk => XS.aloadN W0.here hx rfl (hb hby d1016_0) rfl rfl kk) ?_
  refine W0.strLen hx hln (hw _ (mI 6 rfl)) SC hzc S1 (hw _ (mI 68 rfl)) (hw _ (mI 69 rfl)) (hw _ (mI 71 rfl)) (hw _ (mI 70 rfl)) (by decide +kernel) (Wd := 0) (by decide +kernel) (by decide +kernel) (by decide +kernel) rfl (by rw [hml]; rfl) rfl (by show 2 * 0 + _ ≤ _; exact Nat.le_of_eq rfl) (hb hby d1016_1) (fun T2 W2 => ?_)
  show Go p e below _ (T2.setTop (mkF m 4 #[vr x1, vi 2, vi 3, U0, U0] [(.int 3)]))
  refine gof T2 m 8 #[vr x1, vi 2, vi 3, vi 3, U0] [(.int 3), (.int 3), (.int 2)] (fun _ kk => XS.istoreN W2.here hx rfl (hb hby d1016_4) rfl (l' := #[vr x1, vi 2, vi 3, vi 3, U0]) rfl (XS.iloadN W2.here hx rfl (hb hby d1016_5) rfl (XS.iloadN W2.here hx rfl (hb hby d1016_6) rfl (XS.iloadN W2.here hx rfl (hb hby d1016_7) rfl kk)))) ?_
  refine W2.callS hx hEL (hw _ (mI 166 rfl)) (hw _ (mI 167 rfl)) (hw _ (mI 7 rfl)) (hw _ (mI 168 rfl)) (by decide +kernel) (argsL := [(.int (2 : Int32)), (.int (3 : Int32)), (.int (3 : Int32))]) (rest := []) (rm11 l Z a0 hw hEL zc SC hzc fm SF rfm (2 : Int32) (3 : Int32) (3 : Int32) h0 W2.old (by decide +kernel) (by decide +kernel) (by decide +kernel)) all0 (by decide +kernel) (Wd := 0) (by decide +kernel) (by decide +kernel) (by decide +kernel) all0 rfl (by rw [hml]; rfl) (lenOf pd8 rfl) rfl (by show 2 * 0 + _ ≤ _; exact Nat.le_of_eq rfl) (hb hby d1016_8) (fun T3 h3 v3 W3 K3 q3 => ?_)
  obtain ⟨rfl, rfl⟩ := q3
  refine gof T3 m 28 #[vr x1, vi 2, vi 3, vi 3, vi 1] [(.ref x1)] (fun _ kk => XS.iloadN W3.here hx rfl (hb hby d1016_11) rfl (XS.ifYes W3.here hx rfl (pc0 := 12) (pc' := 22) rfl (hb hby d1016_12) rfl (XT.i0_ne_t (by decide +kernel)) (by decide +kernel) (by decide +kernel) (XS.iloadN W3.here hx rfl (hb hby d1016_22) rfl (XS.iloadN W3.here hx rfl (hb hby d1016_23) rfl (XS.isub W3.here hx rfl (hb hby d1016_24) rfl (XS.istore W3.here hx rfl (hb hby d1016_25) rfl (l' := #[vr x1, vi 2, vi 3, vi 3, vi 1]) rfl (XS.aloadN W3.here hx rfl (hb hby d1016_27) rfl rfl kk))))))) ?_
  refine W3.callV hx hEL (hw _ (mI 63 rfl)) (hw _ (mI 64 rfl)) (hw _ (mI 66 rfl)) (hw _ (mI 65 rfl)) (hw _ (mI 7 rfl)) (hw _ (mI 67 rfl)) (by decide +kernel) E1 (a := x1) (argsL := []) (rest := []) (rm6 l Z a0 hw hEL zc SC hzc fm SF rfm x1 h0 W3.old Fc1) all0 (by decide +kernel) (Wd := 0) (by decide +kernel) (by decide +kernel) (by decide +kernel) all0 rfl (by rw [hml]; rfl) (lenOf pd4 rfl) rfl (by show 2 * 0 + _ ≤ _; exact Nat.le_of_eq rfl) (hb hby d1016_28) (fun T4 h4 v4 W4 K4 q4 => ?_)
  obtain ⟨rfl, rfl⟩ := q4
  refine gof T4 m 35 #[vr x1, vi 2, vi 3, vi 3, vi 1] [(.ref x1)] (fun _ kk => XS.ifNo W4.here hx rfl (hb hby d1016_31) rfl (XT.i0_eq_f (by decide +kernel)) (XS.aloadN W4.here hx rfl (hb hby d1016_34) rfl rfl kk)) ?_
  refine W4.getF hx (host := "") (Or.inl (hw _ (mI 32 rfl))) Via.refl Fv1 rfl rfl (hb hby d1016_35) (fun T5 W5 => ?_)
  refine gof T5 m 41 #[vr x1, vi 2, vi 3, vi 3, vi 1] [(.int 1), (.int 2), (.ref t1)] (fun _ kk => XS.iloadN W5.here hx rfl (hb hby d1016_38) rfl (XS.iload W5.here hx rfl (hb hby d1016_39) rfl kk)) ?_
  refine W5.callS hx hEL (hw _ (mI 172 rfl)) (hw _ (mI 173 rfl)) (hw _ (mI 80 rfl)) (hw _ (mI 174 rfl)) (by decide +kernel) (argsL := [(.ref t1), (.int (2 : Int32)), (.int (1 : Int32))]) (rest := []) (rm332 l Z a0 hw hEL zc SC hzc fm SF rfm t1 kb1 q1 q2 q3 h0 W5.old V1 cq1 cq2 cq3) all0 (by decide +kernel) (Wd := 0) (by decide +kernel) (by decide +kernel) (by decide +kernel) all0 rfl (by rw [hml]; rfl) (lenOf pd9 rfl) rfl (by show 2 * 0 + _ ≤ _; exact Nat.le_of_eq rfl) (hb hby d1016_41) (fun T6 h6 v6 W6 K6 q6 => ?_)
  obtain ⟨r6, rfl, lr6, S6⟩ := q6
  have gr6 : n0 ≤ r6 ∧ s.heap.size ≤ r6 := ⟨Nat.le_trans W5.n0le lr6, Nat.le_trans W5.s0le lr6⟩
  have E6 := S6.exa
  refine gof T6 m 57 #[vr x1, vi 2, vi 3, vi 3, vi 1] [(.ref r6)] (fun _ kk => XS.goto W6.here hx rfl (pc0 := 44) (pc' := 57) rfl (hb hby d1016_44) (by decide +kernel) (by decide +kernel) kk) ?_
  exact W6.retA hx hEL hs hlk (by decide +kernel) (by decide +kernel) hret rfl rfl (hb hby d1016_57) ⟨r6, rfl, hs ▸ gr6.2, S6⟩
theorem d1017_0 : decode jdk_42_method_91_code 0 = .ok (.aload_n 0, 1) := by decide +kernel
theorem d1017_1 : decode jdk_42_method_91_code 1 = .ok (.iload_n 1, 1) := by decide +kernel
theorem d1017_2 : decode jdk_42_method_91_code 2 = .ok (.aload_n 0, 1) := by decide +kernel
theorem d1017_3 : decode jdk_42_method_91_code 3 = .ok (.invokevirtual 505, 3) := by decide +kernel
theorem d1017_6 : decode jdk_42_method_91_code 6 = .ok (.invokevirtual 681, 3) := by decide +kernel
theorem d1017_9 : decode jdk_42_method_91_code 9 = .ok (.areturn, 1) := by decide +kernel
theorem ef334 (m : MethodId) (x0 : Addr) (x1 : Int32)  : entryFrame m #[(.ref x0), (.int x1)] 2 = mkF m 0 #[vr x0, vi x1] [] := by first | (simp [entryFrame, mkF, argsToLocals, Value.category]; done) | rfl | rfl
set_option maxRecDepth 65536 in
set_option maxHeartbeats 40000000 in
theorem rm334 (l : Launch) (Z : State) (a0 : Array Value) (hw : ∀ d ∈ tables_1, d.before a0 Z = true) (hEL : EW Z a0 EL0) (zc : Int32) (SC : Sta Z Z.heap "java/lang/String" "COMPACT_STRINGS" "Z" (.int zc)) (hzc : ¬ zc = 0) (fm : Value) (SF : Sta Z Z.heap "jdk/internal/util/Preconditions" "SIOOBE_FORMATTER" "Ljava/util/function/BiFunction;" fm) (rfm : fm.isRef = true) (x1 : Addr) (q1 : Int32) (q2 : Int32) (q3 : Int32) (h0 : Heap) {n0 : Nat} (O0 : Old Z n0 h0) (S1 : Str Z h0 x1 [q1, q2, q3]) (cq1 : ¬ q1 < 0 ∧ ¬ (255 : Int32) < q1) (cq2 : ¬ q2 < 0 ∧ ¬ (255 : Int32) < q2) (cq3 : ¬ q3 < 0 ∧ ¬ (255 : Int32) < q3) :
    Met l Z EL0 n0 (⟨"java/lang/String", "substring", "(I)Ljava/lang/String;"⟩ : MethodName) jdk_42_method_91_code 2 (some (.object "java/lang/String")) [] ({ frames := 5, cells := 2, slots := 5, locals := 80 } : Room) #[(.ref x1), (.int (2 : Int32))] h0 [] [] (fun v h' => ∃ r : Addr, v = some (.ref r) ∧ h0.size ≤ r ∧ Str Z h' r [q3]) := by
  refine Met.of (plainFor_of_name pn1) O0 ?_
  intro p e s m below meth c T0 hx hby hml hret hlk hnm hs W0
  have W0 : Wk p l e _ s m _ below meth c Z EL0 n0 [] "java/lang/String" [] T0 0 0 h0 := W0
  have hSA := fun d hd => hw d (sa_in d hd)
  have hws := fun d hd => hw d (ws_in d hd)
  have hln := fun d hd => hw d (ln_in d hd)
  have hch := fun d hd => hw d (ch_in d hd)
  have heq := fun d hd => hw d (eq_in d hd)
  have hem := fun d hd => hw d (em_in d hd)
  refine Go.of (fun _ kk => castTop (ef334 m x1 (2 : Int32)) kk) ?_
  refine gof T0 m 3 #[vr x1, vi 2] [(.ref x1), (.int 2), (.ref x1)] (fun _ kk => XS.aloadN W0.here hx rfl (hb hby d1017_0) rfl rfl (XS.iloadN W0.here hx rfl (hb hby d1017_1) rfl (XS.aloadN W0.here hx rfl (hb hby d1017_2) rfl rfl kk))) ?_
  refine W0.strLen hx hln (hw _ (mI 6 rfl)) SC hzc S1 (hw _ (mI 68 rfl)) (hw _ (mI 69 rfl)) (hw _ (mI 71 rfl)) (hw _ (mI 70 rfl)) (by decide +kernel) (Wd := 2) (by decide +kernel) (by decide +kernel) (by decide +kernel) rfl (by rw [hml]; rfl) rfl (by show 2 * 0 + _ ≤ _; exact Nat.le_of_eq rfl) (hb hby d1017_3) (fun T1 W1 => ?_)
  show Go p e below _ (T1.setTop (mkF m 6 #[vr x1, vi 2] [(.int 3), (.int 2), (.ref x1)]))
  have k3 := S1.exa
  refine W1.callV hx hEL (hw _ (mI 199 rfl)) (hw _ (mI 162 rfl)) (hw _ (mI 164 rfl)) (hw _ (mI 163 rfl)) (hw _ (mI 7 rfl)) (hw _ (mI 165 rfl)) (by decide +kernel) k3 (a := x1) (argsL := [(.int (2 : Int32)), (.int (3 : Int32))]) (rest := []) (rm333 l Z a0 hw hEL zc SC hzc fm SF rfm x1 q1 q2 q3 h0 W1.old S1 cq1 cq2 cq3) all0 (by decide +kernel) (Wd := 0) (by decide +kernel) (by decide +kernel) (by decide +kernel) all0 rfl (by rw [hml]; rfl) (lenOf pd10 rfl) rfl (by show 2 * 0 + _ ≤ _; exact Nat.le_of_eq rfl) (hb hby d1017_6) (fun T2 h2 v2 W2 K2 q2 => ?_)
  obtain ⟨r2, rfl, lr2, S2⟩ := q2
  have gr2 : n0 ≤ r2 ∧ s.heap.size ≤ r2 := ⟨Nat.le_trans W1.n0le lr2, Nat.le_trans W1.s0le lr2⟩
  have E2 := S2.exa
  show Go p e below _ (T2.setTop (mkF m 9 #[vr x1, vi 2] [(.ref r2)]))
  exact W2.retA hx hEL hs hlk (by decide +kernel) (by decide +kernel) hret rfl rfl (hb hby d1017_9) ⟨r2, rfl, hs ▸ gr2.2, S2⟩
theorem ef340 (m : MethodId) (x0 : Addr) (x1 : Int32) (x2 : Int32)  : entryFrame m #[(.ref x0), (.int x1), (.int x2)] 5 = mkF m 0 #[vr x0, vi x1, vi x2, U0, U0] [] := by first | (simp [entryFrame, mkF, argsToLocals, Value.category]; done) | rfl | rfl
set_option maxRecDepth 65536 in
set_option maxHeartbeats 40000000 in
theorem rm340 (l : Launch) (Z : State) (a0 : Array Value) (hw : ∀ d ∈ tables_1, d.before a0 Z = true) (hEL : EW Z a0 EL0) (zc : Int32) (SC : Sta Z Z.heap "java/lang/String" "COMPACT_STRINGS" "Z" (.int zc)) (hzc : ¬ zc = 0) (fm : Value) (SF : Sta Z Z.heap "jdk/internal/util/Preconditions" "SIOOBE_FORMATTER" "Ljava/util/function/BiFunction;" fm) (rfm : fm.isRef = true) (x1 : Addr) (kc : ClassId) (q1 : Int32) (q2 : Int32) (q3 : Int32) (q4 : Int32) (h0 : Heap) {n0 : Nat} (O0 : Old Z n0 h0) (A1 : Arv Z h0 x1 kc .byte (4 : Int32) [(.int (StrChars.lo8 q1)), (.int (StrChars.lo8 q2)), (.int (StrChars.lo8 q3)), (.int (StrChars.lo8 q4))] (.int (0 : Int32))) (cq1 : ¬ q1 < 0 ∧ ¬ (255 : Int32) < q1) (cq2 : ¬ q2 < 0 ∧ ¬ (255 : Int32) < q2) (cq3 : ¬ q3 < 0 ∧ ¬ (255 : Int32) < q3) (cq4 : ¬ q4 < 0 ∧ ¬ (255 : Int32) < q4) :
    Met l Z EL0 n0 (⟨"java/util/Arrays", "copyOfRangeByte", "([BII)[B"⟩ : MethodName) jdk_65_method_133_code 5 (some (.array .byte)) [] ({ frames := 1, cells := 1, slots := 2, locals := 18 } : Room) #[(.ref x1), (.int (2 : Int32)), (.int (4 : Int32))] h0 [] [] (fun v h' => ∃ (r : Addr) (kc : ClassId), v = some (.ref r) ∧ h0.size ≤ r ∧ Arv Z h' r kc .byte (2 : Int32) [(.int (StrChars.lo8 q3)), (.int (StrChars.lo8 q4))] (.int (0 : Int32))) := by
  refine Met.of (plainFor_of_name pn3) O0 ?_
  intro p e s m below meth c T0 hx hby hml hret hlk hnm hs W0
  have W0 : Wk p l e _ s m _ below meth c Z EL0 n0 [] "java/util/Arrays" [] T0 0 0 h0 := W0
  have hSA := fun d hd => hw d (sa_in d hd)
  have hws := fun d hd => hw d (ws_in d hd)
  have hln := fun d hd => hw d (ln_in d hd)
  have hch := fun d hd => hw d (ch_in d hd)
  have heq := fun d hd => hw d (eq_in d hd)
  have hem := fun d hd => hw d (em_in d hd)
  refine Go.of (fun _ kk => castTop (ef340 m x1 (2 : Int32) (4 : Int32)) kk) ?_
  refine gof T0 m 2 #[vr x1, vi 2, vi 4, U0, U0] [(.int 4), (.int 2)] (fun _ kk => XS.iloadN W0.here hx rfl (hb hby d1013_0) rfl (XS.iloadN W0.here hx rfl (hb hby d1013_1) rfl kk)) ?_
  refine W0.callS hx hEL (hw _ (mI 183 rfl)) (hw _ (mI 184 rfl)) (hw _ (mI 178 rfl)) (hw _ (mI 185 rfl)) (by decide +kernel) (argsL := [(.int (2 : Int32)), (.int (4 : Int32))]) (rest := []) (rm9 l Z a0 hw hEL zc SC hzc fm SF rfm (2 : Int32) (4 : Int32) h0 W0.old (by decide +kernel)) all0 (by decide +kernel) (Wd := 0) (by decide +kernel) (by decide +kernel) (by decide +kernel) all0 rfl (by rw [hml]; rfl) (lenOf pd5 rfl) rfl (by show 2 * 0 + _ ≤ _; exact Nat.le_of_eq rfl) (hb hby d1013_2) (fun T1 h1 v1 W1 K1 q1 => ?_)
  obtain ⟨rfl, rfl⟩ := q1
  refine gof T1 m 10 #[vr x1, vi 2, vi 4, vi 2, U0] [(.int 2)] (fun _ kk => XS.iloadN W1.here hx rfl (hb hby d1013_5) rfl (XS.iloadN W1.here hx rfl (hb hby d1013_6) rfl (XS.isub W1.here hx rfl (hb hby d1013_7) rfl (XS.istoreN W1.here hx rfl (hb hby d1013_8) rfl (l' := #[vr x1, vi 2, vi 4, vi 2, U0]) rfl (XS.iloadN W1.here hx rfl (hb hby d1013_9) rfl kk))))) ?_
  refine W1.newP hx (hw _ (mI 23 rfl)) rfl (hb hby d1013_10) rfl (by decide +kernel) (cap := 2) (by decide +kernel) (by decide +kernel) (by decide +kernel) (by decide +kernel) (fun T2 h2 b2 c2 eb2 gb2 W2 K2 A2 => ?_)
  have V2 : Arv Z h2 b2 c2 .byte (2 : Int32) [(.int (0 : Int32)), (.int (0 : Int32))] (.int (0 : Int32)) := A2
  refine gof T2 m 20 #[vr x1, vi 2, vi 4, vi 2, vr b2] [(.ref x1), (.int 0), (.ref b2), (.int 2), (.ref x1)] (fun _ kk => XS.astore W2.here hx rfl (hb hby d1013_12) rfl rfl (l' := #[vr x1, vi 2, vi 4, vi 2, vr b2]) rfl (XS.aloadN W2.here hx rfl (hb hby d1013_14) rfl rfl (XS.iloadN W2.here hx rfl (hb hby d1013_15) rfl (XS.aload W2.here hx rfl (hb hby d1013_16) rfl rfl (XS.iconst W2.here hx rfl (hb hby d1013_18) (XS.aloadN W2.here hx rfl (hb hby d1013_19) rfl rfl kk)))))) ?_
  have k3 := (A1.keep K2 nin0)
  refine W2.alen hx k3 rfl rfl (hb hby d1013_20) ?_
  refine gof T2 m 24 #[vr x1, vi 2, vi 4, vi 2, vr b2] [(.int 2), (.int 2), (.int 0), (.ref b2), (.int 2), (.ref x1)] (fun _ kk => XS.iloadN W2.here hx rfl (hb hby d1013_21) rfl (XS.isub W2.here hx rfl (hb hby d1013_22) rfl (XS.iloadN W2.here hx rfl (hb hby d1013_23) rfl kk))) ?_
  refine W2.callS hx hEL (hw _ (mI 186 rfl)) (hw _ (mI 90 rfl)) (hw _ (mI 87 rfl)) (hw _ (mI 91 rfl)) (by decide +kernel) (argsL := [(.int (2 : Int32)), (.int (2 : Int32))]) (rest := [(.int (0 : Int32)), (.ref b2), (.int (2 : Int32)), (.ref x1)]) (rm5 l Z a0 hw hEL zc SC hzc fm SF rfm (2 : Int32) h2 W2.old ) all0 (by decide +kernel) (Wd := 4) (by decide +kernel) (by decide +kernel) (by decide +kernel) all0 rfl (by rw [hml]; rfl) (lenOf pd2 rfl) rfl (by show 2 * 0 + _ ≤ _; exact Nat.le_of_eq rfl) (hb hby d1013_24) (fun T4 h4 v4 W4 K4 q4 => ?_)
  obtain ⟨rfl, rfl⟩ := q4
  show Go p e below _ (T4.setTop (mkF m 27 #[vr x1, vi 2, vi 4, vi 2, vr b2] [(.int 2), (.int 0), (.ref b2), (.int 2), (.ref x1)]))
  refine W4.cp hx (hw _ (mI 187 rfl)) (hw _ (mI 190 rfl)) (hw _ (mI 188 rfl)) (hw _ (mI 189 rfl)) (us := [(.int (StrChars.lo8 q3)), (.int (StrChars.lo8 q4))]) k3 V2 rfl (by decide) (by decide) (by decide) (by decide) (by decide) rfl (Nat.le_of_ble_eq_true rfl) gb2.1 (Or.inr gb2.2) (mI 0 rfl) rfl (by rw [hml]; rfl) rfl (hb hby d1013_27) (by decide +kernel) (Wd := 0) (by show 2 * 0 + _ ≤ _; exact Nat.le_of_eq rfl) (by decide +kernel) (fun T5 h5 W5 K5 A5 => ?_)
  have V5 : Arv Z h5 b2 c2 .byte (2 : Int32) [(.int (StrChars.lo8 q3)), (.int (StrChars.lo8 q4))] (.int (0 : Int32)) := A5
  refine gof T5 m 32 #[vr x1, vi 2, vi 4, vi 2, vr b2] [(.ref b2)] (fun _ kk => XS.aload W5.here hx rfl (hb hby d1013_30) rfl rfl kk) ?_
  exact W5.retA hx hEL hs hlk (by decide +kernel) (by decide +kernel) hret rfl rfl (hb hby d1013_32) ⟨b2, c2, rfl, hs ▸ gb2.2, V5⟩
theorem ef341 (m : MethodId) (x0 : Addr) (x1 : Int32) (x2 : Int32)  : entryFrame m #[(.ref x0), (.int x1), (.int x2)] 3 = mkF m 0 #[vr x0, vi x1, vi x2] [] := by first | (simp [entryFrame, mkF, argsToLocals, Value.category]; done) | rfl | rfl
set_option maxRecDepth 65536 in
set_option maxHeartbeats 40000000 in
theorem rm341 (l : Launch) (Z : State) (a0 : Array Value) (hw : ∀ d ∈ tables_1, d.before a0 Z = true) (hEL : EW Z a0 EL0) (zc : Int32) (SC : Sta Z Z.heap "java/lang/String" "COMPACT_STRINGS" "Z" (.int zc)) (hzc : ¬ zc = 0) (fm : Value) (SF : Sta Z Z.heap "jdk/internal/util/Preconditions" "SIOOBE_FORMATTER" "Ljava/util/function/BiFunction;" fm) (rfm : fm.isRef = true) (x1 : Addr) (kc : ClassId) (q1 : Int32) (q2 : Int32) (q3 : Int32) (q4 : Int32) (h0 : Heap) {n0 : Nat} (O0 : Old Z n0 h0) (A1 : Arv Z h0 x1 kc .byte (4 : Int32) [(.int (StrChars.lo8 q1)), (.int (StrChars.lo8 q2)), (.int (StrChars.lo8 q3)), (.int (StrChars.lo8 q4))] (.int (0 : Int32))) (cq1 : ¬ q1 < 0 ∧ ¬ (255 : Int32) < q1) (cq2 : ¬ q2 < 0 ∧ ¬ (255 : Int32) < q2) (cq3 : ¬ q3 < 0 ∧ ¬ (255 : Int32) < q3) (cq4 : ¬ q4 < 0 ∧ ¬ (255 : Int32) < q4) :
    Met l Z EL0 n0 (⟨"java/util/Arrays", "copyOfRange", "([BII)[B"⟩ : MethodName) jdk_65_method_132_code 3 (some (.array .byte)) [] ({ frames := 2, cells := 1, slots := 2, locals := 34 } : Room) #[(.ref x1), (.int (2 : Int32)), (.int (4 : Int32))] h0 [] [] (fun v h' => ∃ (r : Addr) (kc : ClassId), v = some (.ref r) ∧ h0.size ≤ r ∧ Arv Z h' r kc .byte (2 : Int32) [(.int (StrChars.lo8 q3)), (.int (StrChars.lo8 q4))] (.int (0 : Int32))) := by
  refine Met.of (plainFor_of_name pn3) O0 ?_
  intro p e s m below meth c T0 hx hby hml hret hlk hnm hs W0
  have W0 : Wk p l e _ s m _ below meth c Z EL0 n0 [] "java/util/Arrays" [] T0 0 0 h0 := W0
  have hSA := fun d hd => hw d (sa_in d hd)
  have hws := fun d hd => hw d (ws_in d hd)
  have hln := fun d hd => hw d (ln_in d hd)
  have hch := fun d hd => hw d (ch_in d hd)
  have heq := fun d hd => hw d (eq_in d hd)
  have hem := fun d hd => hw d (em_in d hd)
  refine Go.of (fun _ kk => castTop (ef341 m x1 (2 : Int32) (4 : Int32)) kk) ?_
  refine gof T0 m 13 #[vr x1, vi 2, vi 4] [(.int 4), (.int 2), (.ref x1)] (fun _ kk => XS.iloadN W0.here hx rfl (hb hby d1014_0) rfl (XS.ifYes W0.here hx rfl (pc0 := 1) (pc' := 10) rfl (hb hby d1014_1) rfl (XT.i0_ne_t (by decide +kernel)) (by decide +kernel) (by decide +kernel) (XS.aloadN W0.here hx rfl (hb hby d1014_10) rfl rfl (XS.iloadN W0.here hx rfl (hb hby d1014_11) rfl (XS.iloadN W0.here hx rfl (hb hby d1014_12) rfl kk))))) ?_
  refine W0.callS hx hEL (hw _ (mI 180 rfl)) (hw _ (mI 181 rfl)) (hw _ (mI 178 rfl)) (hw _ (mI 182 rfl)) (by decide +kernel) (argsL := [(.ref x1), (.int (2 : Int32)), (.int (4 : Int32))]) (rest := []) (rm340 l Z a0 hw hEL zc SC hzc fm SF rfm x1 kc q1 q2 q3 q4 h0 W0.old A1 cq1 cq2 cq3 cq4) all0 (by decide +kernel) (Wd := 0) (by decide +kernel) (by decide +kernel) (by decide +kernel) all0 rfl (by rw [hml]; rfl) (lenOf pd6 rfl) rfl (by show 2 * 0 + _ ≤ _; exact Nat.le_of_eq rfl) (hb hby d1014_13) (fun T1 h1 v1 W1 K1 q1 => ?_)
  obtain ⟨r1, kc1, rfl, lr1, A1⟩ := q1
  have gr1 : n0 ≤ r1 ∧ s.heap.size ≤ r1 := ⟨Nat.le_trans W0.n0le lr1, Nat.le_trans W0.s0le lr1⟩
  show Go p e below _ (T1.setTop (mkF m 16 #[vr x1, vi 2, vi 4] [(.ref r1)]))
  exact W1.retA hx hEL hs hlk (by decide +kernel) (by decide +kernel) hret rfl rfl (hb hby d1014_16) ⟨r1, kc1, rfl, hs ▸ gr1.2, A1⟩
theorem ef342 (m : MethodId) (x0 : Addr) (x1 : Int32) (x2 : Int32)  : entryFrame m #[(.ref x0), (.int x1), (.int x2)] 3 = mkF m 0 #[vr x0, vi x1, vi x2] [] := by first | (simp [entryFrame, mkF, argsToLocals, Value.category]; done) | rfl | rfl
set_option maxRecDepth 65536 in
set_option maxHeartbeats 40000000 in
theorem rm342 (l : Launch) (Z : State) (a0 : Array Value) (hw : ∀ d ∈ tables_1, d.before a0 Z = true) (hEL : EW Z a0 EL0) (zc : Int32) (SC : Sta Z Z.heap "java/lang/String" "COMPACT_STRINGS" "Z" (.int zc)) (hzc : ¬ zc = 0) (fm : Value) (SF : Sta Z Z.heap "jdk/internal/util/Preconditions" "SIOOBE_FORMATTER" "Ljava/util/function/BiFunction;" fm) (rfm : fm.isRef = true) (x1 : Addr) (kc : ClassId) (q1 : Int32) (q2 : Int32) (q3 : Int32) (q4 : Int32) (h0 : Heap) {n0 : Nat} (O0 : Old Z n0 h0) (A1 : Arv Z h0 x1 kc .byte (4 : Int32) [(.int (StrChars.lo8 q1)), (.int (StrChars.lo8 q2)), (.int (StrChars.lo8 q3)), (.int (StrChars.lo8 q4))] (.int (0 : Int32))) (cq1 : ¬ q1 < 0 ∧ ¬ (255 : Int32) < q1) (cq2 : ¬ q2 < 0 ∧ ¬ (255 : Int32) < q2) (cq3 : ¬ q3 < 0 ∧ ¬ (255 : Int32) < q3) (cq4 : ¬ q4 < 0 ∧ ¬ (255 : Int32) < q4) :
    Met l Z EL0 n0 (⟨"java/lang/StringLatin1", "newString", "([BII)Ljava/lang/String;"⟩ : MethodName) jdk_43_method_47_code 3 (some (.object "java/lang/String")) [] ({ frames := 3, cells := 2, slots := 6, locals := 50 } : Room) #[(.ref x1), (.int (2 : Int32)), (.int (2 : Int32))] h0 [] [] (fun v h' => ∃ r : Addr, v = some (.ref r) ∧ h0.size ≤ r ∧ Str Z h' r [q3, q4]) := by
  refine Met.of (plainFor_of_name pn2) O0 ?_
  intro p e s m below meth c T0 hx hby hml hret hlk hnm hs W0
  have W0 : Wk p l e _ s m _ below meth c Z EL0 n0 [] "java/lang/StringLatin1" [] T0 0 0 h0 := W0
  have hSA := fun d hd => hw d (sa_in d hd)
  have hws := fun d hd => hw d (ws_in d hd)
  have hln := fun d hd => hw d (ln_in d hd)
  have hch := fun d hd => hw d (ch_in d hd)
  have heq := fun d hd => hw d (eq_in d hd)
  have hem := fun d hd => hw d (em_in d hd)
  refine Go.of (fun _ kk => castTop (ef342 m x1 (2 : Int32) (2 : Int32)) kk) ?_
  refine gof T0 m 7 #[vr x1, vi 2, vi 2] [] (fun _ kk => XS.iloadN W0.here hx rfl (hb hby d1015_0) rfl (XS.ifYes W0.here hx rfl (pc0 := 1) (pc' := 7) rfl (hb hby d1015_1) rfl (XT.i0_ne_t (by decide +kernel)) (by decide +kernel) (by decide +kernel) kk)) ?_
  refine W0.newO hx (hw _ (mI 175 rfl)) (hw _ (mI 6 rfl)) (hw _ (mI 7 rfl)) rfl (hb hby d1015_7) (by decide +kernel) (by decide +kernel) (fun T1 h1 b1 eb1 gb1 W1 K1 E1 D1 => ?_)
  have k2 : Fld Z h1 b1 "java/lang/String" "coder" "B" (.int (0 : Int32)) := D1 (Or.inr (hw _ (mI 31 rfl))) (ty := .byte) (by decide +kernel)
  have k3 : Fld Z h1 b1 "java/lang/String" "value" "[B" .null := D1 (Or.inr (hw _ (mI 33 rfl))) (ty := (.array .byte)) (by decide +kernel)
  refine gof T1 m 16 #[vr x1, vi 2, vi 2] [(.int 4), (.int 2), (.ref x1), (.ref b1), (.ref b1)] (fun _ kk => XS.dup W1.here hx rfl (hb hby d1015_10) rfl rfl (XS.aloadN W1.here hx rfl (hb hby d1015_11) rfl rfl (XS.iloadN W1.here hx rfl (hb hby d1015_12) rfl (XS.iloadN W1.here hx rfl (hb hby d1015_13) rfl (XS.iloadN W1.here hx rfl (hb hby d1015_14) rfl (XS.iadd W1.here hx rfl (hb hby d1015_15) rfl kk)))))) ?_
  have k5 := (A1.keep K1 nin0)
  refine W1.callS hx hEL (hw _ (mI 176 rfl)) (hw _ (mI 177 rfl)) (hw _ (mI 178 rfl)) (hw _ (mI 179 rfl)) (by decide +kernel) (argsL := [(.ref x1), (.int (2 : Int32)), (.int (4 : Int32))]) (rest := [(.ref b1), (.ref b1)]) (rm341 l Z a0 hw hEL zc SC hzc fm SF rfm x1 kc q1 q2 q3 q4 h1 W1.old k5 cq1 cq2 cq3 cq4) all0 (by decide +kernel) (Wd := 2) (by decide +kernel) (by decide +kernel) (by decide +kernel) all0 rfl (by rw [hml]; rfl) (lenOf pd6 rfl) rfl (by show 2 * 0 + _ ≤ _; exact Nat.le_of_eq rfl) (hb hby d1015_16) (fun T4 h4 v4 W4 K4 q4 => ?_)
  obtain ⟨r4, kc4, rfl, lr4, A4⟩ := q4
  have gr4 : n0 ≤ r4 ∧ s.heap.size ≤ r4 := ⟨Nat.le_trans W1.n0le lr4, Nat.le_trans W1.s0le lr4⟩
  refine gof T4 m 20 #[vr x1, vi 2, vi 2] [(.int 0), (.ref r4), (.ref b1), (.ref b1)] (fun _ kk => XS.iconst W4.here hx rfl (hb hby d1015_19) kk) ?_
  have k7 := (E1.keep K4)
  have k8 := (k3.keep K4 nin0)
  have k9 := (k2.keep K4 nin0)
  refine W4.callP hx hEL rfl (hw _ (mI 191 rfl)) (hw _ (mI 192 rfl)) (hw _ (mI 7 rfl)) (hw _ (mI 193 rfl)) (by decide +kernel) (a := b1) (argsL := [(.ref r4), (.int (0 : Int32))]) (rest := [(.ref b1)]) (rm12 l Z a0 hw hEL zc SC hzc fm SF rfm b1 r4 h4 W4.old k7 k8 k9 gb1.1) (allS (mI 0 rfl) all0) (by decide +kernel) (Wd := 1) (by decide +kernel) (by decide +kernel) (by decide +kernel) (allS ⟨gb1.1, (Or.inr gb1.2)⟩ all0) rfl (by rw [hml]; rfl) (lenOf pd7 rfl) rfl (by show 2 * 0 + _ ≤ _; exact Nat.le_of_eq rfl) (hb hby d1015_20) (fun T6 h6 v6 W6 K6 q6 => ?_)
  obtain ⟨rfl, Fv6, Fc6⟩ := q6
  show Go p e below _ (T6.setTop (mkF m 23 #[vr x1, vi 2, vi 2] [(.ref b1)]))
  have k10 := (k7.keep K6)
  have k11 := (A4.keep K6 (ninS (ne_of_born lr4 E1.lt (Nat.le_refl _)).symm nin0))
  exact W6.retA hx hEL hs hlk (by decide +kernel) (by decide +kernel) hret rfl rfl (hb hby d1015_23) ⟨b1, rfl, hs ▸ gb1.2, ⟨r4, kc4, _, _, _, k10, Fv6, Fc6, k11, StrChars.Road.codOf (cs := [q3, q4]) (n := 2) rfl (allSi cq3.2 (allSi cq4.2 all0i)), up255 (allSi cq3 (allSi cq4 all0i)), Nat.le_of_ble_eq_true rfl⟩⟩
theorem ef343 (m : MethodId) (x0 : Addr) (x1 : Int32) (x2 : Int32)  : entryFrame m #[(.ref x0), (.int x1), (.int x2)] 5 = mkF m 0 #[vr x0, vi x1, vi x2, U0, U0] [] := by first | (simp [entryFrame, mkF, argsToLocals, Value.category]; done) | rfl | rfl
set_option maxRecDepth 65536 in
set_option maxHeartbeats 40000000 in
theorem rm343 (l : Launch) (Z : State) (a0 : Array Value) (hw : ∀ d ∈ tables_1, d.before a0 Z = true) (hEL : EW Z a0 EL0) (zc : Int32) (SC : Sta Z Z.heap "java/lang/String" "COMPACT_STRINGS" "Z" (.int zc)) (hzc : ¬ zc = 0) (fm : Value) (SF : Sta Z Z.heap "jdk/internal/util/Preconditions" "SIOOBE_FORMATTER" "Ljava/util/function/BiFunction;" fm) (rfm : fm.isRef = true) (x1 : Addr) (q1 : Int32) (q2 : Int32) (q3 : Int32) (q4 : Int32) (h0 : Heap) {n0 : Nat} (O0 : Old Z n0 h0) (S1 : Str Z h0 x1 [q1, q2, q3, q4]) (cq1 : ¬ q1 < 0 ∧ ¬ (255 : Int32) < q1) (cq2 : ¬ q2 < 0 ∧ ¬ (255 : Int32) < q2) (cq3 : ¬ q3 < 0 ∧ ¬ (255 : Int32) < q3) (cq4 : ¬ q4 < 0 ∧ ¬ (255 : Int32) < q4) :
    Met l Z EL0 n0 (⟨"java/lang/String", "substring", "(II)Ljava/lang/String;"⟩ : MethodName) jdk_42_method_92_code 5 (some (.object "java/lang/String")) [] ({ frames := 4, cells := 2, slots := 6, locals := 64 } : Room) #[(.ref x1), (.int (2 : Int32)), (.int (4 : Int32))] h0 [] [] (fun v h' => ∃ r : Addr, v = some (.ref r) ∧ h0.size ≤ r ∧ Str Z h' r [q3, q4]) := by
  refine Met.of (plainFor_of_name pn1) O0 ?_
  intro p e s m below meth c T0 hx hby hml hret hlk hnm hs W0
  have W0 : Wk p l e _ s m _ below meth c Z EL0 n0 [] "java/lang/String" [] T0 0 0 h0 := W0
  have hSA := fun d hd => hw d (sa_in d hd)
  have hws := fun d hd => hw d (ws_in d hd)
  have hln := fun d hd => hw d (ln_in d hd)
  have hch := fun d hd => hw d (ch_in d hd)
  have heq := fun d hd => hw d (eq_in d hd)
  have hem := fun d hd => hw d (em_in d hd)
  refine Go.of (fun _ kk => castTop (ef343 m x1 (2 : Int32) (4 : Int32)) kk) ?_
  show Go p e below _ (T0.setTop (mkF m 0 #[vr x1, vi 2, vi 4, U0, U0] []))
  obtain ⟨t1, kb1, E1, Fv1, Fc1, A1⟩ := S1.open_ (snd255 (allSi cq1 (allSi cq2 (allSi cq3 (allSi cq4 all0i)))))
  have V1 : Arv Z h0 t1 kb1 .byte (4 : Int32) [(.int (StrChars.lo8 q1)), (.int (StrChars.lo8 q2)), (.int (StrChars.lo8 q3)), (.int (StrChars.lo8 q4))] (.int (0 : Int32)) := A1
  refine gof T0 m 1 #[vr x1, vi 2, vi 4, U0, U0] [(.ref x1)] (fun _ kk => XS.aloadN W0.here hx rfl (hb hby d1016_0) rfl rfl kk) ?_
  refine W0.strLen hx hln (hw _ (mI 6 rfl)) SC hzc S1 (hw _ (mI 68 rfl)) (hw _ (mI 69 rfl)) (hw _ (mI 71 rfl)) (hw _ (mI 70 rfl)) (by decide +kernel) (Wd := 0) (by decide +kernel) (by decide +kernel) (by decide +kernel) rfl (by rw [hml]; rfl) rfl (by show 2 * 0 + _ ≤ _; exact Nat.le_of_eq rfl) (hb hby d1016_1) (fun T2 W2 => ?_)
  show Go p e below _ (T2.setTop (mkF m 4 #[vr x1, vi 2, vi 4, U0, U0] [(.int 4)]))
  refine gof T2 m 8 #[vr x1, vi 2, vi 4, vi 4, U0] [(.int 4), (.int 4), (.int 2)] (fun _ kk => XS.istoreN W2.here hx rfl (hb hby d1016_4) rfl (l' := #[vr x1, vi 2, vi 4, vi 4, U0]) rfl (XS.iloadN W2.here hx rfl (hb hby d1016_5) rfl (XS.iloadN W2.here hx rfl (hb hby d1016_6) rfl (XS.iloadN W2.here hx rfl (hb hby d1016_7) rfl kk)))) ?_
  refine W2.callS hx hEL (hw _ (mI 166 rfl)) (hw _ (mI 167 rfl)) (hw _ (mI 7 rfl)) (hw _ (mI 168 rfl)) (by decide +kernel) (argsL := [(.int (2 : Int32)), (.int (4 : Int32)), (.int (4 : Int32))]) (rest := []) (rm11 l Z a0 hw hEL zc SC hzc fm SF rfm (2 : Int32) (4 : Int32) (4 : Int32) h0 W2.old (by decide +kernel) (by decide +kernel) (by decide +kernel)) all0 (by decide +kernel) (Wd := 0) (by decide +kernel) (by decide +kernel) (by decide +kernel) all0 rfl (by rw [hml]; rfl) (lenOf pd8 rfl) rfl (by show 2 * 0 + _ ≤ _; exact Nat.le_of_eq rfl) (hb hby d1016_8) (fun T3 h3 v3 W3 K3 q3 => ?_)
  obtain ⟨rfl, rfl⟩ := q3
  refine gof T3 m 28 #[vr x1, vi 2, vi 4, vi 4, vi 2] [(.ref x1)] (fun _ kk => XS.iloadN W3.here hx rfl (hb hby d1016_11) rfl (XS.ifYes W3.here hx rfl (pc0 := 12) (pc' := 22) rfl (hb hby d1016_12) rfl (XT.i0_ne_t (by decide +kernel)) (by decide +kernel) (by decide +kernel) (XS.iloadN W3.here hx rfl (hb hby d1016_22) rfl (XS.iloadN W3.here hx rfl (hb hby d1016_23) rfl (XS.isub W3.here hx rfl (hb hby d1016_24) rfl (XS.istore W3.here hx rfl (hb hby d1016_25) rfl (l' := #[vr x1, vi 2, vi 4, vi 4, vi 2]) rfl (XS.aloadN W3.here hx rfl (hb hby d1016_27) rfl rfl kk))))))) ?_
  refine W3.callV hx hEL (hw _ (mI 63 rfl)) (hw _ (mI 64 rfl)) (hw _ (mI 66 rfl)) (hw _ (mI 65 rfl)) (hw _ (mI 7 rfl)) (hw _ (mI 67 rfl)) (by decide +kernel) E1 (a := x1) (argsL := []) (rest := []) (rm6 l Z a0 hw hEL zc SC hzc fm SF rfm x1 h0 W3.old Fc1) all0 (by decide +kernel) (Wd := 0) (by decide +kernel) (by decide +kernel) (by decide +kernel) all0 rfl (by rw [hml]; rfl) (lenOf pd4 rfl) rfl (by show 2 * 0 + _ ≤ _; exact Nat.le_of_eq rfl) (hb hby d1016_28) (fun T4 h4 v4 W4 K4 q4 => ?_)
  obtain ⟨rfl, rfl⟩ := q4
  refine gof T4 m 35 #[vr x1, vi 2, vi 4, vi 4, vi 2] [(.ref x1)] (fun _ kk => XS.ifNo W4.here hx rfl (hb hby d1016_31) rfl (XT.i0_eq_f (by decide +kernel)) (XS.aloadN W4.here hx rfl (hb hby d1016_34) rfl rfl kk)) ?_
  refine W4.getF hx (host := "") (Or.inl (hw _ (mI 32 rfl))) Via.refl Fv1 rfl rfl (hb hby d1016_35) (fun T5 W5 => ?_)
  refine gof T5 m 41 #[vr x1, vi 2, vi 4, vi 4, vi 2] [(.int 2), (.int 2), (.ref t1)] (fun _ kk => XS.iloadN W5.here hx rfl (hb hby d1016_38) rfl (XS.iload W5.here hx rfl (hb hby d1016_39) rfl kk)) ?_
  refine W5.callS hx hEL (hw _ (mI 172 rfl)) (hw _ (mI 173 rfl)) (hw _ (mI 80 rfl)) (hw _ (mI 174 rfl)) (by decide +kernel) (argsL := [(.ref t1), (.int (2 : Int32)), (.int (2 : Int32))]) (rest := []) (rm342 l Z a0 hw hEL zc SC hzc fm SF rfm t1 kb1 q1 q2 q3 q4 h0 W5.old V1 cq1 cq2 cq3 cq4) all0 (by decide +kernel) (Wd := 0) (by decide +kernel) (by decide +kernel) (by decide +kernel) all0 rfl (by rw [hml]; rfl) (lenOf pd9 rfl) rfl (by show 2 * 0 + _ ≤ _; exact Nat.le_of_eq rfl) (hb hby d1016_41) (fun T6 h6 v6 W6 K6 q6 => ?_)
  obtain ⟨r6, rfl, lr6, S6⟩ := q6
  have gr6 : n0 ≤ r6 ∧ s.heap.size ≤ r6 := ⟨Nat.le_trans W5.n0le lr6, Nat.le_trans W5.s0le lr6⟩
  have E6 := S6.exa
  refine gof T6 m 57 #[vr x1, vi 2, vi 4, vi 4, vi 2] [(.ref r6)] (fun _ kk => XS.goto W6.here hx rfl (pc0 := 44) (pc' := 57) rfl (hb hby d1016_44) (by decide +kernel) (by decide +kernel) kk) ?_
  exact W6.retA hx hEL hs hlk (by decide +kernel) (by decide +kernel) hret rfl rfl (hb hby d1016_57) ⟨r6, rfl, hs ▸ gr6.2, S6⟩
theorem ef344 (m : MethodId) (x0 : Addr) (x1 : Int32)  : entryFrame m #[(.ref x0), (.int x1)] 2 = mkF m 0 #[vr x0, vi x1] [] := by first | (simp [entryFrame, mkF, argsToLocals, Value.category]; done) | rfl | rfl
set_option maxRecDepth 65536 in
set_option maxHeartbeats 40000000 in
theorem rm344 (l : Launch) (Z : State) (a0 : Array Value) (hw : ∀ d ∈ tables_1, d.before a0 Z = true) (hEL : EW Z a0 EL0) (zc : Int32) (SC : Sta Z Z.heap "java/lang/String" "COMPACT_STRINGS" "Z" (.int zc)) (hzc : ¬ zc = 0) (fm : Value) (SF : Sta Z Z.heap "jdk/internal/util/Preconditions" "SIOOBE_FORMATTER" "Ljava/util/function/BiFunction;" fm) (rfm : fm.isRef = true) (x1 : Addr) (q1 : Int32) (q2 : Int32) (q3 : Int32) (q4 : Int32) (h0 : Heap) {n0 : Nat} (O0 : Old Z n0 h0) (S1 : Str Z h0 x1 [q1, q2, q3, q4]) (cq1 : ¬ q1 < 0 ∧ ¬ (255 : Int32) < q1) (cq2 : ¬ q2 < 0 ∧ ¬ (255 : Int32) < q2) (cq3 : ¬ q3 < 0 ∧ ¬ (255 : Int32) < q3) (cq4 : ¬ q4 < 0 ∧ ¬ (255 : Int32) < q4) :
    Met l Z EL0 n0 (⟨"java/lang/String", "substring", "(I)Ljava/lang/String;"⟩ : MethodName) jdk_42_method_91_code 2 (some (.object "java/lang/String")) [] ({ frames := 5, cells := 2, slots := 6, locals := 80 } : Room) #[(.ref x1), (.int (2 : Int32))] h0 [] [] (fun v h' => ∃ r : Addr, v = some (.ref r) ∧ h0.size ≤ r ∧ Str Z h' r [q3, q4]) := by
  refine Met.of (plainFor_of_name pn1) O0 ?_
  intro p e s m below meth c T0 hx hby hml hret hlk hnm hs W0
  have W0 : Wk p l e _ s m _ below meth c Z EL0 n0 [] "java/lang/String" [] T0 0 0 h0 := W0
  have hSA := fun d hd => hw d (sa_in d hd)
  have hws := fun d hd => hw d (ws_in d hd)
  have hln := fun d hd => hw d (ln_in d hd)
  have hch := fun d hd => hw d (ch_in d hd)
  have heq := fun d hd => hw d (eq_in d hd)
  have hem := fun d hd => hw d (em_in d hd)
  refine Go.of (fun _ kk => castTop (ef344 m x1 (2 : Int32)) kk) ?_
  refine gof T0 m 3 #[vr x1, vi 2] [(.ref x1), (.int 2), (.ref x1)] (fun _ kk => XS.aloadN W0.here hx rfl (hb hby d1017_0) rfl rfl (XS.iloadN W0.here hx rfl (hb hby d1017_1) rfl (XS.aloadN W0.here hx rfl (hb hby d1017_2) rfl rfl kk))) ?_
  refine W0.strLen hx hln (hw _ (mI 6 rfl)) SC hzc S1 (hw _ (mI 68 rfl)) (hw _ (mI 69 rfl)) (hw _ (mI 71 rfl)) (hw _ (mI 70 rfl)) (by decide +kernel) (Wd := 2) (by decide +kernel) (by decide +kernel) (by decide +kernel) rfl (by rw [hml]; rfl) rfl (by show 2 * 0 + _ ≤ _; exact Nat.le_of_eq rfl) (hb hby d1017_3) (fun T1 W1 => ?_)
  show Go p e below _ (T1.setTop (mkF m 6 #[vr x1, vi 2] [(.int 4), (.int 2), (.ref x1)]))
  have k3 := S1.exa
  refine W1.callV hx hEL (hw _ (mI 199 rfl)) (hw _ (mI 162 rfl)) (hw _ (mI 164 rfl)) (hw _ (mI 163 rfl)) (hw _ (mI 7 rfl)) (hw _ (mI 165 rfl)) (by decide +kernel) k3 (a := x1) (argsL := [(.int (2 : Int32)), (.int (4 : Int32))]) (rest := []) (rm343 l Z a0 hw hEL zc SC hzc fm SF rfm x1 q1 q2 q3 q4 h0 W1.old S1 cq1 cq2 cq3 cq4) all0 (by decide +kernel) (Wd := 0) (by decide +kernel) (by decide +kernel) (by decide +kernel) all0 rfl (by rw [hml]; rfl) (lenOf pd10 rfl) rfl (by show 2 * 0 + _ ≤ _; exact Nat.le_of_eq rfl) (hb hby d1017_6) (fun T2 h2 v2 W2 K2 q2 => ?_)
  obtain ⟨r2, rfl, lr2, S2⟩ := q2
  have gr2 : n0 ≤ r2 ∧ s.heap.size ≤ r2 := ⟨Nat.le_trans W1.n0le lr2, Nat.le_trans W1.s0le lr2⟩
  have E2 := S2.exa
  show Go p e below _ (T2.setTop (mkF m 9 #[vr x1, vi 2] [(.ref r2)]))
  exact W2.retA hx hEL hs hlk (by decide +kernel) (by decide +kernel) hret rfl rfl (hb hby d1017_9) ⟨r2, rfl, hs ▸ gr2.2, S2⟩
theorem ef350 (m : MethodId) (x0 : Addr) (x1 : Int32) (x2 : Int32)  : entryFrame m #[(.ref x0), (.int x1), (.int x2)] 5 = mkF m 0 #[vr x0, vi x1, vi x2, U0, U0] [] := by first | (simp [entryFrame, mkF, argsToLocals, Value.category]; done) | rfl | rfl
set_option maxRecDepth 65536 in
set_option maxHeartbeats 40000000 in
theorem rm350 (l : Launch) (Z : State) (a0 : Array Value) (hw : ∀ d ∈ tables_1, d.before a0 Z = true) (hEL : EW Z a0 EL0) (zc : Int32) (SC : Sta Z Z.heap "java/lang/String" "COMPACT_STRINGS" "Z" (.int zc)) (hzc : ¬ zc = 0) (fm : Value) (SF : Sta Z Z.heap "jdk/internal/util/Preconditions" "SIOOBE_FORMATTER" "Ljava/util/function/BiFunction;" fm) (rfm : fm.isRef = true) (x1 : Addr) (kc : ClassId) (q1 : Int32) (q2 : Int32) (q3 : Int32) (q4 : Int32) (h0 : Heap) {n0 : Nat} (O0 : Old Z n0 h0) (A1 : Arv Z h0 x1 kc .byte (4 : Int32) [(.int (StrChars.lo8 q1)), (.int (StrChars.lo8 q2)), (.int (StrChars.lo8 q3)), (.int (StrChars.lo8 q4))] (.int (0 : Int32))) (cq1 : ¬ q1 < 0 ∧ ¬ (255 : Int32) < q1) (cq2 : ¬ q2 < 0 ∧ ¬ (255 : Int32) < q2) (cq3 : ¬ q3 < 0 ∧ ¬ (255 : Int32) < q3) (cq4 : ¬ q4 < 0 ∧ ¬ (255 : Int32) < q4) :
    Met l Z EL0 n0 (⟨"java/util/Arrays", "copyOfRangeByte", "([BII)[B"⟩ : MethodName) jdk_65_method_133_code 5 (some (.array .byte)) [] ({ frames := 1, cells := 1, slots := 1, locals := 18 } : Room) #[(.ref x1), (.int (3 : Int32)), (.int (4 : Int32))] h0 [] [] (fun v h' => ∃ (r : Addr) (kc : ClassId), v = some (.ref r) ∧ h0.size ≤ r ∧ Arv Z h' r kc .byte (1 : Int32) [(.int (StrChars.lo8 q4))] (.int (0 : Int32))) := by
  refine Met.of (plainFor_of_name pn3) O0 ?_
  intro p e s m below meth c T0 hx hby hml hret hlk hnm hs W0
  have W0 : Wk p l e _ s m _ below meth c Z EL0 n0 [] "java/util/Arrays" [] T0 0 0 h0 := W0
  have hSA := fun d hd => hw d (sa_in d hd)
  have hws := fun d hd => hw d (ws_in d hd)
  have hln := fun d hd => hw d (ln_in d hd)
  have hch := fun d hd => hw d (ch_in d hd)
  have heq := fun d hd => hw d (eq_in d hd)
  have hem := fun d hd => hw d (em_in d hd)
  refine Go.of (fun _ kk => castTop (ef350 m x1 (3 : Int32) (4 : Int32)) kk) ?_
  refine gof T0 m 2 #[vr x1, vi 3, vi 4, U0, U0] [(.int 4), (.int 3)] (fun _ kk => XS.iloadN W0.here hx rfl (hb hby d1013_0) rfl (XS.iloadN W0.here hx rfl (hb hby d1013_1) rfl kk)) ?_
  refine W0.callS hx hEL (hw _ (mI 183 rfl)) (hw _ (mI 184 rfl)) (hw _ (mI 178 rfl)) (hw _ (mI 185 rfl)) (by decide +kernel) (argsL := [(.int (3 : Int32)), (.int (4 : Int32))]) (rest := []) (rm9 l Z a0 hw hEL zc SC hzc fm SF rfm (3 : Int32) (4 : Int32) h0 W0.old (by decide +kernel)) all0 (by decide +kernel) (Wd := 0) (by decide +kernel) (by decide +kernel) (by decide +kernel) all0 rfl (by rw [hml]; rfl) (lenOf pd5 rfl) rfl (by show 2 * 0 + _ ≤ _; exact Nat.le_of_eq rfl) (hb hby d1013_2) (fun T1 h1 v1 W1 K1 q1 => ?_)
  obtain ⟨rfl, rfl⟩ := q1
  refine gof T1 m 10 #[vr x1, vi 3, vi 4, vi 1, U0] [(.int 1)] (fun _ kk => XS.iloadN W1.here hx rfl (hb hby d1013_5) rfl (XS.iloadN W1.here hx rfl (hb hby d1013_6) rfl (XS.isub W1.here hx rfl (hb hby d1013_7) rfl (XS.istoreN W1.here hx rfl (hb hby d1013_8) rfl (l' := #[vr x1, vi 3, vi 4, vi 1, U0]) rfl (XS.iloadN W1.here hx rfl (hb hby d1013_9) rfl kk))))) ?_
  refine W1.newP hx (hw _ (mI 23 rfl)) rfl (hb hby d1013_10) rfl (by decide +kernel) (cap := 1) (by decide +kernel) (by decide +kernel) (by decide +kernel) (by decide +kernel) (fun T2 h2 b2 c2 eb2 gb2 W2 K2 A2 => ?_)
  have V2 : Arv Z h2 b2 c2 .byte (1 : Int32) [(.int (0 : Int32))] (.int (0 : Int32)) := A2
  refine gof T2 m 20 #[vr x1, vi 3, vi 4, vi 1, vr b2] [(.ref x1), (.int 0), (.ref b2), (.int 3), (.ref x1)] (fun _ kk => XS.astore W2.here hx rfl (hb hby d1013_12) rfl rfl (l' := #[vr x1, vi 3, vi 4, vi 1, vr b2]) rfl (XS.aloadN W2.here hx rfl (hb hby d1013_14) rfl rfl (XS.iloadN W2.here hx rfl (hb hby d1013_15) rfl (XS.aload W2.here hx rfl (hb hby d1013_16) rfl rfl (XS.iconst W2.here hx rfl (hb hby d1013_18) (XS.aloadN W2.here hx rfl (hb hby d1013_19) rfl rfl kk)))))) ?_
  have k3 := (A1.keep K2 nin0)
  refine W2.alen hx k3 rfl rfl (hb hby d1013_20) ?_
  refine gof T2 m 24 #[vr x1, vi 3, vi 4, vi 1, vr b2] [(.int 1), (.int 1), (.int 0), (.ref b2), (.int 3), (.ref x1)] (fun _ kk => XS.iloadN W2.here hx rfl (hb hby d1013_21) rfl (XS.isub W2.here hx rfl (hb hby d1013_22) rfl (XS.iloadN W2.here hx rfl (hb hby d1013_23) rfl kk))) ?_
  refine W2.callS hx hEL (hw _ (mI 186 rfl)) (hw _ (mI 90 rfl)) (hw _ (mI 87 rfl)) (hw _ (mI 91 rfl)) (by decide +kernel) (argsL := [(.int (1 : Int32)), (.int (1 : Int32))]) (rest := [(.int (0 : Int32)), (.ref b2), (.int (3 : Int32)), (.ref x1)]) (rm5 l Z a0 hw hEL zc SC hzc fm SF rfm (1 : Int32) h2 W2.old ) all0 (by decide +kernel) (Wd := 4) (by decide +kernel) (by decide +kernel) (by decide +kernel) all0 rfl (by rw [hml]; rfl) (lenOf pd2 rfl) rfl (by show 2 * 0 + _ ≤ _; exact Nat.le_of_eq rfl) (hb hby d1013_24) (fun T4 h4 v4 W4 K4 q4 => ?_)
  obtain ⟨rfl, rfl⟩ := q4
  show Go p e below _ (T4.setTop (mkF m 27 #[vr x1, vi 3, vi 4, vi 1, vr b2] [(.int 1), (.int 0), (.ref b2), (.int 3), (.ref x1)]))
  refine W4.cp hx (hw _ (mI 187 rfl)) (hw _ (mI 190 rfl)) (hw _ (mI 188 rfl)) (hw _ (mI 189 rfl)) (us := [(.int (StrChars.lo8 q4))]) k3 V2 rfl (by decide) (by decide) (by decide) (by decide) (by decide) rfl (Nat.le_of_ble_eq_true rfl) gb2.1 (Or.inr gb2.2) (mI 0 rfl) rfl (by rw [hml]; rfl) rfl (hb hby d1013_27) (by decide +kernel) (Wd := 0) (by show 2 * 0 + _ ≤ _; exact Nat.le_of_eq rfl) (by decide +kernel) (fun T5 h5 W5 K5 A5 => ?_)
  have V5 : Arv Z h5 b2 c2 .byte (1 : Int32) [(.int (StrChars.lo8 q4))] (.int (0 : Int32)) := A5
  refine gof T5 m 32 #[vr x1, vi 3, vi 4, vi 1, vr b2] [(.ref b2)] (fun _ kk => XS.aload W5.here hx rfl (hb hby d1013_30) rfl rfl kk) ?_
  exact W5.retA hx hEL hs hlk (by decide +kernel) (by decide +kernel) hret rfl rfl (hb hby d1013_32) ⟨b2, c2, rfl, hs ▸ gb2.2, V5⟩
theorem ef351 (m : MethodId) (x0 : Addr) (x1 : Int32) (x2 : Int32)  : entryFrame m #[(.ref x0), (.int x1), (.int x2)] 3 = mkF m 0 #[vr x0, vi x1, vi x2] [] := by first | (simp [entryFrame, mkF, argsToLocals, Value.category]; done) | rfl | rfl
set_option maxRecDepth 65536 in
set_option maxHeartbeats 40000000 in
theorem rm351 (l : Launch) (Z : State) (a0 : Array Value) (hw : ∀ d ∈ tables_1, d.before a0 Z = true) (hEL : EW Z a0 EL0) (zc : Int32) (SC : Sta Z Z.heap "java/lang/String" "COMPACT_STRINGS" "Z" (.int zc)) (hzc : ¬ zc = 0) (fm : Value) (SF : Sta Z Z.heap "jdk/internal/util/Preconditions" "SIOOBE_FORMATTER" "Ljava/util/function/BiFunction;" fm) (rfm : fm.isRef = true) (x1 : Addr) (kc : ClassId) (q1 : Int32) (q2 : Int32) (q3 : Int32) (q4 : Int32) (h0 : Heap) {n0 : Nat} (O0 : Old Z n0 h0) (A1 : Arv Z h0 x1 kc .byte (4 : Int32) [(.int (StrChars.lo8 q1)), (.int (StrChars.lo8 q2)), (.int (StrChars.lo8 q3)), (.int (StrChars.lo8 q4))] (.int (0 : Int32))) (cq1 : ¬ q1 < 0 ∧ ¬ (255 : Int32) < q1) (cq2 : ¬ q2 < 0 ∧ ¬ (255 : Int32) < q2) (cq3 : ¬ q3 < 0 ∧ ¬ (255 : Int32) < q3) (cq4 : ¬ q4 < 0 ∧ ¬ (255 : Int32) < q4) :
    Met l Z EL0 n0 (⟨"java/util/Arrays", "copyOfRange", "([BII)[B"⟩ : MethodName) jdk_65_method_132_code 3 (some (.array .byte)) [] ({ frames := 2, cells := 1, slots := 1, locals := 34 } : Room) #[(.ref x1), (.int (3 : Int32)), (.int (4 : Int32))] h0 [] [] (fun v h' => ∃ (r : Addr) (kc : ClassId), v = some (.ref r) ∧ h0.size ≤ r ∧ Arv Z h' r kc .byte (1 : Int32) [(.int (StrChars.lo8 q4))] (.int (0 : Int32))) := by
  refine Met.of (plainFor_of_name pn3) O0 ?_
  intro p e s m below meth c T0 hx hby hml hret hlk hnm hs W0
  have W0 : Wk p l e _ s m _ below meth c Z EL0 n0 [] "java/util/Arrays" [] T0 0 0 h0 := W0
  have hSA := fun d hd => hw d (sa_in d hd)
  have hws := fun d hd => hw d (ws_in d hd)
  have hln := fun d hd => hw d (ln_in d hd)
  have hch := fun d hd => hw d (ch_in d hd)
  have heq := fun d hd => hw d (eq_in d hd)
  have hem := fun d hd => hw d (em_in d hd)
  refine Go.of (fun _ kk => castTop (ef351 m x1 (3 : Int32) (4 : Int32)) kk) ?_
  refine gof T0 m 13 #[vr x1, vi 3, vi 4] [(.int 4), (.int 3), (.ref x1)] (fun _ kk => XS.iloadN W0.here hx rfl (hb hby d1014_0) rfl (XS.ifYes W0.here hx rfl (pc0 := 1) (pc' := 10) rfl (hb hby d1014_1) rfl (XT.i0_ne_t (by decide +kernel)) (by decide +kernel) (by decide +kernel) (XS.aloadN W0.here hx rfl (hb hby d1014_10) rfl rfl (XS.iloadN W0.here hx rfl (hb hby d1014_11) rfl (XS.iloadN W0.here hx rfl (hb hby d1014_12) rfl kk))))) ?_
  refine W0.callS hx hEL (hw _ (mI 180 rfl)) (hw _ (mI 181 rfl)) (hw _ (mI 178 rfl)) (hw _ (mI 182 rfl)) (by decide +kernel) (argsL := [(.ref x1), (.int (3 : Int32)), (.int (4 : Int32))]) (rest := []) (rm350 l Z a0 hw hEL zc SC hzc fm SF rfm x1 kc q1 q2 q3 q4 h0 W0.old A1 cq1 cq2 cq3 cq4) all0 (by decide +kernel) (Wd := 0) (by decide +kernel) (by decide +kernel) (by decide +kernel) all0 rfl (by rw [hml]; rfl) (lenOf pd6 rfl) rfl (by show 2 * 0 + _ ≤ _; exact Nat.le_of_eq rfl) (hb hby d1014_13) (fun T1 h1 v1 W1 K1 q1 => ?_)
  obtain ⟨r1, kc1, rfl, lr1, A1⟩ := q1
  have gr1 : n0 ≤ r1 ∧ s.heap.size ≤ r1 := ⟨Nat.le_trans W0.n0le lr1, Nat.le_trans W0.s0le lr1⟩
  show Go p e below _ (T1.setTop (mkF m 16 #[vr x1, vi 3, vi 4] [(.ref r1)]))
  exact W1.retA hx hEL hs hlk (by decide +kernel) (by decide +kernel) hret rfl rfl (hb hby d1014_16) ⟨r1, kc1, rfl, hs ▸ gr1.2, A1⟩
theorem ef352 (m : MethodId) (x0 : Addr) (x1 : Int32) (x2 : Int32)  : entryFrame m #[(.ref x0), (.int x1), (.int x2)] 3 = mkF m 0 #[vr x0, vi x1, vi x2] [] := by first | (simp [entryFrame, mkF, argsToLocals, Value.category]; done) | rfl | rfl
set_option maxRecDepth 65536 in
set_option maxHeartbeats 40000000 in
theorem rm352 (l : Launch) (Z : State) (a0 : Array Value) (hw : ∀ d ∈ tables_1, d.before a0 Z = true) (hEL : EW Z a0 EL0) (zc : Int32) (SC : Sta Z Z.heap "java/lang/String" "COMPACT_STRINGS" "Z" (.int zc)) (hzc : ¬ zc = 0) (fm : Value) (SF : Sta Z Z.heap "jdk/internal/util/Preconditions" "SIOOBE_FORMATTER" "Ljava/util/function/BiFunction;" fm) (rfm : fm.isRef = true) (x1 : Addr) (kc : ClassId) (q1 : Int32) (q2 : Int32) (q3 : Int32) (q4 : Int32) (h0 : Heap) {n0 : Nat} (O0 : Old Z n0 h0) (A1 : Arv Z h0 x1 kc .byte (4 : Int32) [(.int (StrChars.lo8 q1)), (.int (StrChars.lo8 q2)), (.int (StrChars.lo8 q3)), (.int (StrChars.lo8 q4))] (.int (0 : Int32))) (cq1 : ¬ q1 < 0 ∧ ¬ (255 : Int32) < q1) (cq2 : ¬ q2 < 0 ∧ ¬ (255 : Int32) < q2) (cq3 : ¬ q3 < 0 ∧ ¬ (255 : Int32) < q3) (cq4 : ¬ q4 < 0 ∧ ¬ (255 : Int32) < q4) :
    Met l Z EL0 n0 (⟨"java/lang/StringLatin1", "newString", "([BII)Ljava/lang/String;"⟩ : MethodName) jdk_43_method_47_code 3 (some (.object "java/lang/String")) [] ({ frames := 3, cells := 2, slots := 5, locals := 50 } : Room) #[(.ref x1), (.int (3 : Int32)), (.int (1 : Int32))] h0 [] [] (fun v h' => ∃ r : Addr, v = some (.ref r) ∧ h0.size ≤ r ∧ Str Z h' r [q4]) := by
  refine Met.of (plainFor_of_name pn2) O0 ?_
  intro p e s m below meth c T0 hx hby hml hret hlk hnm hs W0
  have W0 : Wk p l e _ s m _ below meth c Z EL0 n0 [] "java/lang/StringLatin1" [] T0 0 0 h0 := W0
  have hSA := fun d hd => hw d (sa_in d hd)
  have hws := fun d hd => hw d (ws_in d hd)
  have hln := fun d hd => hw d (ln_in d hd)
  have hch := fun d hd => hw d (ch_in d hd)
  have heq := fun d hd => hw d (eq_in d hd)
  have hem := fun d hd => hw d (em_in d hd)
  refine Go.of (fun _ kk => castTop (ef352 m x1 (3 : Int32) (1 : Int32)) kk) ?_
  refine gof T0 m 7 #[vr x1, vi 3, vi 1] [] (fun _ kk => XS.iloadN W0.here hx rfl (hb hby d1015_0) rfl (XS.ifYes W0.here hx rfl (pc0 := 1) (pc' := 7) rfl (hb hby d1015_1) rfl (XT.i0_ne_t (by decide +kernel)) (by decide +kernel) (by decide +kernel) kk)) ?_
  refine W0.newO hx (hw _ (mI 175 rfl)) (hw _ (mI 6 rfl)) (hw _ (mI 7 rfl)) rfl (hb hby d1015_7) (by decide +kernel) (by decide +kernel) (fun T1 h1 b1 eb1 gb1 W1 K1 E1 D1 => ?_)
  have k2 : Fld Z h1 b1 "java/lang/String" "coder" "B" (.int (0 : Int32)) := D1 (Or.inr (hw _ (mI 31 rfl))) (ty := .byte) (by decide +kernel)
  have k3 : Fld Z h1 b1 "java/lang/String" "value" "[B" .null := D1 (Or.inr (hw _ (mI 33 rfl))) (ty := (.array .byte)) (by decide +kernel)
  refine gof T1 m 16 #[vr x1, vi 3, vi 1] [(.int 4), (.int 3), (.ref x1), (.ref b1), (.ref b1)] (fun _ kk => XS.dup W1.here hx rfl (hb hby d1015_10) rfl rfl (XS.aloadN W1.here hx rfl (hb hby d1015_11) rfl rfl (XS.iloadN W1.here hx rfl (hb hby d1015_12) rfl (XS.iloadN W1.here hx rfl (hb hby d1015_13) rfl (XS.iloadN W1.here hx rfl (hb hby d1015_14) rfl (XS.iadd W1.here hx rfl (hb hby d1015_15) rfl kk)))))) ?_
  have k5 := (A1.keep K1 nin0)
  refine W1.callS hx hEL (hw _ (mI 176 rfl)) (hw _ (mI 177 rfl)) (hw _ (mI 178 rfl)) (hw _ (mI 179 rfl)) (by decide +kernel) (argsL := [(.ref x1), (.int (3 : Int32)), (.int (4 : Int32))]) (rest := [(.ref b1), (.ref b1)]) (rm351 l Z a0 hw hEL zc SC hzc fm SF rfm x1 kc q1 q2 q3 q4 h1 W1.old k5 cq1 cq2 cq3 cq4) all0 (by decide +kernel) (Wd := 2) (by decide +kernel) (by decide +kernel) (by decide +kernel) all0 rfl (by rw [hml]; rfl) (lenOf pd6 rfl) rfl (by show 2 * 0 + _ ≤ _; exact Nat.le_of_eq rfl) (hb hby d1015_16) (fun T4 h4 v4 W4 K4 q4 => ?_)
  obtain ⟨r4, kc4, rfl, lr4, A4⟩ := q4
  have gr4 : n0 ≤ r4 ∧ s.heap.size ≤ r4 := ⟨Nat.le_trans W1.n0le lr4, Nat.le_trans W1.s0le lr4⟩
  refine gof T4 m 20 #[vr x1, vi 3, vi 1] [(.int 0), (.ref r4), (.ref b1), (.ref b1)] (fun _ kk => XS.iconst W4.here hx rfl (hb hby d1015_19) kk) ?_
  have k7 := (E1.keep K4)
  have k8 := (k3.keep K4 nin0)
  have k9 := (k2.keep K4 nin0)
  refine W4.callP hx hEL rfl (hw _ (mI 191 rfl)) (hw _ (mI 192 rfl)) (hw _ (mI 7 rfl)) (hw _ (mI 193 rfl)) (by decide +kernel) (a := b1) (argsL := [(.ref r4), (.int (0 : Int32))]) (rest := [(.ref b1)]) (rm12 l Z a0 hw hEL zc SC hzc fm SF rfm b1 r4 h4 W4.old k7 k8 k9 gb1.1) (allS (mI 0 rfl) all0) (by decide +kernel) (Wd := 1) (by decide +kernel) (by decide +kernel) (by decide +kernel) (allS ⟨gb1.1, (Or.inr gb1.2)⟩ all0) rfl (by rw [hml]; rfl) (lenOf pd7 rfl) rfl (by show 2 * 0 + _ ≤ _; exact Nat.le_of_eq rfl) (hb hby d1015_20) (fun T6 h6 v6 W6 K6 q6 => ?_)
  obtain ⟨rfl, Fv6, Fc6⟩ := q6
  show Go p e below _ (T6.setTop (mkF m 23 #[vr x1, vi 3, vi 1] [(.ref b1)]))
  have k10 := (k7.keep K6)
  have k11 := (A4.keep K6 (ninS (ne_of_born lr4 E1.lt (Nat.le_refl _)).symm nin0))
  exact W6.retA hx hEL hs hlk (by decide +kernel) (by decide +kernel) hret rfl rfl (hb hby d1015_23) ⟨b1, rfl, hs ▸ gb1.2, ⟨r4, kc4, _, _, _, k10, Fv6, Fc6, k11, StrChars.Road.codOf (cs := [q4]) (n := 1) rfl (allSi cq4.2 all0i), up255 (allSi cq4 all0i), Nat.le_of_ble_eq_true rfl⟩⟩
theorem ef353 (m : MethodId) (x0 : Addr) (x1 : Int32) (x2 : Int32)  : entryFrame m #[(.ref x0), (.int x1), (.int x2)] 5 = mkF m 0 #[vr x0, vi x1, vi x2, U0, U0] [] := by first | (simp [entryFrame, mkF, argsToLocals, Value.category]; done) | rfl | rfl
set_option maxRecDepth 65536 in
set_option maxHeartbeats 40000000 in
theorem rm353 (l : Launch) (Z : State) (a0 : Array Value) (hw : ∀ d ∈ tables_1, d.before a0 Z = true) (hEL : EW Z a0 EL0) (zc : Int32) (SC : Sta Z Z.heap "java/lang/String" "COMPACT_STRINGS" "Z" (.int zc)) (hzc : ¬ zc = 0) (fm : Value) (SF : Sta Z Z.heap "jdk/internal/util/Preconditions" "SIOOBE_FORMATTER" "Ljava/util/function/BiFunction;" fm) (rfm : fm.isRef = true) (x1 : Addr) (q1 : Int32) (q2 : Int32) (q3 : Int32) (q4 : Int32) (h0 : Heap) {n0 : Nat} (O0 : Old Z n0 h0) (S1 : Str Z h0 x1 [q1, q2, q3, q4]) (cq1 : ¬ q1 < 0 ∧ ¬ (255 : Int32) < q1) (cq2 : ¬ q2 < 0 ∧ ¬ (255 : Int32) < q2) (cq3 : ¬ q3 < 0 ∧ ¬ (255 : Int32) < q3) (cq4 : ¬ q4 < 0 ∧ ¬ (255 : Int32) < q4) :
    Met l Z EL0 n0 (⟨"java/lang/String", "substring", "(II)Ljava/lang/String;"⟩ : MethodName) jdk_42_method_92_code 5 (some (.object "java/lang/String")) [] ({ frames := 4, cells := 2, slots := 5, locals := 64 } : Room) #[(.ref x1), (.int (3 : Int32)), (.int (4 : Int32))] h0 [] [] (fun v h' => ∃ r : Addr, v = some (.ref r) ∧ h0.size ≤ r ∧ Str Z h' r [q4]) := by
  refine Met.of (plainFor_of_name pn1) O0 ?_
  intro p e s m below meth c T0 hx hby hml hret hlk hnm hs W0
  have W0 : Wk p l e _ s m _ below meth c Z EL0 n0 [] "java/lang/String" [] T0 0 0 h0 := W0
  have hSA := fun d hd => hw d (sa_in d hd)
  have hws := fun d hd => hw d (ws_in d hd)
  have hln := fun d hd => hw d (ln_in d hd)
  have hch := fun d hd => hw d (ch_in d hd)
  have heq := fun d hd => hw d (eq_in d hd)
  have hem := fun d hd => hw d (em_in d hd)
  refine Go.of (fun _ kk => castTop (ef353 m x1 (3 : Int32) (4 : Int32)) kk) ?_
  show Go p e below _ (T0.setTop (mkF m 0 #[vr x1, vi 3, vi 4, U0, U0] []))
  obtain ⟨t1, kb1, E1, Fv1, Fc1, A1⟩ := S1.open_ (snd255 (allSi cq1 (allSi cq2 (allSi cq3 (allSi cq4 all0i)))))
  have V1 : Arv Z h0 t1 kb1 .byte (4 : Int32) [(.int (StrChars.lo8 q1)), (.int (StrChars.lo8 q2)), (.int (StrChars.lo8 q3)), (.int (StrChars.lo8 q4))] (.int (0 : Int32)) := A1
  refine gof T0 m 1 #[vr x1, vi 3, vi 4, U0, U0] [(.ref x1)] (fun _ kk => XS.aloadN W0.here hx rfl (hb hby d1016_0) rfl rfl kk) ?_
  refine W0.strLen hx hln (hw _ (mI 6 rfl)) SC hzc S1 (hw _ (mI 68 rfl)) (hw _ (mI 69 rfl)) (hw _ (mI 71 rfl)) (hw _ (mI 70 rfl)) (by decide +kernel) (Wd := 0) (by decide +kernel) (by decide +kernel) (by decide +kernel) rfl (by rw [hml]; rfl) rfl (by show 2 * 0 + _ ≤ _; exact Nat.le_of_eq rfl) (hb hby d1016_1) (fun T2 W2 => ?_)
  show Go p e below _ (T2.setTop (mkF m 4 #[vr x1, vi 3, vi 4, U0, U0] [(.int 4)]))
  refine gof T2 m 8 #[vr x1, vi 3, vi 4, vi 4, U0] [(.int 4), (.int 4), (.int 3)] (fun _ kk => XS.istoreN W2.here hx rfl (hb hby d1016_4) rfl (l' := #[vr x1, vi 3, vi 4, vi 4, U0]) rfl (XS.iloadN W2.here hx rfl (hb hby d1016_5) rfl (XS.iloadN W2.here hx rfl (hb hby d1016_6) rfl (XS.iloadN W2.here hx rfl (hb hby d1016_7) rfl kk)))) ?_
  refine W2.callS hx hEL (hw _ (mI 166 rfl)) (hw _ (mI 167 rfl)) (hw _ (mI 7 rfl)) (hw _ (mI 168 rfl)) (by decide +kernel) (argsL := [(.int (3 : Int32)), (.int (4 : Int32)), (.int (4 : Int32))]) (rest := []) (rm11 l Z a0 hw hEL zc SC hzc fm SF rfm (3 : Int32) (4 : Int32) (4 : Int32) h0 W2.old (by decide +kernel) (by decide +kernel) (by decide +kernel)) all0 (by decide +kernel) (Wd := 0) (by decide +kernel) (by decide +kernel) (by decide +kernel) all0 rfl (by rw [hml]; rfl) (lenOf pd8 rfl) rfl (by show 2 * 0 + _ ≤ _; exact Nat.le_of_eq rfl) (hb hby d1016_8) (fun T3 h3 v3 W3 K3 q3 => ?_)
  obtain ⟨rfl, rfl⟩ := q3
  refine gof T3 m 28 #[vr x1, vi 3, vi 4, vi 4, vi 1] [(.ref x1)] (fun _ kk => XS.iloadN W3.here hx rfl (hb hby d1016_11) rfl (XS.ifYes W3.here hx rfl (pc0 := 12) (pc' := 22) rfl (hb hby d1016_12) rfl (XT.i0_ne_t (by decide +kernel)) (by decide +kernel) (by decide +kernel) (XS.iloadN W3.here hx rfl (hb hby d1016_22) rfl (XS.iloadN W3.here hx rfl (hb hby d1016_23) rfl (XS.isub W3.here hx rfl (hb hby d1016_24) rfl (XS.istore W3.here hx rfl (hb hby d1016_25) rfl (l' := #[vr x1, vi 3, vi 4, vi 4, vi 1]) rfl (XS.aloadN W3.here hx rfl (hb hby d1016_27) rfl rfl kk))))))) ?_
  refine W3.callV hx hEL (hw _ (mI 63 rfl)) (hw _ (mI 64 rfl)) (hw _ (mI 66 rfl)) (hw _ (mI 65 rfl)) (hw _ (mI 7 rfl)) (hw _ (mI 67 rfl)) (by decide +kernel) E1 (a := x1) (argsL := []) (rest := []) (rm6 l Z a0 hw hEL zc SC hzc fm SF rfm x1 h0 W3.old Fc1) all0 (by decide +kernel) (Wd := 0) (by decide +kernel) (by decide +kernel) (by decide +kernel) all0 rfl (by rw [hml]; rfl) (lenOf pd4 rfl) rfl (by show 2 * 0 + _ ≤ _; exact Nat.le_of_eq rfl) (hb hby d1016_28) (fun T4 h4 v4 W4 K4 q4 => ?_)
  obtain ⟨rfl, rfl⟩ := q4
  refine gof T4 m 35 #[vr x1, vi 3, vi 4, vi 4, vi 1] [(.ref x1)] (fun _ kk => XS.ifNo W4.here hx rfl (hb hby d1016_31) rfl (XT.i0_eq_f (by decide +kernel)) (XS.aloadN W4.here hx rfl (hb hby d1016_34) rfl rfl kk)) ?_
  refine W4.getF hx (host := "") (Or.inl (hw _ (mI 32 rfl))) Via.refl Fv1 rfl rfl (hb hby d1016_35) (fun T5 W5 => ?_)
  refine gof T5 m 41 #[vr x1, vi 3, vi 4, vi 4, vi 1] [(.int 1), (.int 3), (.ref t1)] (fun _ kk => XS.iloadN W5.here hx rfl (hb hby d1016_38) rfl (XS.iload W5.here hx rfl (hb hby d1016_39) rfl kk)) ?_
  refine W5.callS hx hEL (hw _ (mI 172 rfl)) (hw _ (mI 173 rfl)) (hw _ (mI 80 rfl)) (hw _ (mI 174 rfl)) (by decide +kernel) (argsL := [(.ref t1), (.int (3 : Int32)), (.int (1 : Int32))]) (rest := []) (rm352 l Z a0 hw hEL zc SC hzc fm SF rfm t1 kb1 q1 q2 q3 q4 h0 W5.old V1 cq1 cq2 cq3 cq4) all0 (by decide +kernel) (Wd := 0) (by decide +kernel) (by decide +kernel) (by decide +kernel) all0 rfl (by rw [hml]; rfl) (lenOf pd9 rfl) rfl (by show 2 * 0 + _ ≤ _; exact Nat.le_of_eq rfl) (hb hby d1016_41) (fun T6 h6 v6 W6 K6 q6 => ?_)
  obtain ⟨r6, rfl, lr6, S6⟩ := q6
  have gr6 : n0 ≤ r6 ∧ s.heap.size ≤ r6 := ⟨Nat.le_trans W5.n0le lr6, Nat.le_trans W5.s0le lr6⟩
  have E6 := S6.exa
  refine gof T6 m 57 #[vr x1, vi 3, vi 4, vi 4, vi 1] [(.ref r6)] (fun _ kk => XS.goto W6.here hx rfl (pc0 := 44) (pc' := 57) rfl (hb hby d1016_44) (by decide +kernel) (by decide +kernel) kk) ?_
  exact W6.retA hx hEL hs hlk (by decide +kernel) (by decide +kernel) hret rfl rfl (hb hby d1016_57) ⟨r6, rfl, hs ▸ gr6.2, S6⟩
theorem ef354 (m : MethodId) (x0 : Addr) (x1 : Int32)  : entryFrame m #[(.ref x0), (.int x1)] 2 = mkF m 0 #[vr x0, vi x1] [] := by first | (simp [entryFrame, mkF, argsToLocals, Value.category]; done) | rfl | rfl
set_option maxRecDepth 65536 in
set_option maxHeartbeats 40000000 in
theorem rm354 (l : Launch) (Z : State) (a0 : Array Value) (hw : ∀ d ∈ tables_1, d.before a0 Z = true) (hEL : EW Z a0 EL0) (zc : Int32) (SC : Sta Z Z.heap "java/lang/String" "COMPACT_STRINGS" "Z" (.int zc)) (hzc : ¬ zc = 0) (fm : Value) (SF : Sta Z Z.heap "jdk/internal/util/Preconditions" "SIOOBE_FORMATTER" "Ljava/util/function/BiFunction;" fm) (rfm : fm.isRef = true) (x1 : Addr) (q1 : Int32) (q2 : Int32) (q3 : Int32) (q4 : Int32) (h0 : Heap) {n0 : Nat} (O0 : Old Z n0 h0) (S1 : Str Z h0 x1 [q1, q2, q3, q4]) (cq1 : ¬ q1 < 0 ∧ ¬ (255 : Int32) < q1) (cq2 : ¬ q2 < 0 ∧ ¬ (255 : Int32) < q2) (cq3 : ¬ q3 < 0 ∧ ¬ (255 : Int32) < q3) (cq4 : ¬ q4 < 0 ∧ ¬ (255 : Int32) < q4) :
    Met l Z EL0 n0 (⟨"java/lang/String", "substring", "(I)Ljava/lang/String;"⟩ : MethodName) jdk_42_method_91_code 2 (some (.object "java/lang/String")) [] ({ frames := 5, cells := 2, slots := 5, locals := 80 } : Room) #[(.ref x1), (.int (3 : Int32))] h0 [] [] (fun v h' => ∃ r : Addr, v = some (.ref r) ∧ h0.size ≤ r ∧ Str Z h' r [q4]) := by
  refine Met.of (plainFor_of_name pn1) O0 ?_
  intro p e s m below meth c T0 hx hby hml hret hlk hnm hs W0
  have W0 : Wk p l e _ s m _ below meth c Z EL0 n0 [] "java/lang/String" [] T0 0 0 h0 := W0
  have hSA := fun d hd => hw d (sa_in d hd)
  have hws := fun d hd => hw d (ws_in d hd)
  have hln := fun d hd => hw d (ln_in d hd)
  have hch := fun d hd => hw d (ch_in d hd)
  have heq := fun d hd => hw d (eq_in d hd)
  have hem := fun d hd => hw d (em_in d hd)
  refine Go.of (fun _ kk => castTop (ef354 m x1 (3 : Int32)) kk) ?_
  refine gof T0 m 3 #[vr x1, vi 3] [(.ref x1), (.int 3), (.ref x1)] (fun _ kk => XS.aloadN W0.here hx rfl (hb hby d1017_0) rfl rfl (XS.iloadN W0.here hx rfl (hb hby d1017_1) rfl (XS.aloadN W0.here hx rfl (hb hby d1017_2) rfl rfl kk))) ?_
  refine W0.strLen hx hln (hw _ (mI 6 rfl)) SC hzc S1 (hw _ (mI 68 rfl)) (hw _ (mI 69 rfl)) (hw _ (mI 71 rfl)) (hw _ (mI 70 rfl)) (by decide +kernel) (Wd := 2) (by decide +kernel) (by decide +kernel) (by decide +kernel) rfl (by rw [hml]; rfl) rfl (by show 2 * 0 + _ ≤ _; exact Nat.le_of_eq rfl) (hb hby d1017_3) (fun T1 W1 => ?_)
  show Go p e below _ (T1.setTop (mkF m 6 #[vr x1, vi 3] [(.int 4), (.int 3), (.ref x1)]))
  have k3 := S1.exa
  refine W1.callV hx hEL (hw _ (mI 199 rfl)) (hw _ (mI 162 rfl)) (hw _ (mI 164 rfl)) (hw _ (mI 163 rfl)) (hw _ (mI 7 rfl)) (hw _ (mI 165 rfl)) (by decide +kernel) k3 (a := x1) (argsL := [(.int (3 : Int32)), (.int (4 : Int32))]) (rest := []) (rm353 l Z a0 hw hEL zc SC hzc fm SF rfm x1 q1 q2 q3 q4 h0 W1.old S1 cq1 cq2 cq3 cq4) all0 (by decide +kernel) (Wd := 0) (by decide +kernel) (by decide +kernel) (by decide +kernel) all0 rfl (by rw [hml]; rfl) (lenOf pd10 rfl) rfl (by show 2 * 0 + _ ≤ _; exact Nat.le_of_eq rfl) (hb hby d1017_6) (fun T2 h2 v2 W2 K2 q2 => ?_)
  obtain ⟨r2, rfl, lr2, S2⟩ := q2
  have gr2 : n0 ≤ r2 ∧ s.heap.size ≤ r2 := ⟨Nat.le_trans W1.n0le lr2, Nat.le_trans W1.s0le lr2⟩
  have E2 := S2.exa
  show Go p e below _ (T2.setTop (mkF m 9 #[vr x1, vi 3] [(.ref r2)]))
  exact W2.retA hx hEL hs hlk (by decide +kernel) (by decide +kernel) hret rfl rfl (hb hby d1017_9) ⟨r2, rfl, hs ▸ gr2.2, S2⟩
theorem d1018_0 : decode method_2_code 0 = .ok (.iload_n 0, 1) := by decide +kernel
theorem d1018_1 : decode method_2_code 1 = .ok (.bipush 8, 2) := by decide +kernel
theorem d1018_3 : decode method_2_code 3 = .ok (.iushr, 1) := by decide +kernel
theorem d1018_4 : decode method_2_code 4 = .ok (.iconst 3, 1) := by decide +kernel
theorem d1018_5 : decode method_2_code 5 = .ok (.iand, 1) := by decide +kernel
theorem d1018_6 : decode method_2_code 6 = .ok (.istore_n 1, 1) := by decide +kernel
theorem d1018_7 : decode method_2_code 7 = .ok (.iload_n 1, 1) := by decide +kernel
theorem d1018_8 : decode method_2_code 8 = .ok (.iconst 2, 1) := by decide +kernel
theorem d1018_9 : decode method_2_code 9 = .ok (.if_icmp .ne 6, 3) := by decide +kernel
theorem d1018_12 : decode method_2_code 12 = .ok (.bipush 47, 2) := by decide +kernel
theorem d1018_14 : decode method_2_code 14 = .ok (.ireturn, 1) := by decide +kernel
theorem d1018_15 : decode method_2_code 15 = .ok (.iload_n 1, 1) := by decide +kernel
theorem d1018_16 : decode method_2_code 16 = .ok (.iconst 3, 1) := by decide +kernel
theorem d1018_17 : decode method_2_code 17 = .ok (.if_icmp .ne 6, 3) := by decide +kernel
theorem d1018_20 : decode method_2_code 20 = .ok (.bipush 42, 2) := by decide +kernel
theorem d1018_22 : decode method_2_code 22 = .ok (.ireturn, 1) := by decide +kernel
theorem d1018_23 : decode method_2_code 23 = .ok (.iload_n 0, 1) := by decide +kernel
theorem d1018_24 : decode method_2_code 24 = .ok (.sipush 255, 3) := by decide +kernel
theorem d1018_27 : decode method_2_code 27 = .ok (.iand, 1) := by decide +kernel
theorem d1018_28 : decode method_2_code 28 = .ok (.i2c, 1) := by decide +kernel
theorem d1018_29 : decode method_2_code 29 = .ok (.ireturn, 1) := by decide +kernel
theorem ef1 (m : MethodId) (x0 : Int32)  : entryFrame m #[(.int x0)] 2 = mkF m 0 #[vi x0, U0] [] := by first | (simp [entryFrame, mkF, argsToLocals, Value.category]; done) | rfl | rfl
set_option maxRecDepth 65536 in
set_option maxHeartbeats 40000000 in
theorem rm1 (l : Launch) (Z : State) (a0 : Array Value) (hw : ∀ d ∈ tables_1, d.before a0 Z = true) (hEL : EW Z a0 EL0) (zc : Int32) (SC : Sta Z Z.heap "java/lang/String" "COMPACT_STRINGS" "Z" (.int zc)) (hzc : ¬ zc = 0) (fm : Value) (SF : Sta Z Z.heap "jdk/internal/util/Preconditions" "SIOOBE_FORMATTER" "Ljava/util/function/BiFunction;" fm) (rfm : fm.isRef = true) (x1 : Int32) (h0 : Heap) {n0 : Nat} (O0 : Old Z n0 h0)  :
    Met l Z EL0 n0 (⟨"com/example/grantwork/grantwork/resources/ResourceParsePinLaw", "draw", "(I)C"⟩ : MethodName) method_2_code 2 (some .char) [] ({ frames := 0, cells := 0, slots := 0, locals := 0 } : Room) #[(.int x1)] h0 [] [] (fun v h' => ∃ q : Int32, v = some (.int q) ∧ (¬ q < 0 ∧ ¬ (255 : Int32) < q) ∧ h0 = h') := by
  refine Met.of (plainFor_of_name pn5) O0 ?_
  intro p e s m below meth c T0 hx hby hml hret hlk hnm hs W0
  have W0 : Wk p l e _ s m _ below meth c Z EL0 n0 [] "com/example/grantwork/grantwork/resources/ResourceParsePinLaw" [] T0 0 0 h0 := W0
  have hSA := fun d hd => hw d (sa_in d hd)
  have hws := fun d hd => hw d (ws_in d hd)
  have hln := fun d hd => hw d (ln_in d hd)
  have hch := fun d hd => hw d (ch_in d hd)
  have heq := fun d hd => hw d (eq_in d hd)
  have hem := fun d hd => hw d (em_in d hd)
  refine Go.of (fun _ kk => castTop (ef1 m x1) kk) ?_
  refine gof T0 m 8 #[vi x1, vi (((x1.toUInt32 >>> ((8 : Int32) &&& 31).toUInt32).toInt32) &&& (3 : Int32))] [(.int (((x1.toUInt32 >>> ((8 : Int32) &&& 31).toUInt32).toInt32) &&& (3 : Int32)))] (fun _ kk => XS.iloadN W0.here hx rfl (hb hby d1018_0) rfl (XS.bipush W0.here hx rfl (hb hby d1018_1) (XS.iushr W0.here hx rfl (hb hby d1018_3) rfl (XS.iconst W0.here hx rfl (hb hby d1018_4) (XS.iand W0.here hx rfl (hb hby d1018_5) rfl (XS.istoreN W0.here hx rfl (hb hby d1018_6) rfl (l' := #[vi x1, vi (((x1.toUInt32 >>> ((8 : Int32) &&& 31).toUInt32).toInt32) &&& (3 : Int32))]) rfl (XS.iloadN W0.here hx rfl (hb hby d1018_7) rfl kk))))))) ?_
  refine gof T0 m 9 #[vi x1, vi (((x1.toUInt32 >>> ((8 : Int32) &&& 31).toUInt32).toInt32) &&& (3 : Int32))] [(.int 2), (.int (((x1.toUInt32 >>> ((8 : Int32) &&& 31).toUInt32).toInt32) &&& (3 : Int32)))] (fun _ kk => XS.iconst W0.here hx rfl (hb hby d1018_8) kk) ?_
  by_cases c1 : (((x1.toUInt32 >>> ((8 : Int32) &&& 31).toUInt32).toInt32) &&& (3 : Int32)) = (2 : Int32)
  · refine gof T0 m 14 #[vi x1, vi (((x1.toUInt32 >>> ((8 : Int32) &&& 31).toUInt32).toInt32) &&& (3 : Int32))] [(.int 47)] (fun _ kk => XS.icmpNo W0.here hx rfl (hb hby d1018_9) rfl (XT.ii_ne_f c1) (XS.bipush W0.here hx rfl (hb hby d1018_12) kk)) ?_
    exact W0.retI hx hEL hs hlk (by decide +kernel) (by decide +kernel) hret (by simp) rfl (hb hby d1018_14) ⟨_, rfl, ⟨by decide, by decide⟩, rfl⟩
  · refine gof T0 m 17 #[vi x1, vi (((x1.toUInt32 >>> ((8 : Int32) &&& 31).toUInt32).toInt32) &&& (3 : Int32))] [(.int 3), (.int (((x1.toUInt32 >>> ((8 : Int32) &&& 31).toUInt32).toInt32) &&& (3 : Int32)))] (fun _ kk => XS.icmpYes W0.here hx rfl (pc0 := 9) (pc' := 15) rfl (hb hby d1018_9) rfl (XT.ii_ne_t c1) (by decide +kernel) (by decide +kernel) (XS.iloadN W0.here hx rfl (hb hby d1018_15) rfl (XS.iconst W0.here hx rfl (hb hby d1018_16) kk))) ?_
    by_cases c2 : (((x1.toUInt32 >>> ((8 : Int32) &&& 31).toUInt32).toInt32) &&& (3 : Int32)) = (3 : Int32)
    · refine gof T0 m 22 #[vi x1, vi (((x1.toUInt32 >>> ((8 : Int32) &&& 31).toUInt32).toInt32) &&& (3 : Int32))] [(.int 42)] (fun _ kk => XS.icmpNo W0.here hx rfl (hb hby d1018_17) rfl (XT.ii_ne_f c2) (XS.bipush W0.here hx rfl (hb hby d1018_20) kk)) ?_
      exact W0.retI hx hEL hs hlk (by decide +kernel) (by decide +kernel) hret (by simp) rfl (hb hby d1018_22) ⟨_, rfl, ⟨by decide, by decide⟩, rfl⟩
    · refine gof T0 m 29 #[vi x1, vi (((x1.toUInt32 >>> ((8 : Int32) &&& 31).toUInt32).toInt32) &&& (3 : Int32))] [(.int ((x1 &&& (255 : Int32)).toUInt32.toUInt16.toUInt32.toInt32))] (fun _ kk => XS.icmpYes W0.here hx rfl (pc0 := 17) (pc' := 23) rfl (hb hby d1018_17) rfl (XT.ii_ne_t c2) (by decide +kernel) (by decide +kernel) (XS.iloadN W0.here hx rfl (hb hby d1018_23) rfl (XS.sipush W0.here hx rfl (hb hby d1018_24) (XS.iand W0.here hx rfl (hb hby d1018_27) rfl (XS.i2c W0.here hx rfl (hb hby d1018_28) rfl kk))))) ?_
      obtain ⟨q3, hq3, cq3, zq3⟩ := char255 x1
      rw [hq3]
      show Go p e below _ (T0.setTop (mkF m 29 #[vi x1, vi (((x1.toUInt32 >>> ((8 : Int32) &&& 31).toUInt32).toInt32) &&& (3 : Int32))] [(.int q3)]))
      exact W0.retI hx hEL hs hlk (by decide +kernel) (by decide +kernel) hret (by simp) (nar_ret cq3) (hb hby d1018_29) ⟨_, rfl, cq3, rfl⟩
theorem d1019_0 : decode method_3_code 0 = .ok (.iload_n 1, 1) := by decide +kernel
theorem d1019_1 : decode method_3_code 1 = .ok (.ifCond .le 13, 3) := by decide +kernel
theorem d1019_4 : decode method_3_code 4 = .ok (.aload_n 0, 1) := by decide +kernel
theorem d1019_5 : decode method_3_code 5 = .ok (.iconst 0, 1) := by decide +kernel
theorem d1019_6 : decode method_3_code 6 = .ok (.caload, 1) := by decide +kernel
theorem d1019_7 : decode method_3_code 7 = .ok (.bipush 47, 2) := by decide +kernel
theorem d1019_9 : decode method_3_code 9 = .ok (.if_icmp .ne 5, 3) := by decide +kernel
theorem d1019_12 : decode method_3_code 12 = .ok (.iconst 0, 1) := by decide +kernel
theorem d1019_13 : decode method_3_code 13 = .ok (.ireturn, 1) := by decide +kernel
theorem d1019_14 : decode method_3_code 14 = .ok (.iload_n 1, 1) := by decide +kernel
theorem d1019_15 : decode method_3_code 15 = .ok (.iconst 1, 1) := by decide +kernel
theorem d1019_16 : decode method_3_code 16 = .ok (.if_icmp .le 13, 3) := by decide +kernel
theorem d1019_29 : decode method_3_code 29 = .ok (.iload_n 1, 1) := by decide +kernel
theorem d1019_30 : decode method_3_code 30 = .ok (.iconst 2, 1) := by decide +kernel
theorem d1019_31 : decode method_3_code 31 = .ok (.if_icmp .le 13, 3) := by decide +kernel
theorem d1019_44 : decode method_3_code 44 = .ok (.iload_n 1, 1) := by decide +kernel
theorem d1019_45 : decode method_3_code 45 = .ok (.iconst 3, 1) := by decide +kernel
theorem d1019_46 : decode method_3_code 46 = .ok (.if_icmp .le 13, 3) := by decide +kernel
theorem d1019_59 : decode method_3_code 59 = .ok (.iconst (-1), 1) := by decide +kernel
theorem d1019_60 : decode method_3_code 60 = .ok (.ireturn, 1) := by decide +kernel
theorem ef21 (m : MethodId) (x0 : Addr) (x1 : Int32)  : entryFrame m #[(.ref x0), (.int x1)] 2 = mkF m 0 #[vr x0, vi x1] [] := by first | (simp [entryFrame, mkF, argsToLocals, Value.category]; done) | rfl | rfl
set_option maxRecDepth 65536 in
set_option maxHeartbeats 40000000 in
theorem rm21 (l : Launch) (Z : State) (a0 : Array Value) (hw : ∀ d ∈ tables_1, d.before a0 Z = true) (hEL : EW Z a0 EL0) (zc : Int32) (SC : Sta Z Z.heap "java/lang/String" "COMPACT_STRINGS" "Z" (.int zc)) (hzc : ¬ zc = 0) (fm : Value) (SF : Sta Z Z.heap "jdk/internal/util/Preconditions" "SIOOBE_FORMATTER" "Ljava/util/function/BiFunction;" fm) (rfm : fm.isRef = true) (x2 : Addr) (kc : ClassId) (q1 : Int32) (q2 : Int32) (q3 : Int32) (q4 : Int32) (h0 : Heap) {n0 : Nat} (O0 : Old Z n0 h0) (A1 : Arv Z h0 x2 kc .char (4 : Int32) [(.int q1), (.int q2), (.int q3), (.int q4)] (.int (0 : Int32))) :
    Met l Z EL0 n0 (⟨"com/example/grantwork/grantwork/resources/ResourceParsePinLaw", "firstSlash", "([CI)I"⟩ : MethodName) method_3_code 2 (some .int) [] ({ frames := 0, cells := 0, slots := 0, locals := 0 } : Room) #[(.ref x2), (.int (1 : Int32))] h0 [] [] (fun v h' => v = some (.int (idxC (47 : Int32) [q1] (0 : Int32))) ∧ h0 = h') := by
  refine Met.of (plainFor_of_name pn5) O0 ?_
  intro p e s m below meth c T0 hx hby hml hret hlk hnm hs W0
  have W0 : Wk p l e _ s m _ below meth c Z EL0 n0 [] "com/example/grantwork/grantwork/resources/ResourceParsePinLaw" [] T0 0 0 h0 := W0
  have hSA := fun d hd => hw d (sa_in d hd)
  have hws := fun d hd => hw d (ws_in d hd)
  have hln := fun d hd => hw d (ln_in d hd)
  have hch := fun d hd => hw d (ch_in d hd)
  have heq := fun d hd => hw d (eq_in d hd)
  have hem := fun d hd => hw d (em_in d hd)
  refine Go.of (fun _ kk => castTop (ef21 m x2 (1 : Int32)) kk) ?_
  refine gof T0 m 6 #[vr x2, vi 1] [(.int 0), (.ref x2)] (fun _ kk => XS.iloadN W0.here hx rfl (hb hby d1019_0) rfl (XS.ifNo W0.here hx rfl (hb hby d1019_1) rfl (XT.i0_le_f (by decide +kernel)) (XS.aloadN W0.here hx rfl (hb hby d1019_4) rfl rfl (XS.iconst W0.here hx rfl (hb hby d1019_5) kk)))) ?_
  refine W0.caload hx A1 ⟨by decide, by decide⟩ (v := (.int q1)) rfl rfl rfl (hb hby d1019_6) ?_
  refine gof T0 m 9 #[vr x2, vi 1] [(.int 47), (.int q1)] (fun _ kk => XS.bipush W0.here hx rfl (hb hby d1019_7) kk) ?_
  by_cases c1 : q1 = (47 : Int32)
  · refine gof T0 m 13 #[vr x2, vi 1] [(.int 0)] (fun _ kk => XS.icmpNo W0.here hx rfl (hb hby d1019_9) rfl (XT.ii_ne_f c1) (XS.iconst W0.here hx rfl (hb hby d1019_12) kk)) ?_
    have ea : (idxC (47 : Int32) [q1] (0 : Int32)) = (0 : Int32) := by simp [idxC, c1]
    exact W0.retI hx hEL hs hlk (by decide +kernel) (by decide +kernel) hret (by simp) rfl (hb hby d1019_13) ⟨by rw [ea], rfl⟩
  · refine gof T0 m 44 #[vr x2, vi 1] [] (fun _ kk => XS.icmpYes W0.here hx rfl (pc0 := 9) (pc' := 14) rfl (hb hby d1019_9) rfl (XT.ii_ne_t c1) (by decide +kernel) (by decide +kernel) (XS.iloadN W0.here hx rfl (hb hby d1019_14) rfl (XS.iconst W0.here hx rfl (hb hby d1019_15) (XS.icmpYes W0.here hx rfl (pc0 := 16) (pc' := 29) rfl (hb hby d1019_16) rfl (XT.ii_le_t (by decide +kernel)) (by decide +kernel) (by decide +kernel) (XS.iloadN W0.here hx rfl (hb hby d1019_29) rfl (XS.iconst W0.here hx rfl (hb hby d1019_30) (XS.icmpYes W0.here hx rfl (pc0 := 31) (pc' := 44) rfl (hb hby d1019_31) rfl (XT.ii_le_t (by decide +kernel)) (by decide +kernel) (by decide +kernel) kk))))))) ?_
    refine gof T0 m 60 #[vr x2, vi 1] [(.int (-1 : Int32))] (fun _ kk => XS.iloadN W0.here hx rfl (hb hby d1019_44) rfl (XS.iconst W0.here hx rfl (hb hby d1019_45) (XS.icmpYes W0.here hx rfl (pc0 := 46) (pc' := 59) rfl (hb hby d1019_46) rfl (XT.ii_le_t (by decide +kernel)) (by decide +kernel) (by decide +kernel) (XS.iconst W0.here hx rfl (hb hby d1019_59) kk)))) ?_
    have ea : (idxC (47 : Int32) [q1] (0 : Int32)) = (-1 : Int32) := by simp [idxC, c1]
    exact W0.retI hx hEL hs hlk (by decide +kernel) (by decide +kernel) hret (by simp) rfl (hb hby d1019_60) ⟨by rw [ea], rfl⟩
theorem d1019_19 : decode method_3_code 19 = .ok (.aload_n 0, 1) := by decide +kernel
theorem d1019_20 : decode method_3_code 20 = .ok (.iconst 1, 1) := by decide +kernel
theorem d1019_21 : decode method_3_code 21 = .ok (.caload, 1) := by decide +kernel
theorem d1019_22 : decode method_3_code 22 = .ok (.bipush 47, 2) := by decide +kernel
theorem d1019_24 : decode method_3_code 24 = .ok (.if_icmp .ne 5, 3) := by decide +kernel
theorem d1019_27 : decode method_3_code 27 = .ok (.iconst 1, 1) := by decide +kernel
theorem d1019_28 : decode method_3_code 28 = .ok (.ireturn, 1) := by decide +kernel
theorem ef22 (m : MethodId) (x0 : Addr) (x1 : Int32)  : entryFrame m #[(.ref x0), (.int x1)] 2 = mkF m 0 #[vr x0, vi x1] [] := by first | (simp [entryFrame, mkF, argsToLocals, Value.category]; done) | rfl | rfl
set_option maxRecDepth 65536 in
set_option maxHeartbeats 40000000 in
theorem rm22 (l : Launch) (Z : State) (a0 : Array Value) (hw : ∀ d ∈ tables_1, d.before a0 Z = true) (hEL : EW Z a0 EL0) (zc : Int32) (SC : Sta Z Z.heap "java/lang/String" "COMPACT_STRINGS" "Z" (.int zc)) (hzc : ¬ zc = 0) (fm : Value) (SF : Sta Z Z.heap "jdk/internal/util/Preconditions" "SIOOBE_FORMATTER" "Ljava/util/function/BiFunction;" fm) (rfm : fm.isRef = true) (x2 : Addr) (kc : ClassId) (q1 : Int32) (q2 : Int32) (q3 : Int32) (q4 : Int32) (h0 : Heap) {n0 : Nat} (O0 : Old Z n0 h0) (A1 : Arv Z h0 x2 kc .char (4 : Int32) [(.int q1), (.int q2), (.int q3), (.int q4)] (.int (0 : Int32))) :
    Met l Z EL0 n0 (⟨"com/example/grantwork/grantwork/resources/ResourceParsePinLaw", "firstSlash", "([CI)I"⟩ : MethodName) method_3_code 2 (some .int) [] ({ frames := 0, cells := 0, slots := 0, locals := 0 } : Room) #[(.ref x2), (.int (2 : Int32))] h0 [] [] (fun v h' => v = some (.int (idxC (47 : Int32) [q1, q2] (0 : Int32))) ∧ h0 = h') := by
  refine Met.of (plainFor_of_name pn5) O0 ?_
  intro p e s m below meth c T0 hx hby hml hret hlk hnm hs W0
  have W0 : Wk p l e _ s m _ below meth c Z EL0 n0 [] "com/example/grantwork/grantwork/resources/ResourceParsePinLaw" [] T0 0 0 h0 := W0
  have hSA := fun d hd => hw d (sa_in d hd)
  have hws := fun d hd => hw d (ws_in d hd)
  have hln := fun d hd => hw d (ln_in d hd)
  have hch := fun d hd => hw d (ch_in d hd)
  have heq := fun d hd => hw d (eq_in d hd)
  have hem := fun d hd => hw d (em_in d hd)
  refine Go.of (fun _ kk => castTop (ef22 m x2 (2 : Int32)) kk) ?_
  refine gof T0 m 6 #[vr x2, vi 2] [(.int 0), (.ref x2)] (fun _ kk => XS.iloadN W0.here hx rfl (hb hby d1019_0) rfl (XS.ifNo W0.here hx rfl (hb hby d1019_1) rfl (XT.i0_le_f (by decide +kernel)) (XS.aloadN W0.here hx rfl (hb hby d1019_4) rfl rfl (XS.iconst W0.here hx rfl (hb hby d1019_5) kk)))) ?_
  refine W0.caload hx A1 ⟨by decide, by decide⟩ (v := (.int q1)) rfl rfl rfl (hb hby d1019_6) ?_
  refine gof T0 m 9 #[vr x2, vi 2] [(.int 47), (.int q1)] (fun _ kk => XS.bipush W0.here hx rfl (hb hby d1019_7) kk) ?_
  by_cases c1 : q1 = (47 : Int32)
  · refine gof T0 m 13 #[vr x2, vi 2] [(.int 0)] (fun _ kk => XS.icmpNo W0.here hx rfl (hb hby d1019_9) rfl (XT.ii_ne_f c1) (XS.iconst W0.here hx rfl (hb hby d1019_12) kk)) ?_
    have ea : (idxC (47 : Int32) [q1, q2] (0 : Int32)) = (0 : Int32) := by simp [idxC, c1]
    exact W0.retI hx hEL hs hlk (by decide +kernel) (by decide +kernel) hret (by simp) rfl (hb hby d1019_13) ⟨by rw [ea], rfl⟩
  · refine gof T0 m 21 #[vr x2, vi 2] [(.int 1), (.ref x2)] (fun _ kk => XS.icmpYes W0.here hx rfl (pc0 := 9) (pc' := 14) rfl (hb hby d1019_9) rfl (XT.ii_ne_t c1) (by decide +kernel) (by decide +kernel) (XS.iloadN W0.here hx rfl (hb hby d1019_14) rfl (XS.iconst W0.here hx rfl (hb hby d1019_15) (XS.icmpNo W0.here hx rfl (hb hby d1019_16) rfl (XT.ii_le_f (by decide +kernel)) (XS.aloadN W0.here hx rfl (hb hby d1019_19) rfl rfl (XS.iconst W0.here hx rfl (hb hby d1019_20) kk)))))) ?_
    refine W0.caload hx A1 ⟨by decide, by decide⟩ (v := (.int q2)) rfl rfl rfl (hb hby d1019_21) ?_
    refine gof T0 m 24 #[vr x2, vi 2] [(.int 47), (.int q2)] (fun _ kk => XS.bipush W0.here hx rfl (hb hby d1019_22) kk) ?_
    by_cases c2 : q2 = (47 : Int32)
    · refine gof T0 m 28 #[vr x2, vi 2] [(.int 1)] (fun _ kk => XS.icmpNo W0.here hx rfl (hb hby d1019_24) rfl (XT.ii_ne_f c2) (XS.iconst W0.here hx rfl (hb hby d1019_27) kk)) ?_
      have ea : (idxC (47 : Int32) [q1, q2] (0 : Int32)) = (1 : Int32) := by simp [idxC, c1, c2]
      exact W0.retI hx hEL hs hlk (by decide +kernel) (by decide +kernel) hret (by simp) rfl (hb hby d1019_28) ⟨by rw [ea], rfl⟩
    · refine gof T0 m 59 #[vr x2, vi 2] [] (fun _ kk => XS.icmpYes W0.here hx rfl (pc0 := 24) (pc' := 29) rfl (hb hby d1019_24) rfl (XT.ii_ne_t c2) (by decide +kernel) (by decide +kernel) (XS.iloadN W0.here hx rfl (hb hby d1019_29) rfl (XS.iconst W0.here hx rfl (hb hby d1019_30) (XS.icmpYes W0.here hx rfl (pc0 := 31) (pc' := 44) rfl (hb hby d1019_31) rfl (XT.ii_le_t (by decide +kernel)) (by decide +kernel) (by decide +kernel) (XS.iloadN W0.here hx rfl (hb hby d1019_44) rfl (XS.iconst W0.here hx rfl (hb hby d1019_45) (XS.icmpYes W0.here hx rfl (pc0 := 46) (pc' := 59) rfl (hb hby d1019_46) rfl (XT.ii_le_t (by decide +kernel)) (by decide +kernel) (by decide +kernel) kk))))))) ?_
      refine gof T0 m 60 #[vr x2, vi 2] [(.int (-1 : Int32))] (fun _ kk => XS.iconst W0.here hx rfl (hb hby d1019_59) kk) ?_
      have ea : (idxC (47 : Int32) [q1, q2] (0 : Int32)) = (-1 : Int32) := by simp [idxC, c1, c2]
      exact W0.retI hx hEL hs hlk (by decide +kernel) (by decide +kernel) hret (by simp) rfl (hb hby d1019_60) ⟨by rw [ea], rfl⟩
theorem d1019_34 : decode method_3_code 34 = .ok (.aload_n 0, 1) := by decide +kernel
theorem d1019_35 : decode method_3_code 35 = .ok (.iconst 2, 1) := by decide +kernel
theorem d1019_36 : decode method_3_code 36 = .ok (.caload, 1) := by decide +kernel
theorem d1019_37 : decode method_3_code 37 = .ok (.bipush 47, 2) := by decide +kernel
theorem d1019_39 : decode method_3_code 39 = .ok (.if_icmp .ne 5, 3) := by decide +kernel
theorem d1019_42 : decode method_3_code 42 = .ok (.iconst 2, 1) := by decide +kernel
theorem d1019_43 : decode method_3_code 43 = .ok (.ireturn, 1) := by decide +kernel
theorem ef23 (m : MethodId) (x0 : Addr) (x1 : Int32)  : entryFrame m #[(.ref x0), (.int x1)] 2 = mkF m 0 #[vr x0, vi x1] [] := by first | (simp [entryFrame, mkF, argsToLocals, Value.category]; done) | rfl | rfl
set_option maxRecDepth 65536 in
set_option maxHeartbeats 40000000 in
theorem rm23 (l : Launch) (Z : State) (a0 : Array Value) (hw : ∀ d ∈ tables_1, d.before a0 Z = true) (hEL : EW Z a0 EL0) (zc : Int32) (SC : Sta Z Z.heap "java/lang/String" "COMPACT_STRINGS" "Z" (.int zc)) (hzc : ¬ zc = 0) (fm : Value) (SF : Sta Z Z.heap "jdk/internal/util/Preconditions" "SIOOBE_FORMATTER" "Ljava/util/function/BiFunction;" fm) (rfm : fm.isRef = true) (x2 : Addr) (kc : ClassId) (q1 : Int32) (q2 : Int32) (q3 : Int32) (q4 : Int32) (h0 : Heap) {n0 : Nat} (O0 : Old Z n0 h0) (A1 : Arv Z h0 x2 kc .char (4 : Int32) [(.int q1), (.int q2), (.int q3), (.int q4)] (.int (0 : Int32))) :
    Met l Z EL0 n0 (⟨"com/example/grantwork/grantwork/resources/ResourceParsePinLaw", "firstSlash", "([CI)I"⟩ : MethodName) method_3_code 2 (some .int) [] ({ frames := 0, cells := 0, slots := 0, locals := 0 } : Room) #[(.ref x2), (.int (3 : Int32))] h0 [] [] (fun v h' => v = some (.int (idxC (47 : Int32) [q1, q2, q3] (0 : Int32))) ∧ h0 = h') := by
  refine Met.of (plainFor_of_name pn5) O0 ?_
  intro p e s m below meth c T0 hx hby hml hret hlk hnm hs W0
  have W0 : Wk p l e _ s m _ below meth c Z EL0 n0 [] "com/example/grantwork/grantwork/resources/ResourceParsePinLaw" [] T0 0 0 h0 := W0
  have hSA := fun d hd => hw d (sa_in d hd)
  have hws := fun d hd => hw d (ws_in d hd)
  have hln := fun d hd => hw d (ln_in d hd)
  have hch := fun d hd => hw d (ch_in d hd)
  have heq := fun d hd => hw d (eq_in d hd)
  have hem := fun d hd => hw d (em_in d hd)
  refine Go.of (fun _ kk => castTop (ef23 m x2 (3 : Int32)) kk) ?_
  refine gof T0 m 6 #[vr x2, vi 3] [(.int 0), (.ref x2)] (fun _ kk => XS.iloadN W0.here hx rfl (hb hby d1019_0) rfl (XS.ifNo W0.here hx rfl (hb hby d1019_1) rfl (XT.i0_le_f (by decide +kernel)) (XS.aloadN W0.here hx rfl (hb hby d1019_4) rfl rfl (XS.iconst W0.here hx rfl (hb hby d1019_5) kk)))) ?_
  refine W0.caload hx A1 ⟨by decide, by decide⟩ (v := (.int q1)) rfl rfl rfl (hb hby d1019_6) ?_
  refine gof T0 m 9 #[vr x2, vi 3] [(.int 47), (.int q1)] (fun _ kk => XS.bipush W0.here hx rfl (hb hby d1019_7) kk) ?_
  by_cases c1 : q1 = (47 : Int32)
  · refine gof T0 m 13 #[vr x2, vi 3] [(.int 0)] (fun _ kk => XS.icmpNo W0.here hx rfl (hb hby d1019_9) rfl (XT.ii_ne_f c1) (XS.iconst W0.here hx rfl (hb hby d1019_12) kk)) ?_
    have ea : (idxC (47 : Int32) [q1, q2, q3] (0 : Int32)) = (0 : Int32) := by simp [idxC, c1]
    exact W0.retI hx hEL hs hlk (by decide +kernel) (by decide +kernel) hret (by simp) rfl (hb hby d1019_13) ⟨by rw [ea], rfl⟩
  · refine gof T0 m 21 #[vr x2, vi 3] [(.int 1), (.ref x2)] (fun _ kk => XS.icmpYes W0.here hx rfl (pc0 := 9) (pc' := 14) rfl (hb hby d1019_9) rfl (XT.ii_ne_t c1) (by decide +kernel) (by decide +kernel) (XS.iloadN W0.here hx rfl (hb hby d1019_14) rfl (XS.iconst W0.here hx rfl (hb hby d1019_15) (XS.icmpNo W0.here hx rfl (hb hby d1019_16) rfl (XT.ii_le_f (by decide +kernel)) (XS.aloadN W0.here hx rfl (hb hby d1019_19) rfl rfl (XS.iconst W0.here hx rfl (hb hby d1019_20) kk)))))) ?_
    refine W0.caload hx A1 ⟨by decide, by decide⟩ (v := (.int q2)) rfl rfl rfl (hb hby d1019_21) ?_
    refine gof T0 m 24 #[vr x2, vi 3] [(.int 47), (.int q2)] (fun _ kk => XS.bipush W0.here hx rfl (hb hby d1019_22) kk) ?_
    by_cases c2 : q2 = (47 : Int32)
    · refine gof T0 m 28 #[vr x2, vi 3] [(.int 1)] (fun _ kk => XS.icmpNo W0.here hx rfl (hb hby d1019_24) rfl (XT.ii_ne_f c2) (XS.iconst W0.here hx rfl (hb hby d1019_27) kk)) ?_
      have ea : (idxC (47 : Int32) [q1, q2, q3] (0 : Int32)) = (1 : Int32) := by simp [idxC, c1, c2]
      exact W0.retI hx hEL hs hlk (by decide +kernel) (by decide +kernel) hret (by simp) rfl (hb hby d1019_28) ⟨by rw [ea], rfl⟩
    · refine gof T0 m 36 #[vr x2, vi 3] [(.int 2), (.ref x2)] (fun _ kk => XS.icmpYes W0.here hx rfl (pc0 := 24) (pc' := 29) rfl (hb hby d1019_24) rfl (XT.ii_ne_t c2) (by decide +kernel) (by decide +kernel) (XS.iloadN W0.here hx rfl (hb hby d1019_29) rfl (XS.iconst W0.here hx rfl (hb hby d1019_30) (XS.icmpNo W0.here hx rfl (hb hby d1019_31) rfl (XT.ii_le_f (by decide +kernel)) (XS.aloadN W0.here hx rfl (hb hby d1019_34) rfl rfl (XS.iconst W0.here hx rfl (hb hby d1019_35) kk)))))) ?_
      refine W0.caload hx A1 ⟨by decide, by decide⟩ (v := (.int q3)) rfl rfl rfl (hb hby d1019_36) ?_
      refine gof T0 m 39 #[vr x2, vi 3] [(.int 47), (.int q3)] (fun _ kk => XS.bipush W0.here hx rfl (hb hby d1019_37) kk) ?_
      by_cases c3 : q3 = (47 : Int32)
      · refine gof T0 m 43 #[vr x2, vi 3] [(.int 2)] (fun _ kk => XS.icmpNo W0.here hx rfl (hb hby d1019_39) rfl (XT.ii_ne_f c3) (XS.iconst W0.here hx rfl (hb hby d1019_42) kk)) ?_
        have ea : (idxC (47 : Int32) [q1, q2, q3] (0 : Int32)) = (2 : Int32) := by simp [idxC, c1, c2, c3]
        exact W0.retI hx hEL hs hlk (by decide +kernel) (by decide +kernel) hret (by simp) rfl (hb hby d1019_43) ⟨by rw [ea], rfl⟩
      · refine gof T0 m 60 #[vr x2, vi 3] [(.int (-1 : Int32))] (fun _ kk => XS.icmpYes W0.here hx rfl (pc0 := 39) (pc' := 44) rfl (hb hby d1019_39) rfl (XT.ii_ne_t c3) (by decide +kernel) (by decide +kernel) (XS.iloadN W0.here hx rfl (hb hby d1019_44) rfl (XS.iconst W0.here hx rfl (hb hby d1019_45) (XS.icmpYes W0.here hx rfl (pc0 := 46) (pc' := 59) rfl (hb hby d1019_46) rfl (XT.ii_le_t (by decide +kernel)) (by decide +kernel) (by decide +kernel) (XS.iconst W0.here hx rfl (hb hby d1019_59) kk))))) ?_
        have ea : (idxC (47 : Int32) [q1, q2, q3] (0 : Int32)) = (-1 : Int32) := by simp [idxC, c1, c2, c3]
        exact W0.retI hx hEL hs hlk (by decide +kernel) (by decide +kernel) hret (by simp) rfl (hb hby d1019_60) ⟨by rw [ea], rfl⟩
theorem d1019_49 : decode method_3_code 49 = .ok (.aload_n 0, 1) := by decide +kernel
theorem d1019_50 : decode method_3_code 50 = .ok (.iconst 3, 1) := by decide +kernel
theorem d1019_51 : decode method_3_code 51 = .ok (.caload, 1) := by decide +kernel
theorem d1019_52 : decode method_3_code 52 = .ok (.bipush 47, 2) := by decide +kernel
theorem d1019_54 : decode method_3_code 54 = .ok (.if_icmp .ne 5, 3) := by decide +kernel
theorem d1019_57 : decode method_3_code 57 = .ok (.iconst 3, 1) := by decide +kernel
theorem d1019_58 : decode method_3_code 58 = .ok (.ireturn, 1) := by decide +kernel
theorem ef24 (m : MethodId) (x0 : Addr) (x1 : Int32)  : entryFrame m #[(.ref x0), (.int x1)] 2 = mkF m 0 #[vr x0, vi x1] [] := by first | (simp [entryFrame, mkF, argsToLocals, Value.category]; done) | rfl | rfl
set_option maxRecDepth 65536 in
set_option maxHeartbeats 40000000 in
theorem rm24 (l : Launch) (Z : State) (a0 : Array Value) (hw : ∀ d ∈ tables_1, d.before a0 Z = true) (hEL : EW Z a0 EL0) (zc : Int32) (SC : Sta Z Z.heap "java/lang/String" "COMPACT_STRINGS" "Z" (.int zc)) (hzc : ¬ zc = 0) (fm : Value) (SF : Sta Z Z.heap "jdk/internal/util/Preconditions" "SIOOBE_FORMATTER" "Ljava/util/function/BiFunction;" fm) (rfm : fm.isRef = true) (x2 : Addr) (kc : ClassId) (q1 : Int32) (q2 : Int32) (q3 : Int32) (q4 : Int32) (h0 : Heap) {n0 : Nat} (O0 : Old Z n0 h0) (A1 : Arv Z h0 x2 kc .char (4 : Int32) [(.int q1), (.int q2), (.int q3), (.int q4)] (.int (0 : Int32))) :
    Met l Z EL0 n0 (⟨"com/example/grantwork/grantwork/resources/ResourceParsePinLaw", "firstSlash", "([CI)I"⟩ : MethodName) method_3_code 2 (some .int) [] ({ frames := 0, cells := 0, slots := 0, locals := 0 } : Room) #[(.ref x2), (.int (4 : Int32))] h0 [] [] (fun v h' => v = some (.int (idxC (47 : Int32) [q1, q2, q3, q4] (0 : Int32))) ∧ h0 = h') := by
  refine Met.of (plainFor_of_name pn5) O0 ?_
  intro p e s m below meth c T0 hx hby hml hret hlk hnm hs W0
  have W0 : Wk p l e _ s m _ below meth c Z EL0 n0 [] "com/example/grantwork/grantwork/resources/ResourceParsePinLaw" [] T0 0 0 h0 := W0
  have hSA := fun d hd => hw d (sa_in d hd)
  have hws := fun d hd => hw d (ws_in d hd)
  have hln := fun d hd => hw d (ln_in d hd)
  have hch := fun d hd => hw d (ch_in d hd)
  have heq := fun d hd => hw d (eq_in d hd)
  have hem := fun d hd => hw d (em_in d hd)
  refine Go.of (fun _ kk => castTop (ef24 m x2 (4 : Int32)) kk) ?_
  refine gof T0 m 6 #[vr x2, vi 4] [(.int 0), (.ref x2)] (fun _ kk => XS.iloadN W0.here hx rfl (hb hby d1019_0) rfl (XS.ifNo W0.here hx rfl (hb hby d1019_1) rfl (XT.i0_le_f (by decide +kernel)) (XS.aloadN W0.here hx rfl (hb hby d1019_4) rfl rfl (XS.iconst W0.here hx rfl (hb hby d1019_5) kk)))) ?_
  refine W0.caload hx A1 ⟨by decide, by decide⟩ (v := (.int q1)) rfl rfl rfl (hb hby d1019_6) ?_
  refine gof T0 m 9 #[vr x2, vi 4] [(.int 47), (.int q1)] (fun _ kk => XS.bipush W0.here hx rfl (hb hby d1019_7) kk) ?_
  by_cases c1 : q1 = (47 : Int32)
  · refine gof T0 m 13 #[vr x2, vi 4] [(.int 0)] (fun _ kk => XS.icmpNo W0.here hx rfl (hb hby d1019_9) rfl (XT.ii_ne_f c1) (XS.iconst W0.here hx rfl (hb hby d1019_12) kk)) ?_
    have ea : (idxC (47 : Int32) [q1, q2, q3, q4] (0 : Int32)) = (0 : Int32) := by simp [idxC, c1]
    exact W0.retI hx hEL hs hlk (by decide +kernel) (by decide +kernel) hret (by simp) rfl (hb hby d1019_13) ⟨by rw [ea], rfl⟩
  · refine gof T0 m 21 #[vr x2, vi 4] [(.int 1), (.ref x2)] (fun _ kk => XS.icmpYes W0.here hx rfl (pc0 := 9) (pc' := 14) rfl (hb hby d1019_9) rfl (XT.ii_ne_t c1) (by decide +kernel) (by decide +kernel) (XS.iloadN W0.here hx rfl (hb hby d1019_14) rfl (XS.iconst W0.here hx rfl (hb hby d1019_15) (XS.icmpNo W0.here hx rfl (hb hby d1019_16) rfl (XT.ii_le_f (by decide +kernel)) (XS.aloadN W0.here hx rfl (hb hby d1019_19) rfl rfl (XS.iconst W0.here hx rfl (hb hby d1019_20) kk)))))) ?_
    refine W0.caload hx A1 ⟨by decide, by decide⟩ (v := (.int q2)) rfl rfl rfl (hb hby d1019_21) ?_
    refine gof T0 m 24 #[vr x2, vi 4] [(.int 47), (.int q2)] (fun _ kk => XS.bipush W0.here hx rfl (hb hby d1019_22) kk) ?_
    by_cases c2 : q2 = (47 : Int32)
    · refine gof T0 m 28 #[vr x2, vi 4] [(.int 1)] (fun _ kk => XS.icmpNo W0.here hx rfl (hb hby d1019_24) rfl (XT.ii_ne_f c2) (XS.iconst W0.here hx rfl (hb hby d1019_27) kk)) ?_
      have ea : (idxC (47 : Int32) [q1, q2, q3, q4] (0 : Int32)) = (1 : Int32) := by simp [idxC, c1, c2]
      exact W0.retI hx hEL hs hlk (by decide +kernel) (by decide +kernel) hret (by simp) rfl (hb hby d1019_28) ⟨by rw [ea], rfl⟩
    · refine gof T0 m 36 #[vr x2, vi 4] [(.int 2), (.ref x2)] (fun _ kk => XS.icmpYes W0.here hx rfl (pc0 := 24) (pc' := 29) rfl (hb hby d1019_24) rfl (XT.ii_ne_t c2) (by decide +kernel) (by decide +kernel) (XS.iloadN W0.here hx rfl (hb hby d1019_29) rfl (XS.iconst W0.here hx rfl (hb hby d1019_30) (XS.icmpNo W0.here hx rfl (hb hby d1019_31) rfl (XT.ii_le_f (by decide +kernel)) (XS.aloadN W0.here hx rfl (hb hby d1019_34) rfl rfl (XS.iconst W0.here hx rfl (hb hby d1019_35) kk)))))) ?_
      refine W0.caload hx A1 ⟨by decide, by decide⟩ (v := (.int q3)) rfl rfl rfl (hb hby d1019_36) ?_
      refine gof T0 m 39 #[vr x2, vi 4] [(.int 47), (.int q3)] (fun _ kk => XS.bipush W0.here hx rfl (hb hby d1019_37) kk) ?_
      by_cases c3 : q3 = (47 : Int32)
      · refine gof T0 m 43 #[vr x2, vi 4] [(.int 2)] (fun _ kk => XS.icmpNo W0.here hx rfl (hb hby d1019_39) rfl (XT.ii_ne_f c3) (XS.iconst W0.here hx rfl (hb hby d1019_42) kk)) ?_
        have ea : (idxC (47 : Int32) [q1, q2, q3, q4] (0 : Int32)) = (2 : Int32) := by simp [idxC, c1, c2, c3]
        exact W0.retI hx hEL hs hlk (by decide +kernel) (by decide +kernel) hret (by simp) rfl (hb hby d1019_43) ⟨by rw [ea], rfl⟩
      · refine gof T0 m 51 #[vr x2, vi 4] [(.int 3), (.ref x2)] (fun _ kk => XS.icmpYes W0.here hx rfl (pc0 := 39) (pc' := 44) rfl (hb hby d1019_39) rfl (XT.ii_ne_t c3) (by decide +kernel) (by decide +kernel) (XS.iloadN W0.here hx rfl (hb hby d1019_44) rfl (XS.iconst W0.here hx rfl (hb hby d1019_45) (XS.icmpNo W0.here hx rfl (hb hby d1019_46) rfl (XT.ii_le_f (by decide +kernel)) (XS.aloadN W0.here hx rfl (hb hby d1019_49) rfl rfl (XS.iconst W0.here hx rfl (hb hby d1019_50) kk)))))) ?_
        refine W0.caload hx A1 ⟨by decide, by decide⟩ (v := (.int q4)) rfl rfl rfl (hb hby d1019_51) ?_
        refine gof T0 m 54 #[vr x2, vi 4] [(.int 47), (.int q4)] (fun _ kk => XS.bipush W0.here hx rfl (hb hby d1019_52) kk) ?_
        by_cases c4 : q4 = (47 : Int32)
        · refine gof T0 m 58 #[vr x2, vi 4] [(.int 3)] (fun _ kk => XS.icmpNo W0.here hx rfl (hb hby d1019_54) rfl (XT.ii_ne_f c4) (XS.iconst W0.here hx rfl (hb hby d1019_57) kk)) ?_
          have ea : (idxC (47 : Int32) [q1, q2, q3, q4] (0 : Int32)) = (3 : Int32) := by simp [idxC, c1, c2, c3, c4]
          exact W0.retI hx hEL hs hlk (by decide +kernel) (by decide +kernel) hret (by simp) rfl (hb hby d1019_58) ⟨by rw [ea], rfl⟩
        · refine gof T0 m 60 #[vr x2, vi 4] [(.int (-1 : Int32))] (fun _ kk => XS.icmpYes W0.here hx rfl (pc0 := 54) (pc' := 59) rfl (hb hby d1019_54) rfl (XT.ii_ne_t c4) (by decide +kernel) (by decide +kernel) (XS.iconst W0.here hx rfl (hb hby d1019_59) kk)) ?_
          have ea : (idxC (47 : Int32) [q1, q2, q3, q4] (0 : Int32)) = (-1 : Int32) := by simp [idxC, c1, c2, c3, c4]
          exact W0.retI hx hEL hs hlk (by decide +kernel) (by decide +kernel) hret (by simp) rfl (hb hby d1019_60) ⟨by rw [ea], rfl⟩
theorem d1020_0 : decode method_4_code 0 = .ok (.aload_n 0, 1) := by decide +kernel
theorem d1020_1 : decode method_4_code 1 = .ok (.ifnull 11, 3) := by decide +kernel
theorem d1020_4 : decode method_4_code 4 = .ok (.aload_n 0, 1) := by decide +kernel
theorem d1020_5 : decode method_4_code 5 = .ok (.invokevirtual 7, 3) := by decide +kernel
theorem d1020_8 : decode method_4_code 8 = .ok (.iload_n 3, 1) := by decide +kernel
theorem d1020_9 : decode method_4_code 9 = .ok (.if_icmp .eq 5, 3) := by decide +kernel
theorem d1020_14 : decode method_4_code 14 = .ok (.iload_n 3, 1) := by decide +kernel
theorem d1020_15 : decode method_4_code 15 = .ok (.ifCond .le 16, 3) := by decide +kernel
theorem d1020_18 : decode method_4_code 18 = .ok (.aload_n 0, 1) := by decide +kernel
theorem d1020_19 : decode method_4_code 19 = .ok (.iconst 0, 1) := by decide +kernel
theorem d1020_20 : decode method_4_code 20 = .ok (.invokevirtual 13, 3) := by decide +kernel
theorem d1020_23 : decode method_4_code 23 = .ok (.aload_n 1, 1) := by decide +kernel
theorem d1020_24 : decode method_4_code 24 = .ok (.iload_n 2, 1) := by decide +kernel
theorem d1020_25 : decode method_4_code 25 = .ok (.caload, 1) := by decide +kernel
theorem d1020_26 : decode method_4_code 26 = .ok (.if_icmp .eq 5, 3) := by decide +kernel
theorem d1020_31 : decode method_4_code 31 = .ok (.iload_n 3, 1) := by decide +kernel
theorem d1020_32 : decode method_4_code 32 = .ok (.iconst 1, 1) := by decide +kernel
theorem d1020_33 : decode method_4_code 33 = .ok (.if_icmp .le 18, 3) := by decide +kernel
theorem d1020_51 : decode method_4_code 51 = .ok (.iload_n 3, 1) := by decide +kernel
theorem d1020_52 : decode method_4_code 52 = .ok (.iconst 2, 1) := by decide +kernel
theorem d1020_53 : decode method_4_code 53 = .ok (.if_icmp .le 18, 3) := by decide +kernel
theorem d1020_71 : decode method_4_code 71 = .ok (.iload_n 3, 1) := by decide +kernel
theorem d1020_72 : decode method_4_code 72 = .ok (.iconst 3, 1) := by decide +kernel
theorem d1020_73 : decode method_4_code 73 = .ok (.if_icmp .le 18, 3) := by decide +kernel
theorem d1020_91 : decode method_4_code 91 = .ok (.iconst 1, 1) := by decide +kernel
theorem d1020_92 : decode method_4_code 92 = .ok (.ireturn, 1) := by decide +kernel
theorem ef30 (m : MethodId) (x0 : Addr) (x1 : Addr) (x2 : Int32) (x3 : Int32)  : entryFrame m #[(.ref x0), (.ref x1), (.int x2), (.int x3)] 4 = mkF m 0 #[vr x0, vr x1, vi x2, vi x3] [] := by first | (simp [entryFrame, mkF, argsToLocals, Value.category]; done) | rfl | rfl
set_option maxRecDepth 65536 in
set_option maxHeartbeats 40000000 in
theorem rm30 (l : Launch) (Z : State) (a0 : Array Value) (hw : ∀ d ∈ tables_1, d.before a0 Z = true) (hEL : EW Z a0 EL0) (zc : Int32) (SC : Sta Z Z.heap "java/lang/String" "COMPACT_STRINGS" "Z" (.int zc)) (hzc : ¬ zc = 0) (fm : Value) (SF : Sta Z Z.heap "jdk/internal/util/Preconditions" "SIOOBE_FORMATTER" "Ljava/util/function/BiFunction;" fm) (rfm : fm.isRef = true) (x1 : Addr) (x2 : Addr) (kc : ClassId) (q1 : Int32) (q2 : Int32) (q3 : Int32) (q4 : Int32) (h0 : Heap) {n0 : Nat} (O0 : Old Z n0 h0) (S1 : Str Z h0 x1 [q1]) (A1 : Arv Z h0 x2 kc .char (4 : Int32) [(.int q1), (.int q2), (.int q3), (.int q4)] (.int (0 : Int32))) (cq1 : ¬ q1 < 0 ∧ ¬ (255 : Int32) < q1) (cq2 : ¬ q2 < 0 ∧ ¬ (255 : Int32) < q2) (cq3 : ¬ q3 < 0 ∧ ¬ (255 : Int32) < q3) (cq4 : ¬ q4 < 0 ∧ ¬ (255 : Int32) < q4) :
    Met l Z EL0 n0 (⟨"com/example/grantwork/grantwork/resources/ResourceParsePinLaw", "matches", "(Ljava/lang/String;[CII)Z"⟩ : MethodName) method_4_code 4 (some .boolean) [] ({ frames := 4, cells := 0, slots := 0, locals := 53 } : Room) #[(.ref x1), (.ref x2), (.int (0 : Int32)), (.int (1 : Int32))] h0 [] [] (fun v h' => v = some (.int 1) ∧ h0 = h') := by
  refine Met.of (plainFor_of_name pn5) O0 ?_
  intro p e s m below meth c T0 hx hby hml hret hlk hnm hs W0
  have W0 : Wk p l e _ s m _ below meth c Z EL0 n0 [] "com/example/grantwork/grantwork/resources/ResourceParsePinLaw" [] T0 0 0 h0 := W0
  have hSA := fun d hd => hw d (sa_in d hd)
  have hws := fun d hd => hw d (ws_in d hd)
  have hln := fun d hd => hw d (ln_in d hd)
  have hch := fun d hd => hw d (ch_in d hd)
  have heq := fun d hd => hw d (eq_in d hd)
  have hem := fun d hd => hw d (em_in d hd)
  refine Go.of (fun _ kk => castTop (ef30 m x1 x2 (0 : Int32) (1 : Int32)) kk) ?_
  refine gof T0 m 5 #[vr x1, vr x2, vi 0, vi 1] [(.ref x1)] (fun _ kk => XS.aloadN W0.here hx rfl (hb hby d1020_0) rfl rfl (XS.ifnullNo W0.here hx rfl (hb hby d1020_1) rfl (XS.aloadN W0.here hx rfl (hb hby d1020_4) rfl rfl kk))) ?_
  refine W0.strLen hx hln (hw _ (mI 6 rfl)) SC hzc S1 (hw _ (mI 138 rfl)) (hw _ (mI 69 rfl)) (hw _ (mI 71 rfl)) (hw _ (mI 70 rfl)) (by decide +kernel) (Wd := 0) (by decide +kernel) (by decide +kernel) (by decide +kernel) rfl (by rw [hml]; rfl) rfl (by show 2 * 0 + _ ≤ _; exact Nat.le_of_eq rfl) (hb hby d1020_5) (fun T1 W1 => ?_)
  show Go p e below _ (T1.setTop (mkF m 8 #[vr x1, vr x2, vi 0, vi 1] [(.int 1)]))
  refine gof T1 m 20 #[vr x1, vr x2, vi 0, vi 1] [(.int 0), (.ref x1)] (fun _ kk => XS.iloadN W1.here hx rfl (hb hby d1020_8) rfl (XS.icmpYes W1.here hx rfl (pc0 := 9) (pc' := 14) rfl (hb hby d1020_9) rfl (XT.ii_eq_t (by decide +kernel)) (by decide +kernel) (by decide +kernel) (XS.iloadN W1.here hx rfl (hb hby d1020_14) rfl (XS.ifNo W1.here hx rfl (hb hby d1020_15) rfl (XT.i0_le_f (by decide +kernel)) (XS.aloadN W1.here hx rfl (hb hby d1020_18) rfl rfl (XS.iconst W1.here hx rfl (hb hby d1020_19) kk)))))) ?_
  refine W1.strChar hx hch (hw _ (mI 6 rfl)) SC hzc SF rfm S1 (snd255 (allSi cq1 all0i)) (i := 0) (Nat.le_of_ble_eq_true rfl) rfl (hw _ (mI 139 rfl)) (hw _ (mI 140 rfl)) (hw _ (mI 142 rfl)) (hw _ (mI 141 rfl)) (by decide +kernel) (Wd := 0) (by decide +kernel) (by decide +kernel) (by decide +kernel) rfl (by rw [hml]; rfl) rfl (by show 2 * 0 + _ ≤ _; exact Nat.le_of_eq rfl) (hb hby d1020_20) (fun T2 W2 => ?_)
  show Go p e below _ (T2.setTop (mkF m 23 #[vr x1, vr x2, vi 0, vi 1] [(.int q1)]))
  refine gof T2 m 25 #[vr x1, vr x2, vi 0, vi 1] [(.int 0), (.ref x2), (.int q1)] (fun _ kk => XS.aloadN W2.here hx rfl (hb hby d1020_23) rfl rfl (XS.iloadN W2.here hx rfl (hb hby d1020_24) rfl kk)) ?_
  refine W2.caload hx A1 ⟨by decide, by decide⟩ (v := (.int q1)) rfl rfl rfl (hb hby d1020_25) ?_
  refine gof T2 m 71 #[vr x1, vr x2, vi 0, vi 1] [] (fun _ kk => XS.icmpYes W2.here hx rfl (pc0 := 26) (pc' := 31) rfl (hb hby d1020_26) rfl (XT.ii_eq_t rfl) (by decide +kernel) (by decide +kernel) (XS.iloadN W2.here hx rfl (hb hby d1020_31) rfl (XS.iconst W2.here hx rfl (hb hby d1020_32) (XS.icmpYes W2.here hx rfl (pc0 := 33) (pc' := 51) rfl (hb hby d1020_33) rfl (XT.ii_le_t (by decide +kernel)) (by decide +kernel) (by decide +kernel) (XS.iloadN W2.here hx rfl (hb hby d1020_51) rfl (XS.iconst W2.here hx rfl (hb hby d1020_52) (XS.icmpYes W2.here hx rfl (pc0 := 53) (pc' := 71) rfl (hb hby d1020_53) rfl (XT.ii_le_t (by decide +kernel)) (by decide +kernel) (by decide +kernel) kk))))))) ?_
  refine gof T2 m 92 #[vr x1, vr x2, vi 0, vi 1] [(.int 1)] (fun _ kk => XS.iloadN W2.here hx rfl (hb hby d1020_71) rfl (XS.iconst W2.here hx rfl (hb hby d1020_72) (XS.icmpYes W2.here hx rfl (pc0 := 73) (pc' := 91) rfl (hb hby d1020_73) rfl (XT.ii_le_t (by decide +kernel)) (by decide +kernel) (by decide +kernel) (XS.iconst W2.here hx rfl (hb hby d1020_91) kk)))) ?_
  exact W2.retI hx hEL hs hlk (by decide +kernel) (by decide +kernel) hret (by simp) rfl (hb hby d1020_92) ⟨rfl, rfl⟩
theorem ef31 (m : MethodId) (x0 : Addr) (x1 : Addr) (x2 : Int32) (x3 : Int32)  : entryFrame m #[(.ref x0), (.ref x1), (.int x2), (.int x3)] 4 = mkF m 0 #[vr x0, vr x1, vi x2, vi x3] [] := by first | (simp [entryFrame, mkF, argsToLocals, Value.category]; done) | rfl | rfl
set_option maxRecDepth 65536 in
set_option maxHeartbeats 40000000 in
theorem rm31 (l : Launch) (Z : State) (a0 : Array Value) (hw : ∀ d ∈ tables_1, d.before a0 Z = true) (hEL : EW Z a0 EL0) (zc : Int32) (SC : Sta Z Z.heap "java/lang/String" "COMPACT_STRINGS" "Z" (.int zc)) (hzc : ¬ zc = 0) (fm : Value) (SF : Sta Z Z.heap "jdk/internal/util/Preconditions" "SIOOBE_FORMATTER" "Ljava/util/function/BiFunction;" fm) (rfm : fm.isRef = true) (x1 : Addr) (x2 : Addr) (kc : ClassId) (q1 : Int32) (q2 : Int32) (q3 : Int32) (q4 : Int32) (h0 : Heap) {n0 : Nat} (O0 : Old Z n0 h0) (S1 : Str Z h0 x1 [q2]) (A1 : Arv Z h0 x2 kc .char (4 : Int32) [(.int q1), (.int q2), (.int q3), (.int q4)] (.int (0 : Int32))) (cq1 : ¬ q1 < 0 ∧ ¬ (255 : Int32) < q1) (cq2 : ¬ q2 < 0 ∧ ¬ (255 : Int32) < q2) (cq3 : ¬ q3 < 0 ∧ ¬ (255 : Int32) < q3) (cq4 : ¬ q4 < 0 ∧ ¬ (255 : Int32) < q4) :
    Met l Z EL0 n0 (⟨"com/example/grantwork/grantwork/resources/ResourceParsePinLaw", "matches", "(Ljava/lang/String;[CII)Z"⟩ : MethodName) method_4_code 4 (some .boolean) [] ({ frames := 4, cells := 0, slots := 0, locals := 53 } : Room) #[(.ref x1), (.ref x2), (.int (1 : Int32)), (.int (1 : Int32))] h0 [] [] (fun v h' => v = some (.int 1) ∧ h0 = h') := by
  refine Met.of (plainFor_of_name pn5) O0 ?_
  intro p e s m below meth c T0 hx hby hml hret hlk hnm hs W0
  have W0 : Wk p l e _ s m _ below meth c Z EL0 n0 [] "com/example/grantwork/grantwork/resources/ResourceParsePinLaw" [] T0 0 0 h0 := W0
  have hSA := fun d hd => hw d (sa_in d hd)
  have hws := fun d hd => hw d (ws_in d hd)
  have hln := fun d hd => hw d (ln_in d hd)
  have hch := fun d hd => hw d (ch_in d hd)
  have heq := fun d hd => hw d (eq_in d hd)
  have hem := fun d hd => hw d (em_in d hd)
  refine Go.of (fun _ kk => castTop (ef31 m x1 x2 (1 : Int32) (1 : Int32)) kk) ?_
  refine gof T0 m 5 #[vr x1, vr x2, vi 1, vi 1] [(.ref x1)] (fun _ kk => XS.aloadN W0.here hx rfl (hb hby d1020_0) rfl rfl (XS.ifnullNo W0.here hx rfl (hb hby d1020_1) rfl (XS.aloadN W0.here hx rfl (hb hby d1020_4) rfl rfl kk))) ?_
  refine W0.strLen hx hln (hw _ (mI 6 rfl)) SC hzc S1 (hw _ (mI 138 rfl)) (hw _ (mI 69 rfl)) (hw _ (mI 71 rfl)) (hw _ (mI 70 rfl)) (by decide +kernel) (Wd := 0) (by decide +kernel) (by decide +kernel) (by decide +kernel) rfl (by rw [hml]; rfl) rfl (by show 2 * 0 + _ ≤ _; exact Nat.le_of_eq rfl) (hb hby d1020_5) (fun T1 W1 => ?_)
  show Go p e below _ (T1.setTop (mkF m 8 #[vr x1, vr x2, vi 1, vi 1] [(.int 1)]))
  refine gof T1 m 20 #[vr x1, vr x2, vi 1, vi 1] [(.int 0), (.ref x1)] (fun _ kk => XS.iloadN W1.here hx rfl (hb hby d1020_8) rfl (XS.icmpYes W1.here hx rfl (pc0 := 9) (pc' := 14) rfl (hb hby d1020_9) rfl (XT.ii_eq_t (by decide +kernel)) (by decide +kernel) (by decide +kernel) (XS.iloadN W1.here hx rfl (hb hby d1020_14) rfl (XS.ifNo W1.here hx rfl (hb hby d1020_15) rfl (XT.i0_le_f (by decide +kernel)) (XS.aloadN W1.here hx rfl (hb hby d1020_18) rfl rfl (XS.iconst W1.here hx rfl (hb hby d1020_19) kk)))))) ?_
  refine W1.strChar hx hch (hw _ (mI 6 rfl)) SC hzc SF rfm S1 (snd255 (allSi cq2 all0i)) (i := 0) (Nat.le_of_ble_eq_true rfl) rfl (hw _ (mI 139 rfl)) (hw _ (mI 140 rfl)) (hw _ (mI 142 rfl)) (hw _ (mI 141 rfl)) (by decide +kernel) (Wd := 0) (by decide +kernel) (by decide +kernel) (by decide +kernel) rfl (by rw [hml]; rfl) rfl (by show 2 * 0 + _ ≤ _; exact Nat.le_of_eq rfl) (hb hby d1020_20) (fun T2 W2 => ?_)
  show Go p e below _ (T2.setTop (mkF m 23 #[vr x1, vr x2, vi 1, vi 1] [(.int q2)]))
  refine gof T2 m 25 #[vr x1, vr x2, vi 1, vi 1] [(.int 1), (.ref x2), (.int q2)] (fun _ kk => XS.aloadN W2.here hx rfl (hb hby d1020_23) rfl rfl (XS.iloadN W2.here hx rfl (hb hby d1020_24) rfl kk)) ?_
  refine W2.caload hx A1 ⟨by decide, by decide⟩ (v := (.int q2)) rfl rfl rfl (hb hby d1020_25) ?_
  refine gof T2 m 71 #[vr x1, vr x2, vi 1, vi 1] [] (fun _ kk => XS.icmpYes W2.here hx rfl (pc0 := 26) (pc' := 31) rfl (hb hby d1020_26) rfl (XT.ii_eq_t rfl) (by decide +kernel) (by decide +kernel) (XS.iloadN W2.here hx rfl (hb hby d1020_31) rfl (XS.iconst W2.here hx rfl (hb hby d1020_32) (XS.icmpYes W2.here hx rfl (pc0 := 33) (pc' := 51) rfl (hb hby d1020_33) rfl (XT.ii_le_t (by decide +kernel)) (by decide +kernel) (by decide +kernel) (XS.iloadN W2.here hx rfl (hb hby d1020_51) rfl (XS.iconst W2.here hx rfl (hb hby d1020_52) (XS.icmpYes W2.here hx rfl (pc0 := 53) (pc' := 71) rfl (hb hby d1020_53) rfl (XT.ii_le_t (by decide +kernel)) (by decide +kernel) (by decide +kernel) kk))))))) ?_
  refine gof T2 m 92 #[vr x1, vr x2, vi 1, vi 1] [(.int 1)] (fun _ kk => XS.iloadN W2.here hx rfl (hb hby d1020_71) rfl (XS.iconst W2.here hx rfl (hb hby d1020_72) (XS.icmpYes W2.here hx rfl (pc0 := 73) (pc' := 91) rfl (hb hby d1020_73) rfl (XT.ii_le_t (by decide +kernel)) (by decide +kernel) (by decide +kernel) (XS.iconst W2.here hx rfl (hb hby d1020_91) kk)))) ?_
  exact W2.retI hx hEL hs hlk (by decide +kernel) (by decide +kernel) hret (by simp) rfl (hb hby d1020_92) ⟨rfl, rfl⟩
theorem ef32 (m : MethodId) (x0 : Addr) (x1 : Addr) (x2 : Int32) (x3 : Int32)  : entryFrame m #[(.ref x0), (.ref x1), (.int x2), (.int x3)] 4 = mkF m 0 #[vr x0, vr x1, vi x2, vi x3] [] := by first | (simp [entryFrame, mkF, argsToLocals, Value.category]; done) | rfl | rfl
set_option maxRecDepth 65536 in
set_option maxHeartbeats 40000000 in
theorem rm32 (l : Launch) (Z : State) (a0 : Array Value) (hw : ∀ d ∈ tables_1, d.before a0 Z = true) (hEL : EW Z a0 EL0) (zc : Int32) (SC : Sta Z Z.heap "java/lang/String" "COMPACT_STRINGS" "Z" (.int zc)) (hzc : ¬ zc = 0) (fm : Value) (SF : Sta Z Z.heap "jdk/internal/util/Preconditions" "SIOOBE_FORMATTER" "Ljava/util/function/BiFunction;" fm) (rfm : fm.isRef = true) (x1 : Addr) (x2 : Addr) (kc : ClassId) (q1 : Int32) (q2 : Int32) (q3 : Int32) (q4 : Int32) (h0 : Heap) {n0 : Nat} (O0 : Old Z n0 h0) (S1 : Str Z h0 x1 [q3]) (A1 : Arv Z h0 x2 kc .char (4 : Int32) [(.int q1), (.int q2), (.int q3), (.int q4)] (.int (0 : Int32))) (cq1 : ¬ q1 < 0 ∧ ¬ (255 : Int32) < q1) (cq2 : ¬ q2 < 0 ∧ ¬ (255 : Int32) < q2) (cq3 : ¬ q3 < 0 ∧ ¬ (255 : Int32) < q3) (cq4 : ¬ q4 < 0 ∧ ¬ (255 : Int32) < q4) :
    Met l Z EL0 n0 (⟨"com/example/grantwork/grantwork/resources/ResourceParsePinLaw", "matches", "(Ljava/lang/String;[CII)Z"⟩ : MethodName) method_4_code 4 (some .boolean) [] ({ frames := 4, cells := 0, slots := 0, locals := 53 } : Room) #[(.ref x1), (.ref x2), (.int (2 : Int32)), (.int (1 : Int32))] h0 [] [] (fun v h' => v = some (.int 1) ∧ h0 = h') := by
  refine Met.of (plainFor_of_name pn5) O0 ?_
  intro p e s m below meth c T0 hx hby hml hret hlk hnm hs W0
  have W0 : Wk p l e _ s m _ below meth c Z EL0 n0 [] "com/example/grantwork/grantwork/resources/ResourceParsePinLaw" [] T0 0 0 h0 := W0
  have hSA := fun d hd => hw d (sa_in d hd)
  have hws := fun d hd => hw d (ws_in d hd)
  have hln := fun d hd => hw d (ln_in d hd)
  have hch := fun d hd => hw d (ch_in d hd)
  have heq := fun d hd => hw d (eq_in d hd)
  have hem := fun d hd => hw d (em_in d hd)
  refine Go.of (fun _ kk => castTop (ef32 m x1 x2 (2 : Int32) (1 : Int32)) kk) ?_
  refine gof T0 m 5 #[vr x1, vr x2, vi 2, vi 1] [(.ref x1)] (fun _ kk => XS.aloadN W0.here hx rfl (hb hby d1020_0) rfl rfl (XS.ifnullNo W0.here hx rfl (hb hby d1020_1) rfl (XS.aloadN W0.here hx rfl (hb hby d1020_4) rfl rfl kk))) ?_
  refine W0.strLen hx hln (hw _ (mI 6 rfl)) SC hzc S1 (hw _ (mI 138 rfl)) (hw _ (mI 69 rfl)) (hw _ (mI 71 rfl)) (hw _ (mI 70 rfl)) (by decide +kernel) (Wd := 0) (by decide +kernel) (by decide +kernel) (by decide +kernel) rfl (by rw [hml]; rfl) rfl (by show 2 * 0 + _ ≤ _; exact Nat.le_of_eq rfl) (hb hby d1020_5) (fun T1 W1 => ?_)
  show Go p e below _ (T1.setTop (mkF m 8 #[vr x1, vr x2, vi 2, vi 1] [(.int 1)]))
  refine gof T1 m 20 #[vr x1, vr x2, vi 2, vi 1] [(.int 0), (.ref x1)] (fun _ kk => XS.iloadN W1.here hx rfl (hb hby d1020_8) rfl (XS.icmpYes W1.here hx rfl (pc0 := 9) (pc' := 14) rfl (hb hby d1020_9) rfl (XT.ii_eq_t (by decide +kernel)) (by decide +kernel) (by decide +kernel) (XS.iloadN W1.here hx rfl (hb hby d1020_14) rfl (XS.ifNo W1.here hx rfl (hb hby d1020_15) rfl (XT.i0_le_f (by decide +kernel)) (XS.aloadN W1.here hx rfl (hb hby d1020_18) rfl rfl (XS.iconst W1.here hx rfl (hb hby d1020_19) kk)))))) ?_
  refine W1.strChar hx hch (hw _ (mI 6 rfl)) SC hzc SF rfm S1 (snd255 (allSi cq3 all0i)) (i := 0) (Nat.le_of_ble_eq_true rfl) rfl (hw _ (mI 139 rfl)) (hw _ (mI 140 rfl)) (hw _ (mI 142 rfl)) (hw _ (mI 141 rfl)) (by decide +kernel) (Wd := 0) (by decide +kernel) (by decide +kernel) (by decide +kernel) rfl (by rw [hml]; rfl) rfl (by show 2 * 0 + _ ≤ _; exact Nat.le_of_eq rfl) (hb hby d1020_20) (fun T2 W2 => ?_)
  show Go p e below _ (T2.setTop (mkF m 23 #[vr x1, vr x2, vi 2, vi 1] [(.int q3)]))
  refine gof T2 m 25 #[vr x1, vr x2, vi 2, vi 1] [(.int 2), (.ref x2), (.int q3)] (fun _ kk => XS.aloadN W2.here hx rfl (hb hby d1020_23) rfl rfl (XS.iloadN W2.here hx rfl (hb hby d1020_24) rfl kk)) ?_
  refine W2.caload hx A1 ⟨by decide, by decide⟩ (v := (.int q3)) rfl rfl rfl (hb hby d1020_25) ?_
  refine gof T2 m 71 #[vr x1, vr x2, vi 2, vi 1] [] (fun _ kk => XS.icmpYes W2.here hx rfl (pc0 := 26) (pc' := 31) rfl (hb hby d1020_26) rfl (XT.ii_eq_t rfl) (by decide +kernel) (by decide +kernel) (XS.iloadN W2.here hx rfl (hb hby d1020_31) rfl (XS.iconst W2.here hx rfl (hb hby d1020_32) (XS.icmpYes W2.here hx rfl (pc0 := 33) (pc' := 51) rfl (hb hby d1020_33) rfl (XT.ii_le_t (by decide +kernel)) (by decide +kernel) (by decide +kernel) (XS.iloadN W2.here hx rfl (hb hby d1020_51) rfl (XS.iconst W2.here hx rfl (hb hby d1020_52) (XS.icmpYes W2.here hx rfl (pc0 := 53) (pc' := 71) rfl (hb hby d1020_53) rfl (XT.ii_le_t (by decide +kernel)) (by decide +kernel) (by decide +kernel) kk))))))) ?_
  refine gof T2 m 92 #[vr x1, vr x2, vi 2, vi 1] [(.int 1)] (fun _ kk => XS.iloadN W2.here hx rfl (hb hby d1020_71) rfl (XS.iconst W2.here hx rfl (hb hby d1020_72) (XS.icmpYes W2.here hx rfl (pc0 := 73) (pc' := 91) rfl (hb hby d1020_73) rfl (XT.ii_le_t (by decide +kernel)) (by decide +kernel) (by decide +kernel) (XS.iconst W2.here hx rfl (hb hby d1020_91) kk)))) ?_
  exact W2.retI hx hEL hs hlk (by decide +kernel) (by decide +kernel) hret (by simp) rfl (hb hby d1020_92) ⟨rfl, rfl⟩
theorem ef33 (m : MethodId) (x0 : Addr) (x1 : Addr) (x2 : Int32) (x3 : Int32)  : entryFrame m #[(.ref x0), (.ref x1), (.int x2), (.int x3)] 4 = mkF m 0 #[vr x0, vr x1, vi x2, vi x3] [] := by first | (simp [entryFrame, mkF, argsToLocals, Value.category]; done) | rfl | rfl
set_option maxRecDepth 65536 in
set_option maxHeartbeats 40000000 in
theorem rm33 (l : Launch) (Z : State) (a0 : Array Value) (hw : ∀ d ∈ tables_1, d.before a0 Z = true) (hEL : EW Z a0 EL0) (zc : Int32) (SC : Sta Z Z.heap "java/lang/String" "COMPACT_STRINGS" "Z" (.int zc)) (hzc : ¬ zc = 0) (fm : Value) (SF : Sta Z Z.heap "jdk/internal/util/Preconditions" "SIOOBE_FORMATTER" "Ljava/util/function/BiFunction;" fm) (rfm : fm.isRef = true) (x1 : Addr) (x2 : Addr) (kc : ClassId) (q1 : Int32) (q2 : Int32) (q3 : Int32) (q4 : Int32) (h0 : Heap) {n0 : Nat} (O0 : Old Z n0 h0) (S1 : Str Z h0 x1 [q4]) (A1 : Arv Z h0 x2 kc .char (4 : Int32) [(.int q1), (.int q2), (.int q3), (.int q4)] (.int (0 : Int32))) (cq1 : ¬ q1 < 0 ∧ ¬ (255 : Int32) < q1) (cq2 : ¬ q2 < 0 ∧ ¬ (255 : Int32) < q2) (cq3 : ¬ q3 < 0 ∧ ¬ (255 : Int32) < q3) (cq4 : ¬ q4 < 0 ∧ ¬ (255 : Int32) < q4) :
    Met l Z EL0 n0 (⟨"com/example/grantwork/grantwork/resources/ResourceParsePinLaw", "matches", "(Ljava/lang/String;[CII)Z"⟩ : MethodName) method_4_code 4 (some .boolean) [] ({ frames := 4, cells := 0, slots := 0, locals := 53 } : Room) #[(.ref x1), (.ref x2), (.int (3 : Int32)), (.int (1 : Int32))] h0 [] [] (fun v h' => v = some (.int 1) ∧ h0 = h') := by
  refine Met.of (plainFor_of_name pn5) O0 ?_
  intro p e s m below meth c T0 hx hby hml hret hlk hnm hs W0
  have W0 : Wk p l e _ s m _ below meth c Z EL0 n0 [] "com/example/grantwork/grantwork/resources/ResourceParsePinLaw" [] T0 0 0 h0 := W0
  have hSA := fun d hd => hw d (sa_in d hd)
  have hws := fun d hd => hw d (ws_in d hd)
  have hln := fun d hd => hw d (ln_in d hd)
  have hch := fun d hd => hw d (ch_in d hd)
  have heq := fun d hd => hw d (eq_in d hd)
  have hem := fun d hd => hw d (em_in d hd)
  refine Go.of (fun _ kk => castTop (ef33 m x1 x2 (3 : Int32) (1 : Int32)) kk) ?_
  refine gof T0 m 5 #[vr x1, vr x2, vi 3, vi 1] [(.ref x1)] (fun _ kk => XS.aloadN W0.here hx rfl (hb hby d1020_0) rfl rfl (XS.ifnullNo W0.here hx rfl (hb hby d1020_1) rfl (XS.aloadN W0.here hx rfl (hb hby d1020_4) rfl rfl kk))) ?_
  refine W0.strLen hx hln (hw _ (mI 6 rfl)) SC hzc S1 (hw _ (mI 138 rfl)) (hw _ (mI 69 rfl)) (hw _ (mI 71 rfl)) (hw _ (mI 70 rfl)) (by decide +kernel) (Wd := 0) (by decide +kernel) (by decide +kernel) (by decide +kernel) rfl (by rw [hml]; rfl) rfl (by show 2 * 0 + _ ≤ _; exact Nat.le_of_eq rfl) (hb hby d1020_5) (fun T1 W1 => ?_)
  show Go p e below _ (T1.setTop (mkF m 8 #[vr x1, vr x2, vi 3, vi 1] [(.int 1)]))
  refine gof T1 m 20 #[vr x1, vr x2, vi 3, vi 1] [(.int 0), (.ref x1)] (fun _ kk => XS.iloadN W1.here hx rfl (hb hby d1020_8) rfl (XS.icmpYes W1.here hx rfl (pc0 := 9) (pc' := 14) rfl (hb hby d1020_9) rfl (XT.ii_eq_t (by decide +kernel)) (by decide +kernel) (by decide +kernel) (XS.iloadN W1.here hx rfl (hb hby d1020_14) rfl (XS.ifNo W1.here hx rfl (hb hby d1020_15) rfl (XT.i0_le_f (by decide +kernel)) (XS.aloadN W1.here hx rfl (hb hby d1020_18) rfl rfl (XS.iconst W1.here hx rfl (hb hby d1020_19) kk)))))) ?_
  refine W1.strChar hx hch (hw _ (mI 6 rfl)) SC hzc SF rfm S1 (snd255 (allSi cq4 all0i)) (i := 0) (Nat.le_of_ble_eq_true rfl) rfl (hw _ (mI 139 rfl)) (hw _ (mI 140 rfl)) (hw _ (mI 142 rfl)) (hw _ (mI 141 rfl)) (by decide +kernel) (Wd := 0) (by decide +kernel) (by decide +kernel) (by decide +kernel) rfl (by rw [hml]; rfl) rfl (by show 2 * 0 + _ ≤ _; exact Nat.le_of_eq rfl) (hb hby d1020_20) (fun T2 W2 => ?_)
  show Go p e below _ (T2.setTop (mkF m 23 #[vr x1, vr x2, vi 3, vi 1] [(.int q4)]))
  refine gof T2 m 25 #[vr x1, vr x2, vi 3, vi 1] [(.int 3), (.ref x2), (.int q4)] (fun _ kk => XS.aloadN W2.here hx rfl (hb hby d1020_23) rfl rfl (XS.iloadN W2.here hx rfl (hb hby d1020_24) rfl kk)) ?_
  refine W2.caload hx A1 ⟨by decide, by decide⟩ (v := (.int q4)) rfl rfl rfl (hb hby d1020_25) ?_
  refine gof T2 m 71 #[vr x1, vr x2, vi 3, vi 1] [] (fun _ kk => XS.icmpYes W2.here hx rfl (pc0 := 26) (pc' := 31) rfl (hb hby d1020_26) rfl (XT.ii_eq_t rfl) (by decide +kernel) (by decide +kernel) (XS.iloadN W2.here hx rfl (hb hby d1020_31) rfl (XS.iconst W2.here hx rfl (hb hby d1020_32) (XS.icmpYes W2.here hx rfl (pc0 := 33) (pc' := 51) rfl (hb hby d1020_33) rfl (XT.ii_le_t (by decide +kernel)) (by decide +kernel) (by decide +kernel) (XS.iloadN W2.here hx rfl (hb hby d1020_51) rfl (XS.iconst W2.here hx rfl (hb hby d1020_52) (XS.icmpYes W2.here hx rfl (pc0 := 53) (pc' := 71) rfl (hb hby d1020_53) rfl (XT.ii_le_t (by decide +kernel)) (by decide +kernel) (by decide +kernel) kk))))))) ?_
  refine gof T2 m 92 #[vr x1, vr x2, vi 3, vi 1] [(.int 1)] (fun _ kk => XS.iloadN W2.here hx rfl (hb hby d1020_71) rfl (XS.iconst W2.here hx rfl (hb hby d1020_72) (XS.icmpYes W2.here hx rfl (pc0 := 73) (pc' := 91) rfl (hb hby d1020_73) rfl (XT.ii_le_t (by decide +kernel)) (by decide +kernel) (by decide +kernel) (XS.iconst W2.here hx rfl (hb hby d1020_91) kk)))) ?_
  exact W2.retI hx hEL hs hlk (by decide +kernel) (by decide +kernel) hret (by simp) rfl (hb hby d1020_92) ⟨rfl, rfl⟩
theorem d1020_36 : decode method_4_code 36 = .ok (.aload_n 0, 1) := by decide +kernel
theorem d1020_37 : decode method_4_code 37 = .ok (.iconst 1, 1) := by decide +kernel
theorem d1020_38 : decode method_4_code 38 = .ok (.invokevirtual 13, 3) := by decide +kernel
theorem d1020_41 : decode method_4_code 41 = .ok (.aload_n 1, 1) := by decide +kernel
theorem d1020_42 : decode method_4_code 42 = .ok (.iload_n 2, 1) := by decide +kernel
theorem d1020_43 : decode method_4_code 43 = .ok (.iconst 1, 1) := by decide +kernel
theorem d1020_44 : decode method_4_code 44 = .ok (.iadd, 1) := by decide +kernel
theorem d1020_45 : decode method_4_code 45 = .ok (.caload, 1) := by decide +kernel
theorem d1020_46 : decode method_4_code 46 = .ok (.if_icmp .eq 5, 3) := by decide +kernel
theorem ef34 (m : MethodId) (x0 : Addr) (x1 : Addr) (x2 : Int32) (x3 : Int32)  : entryFrame m #[(.ref x0), (.ref x1), (.int x2), (.int x3)] 4 = mkF m 0 #[vr x0, vr x1, vi x2, vi x3] [] := by first | (simp [entryFrame, mkF, argsToLocals, Value.category]; done) | rfl | rfl
set_option maxRecDepth 65536 in
set_option maxHeartbeats 40000000 in
theorem rm34 (l : Launch) (Z : State) (a0 : Array Value) (hw : ∀ d ∈ tables_1, d.before a0 Z = true) (hEL : EW Z a0 EL0) (zc : Int32) (SC : Sta Z Z.heap "java/lang/String" "COMPACT_STRINGS" "Z" (.int zc)) (hzc : ¬ zc = 0) (fm : Value) (SF : Sta Z Z.heap "jdk/internal/util/Preconditions" "SIOOBE_FORMATTER" "Ljava/util/function/BiFunction;" fm) (rfm : fm.isRef = true) (x1 : Addr) (x2 : Addr) (kc : ClassId) (q1 : Int32) (q2 : Int32) (q3 : Int32) (q4 : Int32) (h0 : Heap) {n0 : Nat} (O0 : Old Z n0 h0) (S1 : Str Z h0 x1 [q1, q2]) (A1 : Arv Z h0 x2 kc .char (4 : Int32) [(.int q1), (.int q2), (.int q3), (.int q4)] (.int (0 : Int32))) (cq1 : ¬ q1 < 0 ∧ ¬ (255 : Int32) < q1) (cq2 : ¬ q2 < 0 ∧ ¬ (255 : Int32) < q2) (cq3 : ¬ q3 < 0 ∧ ¬ (255 : Int32) < q3) (cq4 : ¬ q4 < 0 ∧ ¬ (255 : Int32) < q4) :
    Met l Z EL0 n0 (⟨"com/example/grantwork/grantwork/resources/ResourceParsePinLaw", "matches", "(Ljava/lang/String;[CII)Z"⟩ : MethodName) method_4_code 4 (some .boolean) [] ({ frames := 4, cells := 0, slots := 0, locals := 53 } : Room) #[(.ref x1), (.ref x2), (.int (0 : Int32)), (.int (2 : Int32))] h0 [] [] (fun v h' => v = some (.int 1) ∧ h0 = h') := by
  refine Met.of (plainFor_of_name pn5) O0 ?_
  intro p e s m below meth c T0 hx hby hml hret hlk hnm hs W0
  have W0 : Wk p l e _ s m _ below meth c Z EL0 n0 [] "com/example/grantwork/grantwork/resources/ResourceParsePinLaw" [] T0 0 0 h0 := W0
  have hSA := fun d hd => hw d (sa_in d hd)
  have hws := fun d hd => hw d (ws_in d hd)
  have hln := fun d hd => hw d (ln_in d hd)
  have hch := fun d hd => hw d (ch_in d hd)
  have heq := fun d hd => hw d (eq_in d hd)
  have hem := fun d hd => hw d (em_in d hd)
  refine Go.of (fun _ kk => castTop (ef34 m x1 x2 (0 : Int32) (2 : Int32)) kk) ?_
  refine gof T0 m 5 #[vr x1, vr x2, vi 0, vi 2] [(.ref x1)] (fun _ kk => XS.aloadN W0.here hx rfl (hb hby d1020_0) rfl rfl (XS.ifnullNo W0.here hx rfl (hb hby d1020_1) rfl (XS.aloadN W0.here hx rfl (hb hby d1020_4) rfl rfl kk))) ?_
  refine W0.strLen hx hln (hw _ (mI 6 rfl)) SC hzc S1 (hw _ (mI 138 rfl)) (hw _ (mI 69 rfl)) (hw _ (mI 71 rfl)) (hw _ (mI 70 rfl)) (by decide +kernel) (Wd := 0) (by decide +kernel) (by decide +kernel) (by decide +kernel) rfl (by rw [hml]; rfl) rfl (by show 2 * 0 + _ ≤ _; exact Nat.le_of_eq rfl) (hb hby d1020_5) (fun T1 W1 => ?_)
  show Go p e below _ (T1.setTop (mkF m 8 #[vr x1, vr x2, vi 0, vi 2] [(.int 2)]))
  refine gof T1 m 20 #[vr x1, vr x2, vi 0, vi 2] [(.int 0), (.ref x1)] (fun _ kk => XS.iloadN W1.here hx rfl (hb hby d1020_8) rfl (XS.icmpYes W1.here hx rfl (pc0 := 9) (pc' := 14) rfl (hb hby d1020_9) rfl (XT.ii_eq_t (by decide +kernel)) (by decide +kernel) (by decide +kernel) (XS.iloadN W1.here hx rfl (hb hby d1020_14) rfl (XS.ifNo W1.here hx rfl (hb hby d1020_15) rfl (XT.i0_le_f (by decide +kernel)) (XS.aloadN W1.here hx rfl (hb hby d1020_18) rfl rfl (XS.iconst W1.here hx rfl (hb hby d1020_19) kk)))))) ?_
  refine W1.strChar hx hch (hw _ (mI 6 rfl)) SC hzc SF rfm S1 (snd255 (allSi cq1 (allSi cq2 all0i))) (i := 0) (Nat.le_of_ble_eq_true rfl) rfl (hw _ (mI 139 rfl)) (hw _ (mI 140 rfl)) (hw _ (mI 142 rfl)) (hw _ (mI 141 rfl)) (by decide +kernel) (Wd := 0) (by decide +kernel) (by decide +kernel) (by decide +kernel) rfl (by rw [hml]; rfl) rfl (by show 2 * 0 + _ ≤ _; exact Nat.le_of_eq rfl) (hb hby d1020_20) (fun T2 W2 => ?_)
  show Go p e below _ (T2.setTop (mkF m 23 #[vr x1, vr x2, vi 0, vi 2] [(.int q1)]))
  refine gof T2 m 25 #[vr x1, vr x2, vi 0, vi 2] [(.int 0), (.ref x2), (.int q1)] (fun _ kk => XS.aloadN W2.here hx rfl (hb hby d1020_23) rfl rfl (XS.iloadN W2.here hx rfl (hb hby d1020_24) rfl kk)) ?_
  refine W2.caload hx A1 ⟨by decide, by decide⟩ (v := (.int q1)) rfl rfl rfl (hb hby d1020_25) ?_
  refine gof T2 m 38 #[vr x1, vr x2, vi 0, vi 2] [(.int 1), (.ref x1)] (fun _ kk => XS.icmpYes W2.here hx rfl (pc0 := 26) (pc' := 31) rfl (hb hby d1020_26) rfl (XT.ii_eq_t rfl) (by decide +kernel) (by decide +kernel) (XS.iloadN W2.here hx rfl (hb hby d1020_31) rfl (XS.iconst W2.here hx rfl (hb hby d1020_32) (XS.icmpNo W2.here hx rfl (hb hby d1020_33) rfl (XT.ii_le_f (by decide +kernel)) (XS.aloadN W2.here hx rfl (hb hby d1020_36) rfl rfl (XS.iconst W2.here hx rfl (hb hby d1020_37) kk)))))) ?_
  refine W2.strChar hx hch (hw _ (mI 6 rfl)) SC hzc SF rfm S1 (snd255 (allSi cq1 (allSi cq2 all0i))) (i := 1) (Nat.le_of_ble_eq_true rfl) rfl (hw _ (mI 139 rfl)) (hw _ (mI 140 rfl)) (hw _ (mI 142 rfl)) (hw _ (mI 141 rfl)) (by decide +kernel) (Wd := 0) (by decide +kernel) (by decide +kernel) (by decide +kernel) rfl (by rw [hml]; rfl) rfl (by show 2 * 0 + _ ≤ _; exact Nat.le_of_eq rfl) (hb hby d1020_38) (fun T3 W3 => ?_)
  show Go p e below _ (T3.setTop (mkF m 41 #[vr x1, vr x2, vi 0, vi 2] [(.int q2)]))
  refine gof T3 m 45 #[vr x1, vr x2, vi 0, vi 2] [(.int 1), (.ref x2), (.int q2)] (fun _ kk => XS.aloadN W3.here hx rfl (hb hby d1020_41) rfl rfl (XS.iloadN W3.here hx rfl (hb hby d1020_42) rfl (XS.iconst W3.here hx rfl (hb hby d1020_43) (XS.iadd W3.here hx rfl (hb hby d1020_44) rfl kk)))) ?_
  refine W3.caload hx A1 ⟨by decide, by decide⟩ (v := (.int q2)) rfl rfl rfl (hb hby d1020_45) ?_
  refine gof T3 m 91 #[vr x1, vr x2, vi 0, vi 2] [] (fun _ kk => XS.icmpYes W3.here hx rfl (pc0 := 46) (pc' := 51) rfl (hb hby d1020_46) rfl (XT.ii_eq_t rfl) (by decide +kernel) (by decide +kernel) (XS.iloadN W3.here hx rfl (hb hby d1020_51) rfl (XS.iconst W3.here hx rfl (hb hby d1020_52) (XS.icmpYes W3.here hx rfl (pc0 := 53) (pc' := 71) rfl (hb hby d1020_53) rfl (XT.ii_le_t (by decide +kernel)) (by decide +kernel) (by decide +kernel) (XS.iloadN W3.here hx rfl (hb hby d1020_71) rfl (XS.iconst W3.here hx rfl (hb hby d1020_72) (XS.icmpYes W3.here hx rfl (pc0 := 73) (pc' := 91) rfl (hb hby d1020_73) rfl (XT.ii_le_t (by decide +kernel)) (by decide +kernel) (by decide +kernel) kk))))))) ?_
  refine gof T3 m 92 #[vr x1, vr x2, vi 0, vi 2] [(.int 1)] (fun _ kk => XS.iconst W3.here hx rfl (hb hby d1020_91) kk) ?_
  exact W3.retI hx hEL hs hlk (by decide +kernel) (by decide +kernel) hret (by simp) rfl (hb hby d1020_92) ⟨rfl, rfl⟩
theorem ef35 (m : MethodId) (x0 : Addr) (x1 : Addr) (x2 : Int32) (x3 : Int32)  : entryFrame m #[(.ref x0), (.ref x1), (.int x2), (.int x3)] 4 = mkF m 0 #[vr x0, vr x1, vi x2, vi x3] [] := by first | (simp [entryFrame, mkF, argsToLocals, Value.category]; done) | rfl | rfl
set_option maxRecDepth 65536 in
set_option maxHeartbeats 40000000 in
theorem rm35 (l : Launch) (Z : State) (a0 : Array Value) (hw : ∀ d ∈ tables_1, d.before a0 Z = true) (hEL : EW Z a0 EL0) (zc : Int32) (SC : Sta Z Z.heap "java/lang/String" "COMPACT_STRINGS" "Z" (.int zc)) (hzc : ¬ zc = 0) (fm : Value) (SF : Sta Z Z.heap "jdk/internal/util/Preconditions" "SIOOBE_FORMATTER" "Ljava/util/function/BiFunction;" fm) (rfm : fm.isRef = true) (x1 : Addr) (x2 : Addr) (kc : ClassId) (q1 : Int32) (q2 : Int32) (q3 : Int32) (q4 : Int32) (h0 : Heap) {n0 : Nat} (O0 : Old Z n0 h0) (S1 : Str Z h0 x1 [q2, q3]) (A1 : Arv Z h0 x2 kc .char (4 : Int32) [(.int q1), (.int q2), (.int q3), (.int q4)] (.int (0 : Int32))) (cq1 : ¬ q1 < 0 ∧ ¬ (255 : Int32) < q1) (cq2 : ¬ q2 < 0 ∧ ¬ (255 : Int32) < q2) (cq3 : ¬ q3 < 0 ∧ ¬ (255 : Int32) < q3) (cq4 : ¬ q4 < 0 ∧ ¬ (255 : Int32) < q4) :
    Met l Z EL0 n0 (⟨"com/example/grantwork/grantwork/resources/ResourceParsePinLaw", "matches", "(Ljava/lang/String;[CII)Z"⟩ : MethodName) method_4_code 4 (some .boolean) [] ({ frames := 4, cells := 0, slots := 0, locals := 53 } : Room) #[(.ref x1), (.ref x2), (.int (1 : Int32)), (.int (2 : Int32))] h0 [] [] (fun v h' => v = some (.int 1) ∧ h0 = h') := by
  refine Met.of (plainFor_of_name pn5) O0 ?_
  intro p e s m below meth c T0 hx hby hml hret hlk hnm hs W0
  have W0 : Wk p l e _ s m _ below meth c Z EL0 n0 [] "com/example/grantwork/grantwork/resources/ResourceParsePinLaw" [] T0 0 0 h0 := W0
  have hSA := fun d hd => hw d (sa_in d hd)
  have hws := fun d hd => hw d (ws_in d hd)
  have hln := fun d hd => hw d (ln_in d hd)
  have hch := fun d hd => hw d (ch_in d hd)
  have heq := fun d hd => hw d (eq_in d hd)
  have hem := fun d hd => hw d (em_in d hd)
  refine Go.of (fun _ kk => castTop (ef35 m x1 x2 (1 : Int32) (2 : Int32)) kk) ?_
  refine gof T0 m 5 #[vr x1, vr x2, vi 1, vi 2] [(.ref x1)] (fun _ kk => XS.aloadN W0.here hx rfl (hb hby d1020_0) rfl rfl (XS.ifnullNo W0.here hx rfl (hb hby d1020_1) rfl (XS.aloadN W0.here hx rfl (hb hby d1020_4) rfl rfl kk))) ?_
  refine W0.strLen hx hln (hw _ (mI 6 rfl)) SC hzc S1 (hw _ (mI 138 rfl)) (hw _ (mI 69 rfl)) (hw _ (mI 71 rfl)) (hw _ (mI 70 rfl)) (by decide +kernel) (Wd := 0) (by decide +kernel) (by decide +kernel) (by decide +kernel) rfl (by rw [hml]; rfl) rfl (by show 2 * 0 + _ ≤ _; exact Nat.le_of_eq rfl) (hb hby d1020_5) (fun T1 W1 => ?_)
  show Go p e below _ (T1.setTop (mkF m 8 #[vr x1, vr x2, vi 1, vi 2] [(.int 2)]))
  refine gof T1 m 20 #[vr x1, vr x2, vi 1, vi 2] [(.int 0), (.ref x1)] (fun _ kk => XS.iloadN W1.here hx rfl (hb hby d1020_8) rfl (XS.icmpYes W1.here hx rfl (pc0 := 9) (pc' := 14) rfl (hb hby d1020_9) rfl (XT.ii_eq_t (by decide +kernel)) (by decide +kernel) (by decide +kernel) (XS.iloadN W1.here hx rfl (hb hby d1020_14) rfl (XS.ifNo W1.here hx rfl (hb hby d1020_15) rfl (XT.i0_le_f (by decide +kernel)) (XS.aloadN W1.here hx rfl (hb hby d1020_18) rfl rfl (XS.iconst W1.here hx rfl (hb hby d1020_19) kk)))))) ?_
  refine W1.strChar hx hch (hw _ (mI 6 rfl)) SC hzc SF rfm S1 (snd255 (allSi cq2 (allSi cq3 all0i))) (i := 0) (Nat.le_of_ble_eq_true rfl) rfl (hw _ (mI 139 rfl)) (hw _ (mI 140 rfl)) (hw _ (mI 142 rfl)) (hw _ (mI 141 rfl)) (by decide +kernel) (Wd := 0) (by decide +kernel) (by decide +kernel) (by decide +kernel) rfl (by rw [hml]; rfl) rfl (by show 2 * 0 + _ ≤ _; exact Nat.le_of_eq rfl) (hb hby d1020_20) (fun T2 W2 => ?_)
  show Go p e below _ (T2.setTop (mkF m 23 #[vr x1, vr x2, vi 1, vi 2] [(.int q2)]))
  refine gof T2 m 25 #[vr x1, vr x2, vi 1, vi 2] [(.int 1), (.ref x2), (.int q2)] (fun _ kk => XS.aloadN W2.here hx rfl (hb hby d1020_23) rfl rfl (XS.iloadN W2.here hx rfl (hb hby d1020_24) rfl kk)) ?_
  refine W2.caload hx A1 ⟨by decide, by decide⟩ (v := (.int q2)) rfl rfl rfl (hb hby d1020_25) ?_
  refine gof T2 m 38 #[vr x1, vr x2, vi 1, vi 2] [(.int 1), (.ref x1)] (fun _ kk => XS.icmpYes W2.here hx rfl (pc0 := 26) (pc' := 31) rfl (hb hby d1020_26) rfl (XT.ii_eq_t rfl) (by decide +kernel) (by decide +kernel) (XS.iloadN W2.here hx rfl (hb hby d1020_31) rfl (XS.iconst W2.here hx rfl (hb hby d1020_32) (XS.icmpNo W2.here hx rfl (hb hby d1020_33) rfl (XT.ii_le_f (by decide +kernel)) (XS.aloadN W2.here hx rfl (hb hby d1020_36) rfl rfl (XS.iconst W2.here hx rfl (hb hby d1020_37) kk)))))) ?_
  refine W2.strChar hx hch (hw _ (mI 6 rfl)) SC hzc SF rfm S1 (snd255 (allSi cq2 (allSi cq3 all0i))) (i := 1) (Nat.le_of_ble_eq_true rfl) rfl (hw _ (mI 139 rfl)) (hw _ (mI 140 rfl)) (hw _ (mI 142 rfl)) (hw _ (mI 141 rfl)) (by decide +kernel) (Wd := 0) (by decide +kernel) (by decide +kernel) (by decide +kernel) rfl (by rw [hml]; rfl) rfl (by show 2 * 0 + _ ≤ _; exact Nat.le_of_eq rfl) (hb hby d1020_38) (fun T3 W3 => ?_)
  show Go p e below _ (T3.setTop (mkF m 41 #[vr x1, vr x2, vi 1, vi 2] [(.int q3)]))
  refine gof T3 m 45 #[vr x1, vr x2, vi 1, vi 2] [(.int 2), (.ref x2), (.int q3)] (fun _ kk => XS.aloadN W3.here hx rfl (hb hby d1020_41) rfl rfl (XS.iloadN W3.here hx rfl (hb hby d1020_42) rfl (XS.iconst W3.here hx rfl (hb hby d1020_43) (XS.iadd W3.here hx rfl (hb hby d1020_44) rfl kk)))) ?_
  refine W3.caload hx A1 ⟨by decide, by decide⟩ (v := (.int q3)) rfl rfl rfl (hb hby d1020_45) ?_
  refine gof T3 m 91 #[vr x1, vr x2, vi 1, vi 2] [] (fun _ kk => XS.icmpYes W3.here hx rfl (pc0 := 46) (pc' := 51) rfl (hb hby d1020_46) rfl (XT.ii_eq_t rfl) (by decide +kernel) (by decide +kernel) (XS.iloadN W3.here hx rfl (hb hby d1020_51) rfl (XS.iconst W3.here hx rfl (hb hby d1020_52) (XS.icmpYes W3.here hx rfl (pc0 := 53) (pc' := 71) rfl (hb hby d1020_53) rfl (XT.ii_le_t (by decide +kernel)) (by decide +kernel) (by decide +kernel) (XS.iloadN W3.here hx rfl (hb hby d1020_71) rfl (XS.iconst W3.here hx rfl (hb hby d1020_72) (XS.icmpYes W3.here hx rfl (pc0 := 73) (pc' := 91) rfl (hb hby d1020_73) rfl (XT.ii_le_t (by decide +kernel)) (by decide +kernel) (by decide +kernel) kk))))))) ?_
  refine gof T3 m 92 #[vr x1, vr x2, vi 1, vi 2] [(.int 1)] (fun _ kk => XS.iconst W3.here hx rfl (hb hby d1020_91) kk) ?_
  exact W3.retI hx hEL hs hlk (by decide +kernel) (by decide +kernel) hret (by simp) rfl (hb hby d1020_92) ⟨rfl, rfl⟩
theorem ef36 (m : MethodId) (x0 : Addr) (x1 : Addr) (x2 : Int32) (x3 : Int32)  : entryFrame m #[(.ref x0), (.ref x1), (.int x2), (.int x3)] 4 = mkF m 0 #[vr x0, vr x1, vi x2, vi x3] [] := by first | (simp [entryFrame, mkF, argsToLocals, Value.category]; done) | rfl | rfl
set_option maxRecDepth 65536 in
set_option maxHeartbeats 40000000 in
theorem rm36 (l : Launch) (Z : State) (a0 : Array Value) (hw : ∀ d ∈ tables_1, d.before a0 Z = true) (hEL : EW Z a0 EL0) (zc : Int32) (SC : Sta Z Z.heap "java/lang/String" "COMPACT_STRINGS" "Z" (.int zc)) (hzc : ¬ zc = 0) (fm : Value) (SF : Sta Z Z.heap "jdk/internal/util/Preconditions" "SIOOBE_FORMATTER" "Ljava/util/function/BiFunction;" fm) (rfm : fm.isRef = true) (x1 : Addr) (x2 : Addr) (kc : ClassId) (q1 : Int32) (q2 : Int32) (q3 : Int32) (q4 : Int32) (h0 : Heap) {n0 : Nat} (O0 : Old Z n0 h0) (S1 : Str Z h0 x1 [q3, q4]) (A1 : Arv Z h0 x2 kc .char (4 : Int32) [(.int q1), (.int q2), (.int q3), (.int q4)] (.int (0 : Int32))) (cq1 : ¬ q1 < 0 ∧ ¬ (255 : Int32) < q1) (cq2 : ¬ q2 < 0 ∧ ¬ (255 : Int32) < q2) (cq3 : ¬ q3 < 0 ∧ ¬ (255 : Int32) < q3) (cq4 : ¬ q4 < 0 ∧ ¬ (255 : Int32) < q4) :
    Met l Z EL0 n0 (⟨"com/example/grantwork/grantwork/resources/ResourceParsePinLaw", "matches", "(Ljava/lang/String;[CII)Z"⟩ : MethodName) method_4_code 4 (some .boolean) [] ({ frames := 4, cells := 0, slots := 0, locals := 53 } : Room) #[(.ref x1), (.ref x2), (.int (2 : Int32)), (.int (2 : Int32))] h0 [] [] (fun v h' => v = some (.int 1) ∧ h0 = h') := by
  refine Met.of (plainFor_of_name pn5) O0 ?_
  intro p e s m below meth c T0 hx hby hml hret hlk hnm hs W0
  have W0 : Wk p l e _ s m _ below meth c Z EL0 n0 [] "com/example/grantwork/grantwork/resources/ResourceParsePinLaw" [] T0 0 0 h0 := W0
  have hSA := fun d hd => hw d (sa_in d hd)
  have hws := fun d hd => hw d (ws_in d hd)
  have hln := fun d hd => hw d (ln_in d hd)
  have hch := fun d hd => hw d (ch_in d hd)
  have heq := fun d hd => hw d (eq_in d hd)
  have hem := fun d hd => hw d (em_in d hd)
  refine Go.of (fun _ kk => castTop (ef36 m x1 x2 (2 : Int32) (2 : Int32)) kk) ?_
  refine gof T0 m 5 #[vr x1, vr x2, vi 2, vi 2] [(.ref x1)] (fun _ kk => XS.aloadN W0.here hx rfl (hb hby d1020_0) rfl rfl (XS.ifnullNo W0.here hx rfl (hb hby d1020_1) rfl (XS.aloadN W0.here hx rfl (hb hby d1020_4) rfl rfl kk))) ?_
  refine W0.strLen hx hln (hw _ (mI 6 rfl)) SC hzc S1 (hw _ (mI 138 rfl)) (hw _ (mI 69 rfl)) (hw _ (mI 71 rfl)) (hw _ (mI 70 rfl)) (by decide +kernel) (Wd := 0) (by decide +kernel) (by decide +kernel) (by decide +kernel) rfl (by rw [hml]; rfl) rfl (by show 2 * 0 + _ ≤ _; exact Nat.le_of_eq rfl) (hb hby d1020_5) (fun T1 W1 => ?_)
  show Go p e below _ (T1.setTop (mkF m 8 #[vr x1, vr x2, vi 2, vi 2] [(.int 2)]))
  refine gof T1 m 20 #[vr x1, vr x2, vi 2, vi 2] [(.int 0), (.ref x1)] (fun _ kk => XS.iloadN W1.here hx rfl (hb hby d1020_8) rfl (XS.icmpYes W1.here hx rfl (pc0 := 9) (pc' := 14) rfl (hb hby d1020_9) rfl (XT.ii_eq_t (by decide +kernel)) (by decide +kernel) (by decide +kernel) (XS.iloadN W1.here hx rfl (hb hby d1020_14) rfl (XS.ifNo W1.here hx rfl (hb hby d1020_15) rfl (XT.i0_le_f (by decide +kernel)) (XS.aloadN W1.here hx rfl (hb hby d1020_18) rfl rfl (XS.iconst W1.here hx rfl (hb hby d1020_19) kk)))))) ?_
  refine W1.strChar hx hch (hw _ (mI 6 rfl)) SC hzc SF rfm S1 (snd255 (allSi cq3 (allSi cq4 all0i))) (i := 0) (Nat.le_of_ble_eq_true rfl) rfl (hw _ (mI 139 rfl)) (hw _ (mI 140 rfl)) (hw _ (mI 142 rfl)) (hw _ (mI 141 rfl)) (by decide +kernel) (Wd := 0) (by decide +kernel) (by decide +kernel) (by decide +kernel) rfl (by rw [hml]; rfl) rfl (by show 2 * 0 + _ ≤ _; exact Nat.le_of_eq rfl) (hb hby d1020_20) (fun T2 W2 => ?_)
  show Go p e below _ (T2.setTop (mkF m 23 #[vr x1, vr x2, vi 2, vi 2] [(.int q3)]))
  refine gof T2 m 25 #[vr x1, vr x2, vi 2, vi 2] [(.int 2), (.ref x2), (.int q3)] (fun _ kk => XS.aloadN W2.here hx rfl (hb hby d1020_23) rfl rfl (XS.iloadN W2.here hx rfl (hb hby d1020_24) rfl kk)) ?_
  refine W2.caload hx A1 ⟨by decide, by decide⟩ (v := (.int q3)) rfl rfl rfl (hb hby d1020_25) ?_
  refine gof T2 m 38 #[vr x1, vr x2, vi 2, vi 2] [(.int 1), (.ref x1)] (fun _ kk => XS.icmpYes W2.here hx rfl (pc0 := 26) (pc' := 31) rfl (hb hby d1020_26) rfl (XT.ii_eq_t rfl) (by decide +kernel) (by decide +kernel) (XS.iloadN W2.here hx rfl (hb hby d1020_31) rfl (XS.iconst W2.here hx rfl (hb hby d1020_32) (XS.icmpNo W2.here hx rfl (hb hby d1020_33) rfl (XT.ii_le_f (by decide +kernel)) (XS.aloadN W2.here hx rfl (hb hby d1020_36) rfl rfl (XS.iconst W2.here hx rfl (hb hby d1020_37) kk)))))) ?_
  refine W2.strChar hx hch (hw _ (mI 6 rfl)) SC hzc SF rfm S1 (snd255 (allSi cq3 (allSi cq4 all0i))) (i := 1) (Nat.le_of_ble_eq_true rfl) rfl (hw _ (mI 139 rfl)) (hw _ (mI 140 rfl)) (hw _ (mI 142 rfl)) (hw _ (mI 141 rfl)) (by decide +kernel) (Wd := 0) (by decide +kernel) (by decide +kernel) (by decide +kernel) rfl (by rw [hml]; rfl) rfl (by show 2 * 0 + _ ≤ _; exact Nat.le_of_eq rfl) (hb hby d1020_38) (fun T3 W3 => ?_)
  show Go p e below _ (T3.setTop (mkF m 41 #[vr x1, vr x2, vi 2, vi 2] [(.int q4)]))
  refine gof T3 m 45 #[vr x1, vr x2, vi 2, vi 2] [(.int 3), (.ref x2), (.int q4)] (fun _ kk => XS.aloadN W3.here hx rfl (hb hby d1020_41) rfl rfl (XS.iloadN W3.here hx rfl (hb hby d1020_42) rfl (XS.iconst W3.here hx rfl (hb hby d1020_43) (XS.iadd W3.here hx rfl (hb hby d1020_44) rfl kk)))) ?_
  refine W3.caload hx A1 ⟨by decide, by decide⟩ (v := (.int q4)) rfl rfl rfl (hb hby d1020_45) ?_
  refine gof T3 m 91 #[vr x1, vr x2, vi 2, vi 2] [] (fun _ kk => XS.icmpYes W3.here hx rfl (pc0 := 46) (pc' := 51) rfl (hb hby d1020_46) rfl (XT.ii_eq_t rfl) (by decide +kernel) (by decide +kernel) (XS.iloadN W3.here hx rfl (hb hby d1020_51) rfl (XS.iconst W3.here hx rfl (hb hby d1020_52) (XS.icmpYes W3.here hx rfl (pc0 := 53) (pc' := 71) rfl (hb hby d1020_53) rfl (XT.ii_le_t (by decide +kernel)) (by decide +kernel) (by decide +kernel) (XS.iloadN W3.here hx rfl (hb hby d1020_71) rfl (XS.iconst W3.here hx rfl (hb hby d1020_72) (XS.icmpYes W3.here hx rfl (pc0 := 73) (pc' := 91) rfl (hb hby d1020_73) rfl (XT.ii_le_t (by decide +kernel)) (by decide +kernel) (by decide +kernel) kk))))))) ?_
  refine gof T3 m 92 #[vr x1, vr x2, vi 2, vi 2] [(.int 1)] (fun _ kk => XS.iconst W3.here hx rfl (hb hby d1020_91) kk) ?_
  exact W3.retI hx hEL hs hlk (by decide +kernel) (by decide +kernel) hret (by simp) rfl (hb hby d1020_92) ⟨rfl, rfl⟩
theorem d1020_56 : decode method_4_code 56 = .ok (.aload_n 0, 1) := by decide +kernel
theorem d1020_57 : decode method_4_code 57 = .ok (.iconst 2, 1) := by decide +kernel
theorem d1020_58 : decode method_4_code 58 = .ok (.invokevirtual 13, 3) := by decide +kernel
theorem d1020_61 : decode method_4_code 61 = .ok (.aload_n 1, 1) := by decide +kernel
theorem d1020_62 : decode method_4_code 62 = .ok (.iload_n 2, 1) := by decide +kernel
theorem d1020_63 : decode method_4_code 63 = .ok (.iconst 2, 1) := by decide +kernel
theorem d1020_64 : decode method_4_code 64 = .ok (.iadd, 1) := by decide +kernel
theorem d1020_65 : decode method_4_code 65 = .ok (.caload, 1) := by decide +kernel
theorem d1020_66 : decode method_4_code 66 = .ok (.if_icmp .eq 5, 3) := by decide +kernel
theorem ef37 (m : MethodId) (x0 : Addr) (x1 : Addr) (x2 : Int32) (x3 : Int32)  : entryFrame m #[(.ref x0), (.ref x1), (.int x2), (.int x3)] 4 = mkF m 0 #[vr x0, vr x1, vi x2, vi x3] [] := by first | (simp [entryFrame, mkF, argsToLocals, Value.category]; done) | rfl | rfl
set_option maxRecDepth 65536 in
set_option maxHeartbeats 40000000 in
theorem rm37 (l : Launch) (Z : State) (a0 : Array Value) (hw : ∀ d ∈ tables_1, d.before a0 Z = true) (hEL : EW Z a0 EL0) (zc : Int32) (SC : Sta Z Z.heap "java/lang/String" "COMPACT_STRINGS" "Z" (.int zc)) (hzc : ¬ zc = 0) (fm : Value) (SF : Sta Z Z.heap "jdk/internal/util/Preconditions" "SIOOBE_FORMATTER" "Ljava/util/function/BiFunction;" fm) (rfm : fm.isRef = true) (x1 : Addr) (x2 : Addr) (kc : ClassId) (q1 : Int32) (q2 : Int32) (q3 : Int32) (q4 : Int32) (h0 : Heap) {n0 : Nat} (O0 : Old Z n0 h0) (S1 : Str Z h0 x1 [q1, q2, q3]) (A1 : Arv Z h0 x2 kc .char (4 : Int32) [(.int q1), (.int q2), (.int q3), (.int q4)] (.int (0 : Int32))) (cq1 : ¬ q1 < 0 ∧ ¬ (255 : Int32) < q1) (cq2 : ¬ q2 < 0 ∧ ¬ (255 : Int32) < q2) (cq3 : ¬ q3 < 0 ∧ ¬ (255 : Int32) < q3) (cq4 : ¬ q4 < 0 ∧ ¬ (255 : Int32) < q4) :
    Met l Z EL0 n0 (⟨"com/example/grantwork/grantwork/resources/ResourceParsePinLaw", "matches", "(Ljava/lang/String;[CII)Z"⟩ : MethodName) method_4_code 4 (some .boolean) [] ({ frames := 4, cells := 0, slots := 0, locals := 53 } : Room) #[(.ref x1), (.ref x2), (.int (0 : Int32)), (.int (3 : Int32))] h0 [] [] (fun v h' => v = some (.int 1) ∧ h0 = h') := by
  refine Met.of (plainFor_of_name pn5) O0 ?_
  intro p e s m below meth c T0 hx hby hml hret hlk hnm hs W0
  have W0 : Wk p l e _ s m _ below meth c Z EL0 n0 [] "com/example/grantwork/grantwork/resources/ResourceParsePinLaw" [] T0 0 0 h0 := W0
  have hSA := fun d hd => hw d (sa_in d hd)
  have hws := fun d hd => hw d (ws_in d hd)
  have hln := fun d hd => hw d (ln_in d hd)
  have hch := fun d hd => hw d (ch_in d hd)
  have heq := fun d hd => hw d (eq_in d hd)
  have hem := fun d hd => hw d (em_in d hd)
  refine Go.of (fun _ kk => castTop (ef37 m x1 x2 (0 : Int32) (3 : Int32)) kk) ?_
  refine gof T0 m 5 #[vr x1, vr x2, vi 0, vi 3] [(.ref x1)] (fun _ kk => XS.aloadN W0.here hx rfl (hb hby d1020_0) rfl rfl (XS.ifnullNo W0.here hx rfl (hb hby d1020_1) rfl (XS.aloadN W0.here hx rfl (hb hby d1020_4) rfl rfl kk))) ?_
  refine W0.strLen hx hln (hw _ (mI 6 rfl)) SC hzc S1 (hw _ (mI 138 rfl)) (hw _ (mI 69 rfl)) (hw _ (mI 71 rfl)) (hw _ (mI 70 rfl)) (by decide +kernel) (Wd := 0) (by decide +kernel) (by decide +kernel) (by decide +kernel) rfl (by rw [hml]; rfl) rfl (by show 2 * 0 + _ ≤ _; exact Nat.le_of_eq rfl) (hb hby d1020_5) (fun T1 W1 => ?_)
  show Go p e below _ (T1.setTop (mkF m 8 #[vr x1, vr x2, vi 0, vi 3] [(.int 3)]))
  refine gof T1 m 20 #[vr x1, vr x2, vi 0, vi 3] [(.int 0), (.ref x1)] (fun _ kk => XS.iloadN W1.here hx rfl (hb hby d1020_8) rfl (XS.icmpYes W1.here hx rfl (pc0 := 9) (pc' := 14) rfl (hb hby d1020_9) rfl (XT.ii_eq_t (by decide +kernel)) (by decide +kernel) (by decide +kernel) (XS.iloadN W1.here hx rfl (hb hby d1020_14) rfl (XS.ifNo W1.here hx rfl (hb hby d1020_15) rfl (XT.i0_le_f (by decide +kernel)) (XS.aloadN W1.here hx rfl (hb hby d1020_18) rfl rfl (XS.iconst W1.here hx rfl (hb hby d1020_19) kk)))))) ?_
  refine W1.strChar hx hch (hw _ (mI 6 rfl)) SC hzc SF rfm S1 (snd255 (allSi cq1 (allSi cq2 (allSi cq3 all0i)))) (i := 0) (Nat.le_of_ble_eq_true rfl) rfl (hw _ (mI 139 rfl)) (hw _ (mI 140 rfl)) (hw _ (mI 142 rfl)) (hw _ (mI 141 rfl)) (by decide +kernel) (Wd := 0) (by decide +kernel) (by decide +kernel) (by decide +kernel) rfl (by rw [hml]; rfl) rfl (by show 2 * 0 + _ ≤ _; exact Nat.le_of_eq rfl) (hb hby d1020_20) (fun T2 W2 => ?_)
  show Go p e below _ (T2.setTop (mkF m 23 #[vr x1, vr x2, vi 0, vi 3] [(.int q1)]))
  refine gof T2 m 25 #[vr x1, vr x2, vi 0, vi 3] [(.int 0), (.ref x2), (.int q1)] (fun _ kk => XS.aloadN W2.here hx rfl (hb hby d1020_23) rfl rfl (XS.iloadN W2.here hx rfl (hb hby d1020_24) rfl kk)) ?_
  refine W2.caload hx A1 ⟨by decide, by decide⟩ (v := (.int q1)) rfl rfl rfl (hb hby d1020_25) ?_
  refine gof T2 m 38 #[vr x1, vr x2, vi 0, vi 3] [(.int 1), (.ref x1)] (fun _ kk => XS.icmpYes W2.here hx rfl (pc0 := 26) (pc' := 31) rfl (hb hby d1020_26) rfl (XT.ii_eq_t rfl) (by decide +kernel) (by decide +kernel) (XS.iloadN W2.here hx rfl (hb hby d1020_31) rfl (XS.iconst W2.here hx rfl (hb hby d1020_32) (XS.icmpNo W2.here hx rfl (hb hby d1020_33) rfl (XT.ii_le_f (by decide +kernel)) (XS.aloadN W2.here hx rfl (hb hby d1020_36) rfl rfl (XS.iconst W2.here hx rfl (hb hby d1020_37) kk)))))) ?_
  refine W2.strChar hx hch (hw _ (mI 6 rfl)) SC hzc SF rfm S1 (snd255 (allSi cq1 (allSi cq2 (allSi cq3 all0i)))) (i := 1) (Nat.le_of_ble_eq_true rfl) rfl (hw _ (mI 139 rfl)) (hw _ (mI 140 rfl)) (hw _ (mI 142 rfl)) (hw _ (mI 141 rfl)) (by decide +kernel) (Wd := 0) (by decide +kernel) (by decide +kernel) (by decide +kernel) rfl (by rw [hml]; rfl) rfl (by show 2 * 0 + _ ≤ _; exact Nat.le_of_eq rfl) (hb hby d1020_38) (fun T3 W3 => ?_)
  show Go p e below _ (T3.setTop (mkF m 41 #[vr x1, vr x2, vi 0, vi 3] [(.int q2)]))
  refine gof T3 m 45 #[vr x1, vr x2, vi 0, vi 3] [(.int 1), (.ref x2), (.int q2)] (fun _ kk => XS.aloadN W3.here hx rfl (hb hby d1020_41) rfl rfl (XS.iloadN W3.here hx rfl (hb hby d1020_42) rfl (XS.iconst W3.here hx rfl (hb hby d1020_43) (XS.iadd W3.here hx rfl (hb hby d1020_44) rfl kk)))) ?_
  refine W3.caload hx A1 ⟨by decide, by decide⟩ (v := (.int q2)) rfl rfl rfl (hb hby d1020_45) ?_
  refine gof T3 m 58 #[vr x1, vr x2, vi 0, vi 3] [(.int 2), (.ref x1)] (fun _ kk => XS.icmpYes W3.here hx rfl (pc0 := 46) (pc' := 51) rfl (hb hby d1020_46) rfl (XT.ii_eq_t rfl) (by decide +kernel) (by decide +kernel) (XS.iloadN W3.here hx rfl (hb hby d1020_51) rfl (XS.iconst W3.here hx rfl (hb hby d1020_52) (XS.icmpNo W3.here hx rfl (hb hby d1020_53) rfl (XT.ii_le_f (by decide +kernel)) (XS.aloadN W3.here hx rfl (hb hby d1020_56) rfl rfl (XS.iconst W3.here hx rfl (hb hby d1020_57) kk)))))) ?_
  refine W3.strChar hx hch (hw _ (mI 6 rfl)) SC hzc SF rfm S1 (snd255 (allSi cq1 (allSi cq2 (allSi cq3 all0i)))) (i := 2) (Nat.le_of_ble_eq_true rfl) rfl (hw _ (mI 139 rfl)) (hw _ (mI 140 rfl)) (hw _ (mI 142 rfl)) (hw _ (mI 141 rfl)) (by decide +kernel) (Wd := 0) (by decide +kernel) (by decide +kernel) (by decide +kernel) rfl (by rw [hml]; rfl) rfl (by show 2 * 0 + _ ≤ _; exact Nat.le_of_eq rfl) (hb hby d1020_58) (fun T4 W4 => ?_)
  show Go p e below _ (T4.setTop (mkF m 61 #[vr x1, vr x2, vi 0, vi 3] [(.int q3)]))
  refine gof T4 m 65 #[vr x1, vr x2, vi 0, vi 3] [(.int 2), (.ref x2), (.int q3)] (fun _ kk => XS.aloadN W4.here hx rfl (hb hby d1020_61) rfl rfl (XS.iloadN W4.here hx rfl (hb hby d1020_62) rfl (XS.iconst W4.here hx rfl (hb hby d1020_63) (XS.iadd W4.here hx rfl (hb hby d1020_64) rfl kk)))) ?_
  refine W4.caload hx A1 ⟨by decide, by decide⟩ (v := (.int q3)) rfl rfl rfl (hb hby d1020_65) ?_
  refine gof T4 m 92 #[vr x1, vr x2, vi 0, vi 3] [(.int 1)] (fun _ kk => XS.icmpYes W4.here hx rfl (pc0 := 66) (pc' := 71) rfl (hb hby d1020_66) rfl (XT.ii_eq_t rfl) (by decide +kernel) (by decide +kernel) (XS.iloadN W4.here hx rfl (hb hby d1020_71) rfl (XS.iconst W4.here hx rfl (hb hby d1020_72) (XS.icmpYes W4.here hx rfl (pc0 := 73) (pc' := 91) rfl (hb hby d1020_73) rfl (XT.ii_le_t (by decide +kernel)) (by decide +kernel) (by decide +kernel) (XS.iconst W4.here hx rfl (hb hby d1020_91) kk))))) ?_
  exact W4.retI hx hEL hs hlk (by decide +kernel) (by decide +kernel) hret (by simp) rfl (hb hby d1020_92) ⟨rfl, rfl⟩
theorem ef38 (m : MethodId) (x0 : Addr) (x1 : Addr) (x2 : Int32) (x3 : Int32)  : entryFrame m #[(.ref x0), (.ref x1), (.int x2), (.int x3)] 4 = mkF m 0 #[vr x0, vr x1, vi x2, vi x3] [] := by first | (simp [entryFrame, mkF, argsToLocals, Value.category]; done) | rfl | rfl
set_option maxRecDepth 65536 in
set_option maxHeartbeats 40000000 in
theorem rm38 (l : Launch) (Z : State) (a0 : Array Value) (hw : ∀ d ∈ tables_1, d.before a0 Z = true) (hEL : EW Z a0 EL0) (zc : Int32) (SC : Sta Z Z.heap "java/lang/String" "COMPACT_STRINGS" "Z" (.int zc)) (hzc : ¬ zc = 0) (fm : Value) (SF : Sta Z Z.heap "jdk/internal/util/Preconditions" "SIOOBE_FORMATTER" "Ljava/util/function/BiFunction;" fm) (rfm : fm.isRef = true) (x1 : Addr) (x2 : Addr) (kc : ClassId) (q1 : Int32) (q2 : Int32) (q3 : Int32) (q4 : Int32) (h0 : Heap) {n0 : Nat} (O0 : Old Z n0 h0) (S1 : Str Z h0 x1 [q2, q3, q4]) (A1 : Arv Z h0 x2 kc .char (4 : Int32) [(.int q1), (.int q2), (.int q3), (.int q4)] (.int (0 : Int32))) (cq1 : ¬ q1 < 0 ∧ ¬ (255 : Int32) < q1) (cq2 : ¬ q2 < 0 ∧ ¬ (255 : Int32) < q2) (cq3 : ¬ q3 < 0 ∧ ¬ (255 : Int32) < q3) (cq4 : ¬ q4 < 0 ∧ ¬ (255 : Int32) < q4) :
    Met l Z EL0 n0 (⟨"com/example/grantwork/grantwork/resources/ResourceParsePinLaw", "matches", "(Ljava/lang/String;[CII)Z"⟩ : MethodName) method_4_code 4 (some .boolean) [] ({ frames := 4, cells := 0, slots := 0, locals := 53 } : Room) #[(.ref x1), (.ref x2), (.int (1 : Int32)), (.int (3 : Int32))] h0 [] [] (fun v h' => v = some (.int 1) ∧ h0 = h') := by
  refine Met.of (plainFor_of_name pn5) O0 ?_
  intro p e s m below meth c T0 hx hby hml hret hlk hnm hs W0
  have W0 : Wk p l e _ s m _ below meth c Z EL0 n0 [] "com/example/grantwork/grantwork/resources/ResourceParsePinLaw" [] T0 0 0 h0 := W0
  have hSA := fun d hd => hw d (sa_in d hd)
  have hws := fun d hd => hw d (ws_in d hd)
  have hln := fun d hd => hw d (ln_in d hd)
  have hch := fun d hd => hw d (ch_in d hd)
  have heq := fun d hd => hw d (eq_in d hd)
  have hem := fun d hd => hw d (em_in d hd)
  refine Go.of (fun _ kk => castTop (ef38 m x1 x2 (1 : Int32) (3 : Int32)) kk) ?_
  refine gof T0 m 5 #[vr x1, vr x2, vi 1, vi 3] [(.ref x1)] (fun _ kk => XS.aloadN W0.here hx rfl (hb hby d1020_0) rfl rfl (XS.ifnullNo W0.here hx rfl (hb hby d1020_1) rfl (XS.aloadN W0.here hx rfl (hb hby d1020_4) rfl rfl kk))) ?_
  refine W0.strLen hx hln (hw _ (mI 6 rfl)) SC hzc S1 (hw _ (mI 138 rfl)) (hw _ (mI 69 rfl)) (hw _ (mI 71 rfl)) (hw _ (mI 70 rfl)) (by decide +kernel) (Wd := 0) (by decide +kernel) (by decide +kernel) (by decide +kernel) rfl (by rw [hml]; rfl) rfl (by show 2 * 0 + _ ≤ _; exact Nat.le_of_eq rfl) (hb hby d1020_5) (fun T1 W1 => ?_)
  show Go p e below _ (T1.setTop (mkF m 8 #[vr x1, vr x2, vi 1, vi 3] [(.int 3)]))
  refine gof T1 m 20 #[vr x1, vr x2, vi 1, vi 3] [(.int 0), (.ref x1)] (fun _ kk => XS.iloadN W1.here hx rfl (hb hby d1020_8) rfl (XS.icmpYes W1.here hx rfl (pc0 := 9) (pc' := 14) rfl (hb hby d1020_9) rfl (XT.ii_eq_t (by decide +kernel)) (by decide +kernel) (by decide +kernel) (XS.iloadN W1.here hx rfl (hb hby d1020_14) rfl (XS.ifNo W1.here hx rfl (hb hby d1020_15) rfl (XT.i0_le_f (by decide +kernel)) (XS.aloadN W1.here hx rfl (hb hby d1020_18) rfl rfl (XS.iconst W1.here hx rfl (hb hby d1020_19) kk)))))) ?_
  refine W1.strChar hx hch (hw _ (mI 6 rfl)) SC hzc SF rfm S1 (snd255 (allSi cq2 (allSi cq3 (allSi cq4 all0i)))) (i := 0) (Nat.le_of_ble_eq_true rfl) rfl (hw _ (mI 139 rfl)) (hw _ (mI 140 rfl)) (hw _ (mI 142 rfl)) (hw _ (mI 141 rfl)) (by decide +kernel) (Wd := 0) (by decide +kernel) (by decide +kernel) (by decide +kernel) rfl (by rw [hml]; rfl) rfl (by show 2 * 0 + _ ≤ _; exact Nat.le_of_eq rfl) (hb hby d1020_20) (fun T2 W2 => ?_)
  show Go p e below _ (T2.setTop (mkF m 23 #[vr x1, vr x2, vi 1, vi 3] [(.int q2)]))
  refine gof T2 m 25 #[vr x1, vr x2, vi 1, vi 3] [(.int 1), (.ref x2), (.int q2)] (fun _ kk => XS.aloadN W2.here hx rfl (hb hby d1020_23) rfl rfl (XS.iloadN W2.here hx rfl (hb hby d1020_24) rfl kk)) ?_
  refine W2.caload hx A1 ⟨by decide, by decide⟩ (v := (.int q2)) rfl rfl rfl (hb hby d1020_25) ?_
  refine gof T2 m 38 #[vr x1, vr x2, vi 1, vi 3] [(.int 1), (.ref x1)] (fun _ kk => XS.icmpYes W2.here hx rfl (pc0 := 26) (pc' := 31) rfl (hb hby d1020_26) rfl (XT.ii_eq_t rfl) (by decide +kernel) (by decide +kernel) (XS.iloadN W2.here hx rfl (hb hby d1020_31) rfl (XS.iconst W2.here hx rfl (hb hby d1020_32) (XS.icmpNo W2.here hx rfl (hb hby d1020_33) rfl (XT.ii_le_f (by decide +kernel)) (XS.aloadN W2.here hx rfl (hb hby d1020_36) rfl rfl (XS.iconst W2.here hx rfl (hb hby d1020_37) kk)))))) ?_
  refine W2.strChar hx hch (hw _ (mI 6 rfl)) SC hzc SF rfm S1 (snd255 (allSi cq2 (allSi cq3 (allSi cq4 all0i)))) (i := 1) (Nat.le_of_ble_eq_true rfl) rfl (hw _ (mI 139 rfl)) (hw _ (mI 140 rfl)) (hw _ (mI 142 rfl)) (hw _ (mI 141 rfl)) (by decide +kernel) (Wd := 0) (by decide +kernel) (by decide +kernel) (by decide +kernel) rfl (by rw [hml]; rfl) rfl (by show 2 * 0 + _ ≤ _; exact Nat.le_of_eq rfl) (hb hby d1020_38) (fun T3 W3 => ?_)
  show Go p e below _ (T3.setTop (mkF m 41 #[vr x1, vr x2, vi 1, vi 3] [(.int q3)]))
  refine gof T3 m 45 #[vr x1, vr x2, vi 1, vi 3] [(.int 2), (.ref x2), (.int q3)] (fun _ kk => XS.aloadN W3.here hx rfl (hb hby d1020_41) rfl rfl (XS.iloadN W3.here hx rfl (hb hby d1020_42) rfl (XS.iconst W3.here hx rfl (hb hby d1020_43) (XS.iadd W3.here hx rfl (hb hby d1020_44) rfl kk)))) ?_
  refine W3.caload hx A1 ⟨by decide, by decide⟩ (v := (.int q3)) rfl rfl rfl (hb hby d1020_45) ?_
  refine gof T3 m 58 #[vr x1, vr x2, vi 1, vi 3] [(.int 2), (.ref x1)] (fun _ kk => XS.icmpYes W3.here hx rfl (pc0 := 46) (pc' := 51) rfl (hb hby d1020_46) rfl (XT.ii_eq_t rfl) (by decide +kernel) (by decide +kernel) (XS.iloadN W3.here hx rfl (hb hby d1020_51) rfl (XS.iconst W3.here hx rfl (hb hby d1020_52) (XS.icmpNo W3.here hx rfl (hb hby d1020_53) rfl (XT.ii_le_f (by decide +kernel)) (XS.aloadN W3.here hx rfl (hb hby d1020_56) rfl rfl (XS.iconst W3.here hx rfl (hb hby d1020_57) kk)))))) ?_
  refine W3.strChar hx hch (hw _ (mI 6 rfl)) SC hzc SF rfm S1 (snd255 (allSi cq2 (allSi cq3 (allSi cq4 all0i)))) (i := 2) (Nat.le_of_ble_eq_true rfl) rfl (hw _ (mI 139 rfl)) (hw _ (mI 140 rfl)) (hw _ (mI 142 rfl)) (hw _ (mI 141 rfl)) (by decide +kernel) (Wd := 0) (by decide +kernel) (by decide +kernel) (by decide +kernel) rfl (by rw [hml]; rfl) rfl (by show 2 * 0 + _ ≤ _; exact Nat.le_of_eq rfl) (hb hby d1020_58) (fun T4 W4 => ?_)
  show Go p e below _ (T4.setTop (mkF m 61 #[vr x1, vr x2, vi 1, vi 3] [(.int q4)]))
  refine gof T4 m 65 #[vr x1, vr x2, vi 1, vi 3] [(.int 3), (.ref x2), (.int q4)] (fun _ kk => XS.aloadN W4.here hx rfl (hb hby d1020_61) rfl rfl (XS.iloadN W4.here hx rfl (hb hby d1020_62) rfl (XS.iconst W4.here hx rfl (hb hby d1020_63) (XS.iadd W4.here hx rfl (hb hby d1020_64) rfl kk)))) ?_
  refine W4.caload hx A1 ⟨by decide, by decide⟩ (v := (.int q4)) rfl rfl rfl (hb hby d1020_65) ?_
  refine gof T4 m 92 #[vr x1, vr x2, vi 1, vi 3] [(.int 1)] (fun _ kk => XS.icmpYes W4.here hx rfl (pc0 := 66) (pc' := 71) rfl (hb hby d1020_66) rfl (XT.ii_eq_t rfl) (by decide +kernel) (by decide +kernel) (XS.iloadN W4.here hx rfl (hb hby d1020_71) rfl (XS.iconst W4.here hx rfl (hb hby d1020_72) (XS.icmpYes W4.here hx rfl (pc0 := 73) (pc' := 91) rfl (hb hby d1020_73) rfl (XT.ii_le_t (by decide +kernel)) (by decide +kernel) (by decide +kernel) (XS.iconst W4.here hx rfl (hb hby d1020_91) kk))))) ?_
  exact W4.retI hx hEL hs hlk (by decide +kernel) (by decide +kernel) hret (by simp) rfl (hb hby d1020_92) ⟨rfl, rfl⟩
theorem d1020_76 : decode method_4_code 76 = .ok (.aload_n 0, 1) := by decide +kernel
theorem d1020_77 : decode method_4_code 77 = .ok (.iconst 3, 1) := by decide +kernel
theorem d1020_78 : decode method_4_code 78 = .ok (.invokevirtual 13, 3) := by decide +kernel
theorem d1020_81 : decode method_4_code 81 = .ok (.aload_n 1, 1) := by decide +kernel
theorem d1020_82 : decode method_4_code 82 = .ok (.iload_n 2, 1) := by decide +kernel
theorem d1020_83 : decode method_4_code 83 = .ok (.iconst 3, 1) := by decide +kernel
theorem d1020_84 : decode method_4_code 84 = .ok (.iadd, 1) := by decide +kernel
theorem d1020_85 : decode method_4_code 85 = .ok (.caload, 1) := by decide +kernel
theorem d1020_86 : decode method_4_code 86 = .ok (.if_icmp .eq 5, 3) := by decide +kernel
theorem ef39 (m : MethodId) (x0 : Addr) (x1 : Addr) (x2 : Int32) (x3 : Int32)  : entryFrame m #[(.ref x0), (.ref x1), (.int x2), (.int x3)] 4 = mkF m 0 #[vr x0, vr x1, vi x2, vi x3] [] := by first | (simp [entryFrame, mkF, argsToLocals, Value.category]; done) | rfl | rfl
set_option maxRecDepth 65536 in
set_option maxHeartbeats 40000000 in
theorem rm39 (l : Launch) (Z : State) (a0 : Array Value) (hw : ∀ d ∈ tables_1, d.before a0 Z = true) (hEL : EW Z a0 EL0) (zc : Int32) (SC : Sta Z Z.heap "java/lang/String" "COMPACT_STRINGS" "Z" (.int zc)) (hzc : ¬ zc = 0) (fm : Value) (SF : Sta Z Z.heap "jdk/internal/util/Preconditions" "SIOOBE_FORMATTER" "Ljava/util/function/BiFunction;" fm) (rfm : fm.isRef = true) (x1 : Addr) (x2 : Addr) (kc : ClassId) (q1 : Int32) (q2 : Int32) (q3 : Int32) (q4 : Int32) (h0 : Heap) {n0 : Nat} (O0 : Old Z n0 h0) (S1 : Str Z h0 x1 [q1, q2, q3, q4]) (A1 : Arv Z h0 x2 kc .char (4 : Int32) [(.int q1), (.int q2), (.int q3), (.int q4)] (.int (0 : Int32))) (cq1 : ¬ q1 < 0 ∧ ¬ (255 : Int32) < q1) (cq2 : ¬ q2 < 0 ∧ ¬ (255 : Int32) < q2) (cq3 : ¬ q3 < 0 ∧ ¬ (255 : Int32) < q3) (cq4 : ¬ q4 < 0 ∧ ¬ (255 : Int32) < q4) :
    Met l Z EL0 n0 (⟨"com/example/grantwork/grantwork/resources/ResourceParsePinLaw", "matches", "(Ljava/lang/String;[CII)Z"⟩ : MethodName) method_4_code 4 (some .boolean) [] ({ frames := 4, cells := 0, slots := 0, locals := 53 } : Room) #[(.ref x1), (.ref x2), (.int (0 : Int32)), (.int (4 : Int32))] h0 [] [] (fun v h' => v = some (.int 1) ∧ h0 = h') := by
  refine Met.of (plainFor_of_name pn5) O0 ?_
  intro p e s m below meth c T0 hx hby hml hret hlk hnm hs W0
  have W0 : Wk p l e _ s m _ below meth c Z EL0 n0 [] "com/example/grantwork/grantwork/resources/ResourceParsePinLaw" [] T0 0 0 h0 := W0
  have hSA := fun d hd => hw d (sa_in d hd)
  have hws := fun d hd => hw d (ws_in d hd)
  have hln := fun d hd => hw d (ln_in d hd)
  have hch := fun d hd => hw d (ch_in d hd)
  have heq := fun d hd => hw d (eq_in d hd)
  have hem := fun d hd => hw d (em_in d hd)
  refine Go.of (fun _ kk => castTop (ef39 m x1 x2 (0 : Int32) (4 : Int32)) kk) ?_
  refine gof T0 m 5 #[vr x1, vr x2, vi 0, vi 4] [(.ref x1)] (fun _ kk => XS.aloadN W0.here hx rfl (hb hby d1020_0) rfl rfl (XS.ifnullNo W0.here hx rfl (hb hby d1020_1) rfl (XS.aloadN W0.here hx rfl (hb hby d1020_4) rfl rfl kk))) ?_
  refine W0.strLen hx hln (hw _ (mI 6 rfl)) SC hzc S1 (hw _ (mI 138 rfl)) (hw _ (mI 69 rfl)) (hw _ (mI 71 rfl)) (hw _ (mI 70 rfl)) (by decide +kernel) (Wd := 0) (by decide +kernel) (by decide +kernel) (by decide +kernel) rfl (by rw [hml]; rfl) rfl (by show 2 * 0 + _ ≤ _; exact Nat.le_of_eq rfl) (hb hby d1020_5) (fun T1 W1 => ?_)
  show Go p e below _ (T1.setTop (mkF m 8 #[vr x1, vr x2, vi 0, vi 4] [(.int 4)]))
  refine gof T1 m 20 #[vr x1, vr x2, vi 0, vi 4] [(.int 0), (.ref x1)] (fun _ kk => XS.iloadN W1.here hx rfl (hb hby d1020_8) rfl (XS.icmpYes W1.here hx rfl (pc0 := 9) (pc' := 14) rfl (hb hby d1020_9) rfl (XT.ii_eq_t (by decide +kernel)) (by decide +kernel) (by decide +kernel) (XS.iloadN W1.here hx rfl (hb hby d1020_14) rfl (XS.ifNo W1.here hx rfl (hb hby d1020_15) rfl (XT.i0_le_f (by decide +kernel)) (XS.aloadN W1.here hx rfl (hb hby d1020_18) rfl rfl (XS.iconst W1.here hx rfl (hb hby d1020_19) kk)))))) ?_
  refine W1.strChar hx hch (hw _ (mI 6 rfl)) SC hzc SF rfm S1 (snd255 (allSi cq1 (allSi cq2 (allSi cq3 (allSi cq4 all0i))))) (i := 0) (Nat.le_of_ble_eq_true rfl) rfl (hw _ (mI 139 rfl)) (hw _ (mI 140 rfl)) (hw _ (mI 142 rfl)) (hw _ (mI 141 rfl)) (by decide +kernel) (Wd := 0) (by decide +kernel) (by decide +kernel) (by decide +kernel) rfl (by rw [hml]; rfl) rfl (by show 2 * 0 + _ ≤ _; exact Nat.le_of_eq rfl) (hb hby d1020_20) (fun T2 W2 => ?_)
  show Go p e below _ (T2.setTop (mkF m 23 #[vr x1, vr x2, vi 0, vi 4] [(.int q1)]))
  refine gof T2 m 25 #[vr x1, vr x2, vi 0, vi 4] [(.int 0), (.ref x2), (.int q1)] (fun _ kk => XS.aloadN W2.here hx rfl (hb hby d1020_23) rfl rfl (XS.iloadN W2.here hx rfl (hb hby d1020_24) rfl kk)) ?_
  refine W2.caload hx A1 ⟨by decide, by decide⟩ (v := (.int q1)) rfl rfl rfl (hb hby d1020_25) ?_
  refine gof T2 m 38 #[vr x1, vr x2, vi 0, vi 4] [(.int 1), (.ref x1)] (fun _ kk => XS.icmpYes W2.here hx rfl (pc0 := 26) (pc' := 31) rfl (hb hby d1020_26) rfl (XT.ii_eq_t rfl) (by decide +kernel) (by decide +kernel) (XS.iloadN W2.here hx rfl (hb hby d1020_31) rfl (XS.iconst W2.here hx rfl (hb hby d1020_32) (XS.icmpNo W2.here hx rfl (hb hby d1020_33) rfl (XT.ii_le_f (by decide +kernel)) (XS.aloadN W2.here hx rfl (hb hby d1020_36) rfl rfl (XS.iconst W2.here hx rfl (hb hby d1020_37) kk)))))) ?_
  refine W2.strChar hx hch (hw _ (mI 6 rfl)) SC hzc SF rfm S1 (snd255 (allSi cq1 (allSi cq2 (allSi cq3 (allSi cq4 all0i))))) (i := 1) (Nat.le_of_ble_eq_true rfl) rfl (hw _ (mI 139 rfl)) (hw _ (mI 140 rfl)) (hw _ (mI 142 rfl)) (hw _ (mI 141 rfl)) (by decide +kernel) (Wd := 0) (by decide +kernel) (by decide +kernel) (by decide +kernel) rfl (by rw [hml]; rfl) rfl (by show 2 * 0 + _ ≤ _; exact Nat.le_of_eq rfl) (hb hby d1020_38) (fun T3 W3 => ?_)
  show Go p e below _ (T3.setTop (mkF m 41 #[vr x1, vr x2, vi 0, vi 4] [(.int q2)]))
  refine gof T3 m 45 #[vr x1, vr x2, vi 0, vi 4] [(.int 1), (.ref x2), (.int q2)] (fun _ kk => XS.aloadN W3.here hx rfl (hb hby d1020_41) rfl rfl (XS.iloadN W3.here hx rfl (hb hby d1020_42) rfl (XS.iconst W3.here hx rfl (hb hby d1020_43) (XS.iadd W3.here hx rfl (hb hby d1020_44) rfl kk)))) ?_
  refine W3.caload hx A1 ⟨by decide, by decide⟩ (v := (.int q2)) rfl rfl rfl (hb hby d1020_45) ?_
  refine gof T3 m 58 #[vr x1, vr x2, vi 0, vi 4] [(.int 2), (.ref x1)] (fun _ kk => XS.icmpYes W3.here hx rfl (pc0 := 46) (pc' := 51) rfl (hb hby d1020_46) rfl (XT.ii_eq_t rfl) (by decide +kernel) (by decide +kernel) (XS.iloadN W3.here hx rfl (hb hby d1020_51) rfl (XS.iconst W3.here hx rfl (hb hby d1020_52) (XS.icmpNo W3.here hx rfl (hb hby d1020_53) rfl (XT.ii_le_f (by decide +kernel)) (XS.aloadN W3.here hx rfl (hb hby d1020_56) rfl rfl (XS.iconst W3.here hx rfl (hb hby d1020_57) kk)))))) ?_
  refine W3.strChar hx hch (hw _ (mI 6 rfl)) SC hzc SF rfm S1 (snd255 (allSi cq1 (allSi cq2 (allSi cq3 (allSi cq4 all0i))))) (i := 2) (Nat.le_of_ble_eq_true rfl) rfl (hw _ (mI 139 rfl)) (hw _ (mI 140 rfl)) (hw _ (mI 142 rfl)) (hw _ (mI 141 rfl)) (by decide +kernel) (Wd := 0) (by decide +kernel) (by decide +kernel) (by decide +kernel) rfl (by rw [hml]; rfl) rfl (by show 2 * 0 + _ ≤ _; exact Nat.le_of_eq rfl) (hb hby d1020_58) (fun T4 W4 => ?_)
  show Go p e below _ (T4.setTop (mkF m 61 #[vr x1, vr x2, vi 0, vi 4] [(.int q3)]))
  refine gof T4 m 65 #[vr x1, vr x2, vi 0, vi 4] [(.int 2), (.ref x2), (.int q3)] (fun _ kk => XS.aloadN W4.here hx rfl (hb hby d1020_61) rfl rfl (XS.iloadN W4.here hx rfl (hb hby d1020_62) rfl (XS.iconst W4.here hx rfl (hb hby d1020_63) (XS.iadd W4.here hx rfl (hb hby d1020_64) rfl kk)))) ?_
  refine W4.caload hx A1 ⟨by decide, by decide⟩ (v := (.int q3)) rfl rfl rfl (hb hby d1020_65) ?_
  refine gof T4 m 78 #[vr x1, vr x2, vi 0, vi 4] [(.int 3), (.ref x1)] (fun _ kk => XS.icmpYes W4.here hx rfl (pc0 := 66) (pc' := 71) rfl (hb hby d1020_66) rfl (XT.ii_eq_t rfl) (by decide +kernel) (by decide +kernel) (XS.iloadN W4.here hx rfl (hb hby d1020_71) rfl (XS.iconst W4.here hx rfl (hb hby d1020_72) (XS.icmpNo W4.here hx rfl (hb hby d1020_73) rfl (XT.ii_le_f (by decide +kernel)) (XS.aloadN W4.here hx rfl (hb hby d1020_76) rfl rfl (XS.iconst W4.here hx rfl (hb hby d1020_77) kk)))))) ?_
  refine W4.strChar hx hch (hw _ (mI 6 rfl)) SC hzc SF rfm S1 (snd255 (allSi cq1 (allSi cq2 (allSi cq3 (allSi cq4 all0i))))) (i := 3) (Nat.le_of_ble_eq_true rfl) rfl (hw _ (mI 139 rfl)) (hw _ (mI 140 rfl)) (hw _ (mI 142 rfl)) (hw _ (mI 141 rfl)) (by decide +kernel) (Wd := 0) (by decide +kernel) (by decide +kernel) (by decide +kernel) rfl (by rw [hml]; rfl) rfl (by show 2 * 0 + _ ≤ _; exact Nat.le_of_eq rfl) (hb hby d1020_78) (fun T5 W5 => ?_)
  show Go p e below _ (T5.setTop (mkF m 81 #[vr x1, vr x2, vi 0, vi 4] [(.int q4)]))
  refine gof T5 m 85 #[vr x1, vr x2, vi 0, vi 4] [(.int 3), (.ref x2), (.int q4)] (fun _ kk => XS.aloadN W5.here hx rfl (hb hby d1020_81) rfl rfl (XS.iloadN W5.here hx rfl (hb hby d1020_82) rfl (XS.iconst W5.here hx rfl (hb hby d1020_83) (XS.iadd W5.here hx rfl (hb hby d1020_84) rfl kk)))) ?_
  refine W5.caload hx A1 ⟨by decide, by decide⟩ (v := (.int q4)) rfl rfl rfl (hb hby d1020_85) ?_
  refine gof T5 m 92 #[vr x1, vr x2, vi 0, vi 4] [(.int 1)] (fun _ kk => XS.icmpYes W5.here hx rfl (pc0 := 86) (pc' := 91) rfl (hb hby d1020_86) rfl (XT.ii_eq_t rfl) (by decide +kernel) (by decide +kernel) (XS.iconst W5.here hx rfl (hb hby d1020_91) kk)) ?_
  exact W5.retI hx hEL hs hlk (by decide +kernel) (by decide +kernel) hret (by simp) rfl (hb hby d1020_92) ⟨rfl, rfl⟩
theorem d1021_0 : decode prog_21_method_1_code 0 = .ok (.aload_n 0, 1) := by decide +kernel
theorem d1021_1 : decode prog_21_method_1_code 1 = .ok (.invokespecial 1, 3) := by decide +kernel
theorem d1021_4 : decode prog_21_method_1_code 4 = .ok (.aload_n 0, 1) := by decide +kernel
theorem d1021_5 : decode prog_21_method_1_code 5 = .ok (.aload_n 1, 1) := by decide +kernel
theorem d1021_6 : decode prog_21_method_1_code 6 = .ok (.putfield 7, 3) := by decide +kernel
theorem d1021_9 : decode prog_21_method_1_code 9 = .ok (.aload_n 0, 1) := by decide +kernel
theorem d1021_10 : decode prog_21_method_1_code 10 = .ok (.aload_n 2, 1) := by decide +kernel
theorem d1021_11 : decode prog_21_method_1_code 11 = .ok (.putfield 13, 3) := by decide +kernel
theorem d1021_14 : decode prog_21_method_1_code 14 = .ok (.return_, 1) := by decide +kernel
theorem ef3 (m : MethodId) (x0 : Addr) (x1 : Addr) (x2 : Addr)  : entryFrame m #[(.ref x0), (.ref x1), (.ref x2)] 3 = mkF m 0 #[vr x0, vr x1, vr x2] [] := by first | (simp [entryFrame, mkF, argsToLocals, Value.category]; done) | rfl | rfl
set_option maxRecDepth 65536 in
set_option maxHeartbeats 40000000 in
theorem rm3 (l : Launch) (Z : State) (a0 : Array Value) (hw : ∀ d ∈ tables_1, d.before a0 Z = true) (hEL : EW Z a0 EL0) (zc : Int32) (SC : Sta Z Z.heap "java/lang/String" "COMPACT_STRINGS" "Z" (.int zc)) (hzc : ¬ zc = 0) (fm : Value) (SF : Sta Z Z.heap "jdk/internal/util/Preconditions" "SIOOBE_FORMATTER" "Ljava/util/function/BiFunction;" fm) (rfm : fm.isRef = true) (a1 : Addr) (x2 : Addr) (x3 : Addr) (h0 : Heap) {n0 : Nat} (O0 : Old Z n0 h0) (E1 : Exa Z h0 a1 "com/example/grantwork/grantwork/resources/Resource") (FmName : Fld Z h0 a1 "com/example/grantwork/grantwork/resources/Resource" "mName" "Ljava/lang/String;" .null) (FmType : Fld Z h0 a1 "com/example/grantwork/grantwork/resources/Resource" "mType" "Ljava/lang/String;" .null) (g1 : n0 ≤ a1) :
    Met l Z EL0 n0 (⟨"com/example/grantwork/grantwork/resources/Resource", "<init>", "(Ljava/lang/String;Ljava/lang/String;)V"⟩ : MethodName) prog_21_method_1_code 3 none [] ({ frames := 1, cells := 0, slots := 0, locals := 12 } : Room) #[(.ref a1), (.ref x2), (.ref x3)] h0 [a1] [] (fun v h' => v = none ∧ Fld Z h' a1 "com/example/grantwork/grantwork/resources/Resource" "mName" "Ljava/lang/String;" (.ref x2) ∧ Fld Z h' a1 "com/example/grantwork/grantwork/resources/Resource" "mType" "Ljava/lang/String;" (.ref x3)) := by
  refine Met.of (plainFor_of_name pn6) O0 ?_
  intro p e s m below meth c T0 hx hby hml hret hlk hnm hs W0
  have W0 : Wk p l e _ s m _ below meth c Z EL0 n0 [a1] "com/example/grantwork/grantwork/resources/Resource" [] T0 0 0 h0 := W0
  have hSA := fun d hd => hw d (sa_in d hd)
  have hws := fun d hd => hw d (ws_in d hd)
  have hln := fun d hd => hw d (ln_in d hd)
  have hch := fun d hd => hw d (ch_in d hd)
  have heq := fun d hd => hw d (eq_in d hd)
  have hem := fun d hd => hw d (em_in d hd)
  refine Go.of (fun _ kk => castTop (ef3 m a1 x2 x3) kk) ?_
  refine gof T0 m 1 #[vr a1, vr x2, vr x3] [(.ref a1)] (fun _ kk => XS.aloadN W0.here hx rfl (hb hby d1021_0) rfl rfl kk) ?_
  refine W0.initO hx (hw _ (mI 114 rfl)) (hw _ (mI 16 rfl)) (hw _ (mI 17 rfl)) rfl (by rw [hml]; rfl) rfl (hb hby d1021_1) (by decide +kernel) (Wd := 0) (by show 2 * 0 + _ ≤ _; exact Nat.le_of_eq rfl) (by decide +kernel) (fun T1 W1 => ?_)
  refine gof T1 m 6 #[vr a1, vr x2, vr x3] [(.ref x2), (.ref a1)] (fun _ kk => XS.aloadN W1.here hx rfl (hb hby d1021_4) rfl rfl (XS.aloadN W1.here hx rfl (hb hby d1021_5) rfl rfl kk)) ?_
  refine W1.putF hx (host := "") (Or.inl (hw _ (mI 115 rfl))) Via.refl FmName E1 (Or.inr ⟨(hw _ (mI 116 rfl)), rfl, hnm⟩) (hw _ (mI 110 rfl)) (ty := (.object "java/lang/String")) (by decide +kernel) rfl rfl g1 (Or.inl (mI 0 rfl)) (Or.inr ⟨by decide, by decide⟩) rfl rfl (hb hby d1021_6) (fun T2 h2 W2 w2 => ?_)
  have K2 := Keep.of_wr w2
  have k3 := FmType.other w2 (Or.inr (slot_ne (Or.inr (hw _ (mI 118 rfl))) (Or.inr (hw _ (mI 116 rfl))) (by decide +kernel) (t := (.object "java/lang/String")) (t' := (.object "java/lang/String")) (by decide +kernel) (by decide +kernel)))
  have k4 := FmName.same w2
  refine gof T2 m 11 #[vr a1, vr x2, vr x3] [(.ref x3), (.ref a1)] (fun _ kk => XS.aloadN W2.here hx rfl (hb hby d1021_9) rfl rfl (XS.aloadN W2.here hx rfl (hb hby d1021_10) rfl rfl kk)) ?_
  have k5 := (E1.keep K2)
  refine W2.putF hx (host := "") (Or.inl (hw _ (mI 117 rfl))) Via.refl k3 k5 (Or.inr ⟨(hw _ (mI 118 rfl)), rfl, hnm⟩) (hw _ (mI 110 rfl)) (ty := (.object "java/lang/String")) (by decide +kernel) rfl rfl g1 (Or.inl (mI 0 rfl)) (Or.inr ⟨by decide, by decide⟩) rfl rfl (hb hby d1021_11) (fun T6 h6 W6 w6 => ?_)
  have K6 := Keep.of_wr w6
  have k7 := k4.other w6 (Or.inr (slot_ne (Or.inr (hw _ (mI 116 rfl))) (Or.inr (hw _ (mI 118 rfl))) (by decide +kernel) (t := (.object "java/lang/String")) (t' := (.object "java/lang/String")) (by decide +kernel) (by decide +kernel)))
  have k8 := k3.same w6
  show Go p e below _ (T6.setTop (mkF m 14 #[vr a1, vr x2, vr x3] []))
  exact W6.retV hx hEL hs hlk (by decide +kernel) (by decide +kernel) hret (hb hby d1021_14) ⟨rfl, k7, k8⟩
theorem d1022_0 : decode prog_21_method_6_code 0 = .ok (.aload_n 0, 1) := by decide +kernel
theorem d1022_1 : decode prog_21_method_6_code 1 = .ok (.invokevirtual 24, 3) := by decide +kernel
theorem d1022_4 : decode prog_21_method_6_code 4 = .ok (.ifCond .ne 25, 3) := by decide +kernel
theorem d1022_7 : decode prog_21_method_6_code 7 = .ok (.aload_n 0, 1) := by decide +kernel
theorem d1022_8 : decode prog_21_method_6_code 8 = .ok (.ldc 74, 2) := by decide +kernel
theorem d1022_10 : decode prog_21_method_6_code 10 = .ok (.invokevirtual 76, 3) := by decide +kernel
theorem d1022_13 : decode prog_21_method_6_code 13 = .ok (.ifCond .ne 16, 3) := by decide +kernel
theorem d1022_16 : decode prog_21_method_6_code 16 = .ok (.aload_n 0, 1) := by decide +kernel
theorem d1022_17 : decode prog_21_method_6_code 17 = .ok (.bipush 47, 2) := by decide +kernel
theorem d1022_19 : decode prog_21_method_6_code 19 = .ok (.invokevirtual 37, 3) := by decide +kernel
theorem d1022_22 : decode prog_21_method_6_code 22 = .ok (.ifCond .ge 7, 3) := by decide +kernel
theorem d1022_25 : decode prog_21_method_6_code 25 = .ok (.iconst 1, 1) := by decide +kernel
theorem d1022_26 : decode prog_21_method_6_code 26 = .ok (.goto 4, 3) := by decide +kernel
theorem d1022_30 : decode prog_21_method_6_code 30 = .ok (.ireturn, 1) := by decide +kernel
theorem ef201 (m : MethodId) (x0 : Addr)  : entryFrame m #[(.ref x0)] 1 = mkF m 0 #[vr x0] [] := by first | (simp [entryFrame, mkF, argsToLocals, Value.category]; done) | rfl | rfl
set_option maxRecDepth 65536 in
set_option maxHeartbeats 40000000 in
theorem rm201 (l : Launch) (Z : State) (a0 : Array Value) (hw : ∀ d ∈ tables_1, d.before a0 Z = true) (hEL : EW Z a0 EL0) (zc : Int32) (SC : Sta Z Z.heap "java/lang/String" "COMPACT_STRINGS" "Z" (.int zc)) (hzc : ¬ zc = 0) (fm : Value) (SF : Sta Z Z.heap "jdk/internal/util/Preconditions" "SIOOBE_FORMATTER" "Ljava/util/function/BiFunction;" fm) (rfm : fm.isRef = true) (x1 : Addr) (q1 : Int32) (h0 : Heap) {n0 : Nat} (O0 : Old Z n0 h0) (S1 : Str Z h0 x1 [q1]) (cq1 : ¬ q1 < 0 ∧ ¬ (255 : Int32) < q1) (sq1 : ¬ q1 = (47 : Int32)) (hst : ¬ q1 = (42 : Int32)) :
    Met l Z EL0 n0 (⟨"com/example/grantwork/grantwork/resources/Resource", "isType", "(Ljava/lang/String;)Z"⟩ : MethodName) prog_21_method_6_code 1 (some .boolean) [] ({ frames := 4, cells := 2, slots := 8, locals := 59 } : Room) #[(.ref x1)] h0 [] [] (fun v h' => v = some (.int 1)) := by
  refine Met.of (plainFor_of_name pn6) O0 ?_
  intro p e s m below meth c T0 hx hby hml hret hlk hnm hs W0
  have W0 : Wk p l e _ s m _ below meth c Z EL0 n0 [] "com/example/grantwork/grantwork/resources/Resource" [] T0 0 0 h0 := W0
  have hSA := fun d hd => hw d (sa_in d hd)
  have hws := fun d hd => hw d (ws_in d hd)
  have hln := fun d hd => hw d (ln_in d hd)
  have hch := fun d hd => hw d (ch_in d hd)
  have heq := fun d hd => hw d (eq_in d hd)
  have hem := fun d hd => hw d (em_in d hd)
  refine Go.of (fun _ kk => castTop (ef201 m x1) kk) ?_
  refine gof T0 m 1 #[vr x1] [(.ref x1)] (fun _ kk => XS.aloadN W0.here hx rfl (hb hby d1022_0) rfl rfl kk) ?_
  refine W0.strEmp hx hem (hw _ (mI 6 rfl)) S1 (hw _ (mI 48 rfl)) (hw _ (mI 49 rfl)) (hw _ (mI 51 rfl)) (hw _ (mI 50 rfl)) (by decide +kernel) (Wd := 0) (by decide +kernel) (by decide +kernel) (by decide +kernel) rfl (by rw [hml]; rfl) rfl (by show 2 * 0 + _ ≤ _; exact Nat.le_of_eq rfl) (hb hby d1022_1) (fun T1 W1 => ?_)
  show Go p e below _ (T1.setTop (mkF m 4 #[vr x1] [(.int 0)]))
  refine gof T1 m 8 #[vr x1] [(.ref x1)] (fun _ kk => XS.ifNo W1.here hx rfl (hb hby d1022_4) rfl (XT.i0_ne_f (by decide +kernel)) (XS.aloadN W1.here hx rfl (hb hby d1022_7) rfl rfl kk)) ?_
  refine W1.ldcC hx hEL (by decide +kernel) (hw _ (mI 98 rfl)) hSA [(.int (42 : Int32))] (1 : Int32) (by decide +kernel) (by decide +kernel) (by decide +kernel) rfl (hb hby d1022_8) (n := 4) (by decide +kernel) (by decide +kernel) (by decide +kernel) (by decide +kernel) (fun T2 h2 b2 t2 kb2 W2 K2 E2 Fv2 Fc2 A2 N2 => ?_)
  have S2 : Str Z h2 b2 [(42 : Int32)] := ⟨t2, kb2, 0, (1 : Int32), _, E2, Fv2, Fc2, A2, Or.inl ⟨rfl, by decide +kernel, by decide +kernel, by decide +kernel⟩, by decide +kernel, by decide⟩
  show Go p e below _ (T2.setTop (mkF m 10 #[vr x1] [(.ref b2), (.ref x1)]))
  have k4 := (S1.keep0 K2)
  refine W2.strEq hx heq (hw _ (mI 6 rfl)) SC hzc k4 S2 (hw _ (mI 99 rfl)) (hw _ (mI 100 rfl)) (hw _ (mI 102 rfl)) (hw _ (mI 101 rfl)) (by decide +kernel) (Wd := 0) (by decide +kernel) (by decide +kernel) (by decide +kernel) rfl (by rw [hml]; rfl) rfl (by show 2 * 0 + _ ≤ _; exact Nat.le_of_eq rfl) (hb hby d1022_10) (fun T3 z3 hz3 W3 => ?_)
  obtain ⟨-, hn3⟩ | ⟨rfl, -⟩ := hz3
  case inl => exact absurd hn3 (fun q => hst (List.cons.inj q).1)
  refine gof T3 m 19 #[vr x1] [(.int 47), (.ref x1)] (fun _ kk => XS.ifNo W3.here hx rfl (hb hby d1022_13) rfl (XT.i0_ne_f (by decide +kernel)) (XS.aloadN W3.here hx rfl (hb hby d1022_16) rfl rfl (XS.bipush W3.here hx rfl (hb hby d1022_17) kk))) ?_
  have k6 := k4.exa
  refine W3.callV hx hEL (hw _ (mI 53 rfl)) (hw _ (mI 54 rfl)) (hw _ (mI 56 rfl)) (hw _ (mI 55 rfl)) (hw _ (mI 7 rfl)) (hw _ (mI 57 rfl)) (by decide +kernel) k6 (a := x1) (argsL := [(.int (47 : Int32))]) (rest := []) (rm113 l Z a0 hw hEL zc SC hzc fm SF rfm x1 q1 h2 W3.old k4 cq1) all0 (by decide +kernel) (Wd := 0) (by decide +kernel) (by decide +kernel) (by decide +kernel) all0 rfl (by rw [hml]; rfl) (lenOf pd11 rfl) rfl (by show 2 * 0 + _ ≤ _; exact Nat.le_of_eq rfl) (hb hby d1022_19) (fun T5 h5 v5 W5 K5 q5 => ?_)
  obtain ⟨rfl, rfl⟩ := q5
  show Go p e below _ (T5.setTop (mkF m 22 #[vr x1] [(.int (idxC (47 : Int32) [q1] (0 : Int32)))]))
  have ei : (idxC (47 : Int32) [q1] (0 : Int32)) = (-1 : Int32) := by simp [idxC, sq1]
  rw [ei]
  refine gof T5 m 30 #[vr x1] [(.int 1)] (fun _ kk => XS.ifNo W5.here hx rfl (hb hby d1022_22) rfl (XT.i0_ge_f (by decide +kernel)) (XS.iconst W5.here hx rfl (hb hby d1022_25) (XS.goto W5.here hx rfl (pc0 := 26) (pc' := 30) rfl (hb hby d1022_26) (by decide +kernel) (by decide +kernel) kk))) ?_
  exact W5.retI hx hEL hs hlk (by decide +kernel) (by decide +kernel) hret (by simp) rfl (hb hby d1022_30) rfl
theorem ef202 (m : MethodId) (x0 : Addr)  : entryFrame m #[(.ref x0)] 1 = mkF m 0 #[vr x0] [] := by first | (simp [entryFrame, mkF, argsToLocals, Value.category]; done) | rfl | rfl
set_option maxRecDepth 65536 in
set_option maxHeartbeats 40000000 in
theorem rm202 (l : Launch) (Z : State) (a0 : Array Value) (hw : ∀ d ∈ tables_1, d.before a0 Z = true) (hEL : EW Z a0 EL0) (zc : Int32) (SC : Sta Z Z.heap "java/lang/String" "COMPACT_STRINGS" "Z" (.int zc)) (hzc : ¬ zc = 0) (fm : Value) (SF : Sta Z Z.heap "jdk/internal/util/Preconditions" "SIOOBE_FORMATTER" "Ljava/util/function/BiFunction;" fm) (rfm : fm.isRef = true) (x1 : Addr) (q1 : Int32) (q2 : Int32) (h0 : Heap) {n0 : Nat} (O0 : Old Z n0 h0) (S1 : Str Z h0 x1 [q1, q2]) (cq1 : ¬ q1 < 0 ∧ ¬ (255 : Int32) < q1) (cq2 : ¬ q2 < 0 ∧ ¬ (255 : Int32) < q2) (sq1 : ¬ q1 = (47 : Int32)) (sq2 : ¬ q2 = (47 : Int32)) :
    Met l Z EL0 n0 (⟨"com/example/grantwork/grantwork/resources/Resource", "isType", "(Ljava/lang/String;)Z"⟩ : MethodName) prog_21_method_6_code 1 (some .boolean) [] ({ frames := 4, cells := 2, slots := 8, locals := 59 } : Room) #[(.ref x1)] h0 [] [] (fun v h' => v = some (.int 1)) := by
  refine Met.of (plainFor_of_name pn6) O0 ?_
  intro p e s m below meth c T0 hx hby hml hret hlk hnm hs W0
  have W0 : Wk p l e _ s m _ below meth c Z EL0 n0 [] "com/example/grantwork/grantwork/resources/Resource" [] T0 0 0 h0 := W0
  have hSA := fun d hd => hw d (sa_in d hd)
  have hws := fun d hd => hw d (ws_in d hd)
  have hln := fun d hd => hw d (ln_in d hd)
  have hch := fun d hd => hw d (ch_in d hd)
  have heq := fun d hd => hw d (eq_in d hd)
  have hem := fun d hd => hw d (em_in d hd)
  refine Go.of (fun _ kk => castTop (ef202 m x1) kk) ?_
  refine gof T0 m 1 #[vr x1] [(.ref x1)] (fun _ kk => XS.aloadN W0.here hx rfl (hb hby d1022_0) rfl rfl kk) ?_
  refine W0.strEmp hx hem (hw _ (mI 6 rfl)) S1 (hw _ (mI 48 rfl)) (hw _ (mI 49 rfl)) (hw _ (mI 51 rfl)) (hw _ (mI 50 rfl)) (by decide +kernel) (Wd := 0) (by decide +kernel) (by decide +kernel) (by decide +kernel) rfl (by rw [hml]; rfl) rfl (by show 2 * 0 + _ ≤ _; exact Nat.le_of_eq rfl) (hb hby d1022_1) (fun T1 W1 => ?_)
  show Go p e below _ (T1.setTop (mkF m 4 #[vr x1] [(.int 0)]))
  refine gof T1 m 8 #[vr x1] [(.ref x1)] (fun _ kk => XS.ifNo W1.here hx rfl (hb hby d1022_4) rfl (XT.i0_ne_f (by decide +kernel)) (XS.aloadN W1.here hx rfl (hb hby d1022_7) rfl rfl kk)) ?_
  refine W1.ldcC hx hEL (by decide +kernel) (hw _ (mI 98 rfl)) hSA [(.int (42 : Int32))] (1 : Int32) (by decide +kernel) (by decide +kernel) (by decide +kernel) rfl (hb hby d1022_8) (n := 4) (by decide +kernel) (by decide +kernel) (by decide +kernel) (by decide +kernel) (fun T2 h2 b2 t2 kb2 W2 K2 E2 Fv2 Fc2 A2 N2 => ?_)
  have S2 : Str Z h2 b2 [(42 : Int32)] := ⟨t2, kb2, 0, (1 : Int32), _, E2, Fv2, Fc2, A2, Or.inl ⟨rfl, by decide +kernel, by decide +kernel, by decide +kernel⟩, by decide +kernel, by decide⟩
  show Go p e below _ (T2.setTop (mkF m 10 #[vr x1] [(.ref b2), (.ref x1)]))
  have k4 := (S1.keep0 K2)
  refine W2.strEq hx heq (hw _ (mI 6 rfl)) SC hzc k4 S2 (hw _ (mI 99 rfl)) (hw _ (mI 100 rfl)) (hw _ (mI 102 rfl)) (hw _ (mI 101 rfl)) (by decide +kernel) (Wd := 0) (by decide +kernel) (by decide +kernel) (by decide +kernel) rfl (by rw [hml]; rfl) rfl (by show 2 * 0 + _ ≤ _; exact Nat.le_of_eq rfl) (hb hby d1022_10) (fun T3 z3 hz3 W3 => ?_)
  obtain ⟨-, hn3⟩ | ⟨rfl, -⟩ := hz3
  case inl => exact absurd hn3 (fun q => absurd (congrArg List.length q) (by simp))
  refine gof T3 m 19 #[vr x1] [(.int 47), (.ref x1)] (fun _ kk => XS.ifNo W3.here hx rfl (hb hby d1022_13) rfl (XT.i0_ne_f (by decide +kernel)) (XS.aloadN W3.here hx rfl (hb hby d1022_16) rfl rfl (XS.bipush W3.here hx rfl (hb hby d1022_17) kk))) ?_
  have k6 := k4.exa
  refine W3.callV hx hEL (hw _ (mI 53 rfl)) (hw _ (mI 54 rfl)) (hw _ (mI 56 rfl)) (hw _ (mI 55 rfl)) (hw _ (mI 7 rfl)) (hw _ (mI 57 rfl)) (by decide +kernel) k6 (a := x1) (argsL := [(.int (47 : Int32))]) (rest := []) (rm123 l Z a0 hw hEL zc SC hzc fm SF rfm x1 q1 q2 h2 W3.old k4 cq1 cq2) all0 (by decide +kernel) (Wd := 0) (by decide +kernel) (by decide +kernel) (by decide +kernel) all0 rfl (by rw [hml]; rfl) (lenOf pd11 rfl) rfl (by show 2 * 0 + _ ≤ _; exact Nat.le_of_eq rfl) (hb hby d1022_19) (fun T5 h5 v5 W5 K5 q5 => ?_)
  obtain ⟨rfl, rfl⟩ := q5
  show Go p e below _ (T5.setTop (mkF m 22 #[vr x1] [(.int (idxC (47 : Int32) [q1, q2] (0 : Int32)))]))
  have ei : (idxC (47 : Int32) [q1, q2] (0 : Int32)) = (-1 : Int32) := by simp [idxC, sq1, sq2]
  rw [ei]
  refine gof T5 m 30 #[vr x1] [(.int 1)] (fun _ kk => XS.ifNo W5.here hx rfl (hb hby d1022_22) rfl (XT.i0_ge_f (by decide +kernel)) (XS.iconst W5.here hx rfl (hb hby d1022_25) (XS.goto W5.here hx rfl (pc0 := 26) (pc' := 30) rfl (hb hby d1022_26) (by decide +kernel) (by decide +kernel) kk))) ?_
  exact W5.retI hx hEL hs hlk (by decide +kernel) (by decide +kernel) hret (by simp) rfl (hb hby d1022_30) rfl
theorem ef203 (m : MethodId) (x0 : Addr)  : entryFrame m #[(.ref x0)] 1 = mkF m 0 #[vr x0] [] := by first | (simp [entryFrame, mkF, argsToLocals, Value.category]; done) | rfl | rfl
set_option maxRecDepth 65536 in
set_option maxHeartbeats 40000000 in
theorem rm203 (l : Launch) (Z : State) (a0 : Array Value) (hw : ∀ d ∈ tables_1, d.before a0 Z = true) (hEL : EW Z a0 EL0) (zc : Int32) (SC : Sta Z Z.heap "java/lang/String" "COMPACT_STRINGS" "Z" (.int zc)) (hzc : ¬ zc = 0) (fm : Value) (SF : Sta Z Z.heap "jdk/internal/util/Preconditions" "SIOOBE_FORMATTER" "Ljava/util/function/BiFunction;" fm) (rfm : fm.isRef = true) (x1 : Addr) (q1 : Int32) (q2 : Int32) (q3 : Int32) (h0 : Heap) {n0 : Nat} (O0 : Old Z n0 h0) (S1 : Str Z h0 x1 [q1, q2, q3]) (cq1 : ¬ q1 < 0 ∧ ¬ (255 : Int32) < q1) (cq2 : ¬ q2 < 0 ∧ ¬ (255 : Int32) < q2) (cq3 : ¬ q3 < 0 ∧ ¬ (255 : Int32) < q3) (sq1 : ¬ q1 = (47 : Int32)) (sq2 : ¬ q2 = (47 : Int32)) (sq3 : ¬ q3 = (47 : Int32)) :
    Met l Z EL0 n0 (⟨"com/example/grantwork/grantwork/resources/Resource", "isType", "(Ljava/lang/String;)Z"⟩ : MethodName) prog_21_method_6_code 1 (some .boolean) [] ({ frames := 4, cells := 2, slots := 8, locals := 59 } : Room) #[(.ref x1)] h0 [] [] (fun v h' => v = some (.int 1)) := by
  refine Met.of (plainFor_of_name pn6) O0 ?_
  intro p e s m below meth c T0 hx hby hml hret hlk hnm hs W0
  have W0 : Wk p l e _ s m _ below meth c Z EL0 n0 [] "com/example/grantwork/grantwork/resources/Resource" [] T0 0 0 h0 := W0
  have hSA := fun d hd => hw d (sa_in d hd)
  have hws := fun d hd => hw d (ws_in d hd)
  have hln := fun d hd => hw d (ln_in d hd)
  have hch := fun d hd => hw d (ch_in d hd)
  have heq := fun d hd => hw d (eq_in d hd)
  have hem := fun d hd => hw d (em_in d hd)
  refine Go.of (fun _ kk => castTop (ef203 m x1) kk) ?_
  refine gof T0 m 1 #[vr x1] [(.ref x1)] (fun _ kk => XS.aloadN W0.here hx rfl (hb hby d1022_0) rfl rfl kk) ?_
  refine W0.strEmp hx hem (hw _ (mI 6 rfl)) S1 (hw _ (mI 48 rfl)) (hw _ (mI 49 rfl)) (hw _ (mI 51 rfl)) (hw _ (mI 50 rfl)) (by decide +kernel) (Wd := 0) (by decide +kernel) (by decide +kernel) (by decide +kernel) rfl (by rw [hml]; rfl) rfl (by show 2 * 0 + _ ≤ _; exact Nat.le_of_eq rfl) (hb hby d1022_1) (fun T1 W1 => ?_)
  show Go p e below _ (T1.setTop (mkF m 4 #[vr x1] [(.int 0)]))
  refine gof T1 m 8 #[vr x1] [(.ref x1)] (fun _ kk => XS.ifNo W1.here hx rfl (hb hby d1022_4) rfl (XT.i0_ne_f (by decide +kernel)) (XS.aloadN W1.here hx rfl (hb hby d1022_7) rfl rfl kk)) ?_
  refine W1.ldcC hx hEL (by decide +kernel) (hw _ (mI 98 rfl)) hSA [(.int (42 : Int32))] (1 : Int32) (by decide +kernel) (by decide +kernel) (by decide +kernel) rfl (hb hby d1022_8) (n := 4) (by decide +kernel) (by decide +kernel) (by decide +kernel) (by decide +kernel) (fun T2 h2 b2 t2 kb2 W2 K2 E2 Fv2 Fc2 A2 N2 => ?_)
  have S2 : Str Z h2 b2 [(42 : Int32)] := ⟨t2, kb2, 0, (1 : Int32), _, E2, Fv2, Fc2, A2, Or.inl ⟨rfl, by decide +kernel, by decide +kernel, by decide +kernel⟩, by decide +kernel, by decide⟩
  show Go p e below _ (T2.setTop (mkF m 10 #[vr x1] [(.ref b2), (.ref x1)]))
  have k4 := (S1.keep0 K2)
  refine W2.strEq hx heq (hw _ (mI 6 rfl)) SC hzc k4 S2 (hw _ (mI 99 rfl)) (hw _ (mI 100 rfl)) (hw _ (mI 102 rfl)) (hw _ (mI 101 rfl)) (by decide +kernel) (Wd := 0) (by decide +kernel) (by decide +kernel) (by decide +kernel) rfl (by rw [hml]; rfl) rfl (by show 2 * 0 + _ ≤ _; exact Nat.le_of_eq rfl) (hb hby d1022_10) (fun T3 z3 hz3 W3 => ?_)
  obtain ⟨-, hn3⟩ | ⟨rfl, -⟩ := hz3
  case inl => exact absurd hn3 (fun q => absurd (congrArg List.length q) (by simp))
  refine gof T3 m 19 #[vr x1] [(.int 47), (.ref x1)] (fun _ kk => XS.ifNo W3.here hx rfl (hb hby d1022_13) rfl (XT.i0_ne_f (by decide +kernel)) (XS.aloadN W3.here hx rfl (hb hby d1022_16) rfl rfl (XS.bipush W3.here hx rfl (hb hby d1022_17) kk))) ?_
  have k6 := k4.exa
  refine W3.callV hx hEL (hw _ (mI 53 rfl)) (hw _ (mI 54 rfl)) (hw _ (mI 56 rfl)) (hw _ (mI 55 rfl)) (hw _ (mI 7 rfl)) (hw _ (mI 57 rfl)) (by decide +kernel) k6 (a := x1) (argsL := [(.int (47 : Int32))]) (rest := []) (rm133 l Z a0 hw hEL zc SC hzc fm SF rfm x1 q1 q2 q3 h2 W3.old k4 cq1 cq2 cq3) all0 (by decide +kernel) (Wd := 0) (by decide +kernel) (by decide +kernel) (by decide +kernel) all0 rfl (by rw [hml]; rfl) (lenOf pd11 rfl) rfl (by show 2 * 0 + _ ≤ _; exact Nat.le_of_eq rfl) (hb hby d1022_19) (fun T5 h5 v5 W5 K5 q5 => ?_)
  obtain ⟨rfl, rfl⟩ := q5
  show Go p e below _ (T5.setTop (mkF m 22 #[vr x1] [(.int (idxC (47 : Int32) [q1, q2, q3] (0 : Int32)))]))
  have ei : (idxC (47 : Int32) [q1, q2, q3] (0 : Int32)) = (-1 : Int32) := by simp [idxC, sq1, sq2, sq3]
  rw [ei]
  refine gof T5 m 30 #[vr x1] [(.int 1)] (fun _ kk => XS.ifNo W5.here hx rfl (hb hby d1022_22) rfl (XT.i0_ge_f (by decide +kernel)) (XS.iconst W5.here hx rfl (hb hby d1022_25) (XS.goto W5.here hx rfl (pc0 := 26) (pc' := 30) rfl (hb hby d1022_26) (by decide +kernel) (by decide +kernel) kk))) ?_
  exact W5.retI hx hEL hs hlk (by decide +kernel) (by decide +kernel) hret (by simp) rfl (hb hby d1022_30) rfl
theorem ef204 (m : MethodId) (x0 : Addr)  : entryFrame m #[(.ref x0)] 1 = mkF m 0 #[vr x0] [] := by first | (simp [entryFrame, mkF, argsToLocals, Value.category]; done) | rfl | rfl
set_option maxRecDepth 65536 in
set_option maxHeartbeats 40000000 in
theorem rm204 (l : Launch) (Z : State) (a0 : Array Value) (hw : ∀ d ∈ tables_1, d.before a0 Z = true) (hEL : EW Z a0 EL0) (zc : Int32) (SC : Sta Z Z.heap "java/lang/String" "COMPACT_STRINGS" "Z" (.int zc)) (hzc : ¬ zc = 0) (fm : Value) (SF : Sta Z Z.heap "jdk/internal/util/Preconditions" "SIOOBE_FORMATTER" "Ljava/util/function/BiFunction;" fm) (rfm : fm.isRef = true) (x1 : Addr) (q1 : Int32) (q2 : Int32) (q3 : Int32) (q4 : Int32) (h0 : Heap) {n0 : Nat} (O0 : Old Z n0 h0) (S1 : Str Z h0 x1 [q1, q2, q3, q4]) (cq1 : ¬ q1 < 0 ∧ ¬ (255 : Int32) < q1) (cq2 : ¬ q2 < 0 ∧ ¬ (255 : Int32) < q2) (cq3 : ¬ q3 < 0 ∧ ¬ (255 : Int32) < q3) (cq4 : ¬ q4 < 0 ∧ ¬ (255 : Int32) < q4) (sq1 : ¬ q1 = (47 : Int32)) (sq2 : ¬ q2 = (47 : Int32)) (sq3 : ¬ q3 = (47 : Int32)) (sq4 : ¬ q4 = (47 : Int32)) :
    Met l Z EL0 n0 (⟨"com/example/grantwork/grantwork/resources/Resource", "isType", "(Ljava/lang/String;)Z"⟩ : MethodName) prog_21_method_6_code 1 (some .boolean) [] ({ frames := 4, cells := 2, slots := 8, locals := 59 } : Room) #[(.ref x1)] h0 [] [] (fun v h' => v = some (.int 1)) := by
  refine Met.of (plainFor_of_name pn6) O0 ?_
  intro p e s m below meth c T0 hx hby hml hret hlk hnm hs W0
  have W0 : Wk p l e _ s m _ below meth c Z EL0 n0 [] "com/example/grantwork/grantwork/resources/Resource" [] T0 0 0 h0 := W0
  have hSA := fun d hd => hw d (sa_in d hd)
  have hws := fun d hd => hw d (ws_in d hd)
  have hln := fun d hd => hw d (ln_in d hd)
  have hch := fun d hd => hw d (ch_in d hd)
  have heq := fun d hd => hw d (eq_in d hd)
  have hem := fun d hd => hw d (em_in d hd)
  refine Go.of (fun _ kk => castTop (ef204 m x1) kk) ?_
  refine gof T0 m 1 #[vr x1] [(.ref x1)] (fun _ kk => XS.aloadN W0.here hx rfl (hb hby d1022_0) rfl rfl kk) ?_
  refine W0.strEmp hx hem (hw _ (mI 6 rfl)) S1 (hw _ (mI 48 rfl)) (hw _ (mI 49 rfl)) (hw _ (mI 51 rfl)) (hw _ (mI 50 rfl)) (by decide +kernel) (Wd := 0) (by decide +kernel) (by decide +kernel) (by decide +kernel) rfl (by rw [hml]; rfl) rfl (by show 2 * 0 + _ ≤ _; exact Nat.le_of_eq rfl) (hb hby d1022_1) (fun T1 W1 => ?_)
  show Go p e below _ (T1.setTop (mkF m 4 #[vr x1] [(.int 0)]))
  refine gof T1 m 8 #[vr x1] [(.ref x1)] (fun _ kk => XS.ifNo W1.here hx rfl (hb hby d1022_4) rfl (XT.i0_ne_f (by decide +kernel)) (XS.aloadN W1.here hx rfl (hb hby d1022_7) rfl rfl kk)) ?_
  refine W1.ldcC hx hEL (by decide +kernel) (hw _ (mI 98 rfl)) hSA [(.int (42 : Int32))] (1 : Int32) (by decide +kernel) (by decide +kernel) (by decide +kernel) rfl (hb hby d1022_8) (n := 4) (by decide +kernel) (by decide +kernel) (by decide +kernel) (by decide +kernel) (fun T2 h2 b2 t2 kb2 W2 K2 E2 Fv2 Fc2 A2 N2 => ?_)
  have S2 : Str Z h2 b2 [(42 : Int32)] := ⟨t2, kb2, 0, (1 : Int32), _, E2, Fv2, Fc2, A2, Or.inl ⟨rfl, by decide +kernel, by decide +kernel, by decide +kernel⟩, by decide +kernel, by decide⟩
  show Go p e below _ (T2.setTop (mkF m 10 #[vr x1] [(.ref b2), (.ref x1)]))
  have k4 := (S1.keep0 K2)
  refine W2.strEq hx heq (hw _ (mI 6 rfl)) SC hzc k4 S2 (hw _ (mI 99 rfl)) (hw _ (mI 100 rfl)) (hw _ (mI 102 rfl)) (hw _ (mI 101 rfl)) (by decide +kernel) (Wd := 0) (by decide +kernel) (by decide +kernel) (by decide +kernel) rfl (by rw [hml]; rfl) rfl (by show 2 * 0 + _ ≤ _; exact Nat.le_of_eq rfl) (hb hby d1022_10) (fun T3 z3 hz3 W3 => ?_)
  obtain ⟨-, hn3⟩ | ⟨rfl, -⟩ := hz3
  case inl => exact absurd hn3 (fun q => absurd (congrArg List.length q) (by simp))
  refine gof T3 m 19 #[vr x1] [(.int 47), (.ref x1)] (fun _ kk => XS.ifNo W3.here hx rfl (hb hby d1022_13) rfl (XT.i0_ne_f (by decide +kernel)) (XS.aloadN W3.here hx rfl (hb hby d1022_16) rfl rfl (XS.bipush W3.here hx rfl (hb hby d1022_17) kk))) ?_
  have k6 := k4.exa
  refine W3.callV hx hEL (hw _ (mI 53 rfl)) (hw _ (mI 54 rfl)) (hw _ (mI 56 rfl)) (hw _ (mI 55 rfl)) (hw _ (mI 7 rfl)) (hw _ (mI 57 rfl)) (by decide +kernel) k6 (a := x1) (argsL := [(.int (47 : Int32))]) (rest := []) (rm143 l Z a0 hw hEL zc SC hzc fm SF rfm x1 q1 q2 q3 q4 h2 W3.old k4 cq1 cq2 cq3 cq4) all0 (by decide +kernel) (Wd := 0) (by decide +kernel) (by decide +kernel) (by decide +kernel) all0 rfl (by rw [hml]; rfl) (lenOf pd11 rfl) rfl (by show 2 * 0 + _ ≤ _; exact Nat.le_of_eq rfl) (hb hby d1022_19) (fun T5 h5 v5 W5 K5 q5 => ?_)
  obtain ⟨rfl, rfl⟩ := q5
  show Go p e below _ (T5.setTop (mkF m 22 #[vr x1] [(.int (idxC (47 : Int32) [q1, q2, q3, q4] (0 : Int32)))]))
  have ei : (idxC (47 : Int32) [q1, q2, q3, q4] (0 : Int32)) = (-1 : Int32) := by simp [idxC, sq1, sq2, sq3, sq4]
  rw [ei]
  refine gof T5 m 30 #[vr x1] [(.int 1)] (fun _ kk => XS.ifNo W5.here hx rfl (hb hby d1022_22) rfl (XT.i0_ge_f (by decide +kernel)) (XS.iconst W5.here hx rfl (hb hby d1022_25) (XS.goto W5.here hx rfl (pc0 := 26) (pc' := 30) rfl (hb hby d1022_26) (by decide +kernel) (by decide +kernel) kk))) ?_
  exact W5.retI hx hEL hs hlk (by decide +kernel) (by decide +kernel) hret (by simp) rfl (hb hby d1022_30) rfl
theorem d1023_0 : decode prog_21_method_2_code 0 = .ok (.aload_n 0, 1) := by decide +kernel
theorem d1023_1 : decode prog_21_method_2_code 1 = .ok (.ldc 16, 2) := by decide +kernel
theorem d1023_3 : decode prog_21_method_2_code 3 = .ok (.invokestatic 18, 3) := by decide +kernel
theorem d1023_6 : decode prog_21_method_2_code 6 = .ok (.pop, 1) := by decide +kernel
theorem d1023_7 : decode prog_21_method_2_code 7 = .ok (.aload_n 0, 1) := by decide +kernel
theorem d1023_8 : decode prog_21_method_2_code 8 = .ok (.invokevirtual 24, 3) := by decide +kernel
theorem d1023_11 : decode prog_21_method_2_code 11 = .ok (.ifCond .eq 13, 3) := by decide +kernel
theorem d1023_24 : decode prog_21_method_2_code 24 = .ok (.aload_n 0, 1) := by decide +kernel
theorem d1023_25 : decode prog_21_method_2_code 25 = .ok (.bipush 47, 2) := by decide +kernel
theorem d1023_27 : decode prog_21_method_2_code 27 = .ok (.invokevirtual 37, 3) := by decide +kernel
theorem d1023_30 : decode prog_21_method_2_code 30 = .ok (.istore_n 1, 1) := by decide +kernel
theorem d1023_31 : decode prog_21_method_2_code 31 = .ok (.iload_n 1, 1) := by decide +kernel
theorem d1023_32 : decode prog_21_method_2_code 32 = .ok (.ifCond .ge 7, 3) := by decide +kernel
theorem d1023_35 : decode prog_21_method_2_code 35 = .ok (.aload_n 0, 1) := by decide +kernel
theorem d1023_36 : decode prog_21_method_2_code 36 = .ok (.goto 9, 3) := by decide +kernel
theorem d1023_45 : decode prog_21_method_2_code 45 = .ok (.astore_n 2, 1) := by decide +kernel
theorem d1023_46 : decode prog_21_method_2_code 46 = .ok (.aload_n 2, 1) := by decide +kernel
theorem d1023_47 : decode prog_21_method_2_code 47 = .ok (.invokestatic 45, 3) := by decide +kernel
theorem d1023_50 : decode prog_21_method_2_code 50 = .ok (.ifCond .ne 17, 3) := by decide +kernel
theorem d1023_67 : decode prog_21_method_2_code 67 = .ok (.iload_n 1, 1) := by decide +kernel
theorem d1023_68 : decode prog_21_method_2_code 68 = .ok (.aload_n 0, 1) := by decide +kernel
theorem d1023_69 : decode prog_21_method_2_code 69 = .ok (.invokevirtual 53, 3) := by decide +kernel
theorem d1023_72 : decode prog_21_method_2_code 72 = .ok (.iconst 1, 1) := by decide +kernel
theorem d1023_73 : decode prog_21_method_2_code 73 = .ok (.isub, 1) := by decide +kernel
theorem d1023_74 : decode prog_21_method_2_code 74 = .ok (.if_icmp .ne 17, 3) := by decide +kernel
theorem d1023_91 : decode prog_21_method_2_code 91 = .ok (.new 8, 3) := by decide +kernel
theorem d1023_94 : decode prog_21_method_2_code 94 = .ok (.dup, 1) := by decide +kernel
theorem d1023_95 : decode prog_21_method_2_code 95 = .ok (.aload_n 0, 1) := by decide +kernel
theorem d1023_96 : decode prog_21_method_2_code 96 = .ok (.aload_n 2, 1) := by decide +kernel
theorem d1023_97 : decode prog_21_method_2_code 97 = .ok (.invokespecial 58, 3) := by decide +kernel
theorem d1023_100 : decode prog_21_method_2_code 100 = .ok (.areturn, 1) := by decide +kernel
theorem ef400 (m : MethodId) (x0 : Addr)  : entryFrame m #[(.ref x0)] 3 = mkF m 0 #[vr x0, U0, U0] [] := by first | (simp [entryFrame, mkF, argsToLocals, Value.category]; done) | rfl | rfl
set_option maxRecDepth 65536 in
set_option maxHeartbeats 40000000 in
theorem rm400 (l : Launch) (Z : State) (a0 : Array Value) (hw : ∀ d ∈ tables_1, d.before a0 Z = true) (hEL : EW Z a0 EL0) (zc : Int32) (SC : Sta Z Z.heap "java/lang/String" "COMPACT_STRINGS" "Z" (.int zc)) (hzc : ¬ zc = 0) (fm : Value) (SF : Sta Z Z.heap "jdk/internal/util/Preconditions" "SIOOBE_FORMATTER" "Ljava/util/function/BiFunction;" fm) (rfm : fm.isRef = true) (x1 : Addr) (q1 : Int32) (h0 : Heap) {n0 : Nat} (O0 : Old Z n0 h0) (S1 : Str Z h0 x1 [q1]) (cq1 : ¬ q1 < 0 ∧ ¬ (255 : Int32) < q1) (sq1 : ¬ q1 = (47 : Int32)) (hst : ¬ q1 = (42 : Int32)) :
    Met l Z EL0 n0 (⟨"com/example/grantwork/grantwork/resources/Resource", "parse", "(Ljava/lang/String;)Lcom/example/grantwork/grantwork/resources/Resource;"⟩ : MethodName) prog_21_method_2_code 3 (some (.object "com/example/grantwork/grantwork/resources/Resource")) [] ({ frames := 5, cells := 5, slots := 46, locals := 71 } : Room) #[(.ref x1)] h0 [] [] (fun v h' => ∃ r : Addr, v = some (.ref r) ∧ h0.size ≤ r ∧ Exa Z h' r "com/example/grantwork/grantwork/resources/Resource" ∧ Fld Z h' r "com/example/grantwork/grantwork/resources/Resource" "mName" "Ljava/lang/String;" (.ref x1) ∧ Fld Z h' r "com/example/grantwork/grantwork/resources/Resource" "mType" "Ljava/lang/String;" (.ref x1)) := by
  refine Met.of (plainFor_of_name pn6) O0 ?_
  intro p e s m below meth c T0 hx hby hml hret hlk hnm hs W0
  have W0 : Wk p l e _ s m _ below meth c Z EL0 n0 [] "com/example/grantwork/grantwork/resources/Resource" [] T0 0 0 h0 := W0
  have hSA := fun d hd => hw d (sa_in d hd)
  have hws := fun d hd => hw d (ws_in d hd)
  have hln := fun d hd => hw d (ln_in d hd)
  have hch := fun d hd => hw d (ch_in d hd)
  have heq := fun d hd => hw d (eq_in d hd)
  have hem := fun d hd => hw d (em_in d hd)
  refine Go.of (fun _ kk => castTop (ef400 m x1) kk) ?_
  refine gof T0 m 1 #[vr x1, U0, U0] [(.ref x1)] (fun _ kk => XS.aloadN W0.here hx rfl (hb hby d1023_0) rfl rfl kk) ?_
  refine W0.ldcO hx hEL (hw _ (mI 41 rfl)) hSA rfl (hb hby d1023_1) (n := 32) (by decide +kernel) (by decide +kernel) (by decide +kernel) (by decide +kernel) (fun T1 h1 b1 W1 K1 => ?_)
  show Go p e below _ (T1.setTop (mkF m 3 #[vr x1, U0, U0] [(.ref b1), (.ref x1)]))
  refine W1.callS hx hEL (hw _ (mI 44 rfl)) (hw _ (mI 45 rfl)) (hw _ (mI 46 rfl)) (hw _ (mI 47 rfl)) (by decide +kernel) (argsL := [(.ref x1), (.ref b1)]) (rest := []) (rm2 l Z a0 hw hEL zc SC hzc fm SF rfm x1 b1 h1 W1.old ) all0 (by decide +kernel) (Wd := 0) (by decide +kernel) (by decide +kernel) (by decide +kernel) all0 rfl (by rw [hml]; rfl) (lenOf pd12 rfl) rfl (by show 2 * 0 + _ ≤ _; exact Nat.le_of_eq rfl) (hb hby d1023_3) (fun T2 h2 v2 W2 K2 q2 => ?_)
  obtain ⟨rfl, rfl⟩ := q2
  refine gof T2 m 8 #[vr x1, U0, U0] [(.ref x1)] (fun _ kk => XS.pop W2.here hx rfl (hb hby d1023_6) rfl rfl (XS.aloadN W2.here hx rfl (hb hby d1023_7) rfl rfl kk)) ?_
  have k4 := (S1.keep0 K1)
  refine W2.strEmp hx hem (hw _ (mI 6 rfl)) k4 (hw _ (mI 48 rfl)) (hw _ (mI 49 rfl)) (hw _ (mI 51 rfl)) (hw _ (mI 50 rfl)) (by decide +kernel) (Wd := 0) (by decide +kernel) (by decide +kernel) (by decide +kernel) rfl (by rw [hml]; rfl) rfl (by show 2 * 0 + _ ≤ _; exact Nat.le_of_eq rfl) (hb hby d1023_8) (fun T3 W3 => ?_)
  show Go p e below _ (T3.setTop (mkF m 11 #[vr x1, U0, U0] [(.int 0)]))
  refine gof T3 m 27 #[vr x1, U0, U0] [(.int 47), (.ref x1)] (fun _ kk => XS.ifYes W3.here hx rfl (pc0 := 11) (pc' := 24) rfl (hb hby d1023_11) rfl (XT.i0_eq_t (by decide +kernel)) (by decide +kernel) (by decide +kernel) (XS.aloadN W3.here hx rfl (hb hby d1023_24) rfl rfl (XS.bipush W3.here hx rfl (hb hby d1023_25) kk))) ?_
  have k6 := k4.exa
  refine W3.callV hx hEL (hw _ (mI 53 rfl)) (hw _ (mI 54 rfl)) (hw _ (mI 56 rfl)) (hw _ (mI 55 rfl)) (hw _ (mI 7 rfl)) (hw _ (mI 57 rfl)) (by decide +kernel) k6 (a := x1) (argsL := [(.int (47 : Int32))]) (rest := []) (rm113 l Z a0 hw hEL zc SC hzc fm SF rfm x1 q1 h1 W3.old k4 cq1) all0 (by decide +kernel) (Wd := 0) (by decide +kernel) (by decide +kernel) (by decide +kernel) all0 rfl (by rw [hml]; rfl) (lenOf pd11 rfl) rfl (by show 2 * 0 + _ ≤ _; exact Nat.le_of_eq rfl) (hb hby d1023_27) (fun T5 h5 v5 W5 K5 q5 => ?_)
  obtain ⟨rfl, rfl⟩ := q5
  show Go p e below _ (T5.setTop (mkF m 30 #[vr x1, U0, U0] [(.int (idxC (47 : Int32) [q1] (0 : Int32)))]))
  have ei : (idxC (47 : Int32) [q1] (0 : Int32)) = (-1 : Int32) := by simp [idxC, sq1]
  rw [ei]
  refine gof T5 m 47 #[vr x1, vi (-1 : Int32), vr x1] [(.ref x1)] (fun _ kk => XS.istoreN W5.here hx rfl (hb hby d1023_30) rfl (l' := #[vr x1, vi (-1 : Int32), U0]) rfl (XS.iloadN W5.here hx rfl (hb hby d1023_31) rfl (XS.ifNo W5.here hx rfl (hb hby d1023_32) rfl (XT.i0_ge_f (by decide +kernel)) (XS.aloadN W5.here hx rfl (hb hby d1023_35) rfl rfl (XS.goto W5.here hx rfl (pc0 := 36) (pc' := 45) rfl (hb hby d1023_36) (by decide +kernel) (by decide +kernel) (XS.astoreN W5.here hx rfl (hb hby d1023_45) rfl rfl (l' := #[vr x1, vi (-1 : Int32), vr x1]) rfl (XS.aloadN W5.here hx rfl (hb hby d1023_46) rfl rfl kk))))))) ?_
  refine W5.callS hx hEL (hw _ (mI 95 rfl)) (hw _ (mI 96 rfl)) (hw _ (mI 39 rfl)) (hw _ (mI 97 rfl)) (by decide +kernel) (argsL := [(.ref x1)]) (rest := []) (rm201 l Z a0 hw hEL zc SC hzc fm SF rfm x1 q1 h1 W5.old k4 cq1 sq1 hst) all0 (by decide +kernel) (Wd := 0) (by decide +kernel) (by decide +kernel) (by decide +kernel) all0 rfl (by rw [hml]; rfl) (lenOf pd13 rfl) rfl (by show 2 * 0 + _ ≤ _; exact Nat.le_of_eq rfl) (hb hby d1023_47) (fun T7 h7 v7 W7 K7 q7 => ?_)
  obtain rfl := q7
  refine gof T7 m 69 #[vr x1, vi (-1 : Int32), vr x1] [(.ref x1), (.int (-1 : Int32))] (fun _ kk => XS.ifYes W7.here hx rfl (pc0 := 50) (pc' := 67) rfl (hb hby d1023_50) rfl (XT.i0_ne_t (by decide +kernel)) (by decide +kernel) (by decide +kernel) (XS.iloadN W7.here hx rfl (hb hby d1023_67) rfl (XS.aloadN W7.here hx rfl (hb hby d1023_68) rfl rfl kk))) ?_
  have k9 := (k4.keep0 K7)
  refine W7.strLen hx hln (hw _ (mI 6 rfl)) SC hzc k9 (hw _ (mI 108 rfl)) (hw _ (mI 69 rfl)) (hw _ (mI 71 rfl)) (hw _ (mI 70 rfl)) (by decide +kernel) (Wd := 1) (by decide +kernel) (by decide +kernel) (by decide +kernel) rfl (by rw [hml]; rfl) rfl (by show 2 * 0 + _ ≤ _; exact Nat.le_of_eq rfl) (hb hby d1023_69) (fun T8 W8 => ?_)
  show Go p e below _ (T8.setTop (mkF m 72 #[vr x1, vi (-1 : Int32), vr x1] [(.int 1), (.int (-1 : Int32))]))
  refine gof T8 m 91 #[vr x1, vi (-1 : Int32), vr x1] [] (fun _ kk => XS.iconst W8.here hx rfl (hb hby d1023_72) (XS.isub W8.here hx rfl (hb hby d1023_73) rfl (XS.icmpYes W8.here hx rfl (pc0 := 74) (pc' := 91) rfl (hb hby d1023_74) rfl (XT.ii_ne_t (by decide +kernel)) (by decide +kernel) (by decide +kernel) kk))) ?_
  refine W8.newO hx (hw _ (mI 109 rfl)) (hw _ (mI 110 rfl)) (hw _ (mI 39 rfl)) rfl (hb hby d1023_91) (by decide +kernel) (by decide +kernel) (fun T10 h10 b10 eb10 gb10 W10 K10 E10 D10 => ?_)
  have k11 : Fld Z h10 b10 "com/example/grantwork/grantwork/resources/Resource" "mName" "Ljava/lang/String;" .null := D10 (Or.inr (hw _ (mI 116 rfl))) (ty := (.object "java/lang/String")) (by decide +kernel)
  have k12 : Fld Z h10 b10 "com/example/grantwork/grantwork/resources/Resource" "mType" "Ljava/lang/String;" .null := D10 (Or.inr (hw _ (mI 118 rfl))) (ty := (.object "java/lang/String")) (by decide +kernel)
  refine gof T10 m 97 #[vr x1, vi (-1 : Int32), vr x1] [(.ref x1), (.ref x1), (.ref b10), (.ref b10)] (fun _ kk => XS.dup W10.here hx rfl (hb hby d1023_94) rfl rfl (XS.aloadN W10.here hx rfl (hb hby d1023_95) rfl rfl (XS.aloadN W10.here hx rfl (hb hby d1023_96) rfl rfl kk))) ?_
  refine W10.callP hx hEL rfl (hw _ (mI 111 rfl)) (hw _ (mI 112 rfl)) (hw _ (mI 39 rfl)) (hw _ (mI 113 rfl)) (by decide +kernel) (a := b10) (argsL := [(.ref x1), (.ref x1)]) (rest := [(.ref b10)]) (rm3 l Z a0 hw hEL zc SC hzc fm SF rfm b10 x1 x1 h10 W10.old E10 k11 k12 gb10.1) all0 (by decide +kernel) (Wd := 1) (by decide +kernel) (by decide +kernel) (by decide +kernel) (allS ⟨gb10.1, (Or.inr gb10.2)⟩ all0) rfl (by rw [hml]; rfl) (lenOf pd14 rfl) rfl (by show 2 * 0 + _ ≤ _; exact Nat.le_of_eq rfl) (hb hby d1023_97) (fun T13 h13 v13 W13 K13 q13 => ?_)
  obtain ⟨rfl, FmName13, FmType13⟩ := q13
  show Go p e below _ (T13.setTop (mkF m 100 #[vr x1, vi (-1 : Int32), vr x1] [(.ref b10)]))
  have k14 := (E10.keep K13)
  exact W13.retA hx hEL hs hlk (by decide +kernel) (by decide +kernel) hret rfl rfl (hb hby d1023_100) ⟨b10, rfl, hs ▸ gb10.2, k14, FmName13, FmType13⟩
theorem ef401 (m : MethodId) (x0 : Addr)  : entryFrame m #[(.ref x0)] 3 = mkF m 0 #[vr x0, U0, U0] [] := by first | (simp [entryFrame, mkF, argsToLocals, Value.category]; done) | rfl | rfl
set_option maxRecDepth 65536 in
set_option maxHeartbeats 40000000 in
theorem rm401 (l : Launch) (Z : State) (a0 : Array Value) (hw : ∀ d ∈ tables_1, d.before a0 Z = true) (hEL : EW Z a0 EL0) (zc : Int32) (SC : Sta Z Z.heap "java/lang/String" "COMPACT_STRINGS" "Z" (.int zc)) (hzc : ¬ zc = 0) (fm : Value) (SF : Sta Z Z.heap "jdk/internal/util/Preconditions" "SIOOBE_FORMATTER" "Ljava/util/function/BiFunction;" fm) (rfm : fm.isRef = true) (x1 : Addr) (q1 : Int32) (q2 : Int32) (h0 : Heap) {n0 : Nat} (O0 : Old Z n0 h0) (S1 : Str Z h0 x1 [q1, q2]) (cq1 : ¬ q1 < 0 ∧ ¬ (255 : Int32) < q1) (cq2 : ¬ q2 < 0 ∧ ¬ (255 : Int32) < q2) (sq1 : ¬ q1 = (47 : Int32)) (sq2 : ¬ q2 = (47 : Int32)) :
    Met l Z EL0 n0 (⟨"com/example/grantwork/grantwork/resources/Resource", "parse", "(Ljava/lang/String;)Lcom/example/grantwork/grantwork/resources/Resource;"⟩ : MethodName) prog_21_method_2_code 3 (some (.object "com/example/grantwork/grantwork/resources/Resource")) [] ({ frames := 5, cells := 5, slots := 46, locals := 71 } : Room) #[(.ref x1)] h0 [] [] (fun v h' => ∃ r : Addr, v = some (.ref r) ∧ h0.size ≤ r ∧ Exa Z h' r "com/example/grantwork/grantwork/resources/Resource" ∧ Fld Z h' r "com/example/grantwork/grantwork/resources/Resource" "mName" "Ljava/lang/String;" (.ref x1) ∧ Fld Z h' r "com/example/grantwork/grantwork/resources/Resource" "mType" "Ljava/lang/String;" (.ref x1)) := by
  refine Met.of (plainFor_of_name pn6) O0 ?_
  intro p e s m below meth c T0 hx hby hml hret hlk hnm hs W0
  have W0 : Wk p l e _ s m _ below meth c Z EL0 n0 [] "com/example/grantwork/grantwork/resources/Resource" [] T0 0 0 h0 := W0
  have hSA := fun d hd => hw d (sa_in d hd)
  have hws := fun d hd => hw d (ws_in d hd)
  have hln := fun d hd => hw d (ln_in d hd)
  have hch := fun d hd => hw d (ch_in d hd)
  have heq := fun d hd => hw d (eq_in d hd)
  have hem := fun d hd => hw d (em_in d hd)
  refine Go.of (fun _ kk => castTop (ef401 m x1) kk) ?_
  refine gof T0 m 1 #[vr x1, U0, U0] [(.ref x1)] (fun _ kk => XS.aloadN W0.here hx rfl (hb hby d1023_0) rfl rfl kk) ?_
  refine W0.ldcO hx hEL (hw _ (mI 41 rfl)) hSA rfl (hb hby d1023_1) (n := 32) (by decide +kernel) (by decide +kernel) (by decide +kernel) (by decide +kernel) (fun T1 h1 b1 W1 K1 => ?_)
  show Go p e below _ (T1.setTop (mkF m 3 #[vr x1, U0, U0] [(.ref b1), (.ref x1)]))
  refine W1.callS hx hEL (hw _ (mI 44 rfl)) (hw _ (mI 45 rfl)) (hw _ (mI 46 rfl)) (hw _ (mI 47 rfl)) (by decide +kernel) (argsL := [(.ref x1), (.ref b1)]) (rest := []) (rm2 l Z a0 hw hEL zc SC hzc fm SF rfm x1 b1 h1 W1.old ) all0 (by decide +kernel) (Wd := 0) (by decide +kernel) (by decide +kernel) (by decide +kernel) all0 rfl (by rw [hml]; rfl) (lenOf pd12 rfl) rfl (by show 2 * 0 + _ ≤ _; exact Nat.le_of_eq rfl) (hb hby d1023_3) (fun T2 h2 v2 W2 K2 q2 => ?_)
  obtain ⟨rfl, rfl⟩ := q2
  refine gof T2 m 8 #[vr x1, U0, U0] [(.ref x1)] (fun _ kk => XS.pop W2.here hx rfl (hb hby d1023_6) rfl rfl (XS.aloadN W2.here hx rfl (hb hby d1023_7) rfl rfl kk)) ?_
  have k4 := (S1.keep0 K1)
  refine W2.strEmp hx hem (hw _ (mI 6 rfl)) k4 (hw _ (mI 48 rfl)) (hw _ (mI 49 rfl)) (hw _ (mI 51 rfl)) (hw _ (mI 50 rfl)) (by decide +kernel) (Wd := 0) (by decide +kernel) (by decide +kernel) (by decide +kernel) rfl (by rw [hml]; rfl) rfl (by show 2 * 0 + _ ≤ _; exact Nat.le_of_eq rfl) (hb hby d1023_8) (fun T3 W3 => ?_)
  show Go p e below _ (T3.setTop (mkF m 11 #[vr x1, U0, U0] [(.int 0)]))
  refine gof T3 m 27 #[vr x1, U0, U0] [(.int 47), (.ref x1)] (fun _ kk => XS.ifYes W3.here hx rfl (pc0 := 11) (pc' := 24) rfl (hb hby d1023_11) rfl (XT.i0_eq_t (by decide +kernel)) (by decide +kernel) (by decide +kernel) (XS.aloadN W3.here hx rfl (hb hby d1023_24) rfl rfl (XS.bipush W3.here hx rfl (hb hby d1023_25) kk))) ?_
  have k6 := k4.exa
  refine W3.callV hx hEL (hw _ (mI 53 rfl)) (hw _ (mI 54 rfl)) (hw _ (mI 56 rfl)) (hw _ (mI 55 rfl)) (hw _ (mI 7 rfl)) (hw _ (mI 57 rfl)) (by decide +kernel) k6 (a := x1) (argsL := [(.int (47 : Int32))]) (rest := []) (rm123 l Z a0 hw hEL zc SC hzc fm SF rfm x1 q1 q2 h1 W3.old k4 cq1 cq2) all0 (by decide +kernel) (Wd := 0) (by decide +kernel) (by decide +kernel) (by decide +kernel) all0 rfl (by rw [hml]; rfl) (lenOf pd11 rfl) rfl (by show 2 * 0 + _ ≤ _; exact Nat.le_of_eq rfl) (hb hby d1023_27) (fun T5 h5 v5 W5 K5 q5 => ?_)
  obtain ⟨rfl, rfl⟩ := q5
  show Go p e below _ (T5.setTop (mkF m 30 #[vr x1, U0, U0] [(.int (idxC (47 : Int32) [q1, q2] (0 : Int32)))]))
  have ei : (idxC (47 : Int32) [q1, q2] (0 : Int32)) = (-1 : Int32) := by simp [idxC, sq1, sq2]
  rw [ei]
  refine gof T5 m 47 #[vr x1, vi (-1 : Int32), vr x1] [(.ref x1)] (fun _ kk => XS.istoreN W5.here hx rfl (hb hby d1023_30) rfl (l' := #[vr x1, vi (-1 : Int32), U0]) rfl (XS.iloadN W5.here hx rfl (hb hby d1023_31) rfl (XS.ifNo W5.here hx rfl (hb hby d1023_32) rfl (XT.i0_ge_f (by decide +kernel)) (XS.aloadN W5.here hx rfl (hb hby d1023_35) rfl rfl (XS.goto W5.here hx rfl (pc0 := 36) (pc' := 45) rfl (hb hby d1023_36) (by decide +kernel) (by decide +kernel) (XS.astoreN W5.here hx rfl (hb hby d1023_45) rfl rfl (l' := #[vr x1, vi (-1 : Int32), vr x1]) rfl (XS.aloadN W5.here hx rfl (hb hby d1023_46) rfl rfl kk))))))) ?_
  refine W5.callS hx hEL (hw _ (mI 95 rfl)) (hw _ (mI 96 rfl)) (hw _ (mI 39 rfl)) (hw _ (mI 97 rfl)) (by decide +kernel) (argsL := [(.ref x1)]) (rest := []) (rm202 l Z a0 hw hEL zc SC hzc fm SF rfm x1 q1 q2 h1 W5.old k4 cq1 cq2 sq1 sq2) all0 (by decide +kernel) (Wd := 0) (by decide +kernel) (by decide +kernel) (by decide +kernel) all0 rfl (by rw [hml]; rfl) (lenOf pd13 rfl) rfl (by show 2 * 0 + _ ≤ _; exact Nat.le_of_eq rfl) (hb hby d1023_47) (fun T7 h7 v7 W7 K7 q7 => ?_)
  obtain rfl := q7
  refine gof T7 m 69 #[vr x1, vi (-1 : Int32), vr x1] [(.ref x1), (.int (-1 : Int32))] (fun _ kk => XS.ifYes W7.here hx rfl (pc0 := 50) (pc' := 67) rfl (hb hby d1023_50) rfl (XT.i0_ne_t (by decide +kernel)) (by decide +kernel) (by decide +kernel) (XS.iloadN W7.here hx rfl (hb hby d1023_67) rfl (XS.aloadN W7.here hx rfl (hb hby d1023_68) rfl rfl kk))) ?_
  have k9 := (k4.keep0 K7)
  refine W7.strLen hx hln (hw _ (mI 6 rfl)) SC hzc k9 (hw _ (mI 108 rfl)) (hw _ (mI 69 rfl)) (hw _ (mI 71 rfl)) (hw _ (mI 70 rfl)) (by decide +kernel) (Wd := 1) (by decide +kernel) (by decide +kernel) (by decide +kernel) rfl (by rw [hml]; rfl) rfl (by show 2 * 0 + _ ≤ _; exact Nat.le_of_eq rfl) (hb hby d1023_69) (fun T8 W8 => ?_)
  show Go p e below _ (T8.setTop (mkF m 72 #[vr x1, vi (-1 : Int32), vr x1] [(.int 2), (.int (-1 : Int32))]))
  refine gof T8 m 91 #[vr x1, vi (-1 : Int32), vr x1] [] (fun _ kk => XS.iconst W8.here hx rfl (hb hby d1023_72) (XS.isub W8.here hx rfl (hb hby d1023_73) rfl (XS.icmpYes W8.here hx rfl (pc0 := 74) (pc' := 91) rfl (hb hby d1023_74) rfl (XT.ii_ne_t (by decide +kernel)) (by decide +kernel) (by decide +kernel) kk))) ?_
  refine W8.newO hx (hw _ (mI 109 rfl)) (hw _ (mI 110 rfl)) (hw _ (mI 39 rfl)) rfl (hb hby d1023_91) (by decide +kernel) (by decide +kernel) (fun T10 h10 b10 eb10 gb10 W10 K10 E10 D10 => ?_)
  have k11 : Fld Z h10 b10 "com/example/grantwork/grantwork/resources/Resource" "mName" "Ljava/lang/String;" .null := D10 (Or.inr (hw _ (mI 116 rfl))) (ty := (.object "java/lang/String")) (by decide +kernel)
  have k12 : Fld Z h10 b10 "com/example/grantwork/grantwork/resources/Resource" "mType" "Ljava/lang/String;" .null := D10 (Or.inr (hw _ (mI 118 rfl))) (ty := (.object "java/lang/String")) (by decide +kernel)
  refine gof T10 m 97 #[vr x1, vi (-1 : Int32), vr x1] [(.ref x1), (.ref x1), (.ref b10), (.ref b10)] (fun _ kk => XS.dup W10.here hx rfl (hb hby d1023_94) rfl rfl (XS.aloadN W10.here hx rfl (hb hby d1023_95) rfl rfl (XS.aloadN W10.here hx rfl (hb hby d1023_96) rfl rfl kk))) ?_
  refine W10.callP hx hEL rfl (hw _ (mI 111 rfl)) (hw _ (mI 112 rfl)) (hw _ (mI 39 rfl)) (hw _ (mI 113 rfl)) (by decide +kernel) (a := b10) (argsL := [(.ref x1), (.ref x1)]) (rest := [(.ref b10)]) (rm3 l Z a0 hw hEL zc SC hzc fm SF rfm b10 x1 x1 h10 W10.old E10 k11 k12 gb10.1) all0 (by decide +kernel) (Wd := 1) (by decide +kernel) (by decide +kernel) (by decide +kernel) (allS ⟨gb10.1, (Or.inr gb10.2)⟩ all0) rfl (by rw [hml]; rfl) (lenOf pd14 rfl) rfl (by show 2 * 0 + _ ≤ _; exact Nat.le_of_eq rfl) (hb hby d1023_97) (fun T13 h13 v13 W13 K13 q13 => ?_)
  obtain ⟨rfl, FmName13, FmType13⟩ := q13
  show Go p e below _ (T13.setTop (mkF m 100 #[vr x1, vi (-1 : Int32), vr x1] [(.ref b10)]))
  have k14 := (E10.keep K13)
  exact W13.retA hx hEL hs hlk (by decide +kernel) (by decide +kernel) hret rfl rfl (hb hby d1023_100) ⟨b10, rfl, hs ▸ gb10.2, k14, FmName13, FmType13⟩
theorem ef402 (m : MethodId) (x0 : Addr)  : entryFrame m #[(.ref x0)] 3 = mkF m 0 #[vr x0, U0, U0] [] := by first | (simp [entryFrame, mkF, argsToLocals, Value.category]; done) | rfl | rfl
set_option maxRecDepth 65536 in
set_option maxHeartbeats 40000000 in
theorem rm402 (l : Launch) (Z : State) (a0 : Array Value) (hw : ∀ d ∈ tables_1, d.before a0 Z = true) (hEL : EW Z a0 EL0) (zc : Int32) (SC : Sta Z Z.heap "java/lang/String" "COMPACT_STRINGS" "Z" (.int zc)) (hzc : ¬ zc = 0) (fm : Value) (SF : Sta Z Z.heap "jdk/internal/util/Preconditions" "SIOOBE_FORMATTER" "Ljava/util/function/BiFunction;" fm) (rfm : fm.isRef = true) (x1 : Addr) (q1 : Int32) (q2 : Int32) (q3 : Int32) (h0 : Heap) {n0 : Nat} (O0 : Old Z n0 h0) (S1 : Str Z h0 x1 [q1, q2, q3]) (cq1 : ¬ q1 < 0 ∧ ¬ (255 : Int32) < q1) (cq2 : ¬ q2 < 0 ∧ ¬ (255 : Int32) < q2) (cq3 : ¬ q3 < 0 ∧ ¬ (255 : Int32) < q3) (sq1 : ¬ q1 = (47 : Int32)) (sq2 : ¬ q2 = (47 : Int32)) (sq3 : ¬ q3 = (47 : Int32)) :
    Met l Z EL0 n0 (⟨"com/example/grantwork/grantwork/resources/Resource", "parse", "(Ljava/lang/String;)Lcom/example/grantwork/grantwork/resources/Resource;"⟩ : MethodName) prog_21_method_2_code 3 (some (.object "com/example/grantwork/grantwork/resources/Resource")) [] ({ frames := 5, cells := 5, slots := 46, locals := 71 } : Room) #[(.ref x1)] h0 [] [] (fun v h' => ∃ r : Addr, v = some (.ref r) ∧ h0.size ≤ r ∧ Exa Z h' r "com/example/grantwork/grantwork/resources/Resource" ∧ Fld Z h' r "com/example/grantwork/grantwork/resources/Resource" "mName" "Ljava/lang/String;" (.ref x1) ∧ Fld Z h' r "com/example/grantwork/grantwork/resources/Resource" "mType" "Ljava/lang/String;" (.ref x1)) := by
  refine Met.of (plainFor_of_name pn6) O0 ?_
  intro p e s m below meth c T0 hx hby hml hret hlk hnm hs W0
  have W0 : Wk p l e _ s m _ below meth c Z EL0 n0 [] "com/example/grantwork/grantwork/resources/Resource" [] T0 0 0 h0 := W0
  have hSA := fun d hd => hw d (sa_in d hd)
  have hws := fun d hd => hw d (ws_in d hd)
  have hln := fun d hd => hw d (ln_in d hd)
  have hch := fun d hd => hw d (ch_in d hd)
  have heq := fun d hd => hw d (eq_in d hd)
  have hem := fun d hd => hw d (em_in d hd)
  refine Go.of (fun _ kk => castTop (ef402 m x1) kk) ?_
  refine gof T0 m 1 #[vr x1, U0, U0] [(.ref x1)] (fun _ kk => XS.aloadN W0.here hx rfl (hb hby d1023_0) rfl rfl kk) ?_
  refine W0.ldcO hx hEL (hw _ (mI 41 rfl)) hSA rfl (hb hby d1023_1) (n := 32) (by decide +kernel) (by decide +kernel) (by decide +kernel) (by decide +kernel) (fun T1 h1 b1 W1 K1 => ?_)
  show Go p e below _ (T1.setTop (mkF m 3 #[vr x1, U0, U0] [(.ref b1), (.ref x1)]))
  refine W1.callS hx hEL (hw _ (mI 44 rfl)) (hw _ (mI 45 rfl)) (hw _ (mI 46 rfl)) (hw _ (mI 47 rfl)) (by decide +kernel) (argsL := [(.ref x1), (.ref b1)]) (rest := []) (rm2 l Z a0 hw hEL zc SC hzc fm SF rfm x1 b1 h1 W1.old ) all0 (by decide +kernel) (Wd := 0) (by decide +kernel) (by decide +kernel) (by decide +kernel) all0 rfl (by rw [hml]; rfl) (lenOf pd12 rfl) rfl (by show 2 * 0 + _ ≤ _; exact Nat.le_of_eq rfl) (hb hby d1023_3) (fun T2 h2 v2 W2 K2 q2 => ?_)
  obtain ⟨rfl, rfl⟩ := q2
  refine gof T2 m 8 #[vr x1, U0, U0] [(.ref x1)] (fun _ kk => XS.pop W2.here hx rfl (hb hby d1023_6) rfl rfl (XS.aloadN W2.here hx rfl (hb hby d1023_7) rfl rfl kk)) ?_
  have k4 := (S1.keep0 K1)
  refine W2.strEmp hx hem (hw _ (mI 6 rfl)) k4 (hw _ (mI 48 rfl)) (hw _ (mI 49 rfl)) (hw _ (mI 51 rfl)) (hw _ (mI 50 rfl)) (by decide +kernel) (Wd := 0) (by decide +kernel) (by decide +kernel) (by decide +kernel) rfl (by rw [hml]; rfl) rfl (by show 2 * 0 + _ ≤ _; exact Nat.le_of_eq rfl) (hb hby d1023_8) (fun T3 W3 => ?_)
  show Go p e below _ (T3.setTop (mkF m 11 #[vr x1, U0, U0] [(.int 0)]))
  refine gof T3 m 27 #[vr x1, U0, U0] [(.int 47), (.ref x1)] (fun _ kk => XS.ifYes W3.here hx rfl (pc0 := 11) (pc' := 24) rfl (hb hby d1023_11) rfl (XT.i0_eq_t (by decide +kernel)) (by decide +kernel) (by decide +kernel) (XS.aloadN W3.here hx rfl (hb hby d1023_24) rfl rfl (XS.bipush W3.here hx rfl (hb hby d1023_25) kk))) ?_
  have k6 := k4.exa
  refine W3.callV hx hEL (hw _ (mI 53 rfl)) (hw _ (mI 54 rfl)) (hw _ (mI 56 rfl)) (hw _ (mI 55 rfl)) (hw _ (mI 7 rfl)) (hw _ (mI 57 rfl)) (by decide +kernel) k6 (a := x1) (argsL := [(.int (47 : Int32))]) (rest := []) (rm133 l Z a0 hw hEL zc SC hzc fm SF rfm x1 q1 q2 q3 h1 W3.old k4 cq1 cq2 cq3) all0 (by decide +kernel) (Wd := 0) (by decide +kernel) (by decide +kernel) (by decide +kernel) all0 rfl (by rw [hml]; rfl) (lenOf pd11 rfl) rfl (by show 2 * 0 + _ ≤ _; exact Nat.le_of_eq rfl) (hb hby d1023_27) (fun T5 h5 v5 W5 K5 q5 => ?_)
  obtain ⟨rfl, rfl⟩ := q5
  show Go p e below _ (T5.setTop (mkF m 30 #[vr x1, U0, U0] [(.int (idxC (47 : Int32) [q1, q2, q3] (0 : Int32)))]))
  have ei : (idxC (47 : Int32) [q1, q2, q3] (0 : Int32)) = (-1 : Int32) := by simp [idxC, sq1, sq2, sq3]
  rw [ei]
  refine gof T5 m 47 #[vr x1, vi (-1 : Int32), vr x1] [(.ref x1)] (fun _ kk => XS.istoreN W5.here hx rfl (hb hby d1023_30) rfl (l' := #[vr x1, vi (-1 : Int32), U0]) rfl (XS.iloadN W5.here hx rfl (hb hby d1023_31) rfl (XS.ifNo W5.here hx rfl (hb hby d1023_32) rfl (XT.i0_ge_f (by decide +kernel)) (XS.aloadN W5.here hx rfl (hb hby d1023_35) rfl rfl (XS.goto W5.here hx rfl (pc0 := 36) (pc' := 45) rfl (hb hby d1023_36) (by decide +kernel) (by decide +kernel) (XS.astoreN W5.here hx rfl (hb hby d1023_45) rfl rfl (l' := #[vr x1, vi (-1 : Int32), vr x1]) rfl (XS.aloadN W5.here hx rfl (hb hby d1023_46) rfl rfl kk))))))) ?_
  refine W5.callS hx hEL (hw _ (mI 95 rfl)) (hw _ (mI 96 rfl)) (hw _ (mI 39 rfl)) (hw _ (mI 97 rfl)) (by decide +kernel) (argsL := [(.ref x1)]) (rest := []) (rm203 l Z a0 hw hEL zc SC hzc fm SF rfm x1 q1 q2 q3 h1 W5.old k4 cq1 cq2 cq3 sq1 sq2 sq3) all0 (by decide +kernel) (Wd := 0) (by decide +kernel) (by decide +kernel) (by decide +kernel) all0 rfl (by rw [hml]; rfl) (lenOf pd13 rfl) rfl (by show 2 * 0 + _ ≤ _; exact Nat.le_of_eq rfl) (hb hby d1023_47) (fun T7 h7 v7 W7 K7 q7 => ?_)
  obtain rfl := q7
  refine gof T7 m 69 #[vr x1, vi (-1 : Int32), vr x1] [(.ref x1), (.int (-1 : Int32))] (fun _ kk => XS.ifYes W7.here hx rfl (pc0 := 50) (pc' := 67) rfl (hb hby d1023_50) rfl (XT.i0_ne_t (by decide +kernel)) (by decide +kernel) (by decide +kernel) (XS.iloadN W7.here hx rfl (hb hby d1023_67) rfl (XS.aloadN W7.here hx rfl (hb hby d1023_68) rfl rfl kk))) ?_
  have k9 := (k4.keep0 K7)
  refine W7.strLen hx hln (hw _ (mI 6 rfl)) SC hzc k9 (hw _ (mI 108 rfl)) (hw _ (mI 69 rfl)) (hw _ (mI 71 rfl)) (hw _ (mI 70 rfl)) (by decide +kernel) (Wd := 1) (by decide +kernel) (by decide +kernel) (by decide +kernel) rfl (by rw [hml]; rfl) rfl (by show 2 * 0 + _ ≤ _; exact Nat.le_of_eq rfl) (hb hby d1023_69) (fun T8 W8 => ?_)
  show Go p e below _ (T8.setTop (mkF m 72 #[vr x1, vi (-1 : Int32), vr x1] [(.int 3), (.int (-1 : Int32))]))
  refine gof T8 m 91 #[vr x1, vi (-1 : Int32), vr x1] [] (fun _ kk => XS.iconst W8.here hx rfl (hb hby d1023_72) (XS.isub W8.here hx rfl (hb hby d1023_73) rfl (XS.icmpYes W8.here hx rfl (pc0 := 74) (pc' := 91) rfl (hb hby d1023_74) rfl (XT.ii_ne_t (by decide +kernel)) (by decide +kernel) (by decide +kernel) kk))) ?_
  refine W8.newO hx (hw _ (mI 109 rfl)) (hw _ (mI 110 rfl)) (hw _ (mI 39 rfl)) rfl (hb hby d1023_91) (by decide +kernel) (by decide +kernel) (fun T10 h10 b10 eb10 gb10 W10 K10 E10 D10 => ?_)
  have k11 : Fld Z h10 b10 "com/example/grantwork/grantwork/resources/Resource" "mName" "Ljava/lang/String;" .null := D10 (Or.inr (hw _ (mI 116 rfl))) (ty := (.object "java/lang/String")) (by decide +kernel)
  have k12 : Fld Z h10 b10 "com/example/grantwork/grantwork/resources/Resource" "mType" "Ljava/lang/String;" .null := D10 (Or.inr (hw _ (mI 118 rfl))) (ty := (.object "java/lang/String")) (by decide +kernel)
  refine gof T10 m 97 #[vr x1, vi (-1 : Int32), vr x1] [(.ref x1), (.ref x1), (.ref b10), (.ref b10)] (fun _ kk => XS.dup W10.here hx rfl (hb hby d1023_94) rfl rfl (XS.aloadN W10.here hx rfl (hb hby d1023_95) rfl rfl (XS.aloadN W10.here hx rfl (hb hby d1023_96) rfl rfl kk))) ?_
  refine W10.callP hx hEL rfl (hw _ (mI 111 rfl)) (hw _ (mI 112 rfl)) (hw _ (mI 39 rfl)) (hw _ (mI 113 rfl)) (by decide +kernel) (a := b10) (argsL := [(.ref x1), (.ref x1)]) (rest := [(.ref b10)]) (rm3 l Z a0 hw hEL zc SC hzc fm SF rfm b10 x1 x1 h10 W10.old E10 k11 k12 gb10.1) all0 (by decide +kernel) (Wd := 1) (by decide +kernel) (by decide +kernel) (by decide +kernel) (allS ⟨gb10.1, (Or.inr gb10.2)⟩ all0) rfl (by rw [hml]; rfl) (lenOf pd14 rfl) rfl (by show 2 * 0 + _ ≤ _; exact Nat.le_of_eq rfl) (hb hby d1023_97) (fun T13 h13 v13 W13 K13 q13 => ?_)
  obtain ⟨rfl, FmName13, FmType13⟩ := q13
  show Go p e below _ (T13.setTop (mkF m 100 #[vr x1, vi (-1 : Int32), vr x1] [(.ref b10)]))
  have k14 := (E10.keep K13)
  exact W13.retA hx hEL hs hlk (by decide +kernel) (by decide +kernel) hret rfl rfl (hb hby d1023_100) ⟨b10, rfl, hs ▸ gb10.2, k14, FmName13, FmType13⟩
theorem ef403 (m : MethodId) (x0 : Addr)  : entryFrame m #[(.ref x0)] 3 = mkF m 0 #[vr x0, U0, U0] [] := by first | (simp [entryFrame, mkF, argsToLocals, Value.category]; done) | rfl | rfl
set_option maxRecDepth 65536 in
set_option maxHeartbeats 40000000 in
theorem rm403 (l : Launch) (Z : State) (a0 : Array Value) (hw : ∀ d ∈ tables_1, d.before a0 Z = true) (hEL : EW Z a0 EL0) (zc : Int32) (SC : Sta Z Z.heap "java/lang/String" "COMPACT_STRINGS" "Z" (.int zc)) (hzc : ¬ zc = 0) (fm : Value) (SF : Sta Z Z.heap "jdk/internal/util/Preconditions" "SIOOBE_FORMATTER" "Ljava/util/function/BiFunction;" fm) (rfm : fm.isRef = true) (x1 : Addr) (q1 : Int32) (q2 : Int32) (q3 : Int32) (q4 : Int32) (h0 : Heap) {n0 : Nat} (O0 : Old Z n0 h0) (S1 : Str Z h0 x1 [q1, q2, q3, q4]) (cq1 : ¬ q1 < 0 ∧ ¬ (255 : Int32) < q1) (cq2 : ¬ q2 < 0 ∧ ¬ (255 : Int32) < q2) (cq3 : ¬ q3 < 0 ∧ ¬ (255 : Int32) < q3) (cq4 : ¬ q4 < 0 ∧ ¬ (255 : Int32) < q4) (sq1 : ¬ q1 = (47 : Int32)) (sq2 : ¬ q2 = (47 : Int32)) (sq3 : ¬ q3 = (47 : Int32)) (sq4 : ¬ q4 = (47 : Int32)) :
    Met l Z EL0 n0 (⟨"com/example/grantwork/grantwork/resources/Resource", "parse", "(Ljava/lang/String;)Lcom/example/grantwork/grantwork/resources/Resource;"⟩ : MethodName) prog_21_method_2_code 3 (some (.object "com/example/grantwork/grantwork/resources/Resource")) [] ({ frames := 5, cells := 5, slots := 46, locals := 71 } : Room) #[(.ref x1)] h0 [] [] (fun v h' => ∃ r : Addr, v = some (.ref r) ∧ h0.size ≤ r ∧ Exa Z h' r "com/example/grantwork/grantwork/resources/Resource" ∧ Fld Z h' r "com/example/grantwork/grantwork/resources/Resource" "mName" "Ljava/lang/String;" (.ref x1) ∧ Fld Z h' r "com/example/grantwork/grantwork/resources/Resource" "mType" "Ljava/lang/String;" (.ref x1)) := by
  refine Met.of (plainFor_of_name pn6) O0 ?_
  intro p e s m below meth c T0 hx hby hml hret hlk hnm hs W0
  have W0 : Wk p l e _ s m _ below meth c Z EL0 n0 [] "com/example/grantwork/grantwork/resources/Resource" [] T0 0 0 h0 := W0
  have hSA := fun d hd => hw d (sa_in d hd)
  have hws := fun d hd => hw d (ws_in d hd)
  have hln := fun d hd => hw d (ln_in d hd)
  have hch := fun d hd => hw d (ch_in d hd)
  have heq := fun d hd => hw d (eq_in d hd)
  have hem := fun d hd => hw d (em_in d hd)
  refine Go.of (fun _ kk => castTop (ef403 m x1) kk) ?_
  refine gof T0 m 1 #[vr x1, U0, U0] [(.ref x1)] (fun _ kk => XS.aloadN W0.here hx rfl (hb hby d1023_0) rfl rfl kk) ?_
  refine W0.ldcO hx hEL (hw _ (mI 41 rfl)) hSA rfl (hb hby d1023_1) (n := 32) (by decide +kernel) (by decide +kernel) (by decide +kernel) (by decide +kernel) (fun T1 h1 b1 W1 K1 => ?_)
  show Go p e below _ (T1.setTop (mkF m 3 #[vr x1, U0, U0] [(.ref b1), (.ref x1)]))
  refine W1.callS hx hEL (hw _ (mI 44 rfl)) (hw _ (mI 45 rfl)) (hw _ (mI 46 rfl)) (hw _ (mI 47 rfl)) (by decide +kernel) (argsL := [(.ref x1), (.ref b1)]) (rest := []) (rm2 l Z a0 hw hEL zc SC hzc fm SF rfm x1 b1 h1 W1.old ) all0 (by decide +kernel) (Wd := 0) (by decide +kernel) (by decide +kernel) (by decide +kernel) all0 rfl (by rw [hml]; rfl) (lenOf pd12 rfl) rfl (by show 2 * 0 + _ ≤ _; exact Nat.le_of_eq rfl) (hb hby d1023_3) (fun T2 h2 v2 W2 K2 q2 => ?_)
  obtain ⟨rfl, rfl⟩ := q2
  refine gof T2 m 8 #[vr x1, U0, U0] [(.ref x1)] (fun _ kk => XS.pop W2.here hx rfl (hb hby d1023_6) rfl rfl (XS.aloadN W2.here hx rfl (hb hby d1023_7) rfl rfl kk)) ?_
  have k4 := (S1.keep0 K1)
  refine W2.strEmp hx hem (hw _ (mI 6 rfl)) k4 (hw _ (mI 48 rfl)) (hw _ (mI 49 rfl)) (hw _ (mI 51 rfl)) (hw _ (mI 50 rfl)) (by decide +kernel) (Wd := 0) (by decide +kernel) (by decide +kernel) (by decide +kernel) rfl (by rw [hml]; rfl) rfl (by show 2 * 0 + _ ≤ _; exact Nat.le_of_eq rfl) (hb hby d1023_8) (fun T3 W3 => ?_)
  show Go p e below _ (T3.setTop (mkF m 11 #[vr x1, U0, U0] [(.int 0)]))
  refine gof T3 m 27 #[vr x1, U0, U0] [(.int 47), (.ref x1)] (fun _ kk => XS.ifYes W3.here hx rfl (pc0 := 11) (pc' := 24) rfl (hb hby d1023_11) rfl (XT.i0_eq_t (by decide +kernel)) (by decide +kernel) (by decide +kernel) (XS.aloadN W3.here hx rfl (hb hby d1023_24) rfl rfl (XS.bipush W3.here hx rfl (hb hby d1023_25) kk))) ?_
  have k6 := k4.exa
  refine W3.callV hx hEL (hw _ (mI 53 rfl)) (hw _ (mI 54 rfl)) (hw _ (mI 56 rfl)) (hw _ (mI 55 rfl)) (hw _ (mI 7 rfl)) (hw _ (mI 57 rfl)) (by decide +kernel) k6 (a := x1) (argsL := [(.int (47 : Int32))]) (rest := []) (rm143 l Z a0 hw hEL zc SC hzc fm SF rfm x1 q1 q2 q3 q4 h1 W3.old k4 cq1 cq2 cq3 cq4) all0 (by decide +kernel) (Wd := 0) (by decide +kernel) (by decide +kernel) (by decide +kernel) all0 rfl (by rw [hml]; rfl) (lenOf pd11 rfl) rfl (by show 2 * 0 + _ ≤ _; exact Nat.le_of_eq rfl) (hb hby d1023_27) (fun T5 h5 v5 W5 K5 q5 => ?_)
  obtain ⟨rfl, rfl⟩ := q5
  show Go p e below _ (T5.setTop (mkF m 30 #[vr x1, U0, U0] [(.int (idxC (47 : Int32) [q1, q2, q3, q4] (0 : Int32)))]))
  have ei : (idxC (47 : Int32) [q1, q2, q3, q4] (0 : Int32)) = (-1 : Int32) := by simp [idxC, sq1, sq2, sq3, sq4]
  rw [ei]
  refine gof T5 m 47 #[vr x1, vi (-1 : Int32), vr x1] [(.ref x1)] (fun _ kk => XS.istoreN W5.here hx rfl (hb hby d1023_30) rfl (l' := #[vr x1, vi (-1 : Int32), U0]) rfl (XS.iloadN W5.here hx rfl (hb hby d1023_31) rfl (XS.ifNo W5.here hx rfl (hb hby d1023_32) rfl (XT.i0_ge_f (by decide +kernel)) (XS.aloadN W5.here hx rfl (hb hby d1023_35) rfl rfl (XS.goto W5.here hx rfl (pc0 := 36) (pc' := 45) rfl (hb hby d1023_36) (by decide +kernel) (by decide +kernel) (XS.astoreN W5.here hx rfl (hb hby d1023_45) rfl rfl (l' := #[vr x1, vi (-1 : Int32), vr x1]) rfl (XS.aloadN W5.here hx rfl (hb hby d1023_46) rfl rfl kk))))))) ?_
  refine W5.callS hx hEL (hw _ (mI 95 rfl)) (hw _ (mI 96 rfl)) (hw _ (mI 39 rfl)) (hw _ (mI 97 rfl)) (by decide +kernel) (argsL := [(.ref x1)]) (rest := []) (rm204 l Z a0 hw hEL zc SC hzc fm SF rfm x1 q1 q2 q3 q4 h1 W5.old k4 cq1 cq2 cq3 cq4 sq1 sq2 sq3 sq4) all0 (by decide +kernel) (Wd := 0) (by decide +kernel) (by decide +kernel) (by decide +kernel) all0 rfl (by rw [hml]; rfl) (lenOf pd13 rfl) rfl (by show 2 * 0 + _ ≤ _; exact Nat.le_of_eq rfl) (hb hby d1023_47) (fun T7 h7 v7 W7 K7 q7 => ?_)
  obtain rfl := q7
  refine gof T7 m 69 #[vr x1, vi (-1 : Int32), vr x1] [(.ref x1), (.int (-1 : Int32))] (fun _ kk => XS.ifYes W7.here hx rfl (pc0 := 50) (pc' := 67) rfl (hb hby d1023_50) rfl (XT.i0_ne_t (by decide +kernel)) (by decide +kernel) (by decide +kernel) (XS.iloadN W7.here hx rfl (hb hby d1023_67) rfl (XS.aloadN W7.here hx rfl (hb hby d1023_68) rfl rfl kk))) ?_
  have k9 := (k4.keep0 K7)
  refine W7.strLen hx hln (hw _ (mI 6 rfl)) SC hzc k9 (hw _ (mI 108 rfl)) (hw _ (mI 69 rfl)) (hw _ (mI 71 rfl)) (hw _ (mI 70 rfl)) (by decide +kernel) (Wd := 1) (by decide +kernel) (by decide +kernel) (by decide +kernel) rfl (by rw [hml]; rfl) rfl (by show 2 * 0 + _ ≤ _; exact Nat.le_of_eq rfl) (hb hby d1023_69) (fun T8 W8 => ?_)
  show Go p e below _ (T8.setTop (mkF m 72 #[vr x1, vi (-1 : Int32), vr x1] [(.int 4), (.int (-1 : Int32))]))
  refine gof T8 m 91 #[vr x1, vi (-1 : Int32), vr x1] [] (fun _ kk => XS.iconst W8.here hx rfl (hb hby d1023_72) (XS.isub W8.here hx rfl (hb hby d1023_73) rfl (XS.icmpYes W8.here hx rfl (pc0 := 74) (pc' := 91) rfl (hb hby d1023_74) rfl (XT.ii_ne_t (by decide +kernel)) (by decide +kernel) (by decide +kernel) kk))) ?_
  refine W8.newO hx (hw _ (mI 109 rfl)) (hw _ (mI 110 rfl)) (hw _ (mI 39 rfl)) rfl (hb hby d1023_91) (by decide +kernel) (by decide +kernel) (fun T10 h10 b10 eb10 gb10 W10 K10 E10 D10 => ?_)
  have k11 : Fld Z h10 b10 "com/example/grantwork/grantwork/resources/Resource" "mName" "Ljava/lang/String;" .null := D10 (Or.inr (hw _ (mI 116 rfl))) (ty := (.object "java/lang/String")) (by decide +kernel)
  have k12 : Fld Z h10 b10 "com/example/grantwork/grantwork/resources/Resource" "mType" "Ljava/lang/String;" .null := D10 (Or.inr (hw _ (mI 118 rfl))) (ty := (.object "java/lang/String")) (by decide +kernel)
  refine gof T10 m 97 #[vr x1, vi (-1 : Int32), vr x1] [(.ref x1), (.ref x1), (.ref b10), (.ref b10)] (fun _ kk => XS.dup W10.here hx rfl (hb hby d1023_94) rfl rfl (XS.aloadN W10.here hx rfl (hb hby d1023_95) rfl rfl (XS.aloadN W10.here hx rfl (hb hby d1023_96) rfl rfl kk))) ?_
  refine W10.callP hx hEL rfl (hw _ (mI 111 rfl)) (hw _ (mI 112 rfl)) (hw _ (mI 39 rfl)) (hw _ (mI 113 rfl)) (by decide +kernel) (a := b10) (argsL := [(.ref x1), (.ref x1)]) (rest := [(.ref b10)]) (rm3 l Z a0 hw hEL zc SC hzc fm SF rfm b10 x1 x1 h10 W10.old E10 k11 k12 gb10.1) all0 (by decide +kernel) (Wd := 1) (by decide +kernel) (by decide +kernel) (by decide +kernel) (allS ⟨gb10.1, (Or.inr gb10.2)⟩ all0) rfl (by rw [hml]; rfl) (lenOf pd14 rfl) rfl (by show 2 * 0 + _ ≤ _; exact Nat.le_of_eq rfl) (hb hby d1023_97) (fun T13 h13 v13 W13 K13 q13 => ?_)
  obtain ⟨rfl, FmName13, FmType13⟩ := q13
  show Go p e below _ (T13.setTop (mkF m 100 #[vr x1, vi (-1 : Int32), vr x1] [(.ref b10)]))
  have k14 := (E10.keep K13)
  exact W13.retA hx hEL hs hlk (by decide +kernel) (by decide +kernel) hret rfl rfl (hb hby d1023_100) ⟨b10, rfl, hs ▸ gb10.2, k14, FmName13, FmType13⟩
theorem d1023_39 : decode prog_21_method_2_code 39 = .ok (.aload_n 0, 1) := by decide +kernel
theorem d1023_40 : decode prog_21_method_2_code 40 = .ok (.iconst 0, 1) := by decide +kernel
theorem d1023_41 : decode prog_21_method_2_code 41 = .ok (.iload_n 1, 1) := by decide +kernel
theorem d1023_42 : decode prog_21_method_2_code 42 = .ok (.invokevirtual 41, 3) := by decide +kernel
theorem ef404 (m : MethodId) (x0 : Addr)  : entryFrame m #[(.ref x0)] 3 = mkF m 0 #[vr x0, U0, U0] [] := by first | (simp [entryFrame, mkF, argsToLocals, Value.category]; done) | rfl | rfl
set_option maxRecDepth 65536 in
set_option maxHeartbeats 40000000 in
theorem rm404 (l : Launch) (Z : State) (a0 : Array Value) (hw : ∀ d ∈ tables_1, d.before a0 Z = true) (hEL : EW Z a0 EL0) (zc : Int32) (SC : Sta Z Z.heap "java/lang/String" "COMPACT_STRINGS" "Z" (.int zc)) (hzc : ¬ zc = 0) (fm : Value) (SF : Sta Z Z.heap "jdk/internal/util/Preconditions" "SIOOBE_FORMATTER" "Ljava/util/function/BiFunction;" fm) (rfm : fm.isRef = true) (x1 : Addr) (q1 : Int32) (q2 : Int32) (q3 : Int32) (h0 : Heap) {n0 : Nat} (O0 : Old Z n0 h0) (S1 : Str Z h0 x1 [q1, q2, q3]) (cq1 : ¬ q1 < 0 ∧ ¬ (255 : Int32) < q1) (cq2 : ¬ q2 < 0 ∧ ¬ (255 : Int32) < q2) (cq3 : ¬ q3 < 0 ∧ ¬ (255 : Int32) < q3) (sq1 : ¬ q1 = (47 : Int32)) (eq2 : q2 = (47 : Int32)) (hst : ¬ q1 = (42 : Int32)) :
    Met l Z EL0 n0 (⟨"com/example/grantwork/grantwork/resources/Resource", "parse", "(Ljava/lang/String;)Lcom/example/grantwork/grantwork/resources/Resource;"⟩ : MethodName) prog_21_method_2_code 3 (some (.object "com/example/grantwork/grantwork/resources/Resource")) [] ({ frames := 5, cells := 7, slots := 51, locals := 80 } : Room) #[(.ref x1)] h0 [] [] (fun v h' => ∃ r t : Addr, v = some (.ref r) ∧ h0.size ≤ r ∧ Exa Z h' r "com/example/grantwork/grantwork/resources/Resource" ∧ Fld Z h' r "com/example/grantwork/grantwork/resources/Resource" "mName" "Ljava/lang/String;" (.ref x1) ∧ Fld Z h' r "com/example/grantwork/grantwork/resources/Resource" "mType" "Ljava/lang/String;" (.ref t) ∧ Str Z h' t [q1]) := by
  refine Met.of (plainFor_of_name pn6) O0 ?_
  intro p e s m below meth c T0 hx hby hml hret hlk hnm hs W0
  have W0 : Wk p l e _ s m _ below meth c Z EL0 n0 [] "com/example/grantwork/grantwork/resources/Resource" [] T0 0 0 h0 := W0
  have hSA := fun d hd => hw d (sa_in d hd)
  have hws := fun d hd => hw d (ws_in d hd)
  have hln := fun d hd => hw d (ln_in d hd)
  have hch := fun d hd => hw d (ch_in d hd)
  have heq := fun d hd => hw d (eq_in d hd)
  have hem := fun d hd => hw d (em_in d hd)
  refine Go.of (fun _ kk => castTop (ef404 m x1) kk) ?_
  refine gof T0 m 1 #[vr x1, U0, U0] [(.ref x1)] (fun _ kk => XS.aloadN W0.here hx rfl (hb hby d1023_0) rfl rfl kk) ?_
  refine W0.ldcO hx hEL (hw _ (mI 41 rfl)) hSA rfl (hb hby d1023_1) (n := 32) (by decide +kernel) (by decide +kernel) (by decide +kernel) (by decide +kernel) (fun T1 h1 b1 W1 K1 => ?_)
  show Go p e below _ (T1.setTop (mkF m 3 #[vr x1, U0, U0] [(.ref b1), (.ref x1)]))
  refine W1.callS hx hEL (hw _ (mI 44 rfl)) (hw _ (mI 45 rfl)) (hw _ (mI 46 rfl)) (hw _ (mI 47 rfl)) (by decide +kernel) (argsL := [(.ref x1), (.ref b1)]) (rest := []) (rm2 l Z a0 hw hEL zc SC hzc fm SF rfm x1 b1 h1 W1.old ) all0 (by decide +kernel) (Wd := 0) (by decide +kernel) (by decide +kernel) (by decide +kernel) all0 rfl (by rw [hml]; rfl) (lenOf pd12 rfl) rfl (by show 2 * 0 + _ ≤ _; exact Nat.le_of_eq rfl) (hb hby d1023_3) (fun T2 h2 v2 W2 K2 q2 => ?_)
  obtain ⟨rfl, rfl⟩ := q2
  refine gof T2 m 8 #[vr x1, U0, U0] [(.ref x1)] (fun _ kk => XS.pop W2.here hx rfl (hb hby d1023_6) rfl rfl (XS.aloadN W2.here hx rfl (hb hby d1023_7) rfl rfl kk)) ?_
  have k4 := (S1.keep0 K1)
  refine W2.strEmp hx hem (hw _ (mI 6 rfl)) k4 (hw _ (mI 48 rfl)) (hw _ (mI 49 rfl)) (hw _ (mI 51 rfl)) (hw _ (mI 50 rfl)) (by decide +kernel) (Wd := 0) (by decide +kernel) (by decide +kernel) (by decide +kernel) rfl (by rw [hml]; rfl) rfl (by show 2 * 0 + _ ≤ _; exact Nat.le_of_eq rfl) (hb hby d1023_8) (fun T3 W3 => ?_)
  show Go p e below _ (T3.setTop (mkF m 11 #[vr x1, U0, U0] [(.int 0)]))
  refine gof T3 m 27 #[vr x1, U0, U0] [(.int 47), (.ref x1)] (fun _ kk => XS.ifYes W3.here hx rfl (pc0 := 11) (pc' := 24) rfl (hb hby d1023_11) rfl (XT.i0_eq_t (by decide +kernel)) (by decide +kernel) (by decide +kernel) (XS.aloadN W3.here hx rfl (hb hby d1023_24) rfl rfl (XS.bipush W3.here hx rfl (hb hby d1023_25) kk))) ?_
  have k6 := k4.exa
  refine W3.callV hx hEL (hw _ (mI 53 rfl)) (hw _ (mI 54 rfl)) (hw _ (mI 56 rfl)) (hw _ (mI 55 rfl)) (hw _ (mI 7 rfl)) (hw _ (mI 57 rfl)) (by decide +kernel) k6 (a := x1) (argsL := [(.int (47 : Int32))]) (rest := []) (rm133 l Z a0 hw hEL zc SC hzc fm SF rfm x1 q1 q2 q3 h1 W3.old k4 cq1 cq2 cq3) all0 (by decide +kernel) (Wd := 0) (by decide +kernel) (by decide +kernel) (by decide +kernel) all0 rfl (by rw [hml]; rfl) (lenOf pd11 rfl) rfl (by show 2 * 0 + _ ≤ _; exact Nat.le_of_eq rfl) (hb hby d1023_27) (fun T5 h5 v5 W5 K5 q5 => ?_)
  obtain ⟨rfl, rfl⟩ := q5
  show Go p e below _ (T5.setTop (mkF m 30 #[vr x1, U0, U0] [(.int (idxC (47 : Int32) [q1, q2, q3] (0 : Int32)))]))
  have ei : (idxC (47 : Int32) [q1, q2, q3] (0 : Int32)) = (1 : Int32) := by simp [idxC, sq1, eq2]
  rw [ei]
  refine gof T5 m 42 #[vr x1, vi 1, U0] [(.int 1), (.int 0), (.ref x1)] (fun _ kk => XS.istoreN W5.here hx rfl (hb hby d1023_30) rfl (l' := #[vr x1, vi 1, U0]) rfl (XS.iloadN W5.here hx rfl (hb hby d1023_31) rfl (XS.ifYes W5.here hx rfl (pc0 := 32) (pc' := 39) rfl (hb hby d1023_32) rfl (XT.i0_ge_t (by decide +kernel)) (by decide +kernel) (by decide +kernel) (XS.aloadN W5.here hx rfl (hb hby d1023_39) rfl rfl (XS.iconst W5.here hx rfl (hb hby d1023_40) (XS.iloadN W5.here hx rfl (hb hby d1023_41) rfl kk)))))) ?_
  refine W5.callV hx hEL (hw _ (mI 161 rfl)) (hw _ (mI 162 rfl)) (hw _ (mI 164 rfl)) (hw _ (mI 163 rfl)) (hw _ (mI 7 rfl)) (hw _ (mI 165 rfl)) (by decide +kernel) k6 (a := x1) (argsL := [(.int (0 : Int32)), (.int (1 : Int32))]) (rest := []) (rm303 l Z a0 hw hEL zc SC hzc fm SF rfm x1 q1 q2 q3 h1 W5.old k4 cq1 cq2 cq3) all0 (by decide +kernel) (Wd := 0) (by decide +kernel) (by decide +kernel) (by decide +kernel) all0 rfl (by rw [hml]; rfl) (lenOf pd10 rfl) rfl (by show 2 * 0 + _ ≤ _; exact Nat.le_of_eq rfl) (hb hby d1023_42) (fun T7 h7 v7 W7 K7 q7 => ?_)
  obtain ⟨r7, rfl, lr7, S7⟩ := q7
  have gr7 : n0 ≤ r7 ∧ s.heap.size ≤ r7 := ⟨Nat.le_trans W5.n0le lr7, Nat.le_trans W5.s0le lr7⟩
  have E7 := S7.exa
  refine gof T7 m 47 #[vr x1, vi 1, vr r7] [(.ref r7)] (fun _ kk => XS.astoreN W7.here hx rfl (hb hby d1023_45) rfl rfl (l' := #[vr x1, vi 1, vr r7]) rfl (XS.aloadN W7.here hx rfl (hb hby d1023_46) rfl rfl kk)) ?_
  refine W7.callS hx hEL (hw _ (mI 95 rfl)) (hw _ (mI 96 rfl)) (hw _ (mI 39 rfl)) (hw _ (mI 97 rfl)) (by decide +kernel) (argsL := [(.ref r7)]) (rest := []) (rm201 l Z a0 hw hEL zc SC hzc fm SF rfm r7 q1 h7 W7.old S7 cq1 sq1 hst) all0 (by decide +kernel) (Wd := 0) (by decide +kernel) (by decide +kernel) (by decide +kernel) all0 rfl (by rw [hml]; rfl) (lenOf pd13 rfl) rfl (by show 2 * 0 + _ ≤ _; exact Nat.le_of_eq rfl) (hb hby d1023_47) (fun T8 h8 v8 W8 K8 q8 => ?_)
  obtain rfl := q8
  refine gof T8 m 69 #[vr x1, vi 1, vr r7] [(.ref x1), (.int 1)] (fun _ kk => XS.ifYes W8.here hx rfl (pc0 := 50) (pc' := 67) rfl (hb hby d1023_50) rfl (XT.i0_ne_t (by decide +kernel)) (by decide +kernel) (by decide +kernel) (XS.iloadN W8.here hx rfl (hb hby d1023_67) rfl (XS.aloadN W8.here hx rfl (hb hby d1023_68) rfl rfl kk))) ?_
  have k10 := ((k4.keep0 K7).keep0 K8)
  refine W8.strLen hx hln (hw _ (mI 6 rfl)) SC hzc k10 (hw _ (mI 108 rfl)) (hw _ (mI 69 rfl)) (hw _ (mI 71 rfl)) (hw _ (mI 70 rfl)) (by decide +kernel) (Wd := 1) (by decide +kernel) (by decide +kernel) (by decide +kernel) rfl (by rw [hml]; rfl) rfl (by show 2 * 0 + _ ≤ _; exact Nat.le_of_eq rfl) (hb hby d1023_69) (fun T9 W9 => ?_)
  show Go p e below _ (T9.setTop (mkF m 72 #[vr x1, vi 1, vr r7] [(.int 3), (.int 1)]))
  refine gof T9 m 91 #[vr x1, vi 1, vr r7] [] (fun _ kk => XS.iconst W9.here hx rfl (hb hby d1023_72) (XS.isub W9.here hx rfl (hb hby d1023_73) rfl (XS.icmpYes W9.here hx rfl (pc0 := 74) (pc' := 91) rfl (hb hby d1023_74) rfl (XT.ii_ne_t (by decide +kernel)) (by decide +kernel) (by decide +kernel) kk))) ?_
  refine W9.newO hx (hw _ (mI 109 rfl)) (hw _ (mI 110 rfl)) (hw _ (mI 39 rfl)) rfl (hb hby d1023_91) (by decide +kernel) (by decide +kernel) (fun T11 h11 b11 eb11 gb11 W11 K11 E11 D11 => ?_)
  have k12 : Fld Z h11 b11 "com/example/grantwork/grantwork/resources/Resource" "mName" "Ljava/lang/String;" .null := D11 (Or.inr (hw _ (mI 116 rfl))) (ty := (.object "java/lang/String")) (by decide +kernel)
  have k13 : Fld Z h11 b11 "com/example/grantwork/grantwork/resources/Resource" "mType" "Ljava/lang/String;" .null := D11 (Or.inr (hw _ (mI 118 rfl))) (ty := (.object "java/lang/String")) (by decide +kernel)
  refine gof T11 m 97 #[vr x1, vi 1, vr r7] [(.ref r7), (.ref x1), (.ref b11), (.ref b11)] (fun _ kk => XS.dup W11.here hx rfl (hb hby d1023_94) rfl rfl (XS.aloadN W11.here hx rfl (hb hby d1023_95) rfl rfl (XS.aloadN W11.here hx rfl (hb hby d1023_96) rfl rfl kk))) ?_
  refine W11.callP hx hEL rfl (hw _ (mI 111 rfl)) (hw _ (mI 112 rfl)) (hw _ (mI 39 rfl)) (hw _ (mI 113 rfl)) (by decide +kernel) (a := b11) (argsL := [(.ref x1), (.ref r7)]) (rest := [(.ref b11)]) (rm3 l Z a0 hw hEL zc SC hzc fm SF rfm b11 x1 r7 h11 W11.old E11 k12 k13 gb11.1) all0 (by decide +kernel) (Wd := 1) (by decide +kernel) (by decide +kernel) (by decide +kernel) (allS ⟨gb11.1, (Or.inr gb11.2)⟩ all0) rfl (by rw [hml]; rfl) (lenOf pd14 rfl) rfl (by show 2 * 0 + _ ≤ _; exact Nat.le_of_eq rfl) (hb hby d1023_97) (fun T14 h14 v14 W14 K14 q14 => ?_)
  obtain ⟨rfl, FmName14, FmType14⟩ := q14
  show Go p e below _ (T14.setTop (mkF m 100 #[vr x1, vi 1, vr r7] [(.ref b11)]))
  have k15 := (E11.keep K14)
  obtain ⟨t16, kb16, cd16, N16, vs16, E16, V16, C16, A16, R16⟩ := id S7
  have S16 : Str Z h14 r7 [q1] := ⟨t16, kb16, cd16, N16, vs16, (((E16.keep K8).keep K11).keep K14), (((V16.keep K8 nin0).keep K11 nin0).keep K14 (ninS (ne_of_born (Nat.le_of_eq eb11.symm) E7.lt K8.1) nin0)), (((C16.keep K8 nin0).keep K11 nin0).keep K14 (ninS (ne_of_born (Nat.le_of_eq eb11.symm) E7.lt K8.1) nin0)), (((A16.keep K8 nin0).keep K11 nin0).keep K14 (ninS (ne_of_born (Nat.le_of_eq eb11.symm) A16.lt K8.1) nin0)), R16⟩
  exact W14.retA hx hEL hs hlk (by decide +kernel) (by decide +kernel) hret rfl rfl (hb hby d1023_100) ⟨b11, r7, rfl, hs ▸ gb11.2, k15, FmName14, FmType14, S16⟩
theorem ef405 (m : MethodId) (x0 : Addr)  : entryFrame m #[(.ref x0)] 3 = mkF m 0 #[vr x0, U0, U0] [] := by first | (simp [entryFrame, mkF, argsToLocals, Value.category]; done) | rfl | rfl
set_option maxRecDepth 65536 in
set_option maxHeartbeats 40000000 in
theorem rm405 (l : Launch) (Z : State) (a0 : Array Value) (hw : ∀ d ∈ tables_1, d.before a0 Z = true) (hEL : EW Z a0 EL0) (zc : Int32) (SC : Sta Z Z.heap "java/lang/String" "COMPACT_STRINGS" "Z" (.int zc)) (hzc : ¬ zc = 0) (fm : Value) (SF : Sta Z Z.heap "jdk/internal/util/Preconditions" "SIOOBE_FORMATTER" "Ljava/util/function/BiFunction;" fm) (rfm : fm.isRef = true) (x1 : Addr) (q1 : Int32) (q2 : Int32) (q3 : Int32) (q4 : Int32) (h0 : Heap) {n0 : Nat} (O0 : Old Z n0 h0) (S1 : Str Z h0 x1 [q1, q2, q3, q4]) (cq1 : ¬ q1 < 0 ∧ ¬ (255 : Int32) < q1) (cq2 : ¬ q2 < 0 ∧ ¬ (255 : Int32) < q2) (cq3 : ¬ q3 < 0 ∧ ¬ (255 : Int32) < q3) (cq4 : ¬ q4 < 0 ∧ ¬ (255 : Int32) < q4) (sq1 : ¬ q1 = (47 : Int32)) (eq2 : q2 = (47 : Int32)) (hst : ¬ q1 = (42 : Int32)) :
    Met l Z EL0 n0 (⟨"com/example/grantwork/grantwork/resources/Resource", "parse", "(Ljava/lang/String;)Lcom/example/grantwork/grantwork/resources/Resource;"⟩ : MethodName) prog_21_method_2_code 3 (some (.object "com/example/grantwork/grantwork/resources/Resource")) [] ({ frames := 5, cells := 7, slots := 51, locals := 80 } : Room) #[(.ref x1)] h0 [] [] (fun v h' => ∃ r t : Addr, v = some (.ref r) ∧ h0.size ≤ r ∧ Exa Z h' r "com/example/grantwork/grantwork/resources/Resource" ∧ Fld Z h' r "com/example/grantwork/grantwork/resources/Resource" "mName" "Ljava/lang/String;" (.ref x1) ∧ Fld Z h' r "com/example/grantwork/grantwork/resources/Resource" "mType" "Ljava/lang/String;" (.ref t) ∧ Str Z h' t [q1]) := by
  refine Met.of (plainFor_of_name pn6) O0 ?_
  intro p e s m below meth c T0 hx hby hml hret hlk hnm hs W0
  have W0 : Wk p l e _ s m _ below meth c Z EL0 n0 [] "com/example/grantwork/grantwork/resources/Resource" [] T0 0 0 h0 := W0
  have hSA := fun d hd => hw d (sa_in d hd)
  have hws := fun d hd => hw d (ws_in d hd)
  have hln := fun d hd => hw d (ln_in d hd)
  have hch := fun d hd => hw d (ch_in d hd)
  have heq := fun d hd => hw d (eq_in d hd)
  have hem := fun d hd => hw d (em_in d hd)
  refine Go.of (fun _ kk => castTop (ef405 m x1) kk) ?_
  refine gof T0 m 1 #[vr x1, U0, U0] [(.ref x1)] (fun _ kk => XS.aloadN W0.here hx rfl (hb hby d1023_0) rfl rfl kk) ?_
  refine W0.ldcO hx hEL (hw _ (mI 41 rfl)) hSA rfl (hb hby d1023_1) (n := 32) (by decide +kernel) (by decide +kernel) (by decide +kernel) (by decide +kernel) (fun T1 h1 b1 W1 K1 => ?_)
  show Go p e below _ (T1.setTop (mkF m 3 #[vr x1, U0, U0] [(.ref b1), (.ref x1)]))
  refine W1.callS hx hEL (hw _ (mI 44 rfl)) (hw _ (mI 45 rfl)) (hw _ (mI 46 rfl)) (hw _ (mI 47 rfl)) (by decide +kernel) (argsL := [(.ref x1), (.ref b1)]) (rest := []) (rm2 l Z a0 hw hEL zc SC hzc fm SF rfm x1 b1 h1 W1.old ) all0 (by decide +kernel) (Wd := 0) (by decide +kernel) (by decide +kernel) (by decide +kernel) all0 rfl (by rw [hml]; rfl) (lenOf pd12 rfl) rfl (by show 2 * 0 + _ ≤ _; exact Nat.le_of_eq rfl) (hb hby d1023_3) (fun T2 h2 v2 W2 K2 q2 => ?_)
  obtain ⟨rfl, rfl⟩ := q2
  refine gof T2 m 8 #[vr x1, U0, U0] [(.ref x1)] (fun _ kk => XS.pop W2.here hx rfl (hb hby d1023_6) rfl rfl (XS.aloadN W2.here hx rfl (hb hby d1023_7) rfl rfl kk)) ?_
  have k4 := (S1.keep0 K1)
  refine W2.strEmp hx hem (hw _ (mI 6 rfl)) k4 (hw _ (mI 48 rfl)) (hw _ (mI 49 rfl)) (hw _ (mI 51 rfl)) (hw _ (mI 50 rfl)) (by decide +kernel) (Wd := 0) (by decide +kernel) (by decide +kernel) (by decide +kernel) rfl (by rw [hml]; rfl) rfl (by show 2 * 0 + _ ≤ _; exact Nat.le_of_eq rfl) (hb hby d1023_8) (fun T3 W3 => ?_)
  show Go p e below _ (T3.setTop (mkF m 11 #[vr x1, U0, U0] [(.int 0)]))
  refine gof T3 m 27 #[vr x1, U0, U0] [(.int 47), (.ref x1)] (fun _ kk => XS.ifYes W3.here hx rfl (pc0 := 11) (pc' := 24) rfl (hb hby d1023_11) rfl (XT.i0_eq_t (by decide +kernel)) (by decide +kernel) (by decide +kernel) (XS.aloadN W3.here hx rfl (hb hby d1023_24) rfl rfl (XS.bipush W3.here hx rfl (hb hby d1023_25) kk))) ?_
  have k6 := k4.exa
  refine W3.callV hx hEL (hw _ (mI 53 rfl)) (hw _ (mI 54 rfl)) (hw _ (mI 56 rfl)) (hw _ (mI 55 rfl)) (hw _ (mI 7 rfl)) (hw _ (mI 57 rfl)) (by decide +kernel) k6 (a := x1) (argsL := [(.int (47 : Int32))]) (rest := []) (rm143 l Z a0 hw hEL zc SC hzc fm SF rfm x1 q1 q2 q3 q4 h1 W3.old k4 cq1 cq2 cq3 cq4) all0 (by decide +kernel) (Wd := 0) (by decide +kernel) (by decide +kernel) (by decide +kernel) all0 rfl (by rw [hml]; rfl) (lenOf pd11 rfl) rfl (by show 2 * 0 + _ ≤ _; exact Nat.le_of_eq rfl) (hb hby d1023_27) (fun T5 h5 v5 W5 K5 q5 => ?_)
  obtain ⟨rfl, rfl⟩ := q5
  show Go p e below _ (T5.setTop (mkF m 30 #[vr x1, U0, U0] [(.int (idxC (47 : Int32) [q1, q2, q3, q4] (0 : Int32)))]))
  have ei : (idxC (47 : Int32) [q1, q2, q3, q4] (0 : Int32)) = (1 : Int32) := by simp [idxC, sq1, eq2]
  rw [ei]
  refine gof T5 m 42 #[vr x1, vi 1, U0] [(.int 1), (.int 0), (.ref x1)] (fun _ kk => XS.istoreN W5.here hx rfl (hb hby d1023_30) rfl (l' := #[vr x1, vi 1, U0]) rfl (XS.iloadN W5.here hx rfl (hb hby d1023_31) rfl (XS.ifYes W5.here hx rfl (pc0 := 32) (pc' := 39) rfl (hb hby d1023_32) rfl (XT.i0_ge_t (by decide +kernel)) (by decide +kernel) (by decide +kernel) (XS.aloadN W5.here hx rfl (hb hby d1023_39) rfl rfl (XS.iconst W5.here hx rfl (hb hby d1023_40) (XS.iloadN W5.here hx rfl (hb hby d1023_41) rfl kk)))))) ?_
  refine W5.callV hx hEL (hw _ (mI 161 rfl)) (hw _ (mI 162 rfl)) (hw _ (mI 164 rfl)) (hw _ (mI 163 rfl)) (hw _ (mI 7 rfl)) (hw _ (mI 165 rfl)) (by decide +kernel) k6 (a := x1) (argsL := [(.int (0 : Int32)), (.int (1 : Int32))]) (rest := []) (rm313 l Z a0 hw hEL zc SC hzc fm SF rfm x1 q1 q2 q3 q4 h1 W5.old k4 cq1 cq2 cq3 cq4) all0 (by decide +kernel) (Wd := 0) (by decide +kernel) (by decide +kernel) (by decide +kernel) all0 rfl (by rw [hml]; rfl) (lenOf pd10 rfl) rfl (by show 2 * 0 + _ ≤ _; exact Nat.le_of_eq rfl) (hb hby d1023_42) (fun T7 h7 v7 W7 K7 q7 => ?_)
  obtain ⟨r7, rfl, lr7, S7⟩ := q7
  have gr7 : n0 ≤ r7 ∧ s.heap.size ≤ r7 := ⟨Nat.le_trans W5.n0le lr7, Nat.le_trans W5.s0le lr7⟩
  have E7 := S7.exa
  refine gof T7 m 47 #[vr x1, vi 1, vr r7] [(.ref r7)] (fun _ kk => XS.astoreN W7.here hx rfl (hb hby d1023_45) rfl rfl (l' := #[vr x1, vi 1, vr r7]) rfl (XS.aloadN W7.here hx rfl (hb hby d1023_46) rfl rfl kk)) ?_
  refine W7.callS hx hEL (hw _ (mI 95 rfl)) (hw _ (mI 96 rfl)) (hw _ (mI 39 rfl)) (hw _ (mI 97 rfl)) (by decide +kernel) (argsL := [(.ref r7)]) (rest := []) (rm201 l Z a0 hw hEL zc SC hzc fm SF rfm r7 q1 h7 W7.old S7 cq1 sq1 hst) all0 (by decide +kernel) (Wd := 0) (by decide +kernel) (by decide +kernel) (by decide +kernel) all0 rfl (by rw [hml]; rfl) (lenOf pd13 rfl) rfl (by show 2 * 0 + _ ≤ _; exact Nat.le_of_eq rfl) (hb hby d1023_47) (fun T8 h8 v8 W8 K8 q8 => ?_)
  obtain rfl := q8
  refine gof T8 m 69 #[vr x1, vi 1, vr r7] [(.ref x1), (.int 1)] (fun _ kk => XS.ifYes W8.here hx rfl (pc0 := 50) (pc' := 67) rfl (hb hby d1023_50) rfl (XT.i0_ne_t (by decide +kernel)) (by decide +kernel) (by decide +kernel) (XS.iloadN W8.here hx rfl (hb hby d1023_67) rfl (XS.aloadN W8.here hx rfl (hb hby d1023_68) rfl rfl kk))) ?_
  have k10 := ((k4.keep0 K7).keep0 K8)
  refine W8.strLen hx hln (hw _ (mI 6 rfl)) SC hzc k10 (hw _ (mI 108 rfl)) (hw _ (mI 69 rfl)) (hw _ (mI 71 rfl)) (hw _ (mI 70 rfl)) (by decide +kernel) (Wd := 1) (by decide +kernel) (by decide +kernel) (by decide +kernel) rfl (by rw [hml]; rfl) rfl (by show 2 * 0 + _ ≤ _; exact Nat.le_of_eq rfl) (hb hby d1023_69) (fun T9 W9 => ?_)
  show Go p e below _ (T9.setTop (mkF m 72 #[vr x1, vi 1, vr r7] [(.int 4), (.int 1)]))
  refine gof T9 m 91 #[vr x1, vi 1, vr r7] [] (fun _ kk => XS.iconst W9.here hx rfl (hb hby d1023_72) (XS.isub W9.here hx rfl (hb hby d1023_73) rfl (XS.icmpYes W9.here hx rfl (pc0 := 74) (pc' := 91) rfl (hb hby d1023_74) rfl (XT.ii_ne_t (by decide +kernel)) (by decide +kernel) (by decide +kernel) kk))) ?_
  refine W9.newO hx (hw _ (mI 109 rfl)) (hw _ (mI 110 rfl)) (hw _ (mI 39 rfl)) rfl (hb hby d1023_91) (by decide +kernel) (by decide +kernel) (fun T11 h11 b11 eb11 gb11 W11 K11 E11 D11 => ?_)
  have k12 : Fld Z h11 b11 "com/example/grantwork/grantwork/resources/Resource" "mName" "Ljava/lang/String;" .null := D11 (Or.inr (hw _ (mI 116 rfl))) (ty := (.object "java/lang/String")) (by decide +kernel)
  have k13 : Fld Z h11 b11 "com/example/grantwork/grantwork/resources/Resource" "mType" "Ljava/lang/String;" .null := D11 (Or.inr (hw _ (mI 118 rfl))) (ty := (.object "java/lang/String")) (by decide +kernel)
  refine gof T11 m 97 #[vr x1, vi 1, vr r7] [(.ref r7), (.ref x1), (.ref b11), (.ref b11)] (fun _ kk => XS.dup W11.here hx rfl (hb hby d1023_94) rfl rfl (XS.aloadN W11.here hx rfl (hb hby d1023_95) rfl rfl (XS.aloadN W11.here hx rfl (hb hby d1023_96) rfl rfl kk))) ?_
  refine W11.callP hx hEL rfl (hw _ (mI 111 rfl)) (hw _ (mI 112 rfl)) (hw _ (mI 39 rfl)) (hw _ (mI 113 rfl)) (by decide +kernel) (a := b11) (argsL := [(.ref x1), (.ref r7)]) (rest := [(.ref b11)]) (rm3 l Z a0 hw hEL zc SC hzc fm SF rfm b11 x1 r7 h11 W11.old E11 k12 k13 gb11.1) all0 (by decide +kernel) (Wd := 1) (by decide +kernel) (by decide +kernel) (by decide +kernel) (allS ⟨gb11.1, (Or.inr gb11.2)⟩ all0) rfl (by rw [hml]; rfl) (lenOf pd14 rfl) rfl (by show 2 * 0 + _ ≤ _; exact Nat.le_of_eq rfl) (hb hby d1023_97) (fun T14 h14 v14 W14 K14 q14 => ?_)
  obtain ⟨rfl, FmName14, FmType14⟩ := q14
  show Go p e below _ (T14.setTop (mkF m 100 #[vr x1, vi 1, vr r7] [(.ref b11)]))
  have k15 := (E11.keep K14)
  obtain ⟨t16, kb16, cd16, N16, vs16, E16, V16, C16, A16, R16⟩ := id S7
  have S16 : Str Z h14 r7 [q1] := ⟨t16, kb16, cd16, N16, vs16, (((E16.keep K8).keep K11).keep K14), (((V16.keep K8 nin0).keep K11 nin0).keep K14 (ninS (ne_of_born (Nat.le_of_eq eb11.symm) E7.lt K8.1) nin0)), (((C16.keep K8 nin0).keep K11 nin0).keep K14 (ninS (ne_of_born (Nat.le_of_eq eb11.symm) E7.lt K8.1) nin0)), (((A16.keep K8 nin0).keep K11 nin0).keep K14 (ninS (ne_of_born (Nat.le_of_eq eb11.symm) A16.lt K8.1) nin0)), R16⟩
  exact W14.retA hx hEL hs hlk (by decide +kernel) (by decide +kernel) hret rfl rfl (hb hby d1023_100) ⟨b11, r7, rfl, hs ▸ gb11.2, k15, FmName14, FmType14, S16⟩
theorem ef406 (m : MethodId) (x0 : Addr)  : entryFrame m #[(.ref x0)] 3 = mkF m 0 #[vr x0, U0, U0] [] := by first | (simp [entryFrame, mkF, argsToLocals, Value.category]; done) | rfl | rfl
set_option maxRecDepth 65536 in
set_option maxHeartbeats 40000000 in
theorem rm406 (l : Launch) (Z : State) (a0 : Array Value) (hw : ∀ d ∈ tables_1, d.before a0 Z = true) (hEL : EW Z a0 EL0) (zc : Int32) (SC : Sta Z Z.heap "java/lang/String" "COMPACT_STRINGS" "Z" (.int zc)) (hzc : ¬ zc = 0) (fm : Value) (SF : Sta Z Z.heap "jdk/internal/util/Preconditions" "SIOOBE_FORMATTER" "Ljava/util/function/BiFunction;" fm) (rfm : fm.isRef = true) (x1 : Addr) (q1 : Int32) (q2 : Int32) (q3 : Int32) (q4 : Int32) (h0 : Heap) {n0 : Nat} (O0 : Old Z n0 h0) (S1 : Str Z h0 x1 [q1, q2, q3, q4]) (cq1 : ¬ q1 < 0 ∧ ¬ (255 : Int32) < q1) (cq2 : ¬ q2 < 0 ∧ ¬ (255 : Int32) < q2) (cq3 : ¬ q3 < 0 ∧ ¬ (255 : Int32) < q3) (cq4 : ¬ q4 < 0 ∧ ¬ (255 : Int32) < q4) (sq1 : ¬ q1 = (47 : Int32)) (sq2 : ¬ q2 = (47 : Int32)) (eq3 : q3 = (47 : Int32)) :
    Met l Z EL0 n0 (⟨"com/example/grantwork/grantwork/resources/Resource", "parse", "(Ljava/lang/String;)Lcom/example/grantwork/grantwork/resources/Resource;"⟩ : MethodName) prog_21_method_2_code 3 (some (.object "com/example/grantwork/grantwork/resources/Resource")) [] ({ frames := 5, cells := 7, slots := 52, locals := 80 } : Room) #[(.ref x1)] h0 [] [] (fun v h' => ∃ r t : Addr, v = some (.ref r) ∧ h0.size ≤ r ∧ Exa Z h' r "com/example/grantwork/grantwork/resources/Resource" ∧ Fld Z h' r "com/example/grantwork/grantwork/resources/Resource" "mName" "Ljava/lang/String;" (.ref x1) ∧ Fld Z h' r "com/example/grantwork/grantwork/resources/Resource" "mType" "Ljava/lang/String;" (.ref t) ∧ Str Z h' t [q1, q2]) := by
  refine Met.of (plainFor_of_name pn6) O0 ?_
  intro p e s m below meth c T0 hx hby hml hret hlk hnm hs W0
  have W0 : Wk p l e _ s m _ below meth c Z EL0 n0 [] "com/example/grantwork/grantwork/resources/Resource" [] T0 0 0 h0 := W0
  have hSA := fun d hd => hw d (sa_in d hd)
  have hws := fun d hd => hw d (ws_in d hd)
  have hln := fun d hd => hw d (ln_in d hd)
  have hch := fun d hd => hw d (ch_in d hd)
  have heq := fun d hd => hw d (eq_in d hd)
  have hem := fun d hd => hw d (em_in d hd)
  refine Go.of (fun _ kk => castTop (ef406 m x1) kk) ?_
  refine gof T0 m 1 #[vr x1, U0, U0] [(.ref x1)] (fun _ kk => XS.aloadN W0.here hx rfl (hb hby d1023_0) rfl rfl kk) ?_
  refine W0.ldcO hx hEL (hw _ (mI 41 rfl)) hSA rfl (hb hby d1023_1) (n := 32) (by decide +kernel) (by decide +kernel) (by decide +kernel) (by decide +kernel) (fun T1 h1 b1 W1 K1 => ?_)
  show Go p e below _ (T1.setTop (mkF m 3 #[vr x1, U0, U0] [(.ref b1), (.ref x1)]))
  refine W1.callS hx hEL (hw _ (mI 44 rfl)) (hw _ (mI 45 rfl)) (hw _ (mI 46 rfl)) (hw _ (mI 47 rfl)) (by decide +kernel) (argsL := [(.ref x1), (.ref b1)]) (rest := []) (rm2 l Z a0 hw hEL zc SC hzc fm SF rfm x1 b1 h1 W1.old ) all0 (by decide +kernel) (Wd := 0) (by decide +kernel) (by decide +kernel) (by decide +kernel) all0 rfl (by rw [hml]; rfl) (lenOf pd12 rfl) rfl (by show 2 * 0 + _ ≤ _; exact Nat.le_of_eq rfl) (hb hby d1023_3) (fun T2 h2 v2 W2 K2 q2 => ?_)
  obtain ⟨rfl, rfl⟩ := q2
  refine gof T2 m 8 #[vr x1, U0, U0] [(.ref x1)] (fun _ kk => XS.pop W2.here hx rfl (hb hby d1023_6) rfl rfl (XS.aloadN W2.here hx rfl (hb hby d1023_7) rfl rfl kk)) ?_
  have k4 := (S1.keep0 K1)
  refine W2.strEmp hx hem (hw _ (mI 6 rfl)) k4 (hw _ (mI 48 rfl)) (hw _ (mI 49 rfl)) (hw _ (mI 51 rfl)) (hw _ (mI 50 rfl)) (by decide +kernel) (Wd := 0) (by decide +kernel) (by decide +kernel) (by decide +kernel) rfl (by rw [hml]; rfl) rfl (by show 2 * 0 + _ ≤ _; exact Nat.le_of_eq rfl) (hb hby d1023_8) (fun T3 W3 => ?_)
  show Go p e below _ (T3.setTop (mkF m 11 #[vr x1, U0, U0] [(.int 0)]))
  refine gof T3 m 27 #[vr x1, U0, U0] [(.int 47), (.ref x1)] (fun _ kk => XS.ifYes W3.here hx rfl (pc0 := 11) (pc' := 24) rfl (hb hby d1023_11) rfl (XT.i0_eq_t (by decide +kernel)) (by decide +kernel) (by decide +kernel) (XS.aloadN W3.here hx rfl (hb hby d1023_24) rfl rfl (XS.bipush W3.here hx rfl (hb hby d1023_25) kk))) ?_
  have k6 := k4.exa
  refine W3.callV hx hEL (hw _ (mI 53 rfl)) (hw _ (mI 54 rfl)) (hw _ (mI 56 rfl)) (hw _ (mI 55 rfl)) (hw _ (mI 7 rfl)) (hw _ (mI 57 rfl)) (by decide +kernel) k6 (a := x1) (argsL := [(.int (47 : Int32))]) (rest := []) (rm143 l Z a0 hw hEL zc SC hzc fm SF rfm x1 q1 q2 q3 q4 h1 W3.old k4 cq1 cq2 cq3 cq4) all0 (by decide +kernel) (Wd := 0) (by decide +kernel) (by decide +kernel) (by decide +kernel) all0 rfl (by rw [hml]; rfl) (lenOf pd11 rfl) rfl (by show 2 * 0 + _ ≤ _; exact Nat.le_of_eq rfl) (hb hby d1023_27) (fun T5 h5 v5 W5 K5 q5 => ?_)
  obtain ⟨rfl, rfl⟩ := q5
  show Go p e below _ (T5.setTop (mkF m 30 #[vr x1, U0, U0] [(.int (idxC (47 : Int32) [q1, q2, q3, q4] (0 : Int32)))]))
  have ei : (idxC (47 : Int32) [q1, q2, q3, q4] (0 : Int32)) = (2 : Int32) := by simp [idxC, sq1, sq2, eq3]
  rw [ei]
  refine gof T5 m 42 #[vr x1, vi 2, U0] [(.int 2), (.int 0), (.ref x1)] (fun _ kk => XS.istoreN W5.here hx rfl (hb hby d1023_30) rfl (l' := #[vr x1, vi 2, U0]) rfl (XS.iloadN W5.here hx rfl (hb hby d1023_31) rfl (XS.ifYes W5.here hx rfl (pc0 := 32) (pc' := 39) rfl (hb hby d1023_32) rfl (XT.i0_ge_t (by decide +kernel)) (by decide +kernel) (by decide +kernel) (XS.aloadN W5.here hx rfl (hb hby d1023_39) rfl rfl (XS.iconst W5.here hx rfl (hb hby d1023_40) (XS.iloadN W5.here hx rfl (hb hby d1023_41) rfl kk)))))) ?_
  refine W5.callV hx hEL (hw _ (mI 161 rfl)) (hw _ (mI 162 rfl)) (hw _ (mI 164 rfl)) (hw _ (mI 163 rfl)) (hw _ (mI 7 rfl)) (hw _ (mI 165 rfl)) (by decide +kernel) k6 (a := x1) (argsL := [(.int (0 : Int32)), (.int (2 : Int32))]) (rest := []) (rm323 l Z a0 hw hEL zc SC hzc fm SF rfm x1 q1 q2 q3 q4 h1 W5.old k4 cq1 cq2 cq3 cq4) all0 (by decide +kernel) (Wd := 0) (by decide +kernel) (by decide +kernel) (by decide +kernel) all0 rfl (by rw [hml]; rfl) (lenOf pd10 rfl) rfl (by show 2 * 0 + _ ≤ _; exact Nat.le_of_eq rfl) (hb hby d1023_42) (fun T7 h7 v7 W7 K7 q7 => ?_)
  obtain ⟨r7, rfl, lr7, S7⟩ := q7
  have gr7 : n0 ≤ r7 ∧ s.heap.size ≤ r7 := ⟨Nat.le_trans W5.n0le lr7, Nat.le_trans W5.s0le lr7⟩
  have E7 := S7.exa
  refine gof T7 m 47 #[vr x1, vi 2, vr r7] [(.ref r7)] (fun _ kk => XS.astoreN W7.here hx rfl (hb hby d1023_45) rfl rfl (l' := #[vr x1, vi 2, vr r7]) rfl (XS.aloadN W7.here hx rfl (hb hby d1023_46) rfl rfl kk)) ?_
  refine W7.callS hx hEL (hw _ (mI 95 rfl)) (hw _ (mI 96 rfl)) (hw _ (mI 39 rfl)) (hw _ (mI 97 rfl)) (by decide +kernel) (argsL := [(.ref r7)]) (rest := []) (rm202 l Z a0 hw hEL zc SC hzc fm SF rfm r7 q1 q2 h7 W7.old S7 cq1 cq2 sq1 sq2) all0 (by decide +kernel) (Wd := 0) (by decide +kernel) (by decide +kernel) (by decide +kernel) all0 rfl (by rw [hml]; rfl) (lenOf pd13 rfl) rfl (by show 2 * 0 + _ ≤ _; exact Nat.le_of_eq rfl) (hb hby d1023_47) (fun T8 h8 v8 W8 K8 q8 => ?_)
  obtain rfl := q8
  refine gof T8 m 69 #[vr x1, vi 2, vr r7] [(.ref x1), (.int 2)] (fun _ kk => XS.ifYes W8.here hx rfl (pc0 := 50) (pc' := 67) rfl (hb hby d1023_50) rfl (XT.i0_ne_t (by decide +kernel)) (by decide +kernel) (by decide +kernel) (XS.iloadN W8.here hx rfl (hb hby d1023_67) rfl (XS.aloadN W8.here hx rfl (hb hby d1023_68) rfl rfl kk))) ?_
  have k10 := ((k4.keep0 K7).keep0 K8)
  refine W8.strLen hx hln (hw _ (mI 6 rfl)) SC hzc k10 (hw _ (mI 108 rfl)) (hw _ (mI 69 rfl)) (hw _ (mI 71 rfl)) (hw _ (mI 70 rfl)) (by decide +kernel) (Wd := 1) (by decide +kernel) (by decide +kernel) (by decide +kernel) rfl (by rw [hml]; rfl) rfl (by show 2 * 0 + _ ≤ _; exact Nat.le_of_eq rfl) (hb hby d1023_69) (fun T9 W9 => ?_)
  show Go p e below _ (T9.setTop (mkF m 72 #[vr x1, vi 2, vr r7] [(.int 4), (.int 2)]))
  refine gof T9 m 91 #[vr x1, vi 2, vr r7] [] (fun _ kk => XS.iconst W9.here hx rfl (hb hby d1023_72) (XS.isub W9.here hx rfl (hb hby d1023_73) rfl (XS.icmpYes W9.here hx rfl (pc0 := 74) (pc' := 91) rfl (hb hby d1023_74) rfl (XT.ii_ne_t (by decide +kernel)) (by decide +kernel) (by decide +kernel) kk))) ?_
  refine W9.newO hx (hw _ (mI 109 rfl)) (hw _ (mI 110 rfl)) (hw _ (mI 39 rfl)) rfl (hb hby d1023_91) (by decide +kernel) (by decide +kernel) (fun T11 h11 b11 eb11 gb11 W11 K11 E11 D11 => ?_)
  have k12 : Fld Z h11 b11 "com/example/grantwork/grantwork/resources/Resource" "mName" "Ljava/lang/String;" .null := D11 (Or.inr (hw _ (mI 116 rfl))) (ty := (.object "java/lang/String")) (by decide +kernel)
  have k13 : Fld Z h11 b11 "com/example/grantwork/grantwork/resources/Resource" "mType" "Ljava/lang/String;" .null := D11 (Or.inr (hw _ (mI 118 rfl))) (ty := (.object "java/lang/String")) (by decide +kernel)
  refine gof T11 m 97 #[vr x1, vi 2, vr r7] [(.ref r7), (.ref x1), (.ref b11), (.ref b11)] (fun _ kk => XS.dup W11.here hx rfl (hb hby d1023_94) rfl rfl (XS.aloadN W11.here hx rfl (hb hby d1023_95) rfl rfl (XS.aloadN W11.here hx rfl (hb hby d1023_96) rfl rfl kk))) ?_
  refine W11.callP hx hEL rfl (hw _ (mI 111 rfl)) (hw _ (mI 112 rfl)) (hw _ (mI 39 rfl)) (hw _ (mI 113 rfl)) (by decide +kernel) (a := b11) (argsL := [(.ref x1), (.ref r7)]) (rest := [(.ref b11)]) (rm3 l Z a0 hw hEL zc SC hzc fm SF rfm b11 x1 r7 h11 W11.old E11 k12 k13 gb11.1) all0 (by decide +kernel) (Wd := 1) (by decide +kernel) (by decide +kernel) (by decide +kernel) (allS ⟨gb11.1, (Or.inr gb11.2)⟩ all0) rfl (by rw [hml]; rfl) (lenOf pd14 rfl) rfl (by show 2 * 0 + _ ≤ _; exact Nat.le_of_eq rfl) (hb hby d1023_97) (fun T14 h14 v14 W14 K14 q14 => ?_)
  obtain ⟨rfl, FmName14, FmType14⟩ := q14
  show Go p e below _ (T14.setTop (mkF m 100 #[vr x1, vi 2, vr r7] [(.ref b11)]))
  have k15 := (E11.keep K14)
  obtain ⟨t16, kb16, cd16, N16, vs16, E16, V16, C16, A16, R16⟩ := id S7
  have S16 : Str Z h14 r7 [q1, q2] := ⟨t16, kb16, cd16, N16, vs16, (((E16.keep K8).keep K11).keep K14), (((V16.keep K8 nin0).keep K11 nin0).keep K14 (ninS (ne_of_born (Nat.le_of_eq eb11.symm) E7.lt K8.1) nin0)), (((C16.keep K8 nin0).keep K11 nin0).keep K14 (ninS (ne_of_born (Nat.le_of_eq eb11.symm) E7.lt K8.1) nin0)), (((A16.keep K8 nin0).keep K11 nin0).keep K14 (ninS (ne_of_born (Nat.le_of_eq eb11.symm) A16.lt K8.1) nin0)), R16⟩
  exact W14.retA hx hEL hs hlk (by decide +kernel) (by decide +kernel) hret rfl rfl (hb hby d1023_100) ⟨b11, r7, rfl, hs ▸ gb11.2, k15, FmName14, FmType14, S16⟩
theorem d1024_0 : decode prog_21_method_7_code 0 = .ok (.aload_n 0, 1) := by decide +kernel
theorem d1024_1 : decode prog_21_method_7_code 1 = .ok (.getfield 7, 3) := by decide +kernel
theorem d1024_4 : decode prog_21_method_7_code 4 = .ok (.areturn, 1) := by decide +kernel
theorem ef450 (m : MethodId) (x0 : Addr)  : entryFrame m #[(.ref x0)] 1 = mkF m 0 #[vr x0] [] := by first | (simp [entryFrame, mkF, argsToLocals, Value.category]; done) | rfl | rfl
set_option maxRecDepth 65536 in
set_option maxHeartbeats 40000000 in
theorem rm450 (l : Launch) (Z : State) (a0 : Array Value) (hw : ∀ d ∈ tables_1, d.before a0 Z = true) (hEL : EW Z a0 EL0) (zc : Int32) (SC : Sta Z Z.heap "java/lang/String" "COMPACT_STRINGS" "Z" (.int zc)) (hzc : ¬ zc = 0) (fm : Value) (SF : Sta Z Z.heap "jdk/internal/util/Preconditions" "SIOOBE_FORMATTER" "Ljava/util/function/BiFunction;" fm) (rfm : fm.isRef = true) (a1 : Addr) (x2 : Addr) (h0 : Heap) {n0 : Nat} (O0 : Old Z n0 h0) (F1 : Fld Z h0 a1 "com/example/grantwork/grantwork/resources/Resource" "mName" "Ljava/lang/String;" (.ref x2)) :
    Met l Z EL0 n0 (⟨"com/example/grantwork/grantwork/resources/Resource", "name", "()Ljava/lang/String;"⟩ : MethodName) prog_21_method_7_code 1 (some (.object "java/lang/String")) [] ({ frames := 0, cells := 0, slots := 0, locals := 0 } : Room) #[(.ref a1)] h0 [] [] (fun v h' => v = some (.ref x2) ∧ h0 = h') := by
  refine Met.of (plainFor_of_name pn6) O0 ?_
  intro p e s m below meth c T0 hx hby hml hret hlk hnm hs W0
  have W0 : Wk p l e _ s m _ below meth c Z EL0 n0 [] "com/example/grantwork/grantwork/resources/Resource" [] T0 0 0 h0 := W0
  have hSA := fun d hd => hw d (sa_in d hd)
  have hws := fun d hd => hw d (ws_in d hd)
  have hln := fun d hd => hw d (ln_in d hd)
  have hch := fun d hd => hw d (ch_in d hd)
  have heq := fun d hd => hw d (eq_in d hd)
  have hem := fun d hd => hw d (em_in d hd)
  refine Go.of (fun _ kk => castTop (ef450 m a1) kk) ?_
  refine gof T0 m 1 #[vr a1] [(.ref a1)] (fun _ kk => XS.aloadN W0.here hx rfl (hb hby d1024_0) rfl rfl kk) ?_
  refine W0.getF hx (host := "") (Or.inl (hw _ (mI 115 rfl))) Via.refl F1 rfl rfl (hb hby d1024_1) (fun T1 W1 => ?_)
  show Go p e below _ (T1.setTop (mkF m 4 #[vr a1] [(.ref x2)]))
  exact W1.retA hx hEL hs hlk (by decide +kernel) (by decide +kernel) hret rfl rfl (hb hby d1024_4) ⟨rfl, rfl⟩
theorem d1025_0 : decode prog_21_method_8_code 0 = .ok (.aload_n 0, 1) := by decide +kernel
theorem d1025_1 : decode prog_21_method_8_code 1 = .ok (.getfield 13, 3) := by decide +kernel
theorem d1025_4 : decode prog_21_method_8_code 4 = .ok (.areturn, 1) := by decide +kernel
theorem ef451 (m : MethodId) (x0 : Addr)  : entryFrame m #[(.ref x0)] 1 = mkF m 0 #[vr x0] [] := by first | (simp [entryFrame, mkF, argsToLocals, Value.category]; done) | rfl | rfl
set_option maxRecDepth 65536 in
set_option maxHeartbeats 40000000 in
theorem rm451 (l : Launch) (Z : State) (a0 : Array Value) (hw : ∀ d ∈ tables_1, d.before a0 Z = true) (hEL : EW Z a0 EL0) (zc : Int32) (SC : Sta Z Z.heap "java/lang/String" "COMPACT_STRINGS" "Z" (.int zc)) (hzc : ¬ zc = 0) (fm : Value) (SF : Sta Z Z.heap "jdk/internal/util/Preconditions" "SIOOBE_FORMATTER" "Ljava/util/function/BiFunction;" fm) (rfm : fm.isRef = true) (a1 : Addr) (x2 : Addr) (h0 : Heap) {n0 : Nat} (O0 : Old Z n0 h0) (F1 : Fld Z h0 a1 "com/example/grantwork/grantwork/resources/Resource" "mType" "Ljava/lang/String;" (.ref x2)) :
    Met l Z EL0 n0 (⟨"com/example/grantwork/grantwork/resources/Resource", "type", "()Ljava/lang/String;"⟩ : MethodName) prog_21_method_8_code 1 (some (.object "java/lang/String")) [] ({ frames := 0, cells := 0, slots := 0, locals := 0 } : Room) #[(.ref a1)] h0 [] [] (fun v h' => v = some (.ref x2) ∧ h0 = h') := by
  refine Met.of (plainFor_of_name pn6) O0 ?_
  intro p e s m below meth c T0 hx hby hml hret hlk hnm hs W0
  have W0 : Wk p l e _ s m _ below meth c Z EL0 n0 [] "com/example/grantwork/grantwork/resources/Resource" [] T0 0 0 h0 := W0
  have hSA := fun d hd => hw d (sa_in d hd)
  have hws := fun d hd => hw d (ws_in d hd)
  have hln := fun d hd => hw d (ln_in d hd)
  have hch := fun d hd => hw d (ch_in d hd)
  have heq := fun d hd => hw d (eq_in d hd)
  have hem := fun d hd => hw d (em_in d hd)
  refine Go.of (fun _ kk => castTop (ef451 m a1) kk) ?_
  refine gof T0 m 1 #[vr a1] [(.ref a1)] (fun _ kk => XS.aloadN W0.here hx rfl (hb hby d1025_0) rfl rfl kk) ?_
  refine W0.getF hx (host := "") (Or.inl (hw _ (mI 117 rfl))) Via.refl F1 rfl rfl (hb hby d1025_1) (fun T1 W1 => ?_)
  show Go p e below _ (T1.setTop (mkF m 4 #[vr a1] [(.ref x2)]))
  exact W1.retA hx hEL hs hlk (by decide +kernel) (by decide +kernel) hret rfl rfl (hb hby d1025_4) ⟨rfl, rfl⟩
theorem d1026_0 : decode prog_21_method_10_code 0 = .ok (.aload_n 0, 1) := by decide +kernel
theorem d1026_1 : decode prog_21_method_10_code 1 = .ok (.getfield 7, 3) := by decide +kernel
theorem d1026_4 : decode prog_21_method_10_code 4 = .ok (.invokevirtual 53, 3) := by decide +kernel
theorem d1026_7 : decode prog_21_method_10_code 7 = .ok (.aload_n 0, 1) := by decide +kernel
theorem d1026_8 : decode prog_21_method_10_code 8 = .ok (.getfield 13, 3) := by decide +kernel
theorem d1026_11 : decode prog_21_method_10_code 11 = .ok (.invokevirtual 53, 3) := by decide +kernel
theorem d1026_14 : decode prog_21_method_10_code 14 = .ok (.if_icmp .eq 7, 3) := by decide +kernel
theorem d1026_21 : decode prog_21_method_10_code 21 = .ok (.iconst 0, 1) := by decide +kernel
theorem d1026_22 : decode prog_21_method_10_code 22 = .ok (.ireturn, 1) := by decide +kernel
theorem ef452 (m : MethodId) (x0 : Addr)  : entryFrame m #[(.ref x0)] 1 = mkF m 0 #[vr x0] [] := by first | (simp [entryFrame, mkF, argsToLocals, Value.category]; done) | rfl | rfl
set_option maxRecDepth 65536 in
set_option maxHeartbeats 40000000 in
theorem rm452 (l : Launch) (Z : State) (a0 : Array Value) (hw : ∀ d ∈ tables_1, d.before a0 Z = true) (hEL : EW Z a0 EL0) (zc : Int32) (SC : Sta Z Z.heap "java/lang/String" "COMPACT_STRINGS" "Z" (.int zc)) (hzc : ¬ zc = 0) (fm : Value) (SF : Sta Z Z.heap "jdk/internal/util/Preconditions" "SIOOBE_FORMATTER" "Ljava/util/function/BiFunction;" fm) (rfm : fm.isRef = true) (a1 : Addr) (x2 : Addr) (cs : List Int32) (h0 : Heap) {n0 : Nat} (O0 : Old Z n0 h0) (E1 : Exa Z h0 a1 "com/example/grantwork/grantwork/resources/Resource") (F1 : Fld Z h0 a1 "com/example/grantwork/grantwork/resources/Resource" "mName" "Ljava/lang/String;" (.ref x2)) (F2 : Fld Z h0 a1 "com/example/grantwork/grantwork/resources/Resource" "mType" "Ljava/lang/String;" (.ref x2)) (S2 : Str Z h0 x2 cs) :
    Met l Z EL0 n0 (⟨"com/example/grantwork/grantwork/resources/Resource", "isRecord", "()Z"⟩ : MethodName) prog_21_method_10_code 1 (some .boolean) [] ({ frames := 2, cells := 0, slots := 0, locals := 26 } : Room) #[(.ref a1)] h0 [] [] (fun v h' => v = some (.int 0) ∧ h0 = h') := by
  refine Met.of (plainFor_of_name pn6) O0 ?_
  intro p e s m below meth c T0 hx hby hml hret hlk hnm hs W0
  have W0 : Wk p l e _ s m _ below meth c Z EL0 n0 [] "com/example/grantwork/grantwork/resources/Resource" [] T0 0 0 h0 := W0
  have hSA := fun d hd => hw d (sa_in d hd)
  have hws := fun d hd => hw d (ws_in d hd)
  have hln := fun d hd => hw d (ln_in d hd)
  have hch := fun d hd => hw d (ch_in d hd)
  have heq := fun d hd => hw d (eq_in d hd)
  have hem := fun d hd => hw d (em_in d hd)
  refine Go.of (fun _ kk => castTop (ef452 m a1) kk) ?_
  refine gof T0 m 1 #[vr a1] [(.ref a1)] (fun _ kk => XS.aloadN W0.here hx rfl (hb hby d1026_0) rfl rfl kk) ?_
  refine W0.getF hx (host := "") (Or.inl (hw _ (mI 115 rfl))) Via.refl F1 rfl rfl (hb hby d1026_1) (fun T1 W1 => ?_)
  show Go p e below _ (T1.setTop (mkF m 4 #[vr a1] [(.ref x2)]))
  refine W1.strLen hx hln (hw _ (mI 6 rfl)) SC hzc S2 (hw _ (mI 108 rfl)) (hw _ (mI 69 rfl)) (hw _ (mI 71 rfl)) (hw _ (mI 70 rfl)) (by decide +kernel) (Wd := 0) (by decide +kernel) (by decide +kernel) (by decide +kernel) rfl (by rw [hml]; rfl) rfl (by show 2 * 0 + _ ≤ _; exact Nat.le_of_eq rfl) (hb hby d1026_4) (fun T2 W2 => ?_)
  show Go p e below _ (T2.setTop (mkF m 7 #[vr a1] [(.int (Int32.ofNat (cs.length)))]))
  refine gof T2 m 8 #[vr a1] [(.ref a1), (.int (Int32.ofNat (cs.length)))] (fun _ kk => XS.aloadN W2.here hx rfl (hb hby d1026_7) rfl rfl kk) ?_
  refine W2.getF hx (host := "") (Or.inl (hw _ (mI 117 rfl))) Via.refl F2 rfl rfl (hb hby d1026_8) (fun T3 W3 => ?_)
  show Go p e below _ (T3.setTop (mkF m 11 #[vr a1] [(.ref x2), (.int (Int32.ofNat (cs.length)))]))
  refine W3.strLen hx hln (hw _ (mI 6 rfl)) SC hzc S2 (hw _ (mI 108 rfl)) (hw _ (mI 69 rfl)) (hw _ (mI 71 rfl)) (hw _ (mI 70 rfl)) (by decide +kernel) (Wd := 1) (by decide +kernel) (by decide +kernel) (by decide +kernel) rfl (by rw [hml]; rfl) rfl (by show 2 * 0 + _ ≤ _; exact Nat.le_of_eq rfl) (hb hby d1026_11) (fun T4 W4 => ?_)
  show Go p e below _ (T4.setTop (mkF m 14 #[vr a1] [(.int (Int32.ofNat (cs.length))), (.int (Int32.ofNat (cs.length)))]))
  refine gof T4 m 22 #[vr a1] [(.int 0)] (fun _ kk => XS.icmpYes W4.here hx rfl (pc0 := 14) (pc' := 21) rfl (hb hby d1026_14) rfl (XT.ii_eq_t rfl) (by decide +kernel) (by decide +kernel) (XS.iconst W4.here hx rfl (hb hby d1026_21) kk)) ?_
  exact W4.retI hx hEL hs hlk (by decide +kernel) (by decide +kernel) hret (by simp) rfl (hb hby d1026_22) ⟨rfl, rfl⟩
theorem d1027_0 : decode prog_21_method_9_code 0 = .ok (.aload_n 0, 1) := by decide +kernel
theorem d1027_1 : decode prog_21_method_9_code 1 = .ok (.invokevirtual 80, 3) := by decide +kernel
theorem d1027_4 : decode prog_21_method_9_code 4 = .ok (.ifCond .eq 22, 3) := by decide +kernel
theorem d1027_26 : decode prog_21_method_9_code 26 = .ok (.aconst_null, 1) := by decide +kernel
theorem d1027_27 : decode prog_21_method_9_code 27 = .ok (.areturn, 1) := by decide +kernel
theorem ef453 (m : MethodId) (x0 : Addr)  : entryFrame m #[(.ref x0)] 1 = mkF m 0 #[vr x0] [] := by first | (simp [entryFrame, mkF, argsToLocals, Value.category]; done) | rfl | rfl
set_option maxRecDepth 65536 in
set_option maxHeartbeats 40000000 in
theorem rm453 (l : Launch) (Z : State) (a0 : Array Value) (hw : ∀ d ∈ tables_1, d.before a0 Z = true) (hEL : EW Z a0 EL0) (zc : Int32) (SC : Sta Z Z.heap "java/lang/String" "COMPACT_STRINGS" "Z" (.int zc)) (hzc : ¬ zc = 0) (fm : Value) (SF : Sta Z Z.heap "jdk/internal/util/Preconditions" "SIOOBE_FORMATTER" "Ljava/util/function/BiFunction;" fm) (rfm : fm.isRef = true) (a1 : Addr) (x2 : Addr) (cs : List Int32) (h0 : Heap) {n0 : Nat} (O0 : Old Z n0 h0) (E1 : Exa Z h0 a1 "com/example/grantwork/grantwork/resources/Resource") (F1 : Fld Z h0 a1 "com/example/grantwork/grantwork/resources/Resource" "mName" "Ljava/lang/String;" (.ref x2)) (F2 : Fld Z h0 a1 "com/example/grantwork/grantwork/resources/Resource" "mType" "Ljava/lang/String;" (.ref x2)) (S2 : Str Z h0 x2 cs) :
    Met l Z EL0 n0 (⟨"com/example/grantwork/grantwork/resources/Resource", "id", "()Ljava/lang/String;"⟩ : MethodName) prog_21_method_9_code 1 (some (.object "java/lang/String")) [] ({ frames := 3, cells := 0, slots := 0, locals := 38 } : Room) #[(.ref a1)] h0 [] [] (fun v h' => v = some .null ∧ h0 = h') := by
  refine Met.of (plainFor_of_name pn6) O0 ?_
  intro p e s m below meth c T0 hx hby hml hret hlk hnm hs W0
  have W0 : Wk p l e _ s m _ below meth c Z EL0 n0 [] "com/example/grantwork/grantwork/resources/Resource" [] T0 0 0 h0 := W0
  have hSA := fun d hd => hw d (sa_in d hd)
  have hws := fun d hd => hw d (ws_in d hd)
  have hln := fun d hd => hw d (ln_in d hd)
  have hch := fun d hd => hw d (ch_in d hd)
  have heq := fun d hd => hw d (eq_in d hd)
  have hem := fun d hd => hw d (em_in d hd)
  refine Go.of (fun _ kk => castTop (ef453 m a1) kk) ?_
  refine gof T0 m 1 #[vr a1] [(.ref a1)] (fun _ kk => XS.aloadN W0.here hx rfl (hb hby d1027_0) rfl rfl kk) ?_
  refine W0.callV hx hEL (hw _ (mI 160 rfl)) (hw _ (mI 126 rfl)) (hw _ (mI 128 rfl)) (hw _ (mI 127 rfl)) (hw _ (mI 39 rfl)) (hw _ (mI 129 rfl)) (by decide +kernel) E1 (a := a1) (argsL := []) (rest := []) (rm452 l Z a0 hw hEL zc SC hzc fm SF rfm a1 x2 cs h0 W0.old E1 F1 F2 S2) all0 (by decide +kernel) (Wd := 0) (by decide +kernel) (by decide +kernel) (by decide +kernel) all0 rfl (by rw [hml]; rfl) (lenOf pd4 rfl) rfl (by show 2 * 0 + _ ≤ _; exact Nat.le_of_eq rfl) (hb hby d1027_1) (fun T1 h1 v1 W1 K1 q1 => ?_)
  obtain ⟨rfl, rfl⟩ := q1
  refine gof T1 m 27 #[vr a1] [.null] (fun _ kk => XS.ifYes W1.here hx rfl (pc0 := 4) (pc' := 26) rfl (hb hby d1027_4) rfl (XT.i0_eq_t (by decide +kernel)) (by decide +kernel) (by decide +kernel) (XS.aconstNull W1.here hx rfl (hb hby d1027_26) kk)) ?_
  exact W1.retA hx hEL hs hlk (by decide +kernel) (by decide +kernel) hret rfl rfl (hb hby d1027_27) ⟨rfl, rfl⟩
theorem d1026_17 : decode prog_21_method_10_code 17 = .ok (.iconst 1, 1) := by decide +kernel
theorem d1026_18 : decode prog_21_method_10_code 18 = .ok (.goto 4, 3) := by decide +kernel
theorem ef460 (m : MethodId) (x0 : Addr)  : entryFrame m #[(.ref x0)] 1 = mkF m 0 #[vr x0] [] := by first | (simp [entryFrame, mkF, argsToLocals, Value.category]; done) | rfl | rfl
set_option maxRecDepth 65536 in
set_option maxHeartbeats 40000000 in
theorem rm460 (l : Launch) (Z : State) (a0 : Array Value) (hw : ∀ d ∈ tables_1, d.before a0 Z = true) (hEL : EW Z a0 EL0) (zc : Int32) (SC : Sta Z Z.heap "java/lang/String" "COMPACT_STRINGS" "Z" (.int zc)) (hzc : ¬ zc = 0) (fm : Value) (SF : Sta Z Z.heap "jdk/internal/util/Preconditions" "SIOOBE_FORMATTER" "Ljava/util/function/BiFunction;" fm) (rfm : fm.isRef = true) (a1 : Addr) (x2 : Addr) (x3 : Addr) (q1 : Int32) (q2 : Int32) (q3 : Int32) (h0 : Heap) {n0 : Nat} (O0 : Old Z n0 h0) (E1 : Exa Z h0 a1 "com/example/grantwork/grantwork/resources/Resource") (F1 : Fld Z h0 a1 "com/example/grantwork/grantwork/resources/Resource" "mName" "Ljava/lang/String;" (.ref x2)) (F2 : Fld Z h0 a1 "com/example/grantwork/grantwork/resources/Resource" "mType" "Ljava/lang/String;" (.ref x3)) (S2 : Str Z h0 x2 [q1, q2, q3]) (S3 : Str Z h0 x3 [q1]) (cq1 : ¬ q1 < 0 ∧ ¬ (255 : Int32) < q1) (cq2 : ¬ q2 < 0 ∧ ¬ (255 : Int32) < q2) (cq3 : ¬ q3 < 0 ∧ ¬ (255 : Int32) < q3) :
    Met l Z EL0 n0 (⟨"com/example/grantwork/grantwork/resources/Resource", "isRecord", "()Z"⟩ : MethodName) prog_21_method_10_code 1 (some .boolean) [] ({ frames := 2, cells := 0, slots := 0, locals := 26 } : Room) #[(.ref a1)] h0 [] [] (fun v h' => v = some (.int 1) ∧ h0 = h') := by
  refine Met.of (plainFor_of_name pn6) O0 ?_
  intro p e s m below meth c T0 hx hby hml hret hlk hnm hs W0
  have W0 : Wk p l e _ s m _ below meth c Z EL0 n0 [] "com/example/grantwork/grantwork/resources/Resource" [] T0 0 0 h0 := W0
  have hSA := fun d hd => hw d (sa_in d hd)
  have hws := fun d hd => hw d (ws_in d hd)
  have hln := fun d hd => hw d (ln_in d hd)
  have hch := fun d hd => hw d (ch_in d hd)
  have heq := fun d hd => hw d (eq_in d hd)
  have hem := fun d hd => hw d (em_in d hd)
  refine Go.of (fun _ kk => castTop (ef460 m a1) kk) ?_
  refine gof T0 m 1 #[vr a1] [(.ref a1)] (fun _ kk => XS.aloadN W0.here hx rfl (hb hby d1026_0) rfl rfl kk) ?_
  refine W0.getF hx (host := "") (Or.inl (hw _ (mI 115 rfl))) Via.refl F1 rfl rfl (hb hby d1026_1) (fun T1 W1 => ?_)
  show Go p e below _ (T1.setTop (mkF m 4 #[vr a1] [(.ref x2)]))
  refine W1.strLen hx hln (hw _ (mI 6 rfl)) SC hzc S2 (hw _ (mI 108 rfl)) (hw _ (mI 69 rfl)) (hw _ (mI 71 rfl)) (hw _ (mI 70 rfl)) (by decide +kernel) (Wd := 0) (by decide +kernel) (by decide +kernel) (by decide +kernel) rfl (by rw [hml]; rfl) rfl (by show 2 * 0 + _ ≤ _; exact Nat.le_of_eq rfl) (hb hby d1026_4) (fun T2 W2 => ?_)
  show Go p e below _ (T2.setTop (mkF m 7 #[vr a1] [(.int 3)]))
  refine gof T2 m 8 #[vr a1] [(.ref a1), (.int 3)] (fun _ kk => XS.aloadN W2.here hx rfl (hb hby d1026_7) rfl rfl kk) ?_
  refine W2.getF hx (host := "") (Or.inl (hw _ (mI 117 rfl))) Via.refl F2 rfl rfl (hb hby d1026_8) (fun T3 W3 => ?_)
  show Go p e below _ (T3.setTop (mkF m 11 #[vr a1] [(.ref x3), (.int 3)]))
  refine W3.strLen hx hln (hw _ (mI 6 rfl)) SC hzc S3 (hw _ (mI 108 rfl)) (hw _ (mI 69 rfl)) (hw _ (mI 71 rfl)) (hw _ (mI 70 rfl)) (by decide +kernel) (Wd := 1) (by decide +kernel) (by decide +kernel) (by decide +kernel) rfl (by rw [hml]; rfl) rfl (by show 2 * 0 + _ ≤ _; exact Nat.le_of_eq rfl) (hb hby d1026_11) (fun T4 W4 => ?_)
  show Go p e below _ (T4.setTop (mkF m 14 #[vr a1] [(.int 1), (.int 3)]))
  refine gof T4 m 22 #[vr a1] [(.int 1)] (fun _ kk => XS.icmpNo W4.here hx rfl (hb hby d1026_14) rfl (XT.ii_eq_f (by decide +kernel)) (XS.iconst W4.here hx rfl (hb hby d1026_17) (XS.goto W4.here hx rfl (pc0 := 18) (pc' := 22) rfl (hb hby d1026_18) (by decide +kernel) (by decide +kernel) kk))) ?_
  exact W4.retI hx hEL hs hlk (by decide +kernel) (by decide +kernel) hret (by simp) rfl (hb hby d1026_22) ⟨rfl, rfl⟩
theorem d1027_7 : decode prog_21_method_9_code 7 = .ok (.aload_n 0, 1) := by decide +kernel
theorem d1027_8 : decode prog_21_method_9_code 8 = .ok (.getfield 7, 3) := by decide +kernel
theorem d1027_11 : decode prog_21_method_9_code 11 = .ok (.aload_n 0, 1) := by decide +kernel
theorem d1027_12 : decode prog_21_method_9_code 12 = .ok (.getfield 13, 3) := by decide +kernel
theorem d1027_15 : decode prog_21_method_9_code 15 = .ok (.invokevirtual 53, 3) := by decide +kernel
theorem d1027_18 : decode prog_21_method_9_code 18 = .ok (.iconst 1, 1) := by decide +kernel
theorem d1027_19 : decode prog_21_method_9_code 19 = .ok (.iadd, 1) := by decide +kernel
theorem d1027_20 : decode prog_21_method_9_code 20 = .ok (.invokevirtual 83, 3) := by decide +kernel
theorem d1027_23 : decode prog_21_method_9_code 23 = .ok (.goto 4, 3) := by decide +kernel
theorem ef461 (m : MethodId) (x0 : Addr)  : entryFrame m #[(.ref x0)] 1 = mkF m 0 #[vr x0] [] := by first | (simp [entryFrame, mkF, argsToLocals, Value.category]; done) | rfl | rfl
set_option maxRecDepth 65536 in
set_option maxHeartbeats 40000000 in
theorem rm461 (l : Launch) (Z : State) (a0 : Array Value) (hw : ∀ d ∈ tables_1, d.before a0 Z = true) (hEL : EW Z a0 EL0) (zc : Int32) (SC : Sta Z Z.heap "java/lang/String" "COMPACT_STRINGS" "Z" (.int zc)) (hzc : ¬ zc = 0) (fm : Value) (SF : Sta Z Z.heap "jdk/internal/util/Preconditions" "SIOOBE_FORMATTER" "Ljava/util/function/BiFunction;" fm) (rfm : fm.isRef = true) (a1 : Addr) (x2 : Addr) (x3 : Addr) (q1 : Int32) (q2 : Int32) (q3 : Int32) (h0 : Heap) {n0 : Nat} (O0 : Old Z n0 h0) (E1 : Exa Z h0 a1 "com/example/grantwork/grantwork/resources/Resource") (F1 : Fld Z h0 a1 "com/example/grantwork/grantwork/resources/Resource" "mName" "Ljava/lang/String;" (.ref x2)) (F2 : Fld Z h0 a1 "com/example/grantwork/grantwork/resources/Resource" "mType" "Ljava/lang/String;" (.ref x3)) (S2 : Str Z h0 x2 [q1, q2, q3]) (S3 : Str Z h0 x3 [q1]) (cq1 : ¬ q1 < 0 ∧ ¬ (255 : Int32) < q1) (cq2 : ¬ q2 < 0 ∧ ¬ (255 : Int32) < q2) (cq3 : ¬ q3 < 0 ∧ ¬ (255 : Int32) < q3) :
    Met l Z EL0 n0 (⟨"com/example/grantwork/grantwork/resources/Resource", "id", "()Ljava/lang/String;"⟩ : MethodName) prog_21_method_9_code 1 (some (.object "java/lang/String")) [] ({ frames := 6, cells := 2, slots := 5, locals := 93 } : Room) #[(.ref a1)] h0 [] [] (fun v h' => ∃ r : Addr, v = some (.ref r) ∧ h0.size ≤ r ∧ Str Z h' r [q3]) := by
  refine Met.of (plainFor_of_name pn6) O0 ?_
  intro p e s m below meth c T0 hx hby hml hret hlk hnm hs W0
  have W0 : Wk p l e _ s m _ below meth c Z EL0 n0 [] "com/example/grantwork/grantwork/resources/Resource" [] T0 0 0 h0 := W0
  have hSA := fun d hd => hw d (sa_in d hd)
  have hws := fun d hd => hw d (ws_in d hd)
  have hln := fun d hd => hw d (ln_in d hd)
  have hch := fun d hd => hw d (ch_in d hd)
  have heq := fun d hd => hw d (eq_in d hd)
  have hem := fun d hd => hw d (em_in d hd)
  refine Go.of (fun _ kk => castTop (ef461 m a1) kk) ?_
  refine gof T0 m 1 #[vr a1] [(.ref a1)] (fun _ kk => XS.aloadN W0.here hx rfl (hb hby d1027_0) rfl rfl kk) ?_
  refine W0.callV hx hEL (hw _ (mI 160 rfl)) (hw _ (mI 126 rfl)) (hw _ (mI 128 rfl)) (hw _ (mI 127 rfl)) (hw _ (mI 39 rfl)) (hw _ (mI 129 rfl)) (by decide +kernel) E1 (a := a1) (argsL := []) (rest := []) (rm460 l Z a0 hw hEL zc SC hzc fm SF rfm a1 x2 x3 q1 q2 q3 h0 W0.old E1 F1 F2 S2 S3 cq1 cq2 cq3) all0 (by decide +kernel) (Wd := 0) (by decide +kernel) (by decide +kernel) (by decide +kernel) all0 rfl (by rw [hml]; rfl) (lenOf pd4 rfl) rfl (by show 2 * 0 + _ ≤ _; exact Nat.le_of_eq rfl) (hb hby d1027_1) (fun T1 h1 v1 W1 K1 q1 => ?_)
  obtain ⟨rfl, rfl⟩ := q1
  refine gof T1 m 8 #[vr a1] [(.ref a1)] (fun _ kk => XS.ifNo W1.here hx rfl (hb hby d1027_4) rfl (XT.i0_eq_f (by decide +kernel)) (XS.aloadN W1.here hx rfl (hb hby d1027_7) rfl rfl kk)) ?_
  refine W1.getF hx (host := "") (Or.inl (hw _ (mI 115 rfl))) Via.refl F1 rfl rfl (hb hby d1027_8) (fun T2 W2 => ?_)
  refine gof T2 m 12 #[vr a1] [(.ref a1), (.ref x2)] (fun _ kk => XS.aloadN W2.here hx rfl (hb hby d1027_11) rfl rfl kk) ?_
  refine W2.getF hx (host := "") (Or.inl (hw _ (mI 117 rfl))) Via.refl F2 rfl rfl (hb hby d1027_12) (fun T3 W3 => ?_)
  show Go p e below _ (T3.setTop (mkF m 15 #[vr a1] [(.ref x3), (.ref x2)]))
  refine W3.strLen hx hln (hw _ (mI 6 rfl)) SC hzc S3 (hw _ (mI 108 rfl)) (hw _ (mI 69 rfl)) (hw _ (mI 71 rfl)) (hw _ (mI 70 rfl)) (by decide +kernel) (Wd := 1) (by decide +kernel) (by decide +kernel) (by decide +kernel) rfl (by rw [hml]; rfl) rfl (by show 2 * 0 + _ ≤ _; exact Nat.le_of_eq rfl) (hb hby d1027_15) (fun T4 W4 => ?_)
  show Go p e below _ (T4.setTop (mkF m 18 #[vr a1] [(.int 1), (.ref x2)]))
  refine gof T4 m 20 #[vr a1] [(.int 2), (.ref x2)] (fun _ kk => XS.iconst W4.here hx rfl (hb hby d1027_18) (XS.iadd W4.here hx rfl (hb hby d1027_19) rfl kk)) ?_
  have k6 := S2.exa
  refine W4.callV hx hEL (hw _ (mI 194 rfl)) (hw _ (mI 195 rfl)) (hw _ (mI 197 rfl)) (hw _ (mI 196 rfl)) (hw _ (mI 7 rfl)) (hw _ (mI 198 rfl)) (by decide +kernel) k6 (a := x2) (argsL := [(.int (2 : Int32))]) (rest := []) (rm334 l Z a0 hw hEL zc SC hzc fm SF rfm x2 q1 q2 q3 h0 W4.old S2 cq1 cq2 cq3) all0 (by decide +kernel) (Wd := 0) (by decide +kernel) (by decide +kernel) (by decide +kernel) all0 rfl (by rw [hml]; rfl) (lenOf pd15 rfl) rfl (by show 2 * 0 + _ ≤ _; exact Nat.le_of_eq rfl) (hb hby d1027_20) (fun T5 h5 v5 W5 K5 q5 => ?_)
  obtain ⟨r5, rfl, lr5, S5⟩ := q5
  have gr5 : n0 ≤ r5 ∧ s.heap.size ≤ r5 := ⟨Nat.le_trans W4.n0le lr5, Nat.le_trans W4.s0le lr5⟩
  have E5 := S5.exa
  refine gof T5 m 27 #[vr a1] [(.ref r5)] (fun _ kk => XS.goto W5.here hx rfl (pc0 := 23) (pc' := 27) rfl (hb hby d1027_23) (by decide +kernel) (by decide +kernel) kk) ?_
  exact W5.retA hx hEL hs hlk (by decide +kernel) (by decide +kernel) hret rfl rfl (hb hby d1027_27) ⟨r5, rfl, hs ▸ gr5.2, S5⟩
theorem ef462 (m : MethodId) (x0 : Addr)  : entryFrame m #[(.ref x0)] 1 = mkF m 0 #[vr x0] [] := by first | (simp [entryFrame, mkF, argsToLocals, Value.category]; done) | rfl | rfl
set_option maxRecDepth 65536 in
set_option maxHeartbeats 40000000 in
theorem rm462 (l : Launch) (Z : State) (a0 : Array Value) (hw : ∀ d ∈ tables_1, d.before a0 Z = true) (hEL : EW Z a0 EL0) (zc : Int32) (SC : Sta Z Z.heap "java/lang/String" "COMPACT_STRINGS" "Z" (.int zc)) (hzc : ¬ zc = 0) (fm : Value) (SF : Sta Z Z.heap "jdk/internal/util/Preconditions" "SIOOBE_FORMATTER" "Ljava/util/function/BiFunction;" fm) (rfm : fm.isRef = true) (a1 : Addr) (x2 : Addr) (x3 : Addr) (q1 : Int32) (q2 : Int32) (q3 : Int32) (q4 : Int32) (h0 : Heap) {n0 : Nat} (O0 : Old Z n0 h0) (E1 : Exa Z h0 a1 "com/example/grantwork/grantwork/resources/Resource") (F1 : Fld Z h0 a1 "com/example/grantwork/grantwork/resources/Resource" "mName" "Ljava/lang/String;" (.ref x2)) (F2 : Fld Z h0 a1 "com/example/grantwork/grantwork/resources/Resource" "mType" "Ljava/lang/String;" (.ref x3)) (S2 : Str Z h0 x2 [q1, q2, q3, q4]) (S3 : Str Z h0 x3 [q1]) (cq1 : ¬ q1 < 0 ∧ ¬ (255 : Int32) < q1) (cq2 : ¬ q2 < 0 ∧ ¬ (255 : Int32) < q2) (cq3 : ¬ q3 < 0 ∧ ¬ (255 : Int32) < q3) (cq4 : ¬ q4 < 0 ∧ ¬ (255 : Int32) < q4) :
    Met l Z EL0 n0 (⟨"com/example/grantwork/grantwork/resources/Resource", "isRecord", "()Z"⟩ : MethodName) prog_21_method_10_code 1 (some .boolean) [] ({ frames := 2, cells := 0, slots := 0, locals := 26 } : Room) #[(.ref a1)] h0 [] [] (fun v h' => v = some (.int 1) ∧ h0 = h') := by
  refine Met.of (plainFor_of_name pn6) O0 ?_
  intro p e s m below meth c T0 hx hby hml hret hlk hnm hs W0
  have W0 : Wk p l e _ s m _ below meth c Z EL0 n0 [] "com/example/grantwork/grantwork/resources/Resource" [] T0 0 0 h0 := W0
  have hSA := fun d hd => hw d (sa_in d hd)
  have hws := fun d hd => hw d (ws_in d hd)
  have hln := fun d hd => hw d (ln_in d hd)
  have hch := fun d hd => hw d (ch_in d hd)
  have heq := fun d hd => hw d (eq_in d hd)
  have hem := fun d hd => hw d (em_in d hd)
  refine Go.of (fun _ kk => castTop (ef462 m a1) kk) ?_
  refine gof T0 m 1 #[vr a1] [(.ref a1)] (fun _ kk => XS.aloadN W0.here hx rfl (hb hby d1026_0) rfl rfl kk) ?_
  refine W0.getF hx (host := "") (Or.inl (hw _ (mI 115 rfl))) Via.refl F1 rfl rfl (hb hby d1026_1) (fun T1 W1 => ?_)
  show Go p e below _ (T1.setTop (mkF m 4 #[vr a1] [(.ref x2)]))
  refine W1.strLen hx hln (hw _ (mI 6 rfl)) SC hzc S2 (hw _ (mI 108 rfl)) (hw _ (mI 69 rfl)) (hw _ (mI 71 rfl)) (hw _ (mI 70 rfl)) (by decide +kernel) (Wd := 0) (by decide +kernel) (by decide +kernel) (by decide +kernel) rfl (by rw [hml]; rfl) rfl (by show 2 * 0 + _ ≤ _; exact Nat.le_of_eq rfl) (hb hby d1026_4) (fun T2 W2 => ?_)
  show Go p e below _ (T2.setTop (mkF m 7 #[vr a1] [(.int 4)]))
  refine gof T2 m 8 #[vr a1] [(.ref a1), (.int 4)] (fun _ kk => XS.aloadN W2.here hx rfl (hb hby d1026_7) rfl rfl kk) ?_
  refine W2.getF hx (host := "") (Or.inl (hw _ (mI 117 rfl))) Via.refl F2 rfl rfl (hb hby d1026_8) (fun T3 W3 => ?_)
  show Go p e below _ (T3.setTop (mkF m 11 #[vr a1] [(.ref x3), (.int 4)]))
  refine W3.strLen hx hln (hw _ (mI 6 rfl)) SC hzc S3 (hw _ (mI 108 rfl)) (hw _ (mI 69 rfl)) (hw _ (mI 71 rfl)) (hw _ (mI 70 rfl)) (by decide +kernel) (Wd := 1) (by decide +kernel) (by decide +kernel) (by decide +kernel) rfl (by rw [hml]; rfl) rfl (by show 2 * 0 + _ ≤ _; exact Nat.le_of_eq rfl) (hb hby d1026_11) (fun T4 W4 => ?_)
  show Go p e below _ (T4.setTop (mkF m 14 #[vr a1] [(.int 1), (.int 4)]))
  refine gof T4 m 22 #[vr a1] [(.int 1)] (fun _ kk => XS.icmpNo W4.here hx rfl (hb hby d1026_14) rfl (XT.ii_eq_f (by decide +kernel)) (XS.iconst W4.here hx rfl (hb hby d1026_17) (XS.goto W4.here hx rfl (pc0 := 18) (pc' := 22) rfl (hb hby d1026_18) (by decide +kernel) (by decide +kernel) kk))) ?_
  exact W4.retI hx hEL hs hlk (by decide +kernel) (by decide +kernel) hret (by simp) rfl (hb hby d1026_22) ⟨rfl, rfl⟩
theorem ef463 (m : MethodId) (x0 : Addr)  : entryFrame m #[(.ref x0)] 1 = mkF m 0 #[vr x0] [] := by first | (simp [entryFrame, mkF, argsToLocals, Value.category]; done) | rfl | rfl
set_option maxRecDepth 65536 in
set_option maxHeartbeats 40000000 in
theorem rm463 (l : Launch) (Z : State) (a0 : Array Value) (hw : ∀ d ∈ tables_1, d.before a0 Z = true) (hEL : EW Z a0 EL0) (zc : Int32) (SC : Sta Z Z.heap "java/lang/String" "COMPACT_STRINGS" "Z" (.int zc)) (hzc : ¬ zc = 0) (fm : Value) (SF : Sta Z Z.heap "jdk/internal/util/Preconditions" "SIOOBE_FORMATTER" "Ljava/util/function/BiFunction;" fm) (rfm : fm.isRef = true) (a1 : Addr) (x2 : Addr) (x3 : Addr) (q1 : Int32) (q2 : Int32) (q3 : Int32) (q4 : Int32) (h0 : Heap) {n0 : Nat} (O0 : Old Z n0 h0) (E1 : Exa Z h0 a1 "com/example/grantwork/grantwork/resources/Resource") (F1 : Fld Z h0 a1 "com/example/grantwork/grantwork/resources/Resource" "mName" "Ljava/lang/String;" (.ref x2)) (F2 : Fld Z h0 a1 "com/example/grantwork/grantwork/resources/Resource" "mType" "Ljava/lang/String;" (.ref x3)) (S2 : Str Z h0 x2 [q1, q2, q3, q4]) (S3 : Str Z h0 x3 [q1]) (cq1 : ¬ q1 < 0 ∧ ¬ (255 : Int32) < q1) (cq2 : ¬ q2 < 0 ∧ ¬ (255 : Int32) < q2) (cq3 : ¬ q3 < 0 ∧ ¬ (255 : Int32) < q3) (cq4 : ¬ q4 < 0 ∧ ¬ (255 : Int32) < q4) :
    Met l Z EL0 n0 (⟨"com/example/grantwork/grantwork/resources/Resource", "id", "()Ljava/lang/String;"⟩ : MethodName) prog_21_method_9_code 1 (some (.object "java/lang/String")) [] ({ frames := 6, cells := 2, slots := 6, locals := 93 } : Room) #[(.ref a1)] h0 [] [] (fun v h' => ∃ r : Addr, v = some (.ref r) ∧ h0.size ≤ r ∧ Str Z h' r [q3, q4]) := by
  refine Met.of (plainFor_of_name pn6) O0 ?_
  intro p e s m below meth c T0 hx hby hml hret hlk hnm hs W0
  have W0 : Wk p l e _ s m _ below meth c Z EL0 n0 [] "com/example/grantwork/grantwork/resources/Resource" [] T0 0 0 h0 := W0
  have hSA := fun d hd => hw d (sa_in d hd)
  have hws := fun d hd => hw d (ws_in d hd)
  have hln := fun d hd => hw d (ln_in d hd)
  have hch := fun d hd => hw d (ch_in d hd)
  have heq := fun d hd => hw d (eq_in d hd)
  have hem := fun d hd => hw d (em_in d hd)
  refine Go.of (fun _ kk => castTop (ef463 m a1) kk) ?_
  refine gof T0 m 1 #[vr a1] [(.ref a1)] (fun _ kk => XS.aloadN W0.here hx rfl (hb hby d1027_0) rfl rfl kk) ?_
  refine W0.callV hx hEL (hw _ (mI 160 rfl)) (hw _ (mI 126 rfl)) (hw _ (mI 128 rfl)) (hw _ (mI 127 rfl)) (hw _ (mI 39 rfl)) (hw _ (mI 129 rfl)) (by decide +kernel) E1 (a := a1) (argsL := []) (rest := []) (rm462 l Z a0 hw hEL zc SC hzc fm SF rfm a1 x2 x3 q1 q2 q3 q4 h0 W0.old E1 F1 F2 S2 S3 cq1 cq2 cq3 cq4) all0 (by decide +kernel) (Wd := 0) (by decide +kernel) (by decide +kernel) (by decide +kernel) all0 rfl (by rw [hml]; rfl) (lenOf pd4 rfl) rfl (by show 2 * 0 + _ ≤ _; exact Nat.le_of_eq rfl) (hb hby d1027_1) (fun T1 h1 v1 W1 K1 q1 => ?_)
  obtain ⟨rfl, rfl⟩ := q1
  refine gof T1 m 8 #[vr a1] [(.ref a1)] (fun _ kk => XS.ifNo W1.here hx rfl (hb hby d1027_4) rfl (XT.i0_eq_f (by decide +kernel)) (XS.aloadN W1.here hx rfl (hb hby d1027_7) rfl rfl kk)) ?_
  refine W1.getF hx (host := "") (Or.inl (hw _ (mI 115 rfl))) Via.refl F1 rfl rfl (hb hby d1027_8) (fun T2 W2 => ?_)
  refine gof T2 m 12 #[vr a1] [(.ref a1), (.ref x2)] (fun _ kk => XS.aloadN W2.here hx rfl (hb hby d1027_11) rfl rfl kk) ?_
  refine W2.getF hx (host := "") (Or.inl (hw _ (mI 117 rfl))) Via.refl F2 rfl rfl (hb hby d1027_12) (fun T3 W3 => ?_)
  show Go p e below _ (T3.setTop (mkF m 15 #[vr a1] [(.ref x3), (.ref x2)]))
  refine W3.strLen hx hln (hw _ (mI 6 rfl)) SC hzc S3 (hw _ (mI 108 rfl)) (hw _ (mI 69 rfl)) (hw _ (mI 71 rfl)) (hw _ (mI 70 rfl)) (by decide +kernel) (Wd := 1) (by decide +kernel) (by decide +kernel) (by decide +kernel) rfl (by rw [hml]; rfl) rfl (by show 2 * 0 + _ ≤ _; exact Nat.le_of_eq rfl) (hb hby d1027_15) (fun T4 W4 => ?_)
  show Go p e below _ (T4.setTop (mkF m 18 #[vr a1] [(.int 1), (.ref x2)]))
  refine gof T4 m 20 #[vr a1] [(.int 2), (.ref x2)] (fun _ kk => XS.iconst W4.here hx rfl (hb hby d1027_18) (XS.iadd W4.here hx rfl (hb hby d1027_19) rfl kk)) ?_
  have k6 := S2.exa
  refine W4.callV hx hEL (hw _ (mI 194 rfl)) (hw _ (mI 195 rfl)) (hw _ (mI 197 rfl)) (hw _ (mI 196 rfl)) (hw _ (mI 7 rfl)) (hw _ (mI 198 rfl)) (by decide +kernel) k6 (a := x2) (argsL := [(.int (2 : Int32))]) (rest := []) (rm344 l Z a0 hw hEL zc SC hzc fm SF rfm x2 q1 q2 q3 q4 h0 W4.old S2 cq1 cq2 cq3 cq4) all0 (by decide +kernel) (Wd := 0) (by decide +kernel) (by decide +kernel) (by decide +kernel) all0 rfl (by rw [hml]; rfl) (lenOf pd15 rfl) rfl (by show 2 * 0 + _ ≤ _; exact Nat.le_of_eq rfl) (hb hby d1027_20) (fun T5 h5 v5 W5 K5 q5 => ?_)
  obtain ⟨r5, rfl, lr5, S5⟩ := q5
  have gr5 : n0 ≤ r5 ∧ s.heap.size ≤ r5 := ⟨Nat.le_trans W4.n0le lr5, Nat.le_trans W4.s0le lr5⟩
  have E5 := S5.exa
  refine gof T5 m 27 #[vr a1] [(.ref r5)] (fun _ kk => XS.goto W5.here hx rfl (pc0 := 23) (pc' := 27) rfl (hb hby d1027_23) (by decide +kernel) (by decide +kernel) kk) ?_
  exact W5.retA hx hEL hs hlk (by decide +kernel) (by decide +kernel) hret rfl rfl (hb hby d1027_27) ⟨r5, rfl, hs ▸ gr5.2, S5⟩
theorem ef464 (m : MethodId) (x0 : Addr)  : entryFrame m #[(.ref x0)] 1 = mkF m 0 #[vr x0] [] := by first | (simp [entryFrame, mkF, argsToLocals, Value.category]; done) | rfl | rfl
set_option maxRecDepth 65536 in
set_option maxHeartbeats 40000000 in
theorem rm464 (l : Launch) (Z : State) (a0 : Array Value) (hw : ∀ d ∈ tables_1, d.before a0 Z = true) (hEL : EW Z a0 EL0) (zc : Int32) (SC : Sta Z Z.heap "java/lang/String" "COMPACT_STRINGS" "Z" (.int zc)) (hzc : ¬ zc = 0) (fm : Value) (SF : Sta Z Z.heap "jdk/internal/util/Preconditions" "SIOOBE_FORMATTER" "Ljava/util/function/BiFunction;" fm) (rfm : fm.isRef = true) (a1 : Addr) (x2 : Addr) (x3 : Addr) (q1 : Int32) (q2 : Int32) (q3 : Int32) (q4 : Int32) (h0 : Heap) {n0 : Nat} (O0 : Old Z n0 h0) (E1 : Exa Z h0 a1 "com/example/grantwork/grantwork/resources/Resource") (F1 : Fld Z h0 a1 "com/example/grantwork/grantwork/resources/Resource" "mName" "Ljava/lang/String;" (.ref x2)) (F2 : Fld Z h0 a1 "com/example/grantwork/grantwork/resources/Resource" "mType" "Ljava/lang/String;" (.ref x3)) (S2 : Str Z h0 x2 [q1, q2, q3, q4]) (S3 : Str Z h0 x3 [q1, q2]) (cq1 : ¬ q1 < 0 ∧ ¬ (255 : Int32) < q1) (cq2 : ¬ q2 < 0 ∧ ¬ (255 : Int32) < q2) (cq3 : ¬ q3 < 0 ∧ ¬ (255 : Int32) < q3) (cq4 : ¬ q4 < 0 ∧ ¬ (255 : Int32) < q4) :
    Met l Z EL0 n0 (⟨"com/example/grantwork/grantwork/resources/Resource", "isRecord", "()Z"⟩ : MethodName) prog_21_method_10_code 1 (some .boolean) [] ({ frames := 2, cells := 0, slots := 0, locals := 26 } : Room) #[(.ref a1)] h0 [] [] (fun v h' => v = some (.int 1) ∧ h0 = h') := by
  refine Met.of (plainFor_of_name pn6) O0 ?_
  intro p e s m below meth c T0 hx hby hml hret hlk hnm hs W0
  have W0 : Wk p l e _ s m _ below meth c Z EL0 n0 [] "com/example/grantwork/grantwork/resources/Resource" [] T0 0 0 h0 := W0
  have hSA := fun d hd => hw d (sa_in d hd)
  have hws := fun d hd => hw d (ws_in d hd)
  have hln := fun d hd => hw d (ln_in d hd)
  have hch := fun d hd => hw d (ch_in d hd)
  have heq := fun d hd => hw d (eq_in d hd)
  have hem := fun d hd => hw d (em_in d hd)
  refine Go.of (fun _ kk => castTop (ef464 m a1) kk) ?_
  refine gof T0 m 1 #[vr a1] [(.ref a1)] (fun _ kk => XS.aloadN W0.here hx rfl (hb hby d1026_0) rfl rfl kk) ?_
  refine W0.getF hx (host := "") (Or.inl (hw _ (mI 115 rfl))) Via.refl F1 rfl rfl (hb hby d1026_1) (fun T1 W1 => ?_)
  show Go p e below _ (T1.setTop (mkF m 4 #[vr a1] [(.ref x2)]))
  refine W1.strLen hx hln (hw _ (mI 6 rfl)) SC hzc S2 (hw _ (mI 108 rfl)) (hw _ (mI 69 rfl)) (hw _ (mI 71 rfl)) (hw _ (mI 70 rfl)) (by decide +kernel) (Wd := 0) (by decide +kernel) (by decide +kernel) (by decide +kernel) rfl (by rw [hml]; rfl) rfl (by show 2 * 0 + _ ≤ _; exact Nat.le_of_eq rfl) (hb hby d1026_4) (fun T2 W2 => ?_)
  show Go p e below _ (T2.setTop (mkF m 7 #[vr a1] [(.int 4)]))
  refine gof T2 m 8 #[vr a1] [(.ref a1), (.int 4)] (fun _ kk => XS.aloadN W2.here hx rfl (hb hby d1026_7) rfl rfl kk) ?_
  refine W2.getF hx (host := "") (Or.inl (hw _ (mI 117 rfl))) Via.refl F2 rfl rfl (hb hby d1026_8) (fun T3 W3 => ?_)
  show Go p e below _ (T3.setTop (mkF m 11 #[vr a1] [(.ref x3), (.int 4)]))
  refine W3.strLen hx hln (hw _ (mI 6 rfl)) SC hzc S3 (hw _ (mI 108 rfl)) (hw _ (mI 69 rfl)) (hw _ (mI 71 rfl)) (hw _ (mI 70 rfl)) (by decide +kernel) (Wd := 1) (by decide +kernel) (by decide +kernel) (by decide +kernel) rfl (by rw [hml]; rfl) rfl (by show 2 * 0 + _ ≤ _; exact Nat.le_of_eq rfl) (hb hby d1026_11) (fun T4 W4 => ?_)
  show Go p e below _ (T4.setTop (mkF m 14 #[vr a1] [(.int 2), (.int 4)]))
  refine gof T4 m 22 #[vr a1] [(.int 1)] (fun _ kk => XS.icmpNo W4.here hx rfl (hb hby d1026_14) rfl (XT.ii_eq_f (by decide +kernel)) (XS.iconst W4.here hx rfl (hb hby d1026_17) (XS.goto W4.here hx rfl (pc0 := 18) (pc' := 22) rfl (hb hby d1026_18) (by decide +kernel) (by decide +kernel) kk))) ?_
  exact W4.retI hx hEL hs hlk (by decide +kernel) (by decide +kernel) hret (by simp) rfl (hb hby d1026_22) ⟨rfl, rfl⟩
theorem ef465 (m : MethodId) (x0 : Addr)  : entryFrame m #[(.ref x0)] 1 = mkF m 0 #[vr x0] [] := by first | (simp [entryFrame, mkF, argsToLocals, Value.category]; done) | rfl | rfl
set_option maxRecDepth 65536 in
set_option maxHeartbeats 40000000 in
theorem rm465 (l : Launch) (Z : State) (a0 : Array Value) (hw : ∀ d ∈ tables_1, d.before a0 Z = true) (hEL : EW Z a0 EL0) (zc : Int32) (SC : Sta Z Z.heap "java/lang/String" "COMPACT_STRINGS" "Z" (.int zc)) (hzc : ¬ zc = 0) (fm : Value) (SF : Sta Z Z.heap "jdk/internal/util/Preconditions" "SIOOBE_FORMATTER" "Ljava/util/function/BiFunction;" fm) (rfm : fm.isRef = true) (a1 : Addr) (x2 : Addr) (x3 : Addr) (q1 : Int32) (q2 : Int32) (q3 : Int32) (q4 : Int32) (h0 : Heap) {n0 : Nat} (O0 : Old Z n0 h0) (E1 : Exa Z h0 a1 "com/example/grantwork/grantwork/resources/Resource") (F1 : Fld Z h0 a1 "com/example/grantwork/grantwork/resources/Resource" "mName" "Ljava/lang/String;" (.ref x2)) (F2 : Fld Z h0 a1 "com/example/grantwork/grantwork/resources/Resource" "mType" "Ljava/lang/String;" (.ref x3)) (S2 : Str Z h0 x2 [q1, q2, q3, q4]) (S3 : Str Z h0 x3 [q1, q2]) (cq1 : ¬ q1 < 0 ∧ ¬ (255 : Int32) < q1) (cq2 : ¬ q2 < 0 ∧ ¬ (255 : Int32) < q2) (cq3 : ¬ q3 < 0 ∧ ¬ (255 : Int32) < q3) (cq4 : ¬ q4 < 0 ∧ ¬ (255 : Int32) < q4) :
    Met l Z EL0 n0 (⟨"com/example/grantwork/grantwork/resources/Resource", "id", "()Ljava/lang/String;"⟩ : MethodName) prog_21_method_9_code 1 (some (.object "java/lang/String")) [] ({ frames := 6, cells := 2, slots := 5, locals := 93 } : Room) #[(.ref a1)] h0 [] [] (fun v h' => ∃ r : Addr, v = some (.ref r) ∧ h0.size ≤ r ∧ Str Z h' r [q4]) := by
  refine Met.of (plainFor_of_name pn6) O0 ?_
  intro p e s m below meth c T0 hx hby hml hret hlk hnm hs W0
  have W0 : Wk p l e _ s m _ below meth c Z EL0 n0 [] "com/example/grantwork/grantwork/resources/Resource" [] T0 0 0 h0 := W0
  have hSA := fun d hd => hw d (sa_in d hd)
  have hws := fun d hd => hw d (ws_in d hd)
  have hln := fun d hd => hw d (ln_in d hd)
  have hch := fun d hd => hw d (ch_in d hd)
  have heq := fun d hd => hw d (eq_in d hd)
  have hem := fun d hd => hw d (em_in d hd)
  refine Go.of (fun _ kk => castTop (ef465 m a1) kk) ?_
  refine gof T0 m 1 #[vr a1] [(.ref a1)] (fun _ kk => XS.aloadN W0.here hx rfl (hb hby d1027_0) rfl rfl kk) ?_
  refine W0.callV hx hEL (hw _ (mI 160 rfl)) (hw _ (mI 126 rfl)) (hw _ (mI 128 rfl)) (hw _ (mI 127 rfl)) (hw _ (mI 39 rfl)) (hw _ (mI 129 rfl)) (by decide +kernel) E1 (a := a1) (argsL := []) (rest := []) (rm464 l Z a0 hw hEL zc SC hzc fm SF rfm a1 x2 x3 q1 q2 q3 q4 h0 W0.old E1 F1 F2 S2 S3 cq1 cq2 cq3 cq4) all0 (by decide +kernel) (Wd := 0) (by decide +kernel) (by decide +kernel) (by decide +kernel) all0 rfl (by rw [hml]; rfl) (lenOf pd4 rfl) rfl (by show 2 * 0 + _ ≤ _; exact Nat.le_of_eq rfl) (hb hby d1027_1) (fun T1 h1 v1 W1 K1 q1 => ?_)
  obtain ⟨rfl, rfl⟩ := q1
  refine gof T1 m 8 #[vr a1] [(.ref a1)] (fun _ kk => XS.ifNo W1.here hx rfl (hb hby d1027_4) rfl (XT.i0_eq_f (by decide +kernel)) (XS.aloadN W1.here hx rfl (hb hby d1027_7) rfl rfl kk)) ?_
  refine W1.getF hx (host := "") (Or.inl (hw _ (mI 115 rfl))) Via.refl F1 rfl rfl (hb hby d1027_8) (fun T2 W2 => ?_)
  refine gof T2 m 12 #[vr a1] [(.ref a1), (.ref x2)] (fun _ kk => XS.aloadN W2.here hx rfl (hb hby d1027_11) rfl rfl kk) ?_
  refine W2.getF hx (host := "") (Or.inl (hw _ (mI 117 rfl))) Via.refl F2 rfl rfl (hb hby d1027_12) (fun T3 W3 => ?_)
  show Go p e below _ (T3.setTop (mkF m 15 #[vr a1] [(.ref x3), (.ref x2)]))
  refine W3.strLen hx hln (hw _ (mI 6 rfl)) SC hzc S3 (hw _ (mI 108 rfl)) (hw _ (mI 69 rfl)) (hw _ (mI 71 rfl)) (hw _ (mI 70 rfl)) (by decide +kernel) (Wd := 1) (by decide +kernel) (by decide +kernel) (by decide +kernel) rfl (by rw [hml]; rfl) rfl (by show 2 * 0 + _ ≤ _; exact Nat.le_of_eq rfl) (hb hby d1027_15) (fun T4 W4 => ?_)
  show Go p e below _ (T4.setTop (mkF m 18 #[vr a1] [(.int 2), (.ref x2)]))
  refine gof T4 m 20 #[vr a1] [(.int 3), (.ref x2)] (fun _ kk => XS.iconst W4.here hx rfl (hb hby d1027_18) (XS.iadd W4.here hx rfl (hb hby d1027_19) rfl kk)) ?_
  have k6 := S2.exa
  refine W4.callV hx hEL (hw _ (mI 194 rfl)) (hw _ (mI 195 rfl)) (hw _ (mI 197 rfl)) (hw _ (mI 196 rfl)) (hw _ (mI 7 rfl)) (hw _ (mI 198 rfl)) (by decide +kernel) k6 (a := x2) (argsL := [(.int (3 : Int32))]) (rest := []) (rm354 l Z a0 hw hEL zc SC hzc fm SF rfm x2 q1 q2 q3 q4 h0 W4.old S2 cq1 cq2 cq3 cq4) all0 (by decide +kernel) (Wd := 0) (by decide +kernel) (by decide +kernel) (by decide +kernel) all0 rfl (by rw [hml]; rfl) (lenOf pd15 rfl) rfl (by show 2 * 0 + _ ≤ _; exact Nat.le_of_eq rfl) (hb hby d1027_20) (fun T5 h5 v5 W5 K5 q5 => ?_)
  obtain ⟨r5, rfl, lr5, S5⟩ := q5
  have gr5 : n0 ≤ r5 ∧ s.heap.size ≤ r5 := ⟨Nat.le_trans W4.n0le lr5, Nat.le_trans W4.s0le lr5⟩
  have E5 := S5.exa
  refine gof T5 m 27 #[vr a1] [(.ref r5)] (fun _ kk => XS.goto W5.here hx rfl (pc0 := 23) (pc' := 27) rfl (hb hby d1027_23) (by decide +kernel) (by decide +kernel) kk) ?_
  exact W5.retA hx hEL hs hlk (by decide +kernel) (by decide +kernel) hret rfl rfl (hb hby d1027_27) ⟨r5, rfl, hs ▸ gr5.2, S5⟩
theorem ef0 (m : MethodId) (x0 : Int32) (x1 : Int32) (x2 : Int32) (x3 : Int32) (x4 : Int32)  : entryFrame m #[(.int x0), (.int x1), (.int x2), (.int x3), (.int x4)] maxLocals = mkF m 0 #[vi x0, vi x1, vi x2, vi x3, vi x4, U0, U0, U0, U0, U0, U0, U0, U0, U0] [] := by first | (simp [entryFrame, mkF, argsToLocals, Value.category, maxLocals]; done) | rfl | rfl
set_option maxRecDepth 65536 in
set_option maxHeartbeats 40000000 in
theorem rm0 (l : Launch) (Z : State) (a0 : Array Value) (hw : ∀ d ∈ tables_1, d.before a0 Z = true) (hEL : EW Z a0 EL0) (zc : Int32) (SC : Sta Z Z.heap "java/lang/String" "COMPACT_STRINGS" "Z" (.int zc)) (hzc : ¬ zc = 0) (fm : Value) (SF : Sta Z Z.heap "jdk/internal/util/Preconditions" "SIOOBE_FORMATTER" "Ljava/util/function/BiFunction;" fm) (rfm : fm.isRef = true) (i0 : Int32) (i1 : Int32) (i2 : Int32) (i3 : Int32) (i4 : Int32) (h0 : Heap) {n0 : Nat} (O0 : Old Z n0 h0)  :
    Met l Z EL0 n0 x code maxLocals ret tables_1 room_1 #[(.int i0), (.int i1), (.int i2), (.int i3), (.int i4)] h0 [] [] (fun v h' => v = some (.int 1)) := by
  refine Met.of (plainFor_of_name pn5) O0 ?_
  intro p e s m below meth c T0 hx hby hml hret hlk hnm hs W0
  have W0 : Wk p l e _ s m _ below meth c Z EL0 n0 [] "com/example/grantwork/grantwork/resources/ResourceParsePinLaw" [] T0 0 0 h0 := W0
  have hSA := fun d hd => hw d (sa_in d hd)
  have hws := fun d hd => hw d (ws_in d hd)
  have hln := fun d hd => hw d (ln_in d hd)
  have hch := fun d hd => hw d (ch_in d hd)
  have heq := fun d hd => hw d (eq_in d hd)
  have hem := fun d hd => hw d (em_in d hd)
  refine Go.of (fun _ kk => castTop (ef0 m i0 i1 i2 i3 i4) kk) ?_
  refine gof T0 m 4 #[vi i0, vi i1, vi i2, vi i3, vi i4, U0, U0, U0, U0, U0, U0, U0, U0, U0] [(.int (i4 &&& (3 : Int32)))] (fun _ kk => XS.iload W0.here hx rfl (hb hby at_0) rfl (XS.iconst W0.here hx rfl (hb hby at_2) (XS.iand W0.here hx rfl (hb hby at_3) rfl kk))) ?_
  rcases and3 i4 with z1 | z1 | z1 | z1
  · rw [z1]
    refine gof T0 m 9 #[vi i0, vi i1, vi i2, vi i3, vi i4, vi 1, U0, U0, U0, U0, U0, U0, U0, U0] [(.int 4)] (fun _ kk => XS.iconst W0.here hx rfl (hb hby at_4) (XS.iadd W0.here hx rfl (hb hby at_5) rfl (XS.istore W0.here hx rfl (hb hby at_6) rfl (l' := #[vi i0, vi i1, vi i2, vi i3, vi i4, vi 1, U0, U0, U0, U0, U0, U0, U0, U0]) rfl (XS.iconst W0.here hx rfl (hb hby at_8) kk)))) ?_
    refine W0.newP hx (hw _ (mI 0 rfl)) rfl (hb hby at_9) rfl (by decide +kernel) (cap := 4) (by decide +kernel) (by decide +kernel) (by decide +kernel) (by decide +kernel) (fun T2 h2 b2 c2 eb2 gb2 W2 K2 A2 => ?_)
    have V2 : Arv Z h2 b2 c2 .char (4 : Int32) [(.int (0 : Int32)), (.int (0 : Int32)), (.int (0 : Int32)), (.int (0 : Int32))] (.int (0 : Int32)) := A2
    refine gof T2 m 17 #[vi i0, vi i1, vi i2, vi i3, vi i4, vi 1, vr b2, U0, U0, U0, U0, U0, U0, U0] [(.int i0), (.int 0), (.ref b2)] (fun _ kk => XS.astore W2.here hx rfl (hb hby at_11) rfl rfl (l' := #[vi i0, vi i1, vi i2, vi i3, vi i4, vi 1, vr b2, U0, U0, U0, U0, U0, U0, U0]) rfl (XS.aload W2.here hx rfl (hb hby at_13) rfl rfl (XS.iconst W2.here hx rfl (hb hby at_15) (XS.iloadN W2.here hx rfl (hb hby at_16) rfl kk)))) ?_
    refine W2.callS hx hEL (hw _ (mI 1 rfl)) (hw _ (mI 2 rfl)) (hw _ (mI 3 rfl)) (hw _ (mI 4 rfl)) (by decide +kernel) (argsL := [(.int i0)]) (rest := [(.int (0 : Int32)), (.ref b2)]) (rm1 l Z a0 hw hEL zc SC hzc fm SF rfm i0 h2 W2.old ) all0 (by decide +kernel) (Wd := 2) (by decide +kernel) (by decide +kernel) (by decide +kernel) all0 rfl (by rw [hml]; rfl) (lenOf pd16 rfl) rfl (by show 2 * 0 + _ ≤ _; exact Nat.le_of_eq rfl) (hb hby at_17) (fun T3 h3 v3 W3 K3 q3 => ?_)
    obtain ⟨q3, rfl, cq3, rfl⟩ := q3
    show Go p e below _ (T3.setTop (mkF m 20 #[vi i0, vi i1, vi i2, vi i3, vi i4, vi 1, vr b2, U0, U0, U0, U0, U0, U0, U0] [(.int q3), (.int 0), (.ref b2)]))
    refine W3.stC hx V2 ⟨by decide, by decide⟩ 0 rfl (Nat.le_of_ble_eq_true rfl) gb2.1 (Or.inr gb2.2) rfl rfl (hb hby at_20) (fun T4 h4 W4 K4 A4 => ?_)
    have V4 : Arv Z h4 b2 c2 .char (4 : Int32) [(.int q3), (.int (0 : Int32)), (.int (0 : Int32)), (.int (0 : Int32))] (.int (0 : Int32)) := (by rw [(nar_char cq3)] at A4; exact A4)
    refine gof T4 m 25 #[vi i0, vi i1, vi i2, vi i3, vi i4, vi 1, vr b2, U0, U0, U0, U0, U0, U0, U0] [(.int i1), (.int 1), (.ref b2)] (fun _ kk => XS.aload W4.here hx rfl (hb hby at_21) rfl rfl (XS.iconst W4.here hx rfl (hb hby at_23) (XS.iloadN W4.here hx rfl (hb hby at_24) rfl kk))) ?_
    refine W4.callS hx hEL (hw _ (mI 1 rfl)) (hw _ (mI 2 rfl)) (hw _ (mI 3 rfl)) (hw _ (mI 4 rfl)) (by decide +kernel) (argsL := [(.int i1)]) (rest := [(.int (1 : Int32)), (.ref b2)]) (rm1 l Z a0 hw hEL zc SC hzc fm SF rfm i1 h4 W4.old ) all0 (by decide +kernel) (Wd := 2) (by decide +kernel) (by decide +kernel) (by decide +kernel) all0 rfl (by rw [hml]; rfl) (lenOf pd16 rfl) rfl (by show 2 * 0 + _ ≤ _; exact Nat.le_of_eq rfl) (hb hby at_25) (fun T5 h5 v5 W5 K5 q5 => ?_)
    obtain ⟨q5, rfl, cq5, rfl⟩ := q5
    show Go p e below _ (T5.setTop (mkF m 28 #[vi i0, vi i1, vi i2, vi i3, vi i4, vi 1, vr b2, U0, U0, U0, U0, U0, U0, U0] [(.int q5), (.int 1), (.ref b2)]))
    refine W5.stC hx V4 ⟨by decide, by decide⟩ 1 rfl (Nat.le_of_ble_eq_true rfl) gb2.1 (Or.inr gb2.2) rfl rfl (hb hby at_28) (fun T6 h6 W6 K6 A6 => ?_)
    have V6 : Arv Z h6 b2 c2 .char (4 : Int32) [(.int q3), (.int q5), (.int (0 : Int32)), (.int (0 : Int32))] (.int (0 : Int32)) := (by rw [(nar_char cq5)] at A6; exact A6)
    refine gof T6 m 33 #[vi i0, vi i1, vi i2, vi i3, vi i4, vi 1, vr b2, U0, U0, U0, U0, U0, U0, U0] [(.int i2), (.int 2), (.ref b2)] (fun _ kk => XS.aload W6.here hx rfl (hb hby at_29) rfl rfl (XS.iconst W6.here hx rfl (hb hby at_31) (XS.iloadN W6.here hx rfl (hb hby at_32) rfl kk))) ?_
    refine W6.callS hx hEL (hw _ (mI 1 rfl)) (hw _ (mI 2 rfl)) (hw _ (mI 3 rfl)) (hw _ (mI 4 rfl)) (by decide +kernel) (argsL := [(.int i2)]) (rest := [(.int (2 : Int32)), (.ref b2)]) (rm1 l Z a0 hw hEL zc SC hzc fm SF rfm i2 h6 W6.old ) all0 (by decide +kernel) (Wd := 2) (by decide +kernel) (by decide +kernel) (by decide +kernel) all0 rfl (by rw [hml]; rfl) (lenOf pd16 rfl) rfl (by show 2 * 0 + _ ≤ _; exact Nat.le_of_eq rfl) (hb hby at_33) (fun T7 h7 v7 W7 K7 q7 => ?_)
    obtain ⟨q7, rfl, cq7, rfl⟩ := q7
    show Go p e below _ (T7.setTop (mkF m 36 #[vi i0, vi i1, vi i2, vi i3, vi i4, vi 1, vr b2, U0, U0, U0, U0, U0, U0, U0] [(.int q7), (.int 2), (.ref b2)]))
    refine W7.stC hx V6 ⟨by decide, by decide⟩ 2 rfl (Nat.le_of_ble_eq_true rfl) gb2.1 (Or.inr gb2.2) rfl rfl (hb hby at_36) (fun T8 h8 W8 K8 A8 => ?_)
    have V8 : Arv Z h8 b2 c2 .char (4 : Int32) [(.int q3), (.int q5), (.int q7), (.int (0 : Int32))] (.int (0 : Int32)) := (by rw [(nar_char cq7)] at A8; exact A8)
    refine gof T8 m 41 #[vi i0, vi i1, vi i2, vi i3, vi i4, vi 1, vr b2, U0, U0, U0, U0, U0, U0, U0] [(.int i3), (.int 3), (.ref b2)] (fun _ kk => XS.aload W8.here hx rfl (hb hby at_37) rfl rfl (XS.iconst W8.here hx rfl (hb hby at_39) (XS.iloadN W8.here hx rfl (hb hby at_40) rfl kk))) ?_
    refine W8.callS hx hEL (hw _ (mI 1 rfl)) (hw _ (mI 2 rfl)) (hw _ (mI 3 rfl)) (hw _ (mI 4 rfl)) (by decide +kernel) (argsL := [(.int i3)]) (rest := [(.int (3 : Int32)), (.ref b2)]) (rm1 l Z a0 hw hEL zc SC hzc fm SF rfm i3 h8 W8.old ) all0 (by decide +kernel) (Wd := 2) (by decide +kernel) (by decide +kernel) (by decide +kernel) all0 rfl (by rw [hml]; rfl) (lenOf pd16 rfl) rfl (by show 2 * 0 + _ ≤ _; exact Nat.le_of_eq rfl) (hb hby at_41) (fun T9 h9 v9 W9 K9 q9 => ?_)
    obtain ⟨q9, rfl, cq9, rfl⟩ := q9
    show Go p e below _ (T9.setTop (mkF m 44 #[vi i0, vi i1, vi i2, vi i3, vi i4, vi 1, vr b2, U0, U0, U0, U0, U0, U0, U0] [(.int q9), (.int 3), (.ref b2)]))
    refine W9.stC hx V8 ⟨by decide, by decide⟩ 3 rfl (Nat.le_of_ble_eq_true rfl) gb2.1 (Or.inr gb2.2) rfl rfl (hb hby at_44) (fun T10 h10 W10 K10 A10 => ?_)
    have V10 : Arv Z h10 b2 c2 .char (4 : Int32) [(.int q3), (.int q5), (.int q7), (.int q9)] (.int (0 : Int32)) := (by rw [(nar_char cq9)] at A10; exact A10)
    refine gof T10 m 47 #[vi i0, vi i1, vi i2, vi i3, vi i4, vi 1, vr b2, U0, U0, U0, U0, U0, U0, U0] [(.int 1)] (fun _ kk => XS.iload W10.here hx rfl (hb hby at_45) rfl kk) ?_
    refine W10.newP hx (hw _ (mI 0 rfl)) rfl (hb hby at_47) rfl (by decide +kernel) (cap := 1) (by decide +kernel) (by decide +kernel) (by decide +kernel) (by decide +kernel) (fun T11 h11 b11 c11 eb11 gb11 W11 K11 A11 => ?_)
    have V11 : Arv Z h11 b11 c11 .char (1 : Int32) [(.int (0 : Int32))] (.int (0 : Int32)) := A11
    refine gof T11 m 62 #[vi i0, vi i1, vi i2, vi i3, vi i4, vi 1, vr b2, vr b11, U0, U0, U0, U0, U0, U0] [(.int 0), (.ref b2), (.int 0), (.ref b11)] (fun _ kk => XS.astore W11.here hx rfl (hb hby at_49) rfl rfl (l' := #[vi i0, vi i1, vi i2, vi i3, vi i4, vi 1, vr b2, vr b11, U0, U0, U0, U0, U0, U0]) rfl (XS.iload W11.here hx rfl (hb hby at_51) rfl (XS.ifNo W11.here hx rfl (hb hby at_53) rfl (XT.i0_le_f (by decide +kernel)) (XS.aload W11.here hx rfl (hb hby at_56) rfl rfl (XS.iconst W11.here hx rfl (hb hby at_58) (XS.aload W11.here hx rfl (hb hby at_59) rfl rfl (XS.iconst W11.here hx rfl (hb hby at_61) kk))))))) ?_
    have k12 := (V10.keep K11 nin0)
    refine W11.caload hx k12 ⟨by decide, by decide⟩ (v := (.int q3)) rfl rfl rfl (hb hby at_62) ?_
    show Go p e below _ (T11.setTop (mkF m 63 #[vi i0, vi i1, vi i2, vi i3, vi i4, vi 1, vr b2, vr b11, U0, U0, U0, U0, U0, U0] [(.int q3), (.int 0), (.ref b11)]))
    refine W11.stC hx V11 ⟨by decide, by decide⟩ 0 rfl (Nat.le_of_ble_eq_true rfl) gb11.1 (Or.inr gb11.2) rfl rfl (hb hby at_63) (fun T13 h13 W13 K13 A13 => ?_)
    have V13 : Arv Z h13 b11 c11 .char (1 : Int32) [(.int q3)] (.int (0 : Int32)) := (by rw [(nar_char cq3)] at A13; exact A13)
    refine gof T13 m 94 #[vi i0, vi i1, vi i2, vi i3, vi i4, vi 1, vr b2, vr b11, U0, U0, U0, U0, U0, U0] [(.int 1)] (fun _ kk => XS.iload W13.here hx rfl (hb hby at_64) rfl (XS.iconst W13.here hx rfl (hb hby at_66) (XS.icmpYes W13.here hx rfl (pc0 := 67) (pc' := 78) rfl (hb hby at_67) rfl (XT.ii_le_t (by decide +kernel)) (by decide +kernel) (by decide +kernel) (XS.iload W13.here hx rfl (hb hby at_78) rfl (XS.iconst W13.here hx rfl (hb hby at_80) (XS.icmpYes W13.here hx rfl (pc0 := 81) (pc' := 92) rfl (hb hby at_81) rfl (XT.ii_le_t (by decide +kernel)) (by decide +kernel) (by decide +kernel) (XS.iload W13.here hx rfl (hb hby at_92) rfl kk))))))) ?_
    refine gof T13 m 106 #[vi i0, vi i1, vi i2, vi i3, vi i4, vi 1, vr b2, vr b11, U0, U0, U0, U0, U0, U0] [] (fun _ kk => XS.iconst W13.here hx rfl (hb hby at_94) (XS.icmpYes W13.here hx rfl (pc0 := 95) (pc' := 106) rfl (hb hby at_95) rfl (XT.ii_le_t (by decide +kernel)) (by decide +kernel) (by decide +kernel) kk)) ?_
    refine W13.newO hx (hw _ (mI 5 rfl)) (hw _ (mI 6 rfl)) (hw _ (mI 7 rfl)) rfl (hb hby at_106) (by decide +kernel) (by decide +kernel) (fun T14 h14 b14 eb14 gb14 W14 K14 E14 D14 => ?_)
    have k15 : Fld Z h14 b14 "java/lang/String" "coder" "B" (.int (0 : Int32)) := D14 (Or.inr (hw _ (mI 31 rfl))) (ty := .byte) (by decide +kernel)
    have k16 : Fld Z h14 b14 "java/lang/String" "value" "[B" .null := D14 (Or.inr (hw _ (mI 33 rfl))) (ty := (.array .byte)) (by decide +kernel)
    refine gof T14 m 112 #[vi i0, vi i1, vi i2, vi i3, vi i4, vi 1, vr b2, vr b11, U0, U0, U0, U0, U0, U0] [(.ref b11), (.ref b14), (.ref b14)] (fun _ kk => XS.dup W14.here hx rfl (hb hby at_109) rfl rfl (XS.aload W14.here hx rfl (hb hby at_110) rfl rfl kk)) ?_
    have k18 := (V13.keep K14 nin0)
    refine W14.newStr hx hws (hw _ (mI 6 rfl)) SC hzc (hw _ (mI 8 rfl)) (hw _ (mI 9 rfl)) (hw _ (mI 10 rfl)) E14 k16 k15 (cs := [q3]) (n := 1) k18 rfl rfl (by decide +kernel) (by decide +kernel) (allSi cq3 all0i) gb14.1 (Or.inr gb14.2) (mI 0 rfl) (by decide +kernel) (Wd := 1) (by decide +kernel) (by decide +kernel) (by decide +kernel) rfl (by rw [hml]; rfl) rfl (by show 2 * 0 + _ ≤ _; exact Nat.le_of_eq rfl) (hb hby at_112) (fun T17 h17 W17 K17 S17 => ?_)
    refine gof T17 m 121 #[vi i0, vi i1, vi i2, vi i3, vi i4, vi 1, vr b2, vr b11, vr b14, U0, U0, U0, U0, U0] [(.int 1), (.ref b2)] (fun _ kk => XS.astore W17.here hx rfl (hb hby at_115) rfl rfl (l' := #[vi i0, vi i1, vi i2, vi i3, vi i4, vi 1, vr b2, vr b11, vr b14, U0, U0, U0, U0, U0]) rfl (XS.aload W17.here hx rfl (hb hby at_117) rfl rfl (XS.iload W17.here hx rfl (hb hby at_119) rfl kk))) ?_
    have k20 := (((k12.keep K13 (ninS (ne_of_born (Nat.le_of_eq eb11.symm) V2.lt (Nat.le_trans (Nat.le_trans (Nat.le_trans K4.1 K6.1) K8.1) K10.1)) nin0)).keep K14 nin0).keep K17 (ninS (ne_of_born (Nat.le_of_eq eb14.symm) V2.lt (Nat.le_trans (Nat.le_trans (Nat.le_trans (Nat.le_trans (Nat.le_trans K4.1 K6.1) K8.1) K10.1) K11.1) K13.1)) nin0))
    refine W17.callS hx hEL (hw _ (mI 34 rfl)) (hw _ (mI 35 rfl)) (hw _ (mI 3 rfl)) (hw _ (mI 36 rfl)) (by decide +kernel) (argsL := [(.ref b2), (.int (1 : Int32))]) (rest := []) (rm21 l Z a0 hw hEL zc SC hzc fm SF rfm b2 c2 q3 q5 q7 q9 h17 W17.old k20) all0 (by decide +kernel) (Wd := 0) (by decide +kernel) (by decide +kernel) (by decide +kernel) all0 rfl (by rw [hml]; rfl) (lenOf pd17 rfl) rfl (by show 2 * 0 + _ ≤ _; exact Nat.le_of_eq rfl) (hb hby at_121) (fun T19 h19 v19 W19 K19 q19 => ?_)
    obtain ⟨rfl, rfl⟩ := q19
    show Go p e below _ (T19.setTop (mkF m 124 #[vi i0, vi i1, vi i2, vi i3, vi i4, vi 1, vr b2, vr b11, vr b14, U0, U0, U0, U0, U0] [(.int (idxC (47 : Int32) [q3] (0 : Int32)))]))
    by_cases c21 : q3 = (47 : Int32)
    · have ei : (idxC (47 : Int32) [q3] (0 : Int32)) = (0 : Int32) := by simp [idxC, c21]
      rw [ei]
      refine gof T19 m 173 #[vi i0, vi i1, vi i2, vi i3, vi i4, vi 1, vr b2, vr b11, vr b14, vi 0, vi 0, U0, U0, U0] [] (fun _ kk => XS.istore W19.here hx rfl (hb hby at_124) rfl (l' := #[vi i0, vi i1, vi i2, vi i3, vi i4, vi 1, vr b2, vr b11, vr b14, vi 0, U0, U0, U0, U0]) rfl (XS.iload W19.here hx rfl (hb hby at_126) rfl (XS.ifYes W19.here hx rfl (pc0 := 128) (pc' := 136) rfl (hb hby at_128) rfl (XT.i0_ge_t (by decide +kernel)) (by decide +kernel) (by decide +kernel) (XS.iload W19.here hx rfl (hb hby at_136) rfl (XS.istore W19.here hx rfl (hb hby at_138) rfl (l' := #[vi i0, vi i1, vi i2, vi i3, vi i4, vi 1, vr b2, vr b11, vr b14, vi 0, vi 0, U0, U0, U0]) rfl (XS.iload W19.here hx rfl (hb hby at_140) rfl (XS.ifYes W19.here hx rfl (pc0 := 142) (pc' := 173) rfl (hb hby at_142) rfl (XT.i0_le_t (by decide +kernel)) (by decide +kernel) (by decide +kernel) kk))))))) ?_
      refine gof T19 m 182 #[vi i0, vi i1, vi i2, vi i3, vi i4, vi 1, vr b2, vr b11, vr b14, vi 0, vi 0, vi 0, U0, U0] [(.int 1)] (fun _ kk => XS.iconst W19.here hx rfl (hb hby at_173) (XS.istore W19.here hx rfl (hb hby at_174) rfl (l' := #[vi i0, vi i1, vi i2, vi i3, vi i4, vi 1, vr b2, vr b11, vr b14, vi 0, vi 0, vi 0, U0, U0]) rfl (XS.iload W19.here hx rfl (hb hby at_176) rfl (XS.ifNo W19.here hx rfl (hb hby at_178) rfl (XT.i0_ne_f (by decide +kernel)) (XS.iconst W19.here hx rfl (hb hby at_181) kk))))) ?_
      exact W19.retI hx hEL hs hlk (by decide +kernel) (by decide +kernel) hret (by simp) rfl (hb hby at_182) rfl
    · have ei : (idxC (47 : Int32) [q3] (0 : Int32)) = (-1 : Int32) := by simp [idxC, c21]
      rw [ei]
      refine gof T19 m 142 #[vi i0, vi i1, vi i2, vi i3, vi i4, vi 1, vr b2, vr b11, vr b14, vi (-1 : Int32), vi 1, U0, U0, U0] [(.int 1)] (fun _ kk => XS.istore W19.here hx rfl (hb hby at_124) rfl (l' := #[vi i0, vi i1, vi i2, vi i3, vi i4, vi 1, vr b2, vr b11, vr b14, vi (-1 : Int32), U0, U0, U0, U0]) rfl (XS.iload W19.here hx rfl (hb hby at_126) rfl (XS.ifNo W19.here hx rfl (hb hby at_128) rfl (XT.i0_ge_f (by decide +kernel)) (XS.iload W19.here hx rfl (hb hby at_131) rfl (XS.goto W19.here hx rfl (pc0 := 133) (pc' := 138) rfl (hb hby at_133) (by decide +kernel) (by decide +kernel) (XS.istore W19.here hx rfl (hb hby at_138) rfl (l' := #[vi i0, vi i1, vi i2, vi i3, vi i4, vi 1, vr b2, vr b11, vr b14, vi (-1 : Int32), vi 1, U0, U0, U0]) rfl (XS.iload W19.here hx rfl (hb hby at_140) rfl kk))))))) ?_
      refine gof T19 m 154 #[vi i0, vi i1, vi i2, vi i3, vi i4, vi 1, vr b2, vr b11, vr b14, vi (-1 : Int32), vi 1, U0, U0, U0] [(.int 0), (.ref b2)] (fun _ kk => XS.ifNo W19.here hx rfl (hb hby at_142) rfl (XT.i0_le_f (by decide +kernel)) (XS.iload W19.here hx rfl (hb hby at_145) rfl (XS.iconst W19.here hx rfl (hb hby at_147) (XS.icmpNo W19.here hx rfl (hb hby at_148) rfl (XT.ii_ne_f (by decide +kernel)) (XS.aload W19.here hx rfl (hb hby at_151) rfl rfl (XS.iconst W19.here hx rfl (hb hby at_153) kk)))))) ?_
      refine W19.caload hx k20 ⟨by decide, by decide⟩ (v := (.int q3)) rfl rfl rfl (hb hby at_154) ?_
      refine gof T19 m 157 #[vi i0, vi i1, vi i2, vi i3, vi i4, vi 1, vr b2, vr b11, vr b14, vi (-1 : Int32), vi 1, U0, U0, U0] [(.int 42), (.int q3)] (fun _ kk => XS.bipush W19.here hx rfl (hb hby at_155) kk) ?_
      by_cases c22 : q3 = (42 : Int32)
      · refine gof T19 m 182 #[vi i0, vi i1, vi i2, vi i3, vi i4, vi 1, vr b2, vr b11, vr b14, vi (-1 : Int32), vi 1, vi 0, U0, U0] [(.int 1)] (fun _ kk => XS.icmpYes W19.here hx rfl (pc0 := 157) (pc' := 173) rfl (hb hby at_157) rfl (XT.ii_eq_t c22) (by decide +kernel) (by decide +kernel) (XS.iconst W19.here hx rfl (hb hby at_173) (XS.istore W19.here hx rfl (hb hby at_174) rfl (l' := #[vi i0, vi i1, vi i2, vi i3, vi i4, vi 1, vr b2, vr b11, vr b14, vi (-1 : Int32), vi 1, vi 0, U0, U0]) rfl (XS.iload W19.here hx rfl (hb hby at_176) rfl (XS.ifNo W19.here hx rfl (hb hby at_178) rfl (XT.i0_ne_f (by decide +kernel)) (XS.iconst W19.here hx rfl (hb hby at_181) kk)))))) ?_
        exact W19.retI hx hEL hs hlk (by decide +kernel) (by decide +kernel) hret (by simp) rfl (hb hby at_182) rfl
      · refine gof T19 m 170 #[vi i0, vi i1, vi i2, vi i3, vi i4, vi 1, vr b2, vr b11, vr b14, vi (-1 : Int32), vi 1, U0, U0, U0] [(.int 1)] (fun _ kk => XS.icmpNo W19.here hx rfl (hb hby at_157) rfl (XT.ii_eq_f c22) (XS.iload W19.here hx rfl (hb hby at_160) rfl (XS.iload W19.here hx rfl (hb hby at_162) rfl (XS.iconst W19.here hx rfl (hb hby at_164) (XS.isub W19.here hx rfl (hb hby at_165) rfl (XS.icmpNo W19.here hx rfl (hb hby at_166) rfl (XT.ii_eq_f (by decide +kernel)) (XS.iconst W19.here hx rfl (hb hby at_169) kk))))))) ?_
        refine gof T19 m 185 #[vi i0, vi i1, vi i2, vi i3, vi i4, vi 1, vr b2, vr b11, vr b14, vi (-1 : Int32), vi 1, vi 1, U0, U0] [(.ref b14)] (fun _ kk => XS.goto W19.here hx rfl (pc0 := 170) (pc' := 174) rfl (hb hby at_170) (by decide +kernel) (by decide +kernel) (XS.istore W19.here hx rfl (hb hby at_174) rfl (l' := #[vi i0, vi i1, vi i2, vi i3, vi i4, vi 1, vr b2, vr b11, vr b14, vi (-1 : Int32), vi 1, vi 1, U0, U0]) rfl (XS.iload W19.here hx rfl (hb hby at_176) rfl (XS.ifYes W19.here hx rfl (pc0 := 178) (pc' := 183) rfl (hb hby at_178) rfl (XT.i0_ne_t (by decide +kernel)) (by decide +kernel) (by decide +kernel) (XS.aload W19.here hx rfl (hb hby at_183) rfl rfl kk))))) ?_
        refine W19.callS hx hEL (hw _ (mI 37 rfl)) (hw _ (mI 38 rfl)) (hw _ (mI 39 rfl)) (hw _ (mI 40 rfl)) (by decide +kernel) (argsL := [(.ref b14)]) (rest := []) (rm400 l Z a0 hw hEL zc SC hzc fm SF rfm b14 q3 h17 W19.old S17 cq3 c21 c22) all0 (by decide +kernel) (Wd := 0) (by decide +kernel) (by decide +kernel) (by decide +kernel) all0 rfl (by rw [hml]; rfl) (lenOf pd18 rfl) rfl (by show 2 * 0 + _ ≤ _; exact Nat.le_of_eq rfl) (hb hby at_185) (fun T23 h23 v23 W23 K23 q23 => ?_)
        obtain ⟨r23, rfl, lr23, E23, Fn23, Ft23⟩ := q23
        have gr23 : n0 ≤ r23 ∧ s.heap.size ≤ r23 := ⟨Nat.le_trans W19.n0le lr23, Nat.le_trans W19.s0le lr23⟩
        refine gof T23 m 194 #[vi i0, vi i1, vi i2, vi i3, vi i4, vi 1, vr b2, vr b11, vr b14, vi (-1 : Int32), vi 1, vi 1, vr r23, U0] [(.ref r23), (.ref b14)] (fun _ kk => XS.astore W23.here hx rfl (hb hby at_188) rfl rfl (l' := #[vi i0, vi i1, vi i2, vi i3, vi i4, vi 1, vr b2, vr b11, vr b14, vi (-1 : Int32), vi 1, vi 1, vr r23, U0]) rfl (XS.aload W23.here hx rfl (hb hby at_190) rfl rfl (XS.aload W23.here hx rfl (hb hby at_192) rfl rfl kk))) ?_
        refine W23.callV hx hEL (hw _ (mI 119 rfl)) (hw _ (mI 120 rfl)) (hw _ (mI 122 rfl)) (hw _ (mI 121 rfl)) (hw _ (mI 39 rfl)) (hw _ (mI 123 rfl)) (by decide +kernel) E23 (a := r23) (argsL := []) (rest := [(.ref b14)]) (rm450 l Z a0 hw hEL zc SC hzc fm SF rfm r23 b14 h23 W23.old Fn23) all0 (by decide +kernel) (Wd := 1) (by decide +kernel) (by decide +kernel) (by decide +kernel) all0 rfl (by rw [hml]; rfl) (lenOf pd19 rfl) rfl (by show 2 * 0 + _ ≤ _; exact Nat.le_of_eq rfl) (hb hby at_194) (fun T24 h24 v24 W24 K24 q24 => ?_)
        obtain ⟨rfl, rfl⟩ := q24
        show Go p e below _ (T24.setTop (mkF m 197 #[vi i0, vi i1, vi i2, vi i3, vi i4, vi 1, vr b2, vr b11, vr b14, vi (-1 : Int32), vi 1, vi 1, vr r23, U0] [(.ref b14), (.ref b14)]))
        have k26 := (S17.keep0 K23)
        refine W24.strEq hx heq (hw _ (mI 6 rfl)) SC hzc k26 k26 (hw _ (mI 124 rfl)) (hw _ (mI 100 rfl)) (hw _ (mI 102 rfl)) (hw _ (mI 101 rfl)) (by decide +kernel) (Wd := 0) (by decide +kernel) (by decide +kernel) (by decide +kernel) rfl (by rw [hml]; rfl) rfl (by show 2 * 0 + _ ≤ _; exact Nat.le_of_eq rfl) (hb hby at_197) (fun T25 z25 hz25 W25 => ?_)
        obtain ⟨rfl, -⟩ | ⟨-, hn25⟩ := hz25
        case inr => exact absurd rfl hn25
        refine gof T25 m 207 #[vi i0, vi i1, vi i2, vi i3, vi i4, vi 1, vr b2, vr b11, vr b14, vi (-1 : Int32), vi 1, vi 1, vr r23, U0] [(.ref r23)] (fun _ kk => XS.ifYes W25.here hx rfl (pc0 := 200) (pc' := 205) rfl (hb hby at_200) rfl (XT.i0_ne_t (by decide +kernel)) (by decide +kernel) (by decide +kernel) (XS.aload W25.here hx rfl (hb hby at_205) rfl rfl kk)) ?_
        refine W25.callV hx hEL (hw _ (mI 125 rfl)) (hw _ (mI 126 rfl)) (hw _ (mI 128 rfl)) (hw _ (mI 127 rfl)) (hw _ (mI 39 rfl)) (hw _ (mI 129 rfl)) (by decide +kernel) E23 (a := r23) (argsL := []) (rest := []) (rm452 l Z a0 hw hEL zc SC hzc fm SF rfm r23 b14 [q3] h23 W25.old E23 Fn23 Ft23 k26) all0 (by decide +kernel) (Wd := 0) (by decide +kernel) (by decide +kernel) (by decide +kernel) all0 rfl (by rw [hml]; rfl) (lenOf pd4 rfl) rfl (by show 2 * 0 + _ ≤ _; exact Nat.le_of_eq rfl) (hb hby at_207) (fun T27 h27 v27 W27 K27 q27 => ?_)
        obtain ⟨rfl, rfl⟩ := q27
        refine gof T27 m 227 #[vi i0, vi i1, vi i2, vi i3, vi i4, vi 1, vr b2, vr b11, vr b14, vi (-1 : Int32), vi 1, vi 1, vr r23, U0] [(.ref r23)] (fun _ kk => XS.iload W27.here hx rfl (hb hby at_210) rfl (XS.ifYes W27.here hx rfl (pc0 := 212) (pc' := 219) rfl (hb hby at_212) rfl (XT.i0_lt_t (by decide +kernel)) (by decide +kernel) (by decide +kernel) (XS.iconst W27.here hx rfl (hb hby at_219) (XS.icmpYes W27.here hx rfl (pc0 := 220) (pc' := 225) rfl (hb hby at_220) rfl (XT.ii_eq_t (by decide +kernel)) (by decide +kernel) (by decide +kernel) (XS.aload W27.here hx rfl (hb hby at_225) rfl rfl kk))))) ?_
        refine W27.callV hx hEL (hw _ (mI 130 rfl)) (hw _ (mI 131 rfl)) (hw _ (mI 133 rfl)) (hw _ (mI 132 rfl)) (hw _ (mI 39 rfl)) (hw _ (mI 134 rfl)) (by decide +kernel) E23 (a := r23) (argsL := []) (rest := []) (rm451 l Z a0 hw hEL zc SC hzc fm SF rfm r23 b14 h23 W27.old Ft23) all0 (by decide +kernel) (Wd := 0) (by decide +kernel) (by decide +kernel) (by decide +kernel) all0 rfl (by rw [hml]; rfl) (lenOf pd19 rfl) rfl (by show 2 * 0 + _ ≤ _; exact Nat.le_of_eq rfl) (hb hby at_227) (fun T28 h28 v28 W28 K28 q28 => ?_)
        obtain ⟨rfl, rfl⟩ := q28
        refine gof T28 m 235 #[vi i0, vi i1, vi i2, vi i3, vi i4, vi 1, vr b2, vr b11, vr b14, vi (-1 : Int32), vi 1, vi 1, vr r23, U0] [(.int 1), (.int 0), (.ref b2), (.ref b14)] (fun _ kk => XS.aload W28.here hx rfl (hb hby at_230) rfl rfl (XS.iconst W28.here hx rfl (hb hby at_232) (XS.iload W28.here hx rfl (hb hby at_233) rfl kk))) ?_
        have k30 := (k20.keep K23 nin0)
        refine W28.callS hx hEL (hw _ (mI 135 rfl)) (hw _ (mI 136 rfl)) (hw _ (mI 3 rfl)) (hw _ (mI 137 rfl)) (by decide +kernel) (argsL := [(.ref b14), (.ref b2), (.int (0 : Int32)), (.int (1 : Int32))]) (rest := []) (rm30 l Z a0 hw hEL zc SC hzc fm SF rfm b14 b2 c2 q3 q5 q7 q9 h23 W28.old k26 k30 cq3 cq5 cq7 cq9) all0 (by decide +kernel) (Wd := 0) (by decide +kernel) (by decide +kernel) (by decide +kernel) all0 rfl (by rw [hml]; rfl) (lenOf pd20 rfl) rfl (by show 2 * 0 + _ ≤ _; exact Nat.le_of_eq rfl) (hb hby at_235) (fun T29 h29 v29 W29 K29 q29 => ?_)
        obtain ⟨rfl, rfl⟩ := q29
        refine gof T29 m 245 #[vi i0, vi i1, vi i2, vi i3, vi i4, vi 1, vr b2, vr b11, vr b14, vi (-1 : Int32), vi 1, vi 1, vr r23, U0] [(.ref r23)] (fun _ kk => XS.ifYes W29.here hx rfl (pc0 := 238) (pc' := 243) rfl (hb hby at_238) rfl (XT.i0_ne_t (by decide +kernel)) (by decide +kernel) (by decide +kernel) (XS.aload W29.here hx rfl (hb hby at_243) rfl rfl kk)) ?_
        refine W29.callV hx hEL (hw _ (mI 155 rfl)) (hw _ (mI 156 rfl)) (hw _ (mI 158 rfl)) (hw _ (mI 157 rfl)) (hw _ (mI 39 rfl)) (hw _ (mI 159 rfl)) (by decide +kernel) E23 (a := r23) (argsL := []) (rest := []) (rm453 l Z a0 hw hEL zc SC hzc fm SF rfm r23 b14 [q3] h23 W29.old E23 Fn23 Ft23 k26) all0 (by decide +kernel) (Wd := 0) (by decide +kernel) (by decide +kernel) (by decide +kernel) all0 rfl (by rw [hml]; rfl) (lenOf pd19 rfl) rfl (by show 2 * 0 + _ ≤ _; exact Nat.le_of_eq rfl) (hb hby at_245) (fun T31 h31 v31 W31 K31 q31 => ?_)
        obtain ⟨rfl, rfl⟩ := q31
        refine gof T31 m 265 #[vi i0, vi i1, vi i2, vi i3, vi i4, vi 1, vr b2, vr b11, vr b14, vi (-1 : Int32), vi 1, vi 1, vr r23, vN] [(.int 1)] (fun _ kk => XS.astore W31.here hx rfl (hb hby at_248) rfl rfl (l' := #[vi i0, vi i1, vi i2, vi i3, vi i4, vi 1, vr b2, vr b11, vr b14, vi (-1 : Int32), vi 1, vi 1, vr r23, vN]) rfl (XS.iload W31.here hx rfl (hb hby at_250) rfl (XS.ifNo W31.here hx rfl (hb hby at_252) rfl (XT.i0_ge_f (by decide +kernel)) (XS.aload W31.here hx rfl (hb hby at_255) rfl rfl (XS.ifnonnullNo W31.here hx rfl (hb hby at_257) rfl (XS.iconst W31.here hx rfl (hb hby at_260) (XS.goto W31.here hx rfl (pc0 := 261) (pc' := 265) rfl (hb hby at_261) (by decide +kernel) (by decide +kernel) kk))))))) ?_
        exact W31.retI hx hEL hs hlk (by decide +kernel) (by decide +kernel) hret (by simp) rfl (hb hby at_265) rfl
  · rw [z1]
    refine gof T0 m 9 #[vi i0, vi i1, vi i2, vi i3, vi i4, vi 2, U0, U0, U0, U0, U0, U0, U0, U0] [(.int 4)] (fun _ kk => XS.iconst W0.here hx rfl (hb hby at_4) (XS.iadd W0.here hx rfl (hb hby at_5) rfl (XS.istore W0.here hx rfl (hb hby at_6) rfl (l' := #[vi i0, vi i1, vi i2, vi i3, vi i4, vi 2, U0, U0, U0, U0, U0, U0, U0, U0]) rfl (XS.iconst W0.here hx rfl (hb hby at_8) kk)))) ?_
    refine W0.newP hx (hw _ (mI 0 rfl)) rfl (hb hby at_9) rfl (by decide +kernel) (cap := 4) (by decide +kernel) (by decide +kernel) (by decide +kernel) (by decide +kernel) (fun T32 h32 b32 c32 eb32 gb32 W32 K32 A32 => ?_)
    have V32 : Arv Z h32 b32 c32 .char (4 : Int32) [(.int (0 : Int32)), (.int (0 : Int32)), (.int (0 : Int32)), (.int (0 : Int32))] (.int (0 : Int32)) := A32
    refine gof T32 m 17 #[vi i0, vi i1, vi i2, vi i3, vi i4, vi 2, vr b32, U0, U0, U0, U0, U0, U0, U0] [(.int i0), (.int 0), (.ref b32)] (fun _ kk => XS.astore W32.here hx rfl (hb hby at_11) rfl rfl (l' := #[vi i0, vi i1, vi i2, vi i3, vi i4, vi 2, vr b32, U0, U0, U0, U0, U0, U0, U0]) rfl (XS.aload W32.here hx rfl (hb hby at_13) rfl rfl (XS.iconst W32.here hx rfl (hb hby at_15) (XS.iloadN W32.here hx rfl (hb hby at_16) rfl kk)))) ?_
    refine W32.callS hx hEL (hw _ (mI 1 rfl)) (hw _ (mI 2 rfl)) (hw _ (mI 3 rfl)) (hw _ (mI 4 rfl)) (by decide +kernel) (argsL := [(.int i0)]) (rest := [(.int (0 : Int32)), (.ref b32)]) (rm1 l Z a0 hw hEL zc SC hzc fm SF rfm i0 h32 W32.old ) all0 (by decide +kernel) (Wd := 2) (by decide +kernel) (by decide +kernel) (by decide +kernel) all0 rfl (by rw [hml]; rfl) (lenOf pd16 rfl) rfl (by show 2 * 0 + _ ≤ _; exact Nat.le_of_eq rfl) (hb hby at_17) (fun T33 h33 v33 W33 K33 q33 => ?_)
    obtain ⟨q33, rfl, cq33, rfl⟩ := q33
    show Go p e below _ (T33.setTop (mkF m 20 #[vi i0, vi i1, vi i2, vi i3, vi i4, vi 2, vr b32, U0, U0, U0, U0, U0, U0, U0] [(.int q33), (.int 0), (.ref b32)]))
    refine W33.stC hx V32 ⟨by decide, by decide⟩ 0 rfl (Nat.le_of_ble_eq_true rfl) gb32.1 (Or.inr gb32.2) rfl rfl (hb hby at_20) (fun T34 h34 W34 K34 A34 => ?_)
    have V34 : Arv Z h34 b32 c32 .char (4 : Int32) [(.int q33), (.int (0 : Int32)), (.int (0 : Int32)), (.int (0 : Int32))] (.int (0 : Int32)) := (by rw [(nar_char cq33)] at A34; exact A34)
    refine gof T34 m 25 #[vi i0, vi i1, vi i2, vi i3, vi i4, vi 2, vr b32, U0, U0, U0, U0, U0, U0, U0] [(.int i1), (.int 1), (.ref b32)] (fun _ kk => XS.aload W34.here hx rfl (hb hby at_21) rfl rfl (XS.iconst W34.here hx rfl (hb hby at_23) (XS.iloadN W34.here hx rfl (hb hby at_24) rfl kk))) ?_
    refine W34.callS hx hEL (hw _ (mI 1 rfl)) (hw _ (mI 2 rfl)) (hw _ (mI 3 rfl)) (hw _ (mI 4 rfl)) (by decide +kernel) (argsL := [(.int i1)]) (rest := [(.int (1 : Int32)), (.ref b32)]) (rm1 l Z a0 hw hEL zc SC hzc fm SF rfm i1 h34 W34.old ) all0 (by decide +kernel) (Wd := 2) (by decide +kernel) (by decide +kernel) (by decide +kernel) all0 rfl (by rw [hml]; rfl) (lenOf pd16 rfl) rfl (by show 2 * 0 + _ ≤ _; exact Nat.le_of_eq rfl) (hb hby at_25) (fun T35 h35 v35 W35 K35 q35 => ?_)
    obtain ⟨q35, rfl, cq35, rfl⟩ := q35
    show Go p e below _ (T35.setTop (mkF m 28 #[vi i0, vi i1, vi i2, vi i3, vi i4, vi 2, vr b32, U0, U0, U0, U0, U0, U0, U0] [(.int q35), (.int 1), (.ref b32)]))
    refine W35.stC hx V34 ⟨by decide, by decide⟩ 1 rfl (Nat.le_of_ble_eq_true rfl) gb32.1 (Or.inr gb32.2) rfl rfl (hb hby at_28) (fun T36 h36 W36 K36 A36 => ?_)
    have V36 : Arv Z h36 b32 c32 .char (4 : Int32) [(.int q33), (.int q35), (.int (0 : Int32)), (.int (0 : Int32))] (.int (0 : Int32)) := (by rw [(nar_char cq35)] at A36; exact A36)
    refine gof T36 m 33 #[vi i0, vi i1, vi i2, vi i3, vi i4, vi 2, vr b32, U0, U0, U0, U0, U0, U0, U0] [(.int i2), (.int 2), (.ref b32)] (fun _ kk => XS.aload W36.here hx rfl (hb hby at_29) rfl rfl (XS.iconst W36.here hx rfl (hb hby at_31) (XS.iloadN W36.here hx rfl (hb hby at_32) rfl kk))) ?_
    refine W36.callS hx hEL (hw _ (mI 1 rfl)) (hw _ (mI 2 rfl)) (hw _ (mI 3 rfl)) (hw _ (mI 4 rfl)) (by decide +kernel) (argsL := [(.int i2)]) (rest := [(.int (2 : Int32)), (.ref b32)]) (rm1 l Z a0 hw hEL zc SC hzc fm SF rfm i2 h36 W36.old ) all0 (by decide +kernel) (Wd := 2) (by decide +kernel) (by decide +kernel) (by decide +kernel) all0 rfl (by rw [hml]; rfl) (lenOf pd16 rfl) rfl (by show 2 * 0 + _ ≤ _; exact Nat.le_of_eq rfl) (hb hby at_33) (fun T37 h37 v37 W37 K37 q37 => ?_)
    obtain ⟨q37, rfl, cq37, rfl⟩ := q37
    show Go p e below _ (T37.setTop (mkF m 36 #[vi i0, vi i1, vi i2, vi i3, vi i4, vi 2, vr b32, U0, U0, U0, U0, U0, U0, U0] [(.int q37), (.int 2), (.ref b32)]))
    refine W37.stC hx V36 ⟨by decide, by decide⟩ 2 rfl (Nat.le_of_ble_eq_true rfl) gb32.1 (Or.inr gb32.2) rfl rfl (hb hby at_36) (fun T38 h38 W38 K38 A38 => ?_)
    have V38 : Arv Z h38 b32 c32 .char (4 : Int32) [(.int q33), (.int q35), (.int q37), (.int (0 : Int32))] (.int (0 : Int32)) := (by rw [(nar_char cq37)] at A38; exact A38)
    refine gof T38 m 41 #[vi i0, vi i1, vi i2, vi i3, vi i4, vi 2, vr b32, U0, U0, U0, U0, U0, U0, U0] [(.int i3), (.int 3), (.ref b32)] (fun _ kk => XS.aload W38.here hx rfl (hb hby at_37) rfl rfl (XS.iconst W38.here hx rfl (hb hby at_39) (XS.iloadN W38.here hx rfl (hb hby at_40) rfl kk))) ?_
    refine W38.callS hx hEL (hw _ (mI 1 rfl)) (hw _ (mI 2 rfl)) (hw _ (mI 3 rfl)) (hw _ (mI 4 rfl)) (by decide +kernel) (argsL := [(.int i3)]) (rest := [(.int (3 : Int32)), (.ref b32)]) (rm1 l Z a0 hw hEL zc SC hzc fm SF rfm i3 h38 W38.old ) all0 (by decide +kernel) (Wd := 2) (by decide +kernel) (by decide +kernel) (by decide +kernel) all0 rfl (by rw [hml]; rfl) (lenOf pd16 rfl) rfl (by show 2 * 0 + _ ≤ _; exact Nat.le_of_eq rfl) (hb hby at_41) (fun T39 h39 v39 W39 K39 q39 => ?_)
    obtain ⟨q39, rfl, cq39, rfl⟩ := q39
    show Go p e below _ (T39.setTop (mkF m 44 #[vi i0, vi i1, vi i2, vi i3, vi i4, vi 2, vr b32, U0, U0, U0, U0, U0, U0, U0] [(.int q39), (.int 3), (.ref b32)]))
    refine W39.stC hx V38 ⟨by decide, by decide⟩ 3 rfl (Nat.le_of_ble_eq_true rfl) gb32.1 (Or.inr gb32.2) rfl rfl (hb hby at_44) (fun T40 h40 W40 K40 A40 => ?_)
    have V40 : Arv Z h40 b32 c32 .char (4 : Int32) [(.int q33), (.int q35), (.int q37), (.int q39)] (.int (0 : Int32)) := (by rw [(nar_char cq39)] at A40; exact A40)
    refine gof T40 m 47 #[vi i0, vi i1, vi i2, vi i3, vi i4, vi 2, vr b32, U0, U0, U0, U0, U0, U0, U0] [(.int 2)] (fun _ kk => XS.iload W40.here hx rfl (hb hby at_45) rfl kk) ?_
    refine W40.newP hx (hw _ (mI 0 rfl)) rfl (hb hby at_47) rfl (by decide +kernel) (cap := 2) (by decide +kernel) (by decide +kernel) (by decide +kernel) (by decide +kernel) (fun T41 h41 b41 c41 eb41 gb41 W41 K41 A41 => ?_)
    have V41 : Arv Z h41 b41 c41 .char (2 : Int32) [(.int (0 : Int32)), (.int (0 : Int32))] (.int (0 : Int32)) := A41
    refine gof T41 m 62 #[vi i0, vi i1, vi i2, vi i3, vi i4, vi 2, vr b32, vr b41, U0, U0, U0, U0, U0, U0] [(.int 0), (.ref b32), (.int 0), (.ref b41)] (fun _ kk => XS.astore W41.here hx rfl (hb hby at_49) rfl rfl (l' := #[vi i0, vi i1, vi i2, vi i3, vi i4, vi 2, vr b32, vr b41, U0, U0, U0, U0, U0, U0]) rfl (XS.iload W41.here hx rfl (hb hby at_51) rfl (XS.ifNo W41.here hx rfl (hb hby at_53) rfl (XT.i0_le_f (by decide +kernel)) (XS.aload W41.here hx rfl (hb hby at_56) rfl rfl (XS.iconst W41.here hx rfl (hb hby at_58) (XS.aload W41.here hx rfl (hb hby at_59) rfl rfl (XS.iconst W41.here hx rfl (hb hby at_61) kk))))))) ?_
    have k42 := (V40.keep K41 nin0)
    refine W41.caload hx k42 ⟨by decide, by decide⟩ (v := (.int q33)) rfl rfl rfl (hb hby at_62) ?_
    show Go p e below _ (T41.setTop (mkF m 63 #[vi i0, vi i1, vi i2, vi i3, vi i4, vi 2, vr b32, vr b41, U0, U0, U0, U0, U0, U0] [(.int q33), (.int 0), (.ref b41)]))
    refine W41.stC hx V41 ⟨by decide, by decide⟩ 0 rfl (Nat.le_of_ble_eq_true rfl) gb41.1 (Or.inr gb41.2) rfl rfl (hb hby at_63) (fun T43 h43 W43 K43 A43 => ?_)
    have V43 : Arv Z h43 b41 c41 .char (2 : Int32) [(.int q33), (.int (0 : Int32))] (.int (0 : Int32)) := (by rw [(nar_char cq33)] at A43; exact A43)
    refine gof T43 m 76 #[vi i0, vi i1, vi i2, vi i3, vi i4, vi 2, vr b32, vr b41, U0, U0, U0, U0, U0, U0] [(.int 1), (.ref b32), (.int 1), (.ref b41)] (fun _ kk => XS.iload W43.here hx rfl (hb hby at_64) rfl (XS.iconst W43.here hx rfl (hb hby at_66) (XS.icmpNo W43.here hx rfl (hb hby at_67) rfl (XT.ii_le_f (by decide +kernel)) (XS.aload W43.here hx rfl (hb hby at_70) rfl rfl (XS.iconst W43.here hx rfl (hb hby at_72) (XS.aload W43.here hx rfl (hb hby at_73) rfl rfl (XS.iconst W43.here hx rfl (hb hby at_75) kk))))))) ?_
    have k44 := (k42.keep K43 (ninS (ne_of_born (Nat.le_of_eq eb41.symm) V32.lt (Nat.le_trans (Nat.le_trans (Nat.le_trans K34.1 K36.1) K38.1) K40.1)) nin0))
    refine W43.caload hx k44 ⟨by decide, by decide⟩ (v := (.int q35)) rfl rfl rfl (hb hby at_76) ?_
    show Go p e below _ (T43.setTop (mkF m 77 #[vi i0, vi i1, vi i2, vi i3, vi i4, vi 2, vr b32, vr b41, U0, U0, U0, U0, U0, U0] [(.int q35), (.int 1), (.ref b41)]))
    refine W43.stC hx V43 ⟨by decide, by decide⟩ 1 rfl (Nat.le_of_ble_eq_true rfl) gb41.1 (Or.inr gb41.2) rfl rfl (hb hby at_77) (fun T45 h45 W45 K45 A45 => ?_)
    have V45 : Arv Z h45 b41 c41 .char (2 : Int32) [(.int q33), (.int q35)] (.int (0 : Int32)) := (by rw [(nar_char cq35)] at A45; exact A45)
    refine gof T45 m 106 #[vi i0, vi i1, vi i2, vi i3, vi i4, vi 2, vr b32, vr b41, U0, U0, U0, U0, U0, U0] [] (fun _ kk => XS.iload W45.here hx rfl (hb hby at_78) rfl (XS.iconst W45.here hx rfl (hb hby at_80) (XS.icmpYes W45.here hx rfl (pc0 := 81) (pc' := 92) rfl (hb hby at_81) rfl (XT.ii_le_t (by decide +kernel)) (by decide +kernel) (by decide +kernel) (XS.iload W45.here hx rfl (hb hby at_92) rfl (XS.iconst W45.here hx rfl (hb hby at_94) (XS.icmpYes W45.here hx rfl (pc0 := 95) (pc' := 106) rfl (hb hby at_95) rfl (XT.ii_le_t (by decide +kernel)) (by decide +kernel) (by decide +kernel) kk)))))) ?_
    refine W45.newO hx (hw _ (mI 5 rfl)) (hw _ (mI 6 rfl)) (hw _ (mI 7 rfl)) rfl (hb hby at_106) (by decide +kernel) (by decide +kernel) (fun T46 h46 b46 eb46 gb46 W46 K46 E46 D46 => ?_)
    have k47 : Fld Z h46 b46 "java/lang/String" "coder" "B" (.int (0 : Int32)) := D46 (Or.inr (hw _ (mI 31 rfl))) (ty := .byte) (by decide +kernel)
    have k48 : Fld Z h46 b46 "java/lang/String" "value" "[B" .null := D46 (Or.inr (hw _ (mI 33 rfl))) (ty := (.array .byte)) (by decide +kernel)
    refine gof T46 m 112 #[vi i0, vi i1, vi i2, vi i3, vi i4, vi 2, vr b32, vr b41, U0, U0, U0, U0, U0, U0] [(.ref b41), (.ref b46), (.ref b46)] (fun _ kk => XS.dup W46.here hx rfl (hb hby at_109) rfl rfl (XS.aload W46.here hx rfl (hb hby at_110) rfl rfl kk)) ?_
    have k50 := (V45.keep K46 nin0)
    refine W46.newStr hx hws (hw _ (mI 6 rfl)) SC hzc (hw _ (mI 8 rfl)) (hw _ (mI 9 rfl)) (hw _ (mI 10 rfl)) E46 k48 k47 (cs := [q33, q35]) (n := 2) k50 rfl rfl (by decide +kernel) (by decide +kernel) (allSi cq33 (allSi cq35 all0i)) gb46.1 (Or.inr gb46.2) (mI 0 rfl) (by decide +kernel) (Wd := 1) (by decide +kernel) (by decide +kernel) (by decide +kernel) rfl (by rw [hml]; rfl) rfl (by show 2 * 0 + _ ≤ _; exact Nat.le_of_eq rfl) (hb hby at_112) (fun T49 h49 W49 K49 S49 => ?_)
    refine gof T49 m 121 #[vi i0, vi i1, vi i2, vi i3, vi i4, vi 2, vr b32, vr b41, vr b46, U0, U0, U0, U0, U0] [(.int 2), (.ref b32)] (fun _ kk => XS.astore W49.here hx rfl (hb hby at_115) rfl rfl (l' := #[vi i0, vi i1, vi i2, vi i3, vi i4, vi 2, vr b32, vr b41, vr b46, U0, U0, U0, U0, U0]) rfl (XS.aload W49.here hx rfl (hb hby at_117) rfl rfl (XS.iload W49.here hx rfl (hb hby at_119) rfl kk))) ?_
    have k52 := (((k44.keep K45 (ninS (ne_of_born (Nat.le_of_eq eb41.symm) V32.lt (Nat.le_trans (Nat.le_trans (Nat.le_trans K34.1 K36.1) K38.1) K40.1)) nin0)).keep K46 nin0).keep K49 (ninS (ne_of_born (Nat.le_of_eq eb46.symm) V32.lt (Nat.le_trans (Nat.le_trans (Nat.le_trans (Nat.le_trans (Nat.le_trans (Nat.le_trans K34.1 K36.1) K38.1) K40.1) K41.1) K43.1) K45.1)) nin0))
    refine W49.callS hx hEL (hw _ (mI 34 rfl)) (hw _ (mI 35 rfl)) (hw _ (mI 3 rfl)) (hw _ (mI 36 rfl)) (by decide +kernel) (argsL := [(.ref b32), (.int (2 : Int32))]) (rest := []) (rm22 l Z a0 hw hEL zc SC hzc fm SF rfm b32 c32 q33 q35 q37 q39 h49 W49.old k52) all0 (by decide +kernel) (Wd := 0) (by decide +kernel) (by decide +kernel) (by decide +kernel) all0 rfl (by rw [hml]; rfl) (lenOf pd17 rfl) rfl (by show 2 * 0 + _ ≤ _; exact Nat.le_of_eq rfl) (hb hby at_121) (fun T51 h51 v51 W51 K51 q51 => ?_)
    obtain ⟨rfl, rfl⟩ := q51
    show Go p e below _ (T51.setTop (mkF m 124 #[vi i0, vi i1, vi i2, vi i3, vi i4, vi 2, vr b32, vr b41, vr b46, U0, U0, U0, U0, U0] [(.int (idxC (47 : Int32) [q33, q35] (0 : Int32)))]))
    by_cases c53 : q33 = (47 : Int32)
    · have ei : (idxC (47 : Int32) [q33, q35] (0 : Int32)) = (0 : Int32) := by simp [idxC, c53]
      rw [ei]
      refine gof T51 m 173 #[vi i0, vi i1, vi i2, vi i3, vi i4, vi 2, vr b32, vr b41, vr b46, vi 0, vi 0, U0, U0, U0] [] (fun _ kk => XS.istore W51.here hx rfl (hb hby at_124) rfl (l' := #[vi i0, vi i1, vi i2, vi i3, vi i4, vi 2, vr b32, vr b41, vr b46, vi 0, U0, U0, U0, U0]) rfl (XS.iload W51.here hx rfl (hb hby at_126) rfl (XS.ifYes W51.here hx rfl (pc0 := 128) (pc' := 136) rfl (hb hby at_128) rfl (XT.i0_ge_t (by decide +kernel)) (by decide +kernel) (by decide +kernel) (XS.iload W51.here hx rfl (hb hby at_136) rfl (XS.istore W51.here hx rfl (hb hby at_138) rfl (l' := #[vi i0, vi i1, vi i2, vi i3, vi i4, vi 2, vr b32, vr b41, vr b46, vi 0, vi 0, U0, U0, U0]) rfl (XS.iload W51.here hx rfl (hb hby at_140) rfl (XS.ifYes W51.here hx rfl (pc0 := 142) (pc' := 173) rfl (hb hby at_142) rfl (XT.i0_le_t (by decide +kernel)) (by decide +kernel) (by decide +kernel) kk))))))) ?_
      refine gof T51 m 182 #[vi i0, vi i1, vi i2, vi i3, vi i4, vi 2, vr b32, vr b41, vr b46, vi 0, vi 0, vi 0, U0, U0] [(.int 1)] (fun _ kk => XS.iconst W51.here hx rfl (hb hby at_173) (XS.istore W51.here hx rfl (hb hby at_174) rfl (l' := #[vi i0, vi i1, vi i2, vi i3, vi i4, vi 2, vr b32, vr b41, vr b46, vi 0, vi 0, vi 0, U0, U0]) rfl (XS.iload W51.here hx rfl (hb hby at_176) rfl (XS.ifNo W51.here hx rfl (hb hby at_178) rfl (XT.i0_ne_f (by decide +kernel)) (XS.iconst W51.here hx rfl (hb hby at_181) kk))))) ?_
      exact W51.retI hx hEL hs hlk (by decide +kernel) (by decide +kernel) hret (by simp) rfl (hb hby at_182) rfl
    · by_cases c54 : q35 = (47 : Int32)
      · have ei : (idxC (47 : Int32) [q33, q35] (0 : Int32)) = (1 : Int32) := by simp [idxC, c53, c54]
        rw [ei]
        refine gof T51 m 145 #[vi i0, vi i1, vi i2, vi i3, vi i4, vi 2, vr b32, vr b41, vr b46, vi 1, vi 1, U0, U0, U0] [] (fun _ kk => XS.istore W51.here hx rfl (hb hby at_124) rfl (l' := #[vi i0, vi i1, vi i2, vi i3, vi i4, vi 2, vr b32, vr b41, vr b46, vi 1, U0, U0, U0, U0]) rfl (XS.iload W51.here hx rfl (hb hby at_126) rfl (XS.ifYes W51.here hx rfl (pc0 := 128) (pc' := 136) rfl (hb hby at_128) rfl (XT.i0_ge_t (by decide +kernel)) (by decide +kernel) (by decide +kernel) (XS.iload W51.here hx rfl (hb hby at_136) rfl (XS.istore W51.here hx rfl (hb hby at_138) rfl (l' := #[vi i0, vi i1, vi i2, vi i3, vi i4, vi 2, vr b32, vr b41, vr b46, vi 1, vi 1, U0, U0, U0]) rfl (XS.iload W51.here hx rfl (hb hby at_140) rfl (XS.ifNo W51.here hx rfl (hb hby at_142) rfl (XT.i0_le_f (by decide +kernel)) kk))))))) ?_
        refine gof T51 m 154 #[vi i0, vi i1, vi i2, vi i3, vi i4, vi 2, vr b32, vr b41, vr b46, vi 1, vi 1, U0, U0, U0] [(.int 0), (.ref b32)] (fun _ kk => XS.iload W51.here hx rfl (hb hby at_145) rfl (XS.iconst W51.here hx rfl (hb hby at_147) (XS.icmpNo W51.here hx rfl (hb hby at_148) rfl (XT.ii_ne_f (by decide +kernel)) (XS.aload W51.here hx rfl (hb hby at_151) rfl rfl (XS.iconst W51.here hx rfl (hb hby at_153) kk))))) ?_
        refine W51.caload hx k52 ⟨by decide, by decide⟩ (v := (.int q33)) rfl rfl rfl (hb hby at_154) ?_
        refine gof T51 m 157 #[vi i0, vi i1, vi i2, vi i3, vi i4, vi 2, vr b32, vr b41, vr b46, vi 1, vi 1, U0, U0, U0] [(.int 42), (.int q33)] (fun _ kk => XS.bipush W51.here hx rfl (hb hby at_155) kk) ?_
        by_cases c55 : q33 = (42 : Int32)
        · refine gof T51 m 182 #[vi i0, vi i1, vi i2, vi i3, vi i4, vi 2, vr b32, vr b41, vr b46, vi 1, vi 1, vi 0, U0, U0] [(.int 1)] (fun _ kk => XS.icmpYes W51.here hx rfl (pc0 := 157) (pc' := 173) rfl (hb hby at_157) rfl (XT.ii_eq_t c55) (by decide +kernel) (by decide +kernel) (XS.iconst W51.here hx rfl (hb hby at_173) (XS.istore W51.here hx rfl (hb hby at_174) rfl (l' := #[vi i0, vi i1, vi i2, vi i3, vi i4, vi 2, vr b32, vr b41, vr b46, vi 1, vi 1, vi 0, U0, U0]) rfl (XS.iload W51.here hx rfl (hb hby at_176) rfl (XS.ifNo W51.here hx rfl (hb hby at_178) rfl (XT.i0_ne_f (by decide +kernel)) (XS.iconst W51.here hx rfl (hb hby at_181) kk)))))) ?_
          exact W51.retI hx hEL hs hlk (by decide +kernel) (by decide +kernel) hret (by simp) rfl (hb hby at_182) rfl
        · refine gof T51 m 174 #[vi i0, vi i1, vi i2, vi i3, vi i4, vi 2, vr b32, vr b41, vr b46, vi 1, vi 1, U0, U0, U0] [(.int 0)] (fun _ kk => XS.icmpNo W51.here hx rfl (hb hby at_157) rfl (XT.ii_eq_f c55) (XS.iload W51.here hx rfl (hb hby at_160) rfl (XS.iload W51.here hx rfl (hb hby at_162) rfl (XS.iconst W51.here hx rfl (hb hby at_164) (XS.isub W51.here hx rfl (hb hby at_165) rfl (XS.icmpYes W51.here hx rfl (pc0 := 166) (pc' := 173) rfl (hb hby at_166) rfl (XT.ii_eq_t (by decide +kernel)) (by decide +kernel) (by decide +kernel) (XS.iconst W51.here hx rfl (hb hby at_173) kk))))))) ?_
          refine gof T51 m 182 #[vi i0, vi i1, vi i2, vi i3, vi i4, vi 2, vr b32, vr b41, vr b46, vi 1, vi 1, vi 0, U0, U0] [(.int 1)] (fun _ kk => XS.istore W51.here hx rfl (hb hby at_174) rfl (l' := #[vi i0, vi i1, vi i2, vi i3, vi i4, vi 2, vr b32, vr b41, vr b46, vi 1, vi 1, vi 0, U0, U0]) rfl (XS.iload W51.here hx rfl (hb hby at_176) rfl (XS.ifNo W51.here hx rfl (hb hby at_178) rfl (XT.i0_ne_f (by decide +kernel)) (XS.iconst W51.here hx rfl (hb hby at_181) kk)))) ?_
          exact W51.retI hx hEL hs hlk (by decide +kernel) (by decide +kernel) hret (by simp) rfl (hb hby at_182) rfl
      · have ei : (idxC (47 : Int32) [q33, q35] (0 : Int32)) = (-1 : Int32) := by simp [idxC, c53, c54]
        rw [ei]
        refine gof T51 m 142 #[vi i0, vi i1, vi i2, vi i3, vi i4, vi 2, vr b32, vr b41, vr b46, vi (-1 : Int32), vi 2, U0, U0, U0] [(.int 2)] (fun _ kk => XS.istore W51.here hx rfl (hb hby at_124) rfl (l' := #[vi i0, vi i1, vi i2, vi i3, vi i4, vi 2, vr b32, vr b41, vr b46, vi (-1 : Int32), U0, U0, U0, U0]) rfl (XS.iload W51.here hx rfl (hb hby at_126) rfl (XS.ifNo W51.here hx rfl (hb hby at_128) rfl (XT.i0_ge_f (by decide +kernel)) (XS.iload W51.here hx rfl (hb hby at_131) rfl (XS.goto W51.here hx rfl (pc0 := 133) (pc' := 138) rfl (hb hby at_133) (by decide +kernel) (by decide +kernel) (XS.istore W51.here hx rfl (hb hby at_138) rfl (l' := #[vi i0, vi i1, vi i2, vi i3, vi i4, vi 2, vr b32, vr b41, vr b46, vi (-1 : Int32), vi 2, U0, U0, U0]) rfl (XS.iload W51.here hx rfl (hb hby at_140) rfl kk))))))) ?_
        refine gof T51 m 165 #[vi i0, vi i1, vi i2, vi i3, vi i4, vi 2, vr b32, vr b41, vr b46, vi (-1 : Int32), vi 2, U0, U0, U0] [(.int 1), (.int 2), (.int (-1 : Int32))] (fun _ kk => XS.ifNo W51.here hx rfl (hb hby at_142) rfl (XT.i0_le_f (by decide +kernel)) (XS.iload W51.here hx rfl (hb hby at_145) rfl (XS.iconst W51.here hx rfl (hb hby at_147) (XS.icmpYes W51.here hx rfl (pc0 := 148) (pc' := 160) rfl (hb hby at_148) rfl (XT.ii_ne_t (by decide +kernel)) (by decide +kernel) (by decide +kernel) (XS.iload W51.here hx rfl (hb hby at_160) rfl (XS.iload W51.here hx rfl (hb hby at_162) rfl (XS.iconst W51.here hx rfl (hb hby at_164) kk))))))) ?_
        refine gof T51 m 183 #[vi i0, vi i1, vi i2, vi i3, vi i4, vi 2, vr b32, vr b41, vr b46, vi (-1 : Int32), vi 2, vi 1, U0, U0] [] (fun _ kk => XS.isub W51.here hx rfl (hb hby at_165) rfl (XS.icmpNo W51.here hx rfl (hb hby at_166) rfl (XT.ii_eq_f (by decide +kernel)) (XS.iconst W51.here hx rfl (hb hby at_169) (XS.goto W51.here hx rfl (pc0 := 170) (pc' := 174) rfl (hb hby at_170) (by decide +kernel) (by decide +kernel) (XS.istore W51.here hx rfl (hb hby at_174) rfl (l' := #[vi i0, vi i1, vi i2, vi i3, vi i4, vi 2, vr b32, vr b41, vr b46, vi (-1 : Int32), vi 2, vi 1, U0, U0]) rfl (XS.iload W51.here hx rfl (hb hby at_176) rfl (XS.ifYes W51.here hx rfl (pc0 := 178) (pc' := 183) rfl (hb hby at_178) rfl (XT.i0_ne_t (by decide +kernel)) (by decide +kernel) (by decide +kernel) kk))))))) ?_
        refine gof T51 m 185 #[vi i0, vi i1, vi i2, vi i3, vi i4, vi 2, vr b32, vr b41, vr b46, vi (-1 : Int32), vi 2, vi 1, U0, U0] [(.ref b46)] (fun _ kk => XS.aload W51.here hx rfl (hb hby at_183) rfl rfl kk) ?_
        refine W51.callS hx hEL (hw _ (mI 37 rfl)) (hw _ (mI 38 rfl)) (hw _ (mI 39 rfl)) (hw _ (mI 40 rfl)) (by decide +kernel) (argsL := [(.ref b46)]) (rest := []) (rm401 l Z a0 hw hEL zc SC hzc fm SF rfm b46 q33 q35 h49 W51.old S49 cq33 cq35 c53 c54) all0 (by decide +kernel) (Wd := 0) (by decide +kernel) (by decide +kernel) (by decide +kernel) all0 rfl (by rw [hml]; rfl) (lenOf pd18 rfl) rfl (by show 2 * 0 + _ ≤ _; exact Nat.le_of_eq rfl) (hb hby at_185) (fun T56 h56 v56 W56 K56 q56 => ?_)
        obtain ⟨r56, rfl, lr56, E56, Fn56, Ft56⟩ := q56
        have gr56 : n0 ≤ r56 ∧ s.heap.size ≤ r56 := ⟨Nat.le_trans W51.n0le lr56, Nat.le_trans W51.s0le lr56⟩
        refine gof T56 m 194 #[vi i0, vi i1, vi i2, vi i3, vi i4, vi 2, vr b32, vr b41, vr b46, vi (-1 : Int32), vi 2, vi 1, vr r56, U0] [(.ref r56), (.ref b46)] (fun _ kk => XS.astore W56.here hx rfl (hb hby at_188) rfl rfl (l' := #[vi i0, vi i1, vi i2, vi i3, vi i4, vi 2, vr b32, vr b41, vr b46, vi (-1 : Int32), vi 2, vi 1, vr r56, U0]) rfl (XS.aload W56.here hx rfl (hb hby at_190) rfl rfl (XS.aload W56.here hx rfl (hb hby at_192) rfl rfl kk))) ?_
        refine W56.callV hx hEL (hw _ (mI 119 rfl)) (hw _ (mI 120 rfl)) (hw _ (mI 122 rfl)) (hw _ (mI 121 rfl)) (hw _ (mI 39 rfl)) (hw _ (mI 123 rfl)) (by decide +kernel) E56 (a := r56) (argsL := []) (rest := [(.ref b46)]) (rm450 l Z a0 hw hEL zc SC hzc fm SF rfm r56 b46 h56 W56.old Fn56) all0 (by decide +kernel) (Wd := 1) (by decide +kernel) (by decide +kernel) (by decide +kernel) all0 rfl (by rw [hml]; rfl) (lenOf pd19 rfl) rfl (by show 2 * 0 + _ ≤ _; exact Nat.le_of_eq rfl) (hb hby at_194) (fun T57 h57 v57 W57 K57 q57 => ?_)
        obtain ⟨rfl, rfl⟩ := q57
        show Go p e below _ (T57.setTop (mkF m 197 #[vi i0, vi i1, vi i2, vi i3, vi i4, vi 2, vr b32, vr b41, vr b46, vi (-1 : Int32), vi 2, vi 1, vr r56, U0] [(.ref b46), (.ref b46)]))
        have k59 := (S49.keep0 K56)
        refine W57.strEq hx heq (hw _ (mI 6 rfl)) SC hzc k59 k59 (hw _ (mI 124 rfl)) (hw _ (mI 100 rfl)) (hw _ (mI 102 rfl)) (hw _ (mI 101 rfl)) (by decide +kernel) (Wd := 0) (by decide +kernel) (by decide +kernel) (by decide +kernel) rfl (by rw [hml]; rfl) rfl (by show 2 * 0 + _ ≤ _; exact Nat.le_of_eq rfl) (hb hby at_197) (fun T58 z58 hz58 W58 => ?_)
        obtain ⟨rfl, -⟩ | ⟨-, hn58⟩ := hz58
        case inr => exact absurd rfl hn58
        refine gof T58 m 207 #[vi i0, vi i1, vi i2, vi i3, vi i4, vi 2, vr b32, vr b41, vr b46, vi (-1 : Int32), vi 2, vi 1, vr r56, U0] [(.ref r56)] (fun _ kk => XS.ifYes W58.here hx rfl (pc0 := 200) (pc' := 205) rfl (hb hby at_200) rfl (XT.i0_ne_t (by decide +kernel)) (by decide +kernel) (by decide +kernel) (XS.aload W58.here hx rfl (hb hby at_205) rfl rfl kk)) ?_
        refine W58.callV hx hEL (hw _ (mI 125 rfl)) (hw _ (mI 126 rfl)) (hw _ (mI 128 rfl)) (hw _ (mI 127 rfl)) (hw _ (mI 39 rfl)) (hw _ (mI 129 rfl)) (by decide +kernel) E56 (a := r56) (argsL := []) (rest := []) (rm452 l Z a0 hw hEL zc SC hzc fm SF rfm r56 b46 [q33, q35] h56 W58.old E56 Fn56 Ft56 k59) all0 (by decide +kernel) (Wd := 0) (by decide +kernel) (by decide +kernel) (by decide +kernel) all0 rfl (by rw [hml]; rfl) (lenOf pd4 rfl) rfl (by show 2 * 0 + _ ≤ _; exact Nat.le_of_eq rfl) (hb hby at_207) (fun T60 h60 v60 W60 K60 q60 => ?_)
        obtain ⟨rfl, rfl⟩ := q60
        refine gof T60 m 227 #[vi i0, vi i1, vi i2, vi i3, vi i4, vi 2, vr b32, vr b41, vr b46, vi (-1 : Int32), vi 2, vi 1, vr r56, U0] [(.ref r56)] (fun _ kk => XS.iload W60.here hx rfl (hb hby at_210) rfl (XS.ifYes W60.here hx rfl (pc0 := 212) (pc' := 219) rfl (hb hby at_212) rfl (XT.i0_lt_t (by decide +kernel)) (by decide +kernel) (by decide +kernel) (XS.iconst W60.here hx rfl (hb hby at_219) (XS.icmpYes W60.here hx rfl (pc0 := 220) (pc' := 225) rfl (hb hby at_220) rfl (XT.ii_eq_t (by decide +kernel)) (by decide +kernel) (by decide +kernel) (XS.aload W60.here hx rfl (hb hby at_225) rfl rfl kk))))) ?_
        refine W60.callV hx hEL (hw _ (mI 130 rfl)) (hw _ (mI 131 rfl)) (hw _ (mI 133 rfl)) (hw _ (mI 132 rfl)) (hw _ (mI 39 rfl)) (hw _ (mI 134 rfl)) (by decide +kernel) E56 (a := r56) (argsL := []) (rest := []) (rm451 l Z a0 hw hEL zc SC hzc fm SF rfm r56 b46 h56 W60.old Ft56) all0 (by decide +kernel) (Wd := 0) (by decide +kernel) (by decide +kernel) (by decide +kernel) all0 rfl (by rw [hml]; rfl) (lenOf pd19 rfl) rfl (by show 2 * 0 + _ ≤ _; exact Nat.le_of_eq rfl) (hb hby at_227) (fun T61 h61 v61 W61 K61 q61 => ?_)
        obtain ⟨rfl, rfl⟩ := q61
        refine gof T61 m 235 #[vi i0, vi i1, vi i2, vi i3, vi i4, vi 2, vr b32, vr b41, vr b46, vi (-1 : Int32), vi 2, vi 1, vr r56, U0] [(.int 2), (.int 0), (.ref b32), (.ref b46)] (fun _ kk => XS.aload W61.here hx rfl (hb hby at_230) rfl rfl (XS.iconst W61.here hx rfl (hb hby at_232) (XS.iload W61.here hx rfl (hb hby at_233) rfl kk))) ?_
        have k63 := (k52.keep K56 nin0)
        refine W61.callS hx hEL (hw _ (mI 135 rfl)) (hw _ (mI 136 rfl)) (hw _ (mI 3 rfl)) (hw _ (mI 137 rfl)) (by decide +kernel) (argsL := [(.ref b46), (.ref b32), (.int (0 : Int32)), (.int (2 : Int32))]) (rest := []) (rm34 l Z a0 hw hEL zc SC hzc fm SF rfm b46 b32 c32 q33 q35 q37 q39 h56 W61.old k59 k63 cq33 cq35 cq37 cq39) all0 (by decide +kernel) (Wd := 0) (by decide +kernel) (by decide +kernel) (by decide +kernel) all0 rfl (by rw [hml]; rfl) (lenOf pd20 rfl) rfl (by show 2 * 0 + _ ≤ _; exact Nat.le_of_eq rfl) (hb hby at_235) (fun T62 h62 v62 W62 K62 q62 => ?_)
        obtain ⟨rfl, rfl⟩ := q62
        refine gof T62 m 245 #[vi i0, vi i1, vi i2, vi i3, vi i4, vi 2, vr b32, vr b41, vr b46, vi (-1 : Int32), vi 2, vi 1, vr r56, U0] [(.ref r56)] (fun _ kk => XS.ifYes W62.here hx rfl (pc0 := 238) (pc' := 243) rfl (hb hby at_238) rfl (XT.i0_ne_t (by decide +kernel)) (by decide +kernel) (by decide +kernel) (XS.aload W62.here hx rfl (hb hby at_243) rfl rfl kk)) ?_
        refine W62.callV hx hEL (hw _ (mI 155 rfl)) (hw _ (mI 156 rfl)) (hw _ (mI 158 rfl)) (hw _ (mI 157 rfl)) (hw _ (mI 39 rfl)) (hw _ (mI 159 rfl)) (by decide +kernel) E56 (a := r56) (argsL := []) (rest := []) (rm453 l Z a0 hw hEL zc SC hzc fm SF rfm r56 b46 [q33, q35] h56 W62.old E56 Fn56 Ft56 k59) all0 (by decide +kernel) (Wd := 0) (by decide +kernel) (by decide +kernel) (by decide +kernel) all0 rfl (by rw [hml]; rfl) (lenOf pd19 rfl) rfl (by show 2 * 0 + _ ≤ _; exact Nat.le_of_eq rfl) (hb hby at_245) (fun T64 h64 v64 W64 K64 q64 => ?_)
        obtain ⟨rfl, rfl⟩ := q64
        refine gof T64 m 265 #[vi i0, vi i1, vi i2, vi i3, vi i4, vi 2, vr b32, vr b41, vr b46, vi (-1 : Int32), vi 2, vi 1, vr r56, vN] [(.int 1)] (fun _ kk => XS.astore W64.here hx rfl (hb hby at_248) rfl rfl (l' := #[vi i0, vi i1, vi i2, vi i3, vi i4, vi 2, vr b32, vr b41, vr b46, vi (-1 : Int32), vi 2, vi 1, vr r56, vN]) rfl (XS.iload W64.here hx rfl (hb hby at_250) rfl (XS.ifNo W64.here hx rfl (hb hby at_252) rfl (XT.i0_ge_f (by decide +kernel)) (XS.aload W64.here hx rfl (hb hby at_255) rfl rfl (XS.ifnonnullNo W64.here hx rfl (hb hby at_257) rfl (XS.iconst W64.here hx rfl (hb hby at_260) (XS.goto W64.here hx rfl (pc0 := 261) (pc' := 265) rfl (hb hby at_261) (by decide +kernel) (by decide +kernel) kk))))))) ?_
        exact W64.retI hx hEL hs hlk (by decide +kernel) (by decide +kernel) hret (by simp) rfl (hb hby at_265) rfl
  · rw [z1]
    refine gof T0 m 9 #[vi i0, vi i1, vi i2, vi i3, vi i4, vi 3, U0, U0, U0, U0, U0, U0, U0, U0] [(.int 4)] (fun _ kk => XS.iconst W0.here hx rfl (hb hby at_4) (XS.iadd W0.here hx rfl (hb hby at_5) rfl (XS.istore W0.here hx rfl (hb hby at_6) rfl (l' := #[vi i0, vi i1, vi i2, vi i3, vi i4, vi 3, U0, U0, U0, U0, U0, U0, U0, U0]) rfl (XS.iconst W0.here hx rfl (hb hby at_8) kk)))) ?_
    refine W0.newP hx (hw _ (mI 0 rfl)) rfl (hb hby at_9) rfl (by decide +kernel) (cap := 4) (by decide +kernel) (by decide +kernel) (by decide +kernel) (by decide +kernel) (fun T65 h65 b65 c65 eb65 gb65 W65 K65 A65 => ?_)
    have V65 : Arv Z h65 b65 c65 .char (4 : Int32) [(.int (0 : Int32)), (.int (0 : Int32)), (.int (0 : Int32)), (.int (0 : Int32))] (.int (0 : Int32)) := A65
    refine gof T65 m 17 #[vi i0, vi i1, vi i2, vi i3, vi i4, vi 3, vr b65, U0, U0, U0, U0, U0, U0, U0] [(.int i0), (.int 0), (.ref b65)] (fun _ kk => XS.astore W65.here hx rfl (hb hby at_11) rfl rfl (l' := #[vi i0, vi i1, vi i2, vi i3, vi i4, vi 3, vr b65, U0, U0, U0, U0, U0, U0, U0]) rfl (XS.aload W65.here hx rfl (hb hby at_13) rfl rfl (XS.iconst W65.here hx rfl (hb hby at_15) (XS.iloadN W65.here hx rfl (hb hby at_16) rfl kk)))) ?_
    refine W65.callS hx hEL (hw _ (mI 1 rfl)) (hw _ (mI 2 rfl)) (hw _ (mI 3 rfl)) (hw _ (mI 4 rfl)) (by decide +kernel) (argsL := [(.int i0)]) (rest := [(.int (0 : Int32)), (.ref b65)]) (rm1 l Z a0 hw hEL zc SC hzc fm SF rfm i0 h65 W65.old ) all0 (by decide +kernel) (Wd := 2) (by decide +kernel) (by decide +kernel) (by decide +kernel) all0 rfl (by rw [hml]; rfl) (lenOf pd16 rfl) rfl (by show 2 * 0 + _ ≤ _; exact Nat.le_of_eq rfl) (hb hby at_17) (fun T66 h66 v66 W66 K66 q66 => ?_)
    obtain ⟨q66, rfl, cq66, rfl⟩ := q66
    show Go p e below _ (T66.setTop (mkF m 20 #[vi i0, vi i1, vi i2, vi i3, vi i4, vi 3, vr b65, U0, U0, U0, U0, U0, U0, U0] [(.int q66), (.int 0), (.ref b65)]))
    refine W66.stC hx V65 ⟨by decide, by decide⟩ 0 rfl (Nat.le_of_ble_eq_true rfl) gb65.1 (Or.inr gb65.2) rfl rfl (hb hby at_20) (fun T67 h67 W67 K67 A67 => ?_)
    have V67 : Arv Z h67 b65 c65 .char (4 : Int32) [(.int q66), (.int (0 : Int32)), (.int (0 : Int32)), (.int (0 : Int32))] (.int (0 : Int32)) := (by rw [(nar_char cq66)] at A67; exact A67)
    refine gof T67 m 25 #[vi i0, vi i1, vi i2, vi i3, vi i4, vi 3, vr b65, U0, U0, U0, U0, U0, U0, U0] [(.int i1), (.int 1), (.ref b65)] (fun _ kk => XS.aload W67.here hx rfl (hb hby at_21) rfl rfl (XS.iconst W67.here hx rfl (hb hby at_23) (XS.iloadN W67.here hx rfl (hb hby at_24) rfl kk))) ?_
    refine W67.callS hx hEL (hw _ (mI 1 rfl)) (hw _ (mI 2 rfl)) (hw _ (mI 3 rfl)) (hw _ (mI 4 rfl)) (by decide +kernel) (argsL := [(.int i1)]) (rest := [(.int (1 : Int32)), (.ref b65)]) (rm1 l Z a0 hw hEL zc SC hzc fm SF rfm i1 h67 W67.old ) all0 (by decide +kernel) (Wd := 2) (by decide +kernel) (by decide +kernel) (by decide +kernel) all0 rfl (by rw [hml]; rfl) (lenOf pd16 rfl) rfl (by show 2 * 0 + _ ≤ _; exact Nat.le_of_eq rfl) (hb hby at_25) (fun T68 h68 v68 W68 K68 q68 => ?_)
    obtain ⟨q68, rfl, cq68, rfl⟩ := q68
    show Go p e below _ (T68.setTop (mkF m 28 #[vi i0, vi i1, vi i2, vi i3, vi i4, vi 3, vr b65, U0, U0, U0, U0, U0, U0, U0] [(.int q68), (.int 1), (.ref b65)]))
    refine W68.stC hx V67 ⟨by decide, by decide⟩ 1 rfl (Nat.le_of_ble_eq_true rfl) gb65.1 (Or.inr gb65.2) rfl rfl (hb hby at_28) (fun T69 h69 W69 K69 A69 => ?_)
    have V69 : Arv Z h69 b65 c65 .char (4 : Int32) [(.int q66), (.int q68), (.int (0 : Int32)), (.int (0 : Int32))] (.int (0 : Int32)) := (by rw [(nar_char cq68)] at A69; exact A69)
    refine gof T69 m 33 #[vi i0, vi i1, vi i2, vi i3, vi i4, vi 3, vr b65, U0, U0, U0, U0, U0, U0, U0] [(.int i2), (.int 2), (.ref b65)] (fun _ kk => XS.aload W69.here hx rfl (hb hby at_29) rfl rfl (XS.iconst W69.here hx rfl (hb hby at_31) (XS.iloadN W69.here hx rfl (hb hby at_32) rfl kk))) ?_
    refine W69.callS hx hEL (hw _ (mI 1 rfl)) (hw _ (mI 2 rfl)) (hw _ (mI 3 rfl)) (hw _ (mI 4 rfl)) (by decide +kernel) (argsL := [(.int i2)]) (rest := [(.int (2 : Int32)), (.ref b65)]) (rm1 l Z a0 hw hEL zc SC hzc fm SF rfm i2 h69 W69.old ) all0 (by decide +kernel) (Wd := 2) (by decide +kernel) (by decide +kernel) (by decide +kernel) all0 rfl (by rw [hml]; rfl) (lenOf pd16 rfl) rfl (by show 2 * 0 + _ ≤ _; exact Nat.le_of_eq rfl) (hb hby at_33) (fun T70 h70 v70 W70 K70 q70 => ?_)
    obtain ⟨q70, rfl, cq70, rfl⟩ := q70
    show Go p e below _ (T70.setTop (mkF m 36 #[vi i0, vi i1, vi i2, vi i3, vi i4, vi 3, vr b65, U0, U0, U0, U0, U0, U0, U0] [(.int q70), (.int 2), (.ref b65)]))
    refine W70.stC hx V69 ⟨by decide, by decide⟩ 2 rfl (Nat.le_of_ble_eq_true rfl) gb65.1 (Or.inr gb65.2) rfl rfl (hb hby at_36) (fun T71 h71 W71 K71 A71 => ?_)
    have V71 : Arv Z h71 b65 c65 .char (4 : Int32) [(.int q66), (.int q68), (.int q70), (.int (0 : Int32))] (.int (0 : Int32)) := (by rw [(nar_char cq70)] at A71; exact A71)
    refine gof T71 m 41 #[vi i0, vi i1, vi i2, vi i3, vi i4, vi 3, vr b65, U0, U0, U0, U0, U0, U0, U0] [(.int i3), (.int 3), (.ref b65)] (fun _ kk => XS.aload W71.here hx rfl (hb hby at_37) rfl rfl (XS.iconst W71.here hx rfl (hb hby at_39) (XS.iloadN W71.here hx rfl (hb hby at_40) rfl kk))) ?_
    refine W71.callS hx hEL (hw _ (mI 1 rfl)) (hw _ (mI 2 rfl)) (hw _ (mI 3 rfl)) (hw _ (mI 4 rfl)) (by decide +kernel) (argsL := [(.int i3)]) (rest := [(.int (3 : Int32)), (.ref b65)]) (rm1 l Z a0 hw hEL zc SC hzc fm SF rfm i3 h71 W71.old ) all0 (by decide +kernel) (Wd := 2) (by decide +kernel) (by decide +kernel) (by decide +kernel) all0 rfl (by rw [hml]; rfl) (lenOf pd16 rfl) rfl (by show 2 * 0 + _ ≤ _; exact Nat.le_of_eq rfl) (hb hby at_41) (fun T72 h72 v72 W72 K72 q72 => ?_)
    obtain ⟨q72, rfl, cq72, rfl⟩ := q72
    show Go p e below _ (T72.setTop (mkF m 44 #[vi i0, vi i1, vi i2, vi i3, vi i4, vi 3, vr b65, U0, U0, U0, U0, U0, U0, U0] [(.int q72), (.int 3), (.ref b65)]))
    refine W72.stC hx V71 ⟨by decide, by decide⟩ 3 rfl (Nat.le_of_ble_eq_true rfl) gb65.1 (Or.inr gb65.2) rfl rfl (hb hby at_44) (fun T73 h73 W73 K73 A73 => ?_)
    have V73 : Arv Z h73 b65 c65 .char (4 : Int32) [(.int q66), (.int q68), (.int q70), (.int q72)] (.int (0 : Int32)) := (by rw [(nar_char cq72)] at A73; exact A73)
    refine gof T73 m 47 #[vi i0, vi i1, vi i2, vi i3, vi i4, vi 3, vr b65, U0, U0, U0, U0, U0, U0, U0] [(.int 3)] (fun _ kk => XS.iload W73.here hx rfl (hb hby at_45) rfl kk) ?_
    refine W73.newP hx (hw _ (mI 0 rfl)) rfl (hb hby at_47) rfl (by decide +kernel) (cap := 3) (by decide +kernel) (by decide +kernel) (by decide +kernel) (by decide +kernel) (fun T74 h74 b74 c74 eb74 gb74 W74 K74 A74 => ?_)
    have V74 : Arv Z h74 b74 c74 .char (3 : Int32) [(.int (0 : Int32)), (.int (0 : Int32)), (.int (0 : Int32))] (.int (0 : Int32)) := A74
    refine gof T74 m 62 #[vi i0, vi i1, vi i2, vi i3, vi i4, vi 3, vr b65, vr b74, U0, U0, U0, U0, U0, U0] [(.int 0), (.ref b65), (.int 0), (.ref b74)] (fun _ kk => XS.astore W74.here hx rfl (hb hby at_49) rfl rfl (l' := #[vi i0, vi i1, vi i2, vi i3, vi i4, vi 3, vr b65, vr b74, U0, U0, U0, U0, U0, U0]) rfl (XS.iload W74.here hx rfl (hb hby at_51) rfl (XS.ifNo W74.here hx rfl (hb hby at_53) rfl (XT.i0_le_f (by decide +kernel)) (XS.aload W74.here hx rfl (hb hby at_56) rfl rfl (XS.iconst W74.here hx rfl (hb hby at_58) (XS.aload W74.here hx rfl (hb hby at_59) rfl rfl (XS.iconst W74.here hx rfl (hb hby at_61) kk))))))) ?_
    have k75 := (V73.keep K74 nin0)
    refine W74.caload hx k75 ⟨by decide, by decide⟩ (v := (.int q66)) rfl rfl rfl (hb hby at_62) ?_
    show Go p e below _ (T74.setTop (mkF m 63 #[vi i0, vi i1, vi i2, vi i3, vi i4, vi 3, vr b65, vr b74, U0, U0, U0, U0, U0, U0] [(.int q66), (.int 0), (.ref b74)]))
    refine W74.stC hx V74 ⟨by decide, by decide⟩ 0 rfl (Nat.le_of_ble_eq_true rfl) gb74.1 (Or.inr gb74.2) rfl rfl (hb hby at_63) (fun T76 h76 W76 K76 A76 => ?_)
    have V76 : Arv Z h76 b74 c74 .char (3 : Int32) [(.int q66), (.int (0 : Int32)), (.int (0 : Int32))] (.int (0 : Int32)) := (by rw [(nar_char cq66)] at A76; exact A76)
    refine gof T76 m 76 #[vi i0, vi i1, vi i2, vi i3, vi i4, vi 3, vr b65, vr b74, U0, U0, U0, U0, U0, U0] [(.int 1), (.ref b65), (.int 1), (.ref b74)] (fun _ kk => XS.iload W76.here hx rfl (hb hby at_64) rfl (XS.iconst W76.here hx rfl (hb hby at_66) (XS.icmpNo W76.here hx rfl (hb hby at_67) rfl (XT.ii_le_f (by decide +kernel)) (XS.aload W76.here hx rfl (hb hby at_70) rfl rfl (XS.iconst W76.here hx rfl (hb hby at_72) (XS.aload W76.here hx rfl (hb hby at_73) rfl rfl (XS.iconst W76.here hx rfl (hb hby at_75) kk))))))) ?_
    have k77 := (k75.keep K76 (ninS (ne_of_born (Nat.le_of_eq eb74.symm) V65.lt (Nat.le_trans (Nat.le_trans (Nat.le_trans K67.1 K69.1) K71.1) K73.1)) nin0))
    refine W76.caload hx k77 ⟨by decide, by decide⟩ (v := (.int q68)) rfl rfl rfl (hb hby at_76) ?_
    show Go p e below _ (T76.setTop (mkF m 77 #[vi i0, vi i1, vi i2, vi i3, vi i4, vi 3, vr b65, vr b74, U0, U0, U0, U0, U0, U0] [(.int q68), (.int 1), (.ref b74)]))
    refine W76.stC hx V76 ⟨by decide, by decide⟩ 1 rfl (Nat.le_of_ble_eq_true rfl) gb74.1 (Or.inr gb74.2) rfl rfl (hb hby at_77) (fun T78 h78 W78 K78 A78 => ?_)
    have V78 : Arv Z h78 b74 c74 .char (3 : Int32) [(.int q66), (.int q68), (.int (0 : Int32))] (.int (0 : Int32)) := (by rw [(nar_char cq68)] at A78; exact A78)
    refine gof T78 m 90 #[vi i0, vi i1, vi i2, vi i3, vi i4, vi 3, vr b65, vr b74, U0, U0, U0, U0, U0, U0] [(.int 2), (.ref b65), (.int 2), (.ref b74)] (fun _ kk => XS.iload W78.here hx rfl (hb hby at_78) rfl (XS.iconst W78.here hx rfl (hb hby at_80) (XS.icmpNo W78.here hx rfl (hb hby at_81) rfl (XT.ii_le_f (by decide +kernel)) (XS.aload W78.here hx rfl (hb hby at_84) rfl rfl (XS.iconst W78.here hx rfl (hb hby at_86) (XS.aload W78.here hx rfl (hb hby at_87) rfl rfl (XS.iconst W78.here hx rfl (hb hby at_89) kk))))))) ?_
    have k79 := (k77.keep K78 (ninS (ne_of_born (Nat.le_of_eq eb74.symm) V65.lt (Nat.le_trans (Nat.le_trans (Nat.le_trans K67.1 K69.1) K71.1) K73.1)) nin0))
    refine W78.caload hx k79 ⟨by decide, by decide⟩ (v := (.int q70)) rfl rfl rfl (hb hby at_90) ?_
    show Go p e below _ (T78.setTop (mkF m 91 #[vi i0, vi i1, vi i2, vi i3, vi i4, vi 3, vr b65, vr b74, U0, U0, U0, U0, U0, U0] [(.int q70), (.int 2), (.ref b74)]))
    refine W78.stC hx V78 ⟨by decide, by decide⟩ 2 rfl (Nat.le_of_ble_eq_true rfl) gb74.1 (Or.inr gb74.2) rfl rfl (hb hby at_91) (fun T80 h80 W80 K80 A80 => ?_)
    have V80 : Arv Z h80 b74 c74 .char (3 : Int32) [(.int q66), (.int q68), (.int q70)] (.int (0 : Int32)) := (by rw [(nar_char cq70)] at A80; exact A80)
    refine gof T80 m 106 #[vi i0, vi i1, vi i2, vi i3, vi i4, vi 3, vr b65, vr b74, U0, U0, U0, U0, U0, U0] [] (fun _ kk => XS.iload W80.here hx rfl (hb hby at_92) rfl (XS.iconst W80.here hx rfl (hb hby at_94) (XS.icmpYes W80.here hx rfl (pc0 := 95) (pc' := 106) rfl (hb hby at_95) rfl (XT.ii_le_t (by decide +kernel)) (by decide +kernel) (by decide +kernel) kk))) ?_
    refine W80.newO hx (hw _ (mI 5 rfl)) (hw _ (mI 6 rfl)) (hw _ (mI 7 rfl)) rfl (hb hby at_106) (by decide +kernel) (by decide +kernel) (fun T81 h81 b81 eb81 gb81 W81 K81 E81 D81 => ?_)
    have k82 : Fld Z h81 b81 "java/lang/String" "coder" "B" (.int (0 : Int32)) := D81 (Or.inr (hw _ (mI 31 rfl))) (ty := .byte) (by decide +kernel)
    have k83 : Fld Z h81 b81 "java/lang/String" "value" "[B" .null := D81 (Or.inr (hw _ (mI 33 rfl))) (ty := (.array .byte)) (by decide +kernel)
    refine gof T81 m 112 #[vi i0, vi i1, vi i2, vi i3, vi i4, vi 3, vr b65, vr b74, U0, U0, U0, U0, U0, U0] [(.ref b74), (.ref b81), (.ref b81)] (fun _ kk => XS.dup W81.here hx rfl (hb hby at_109) rfl rfl (XS.aload W81.here hx rfl (hb hby at_110) rfl rfl kk)) ?_
    have k85 := (V80.keep K81 nin0)
    refine W81.newStr hx hws (hw _ (mI 6 rfl)) SC hzc (hw _ (mI 8 rfl)) (hw _ (mI 9 rfl)) (hw _ (mI 10 rfl)) E81 k83 k82 (cs := [q66, q68, q70]) (n := 3) k85 rfl rfl (by decide +kernel) (by decide +kernel) (allSi cq66 (allSi cq68 (allSi cq70 all0i))) gb81.1 (Or.inr gb81.2) (mI 0 rfl) (by decide +kernel) (Wd := 1) (by decide +kernel) (by decide +kernel) (by decide +kernel) rfl (by rw [hml]; rfl) rfl (by show 2 * 0 + _ ≤ _; exact Nat.le_of_eq rfl) (hb hby at_112) (fun T84 h84 W84 K84 S84 => ?_)
    refine gof T84 m 121 #[vi i0, vi i1, vi i2, vi i3, vi i4, vi 3, vr b65, vr b74, vr b81, U0, U0, U0, U0, U0] [(.int 3), (.ref b65)] (fun _ kk => XS.astore W84.here hx rfl (hb hby at_115) rfl rfl (l' := #[vi i0, vi i1, vi i2, vi i3, vi i4, vi 3, vr b65, vr b74, vr b81, U0, U0, U0, U0, U0]) rfl (XS.aload W84.here hx rfl (hb hby at_117) rfl rfl (XS.iload W84.here hx rfl (hb hby at_119) rfl kk))) ?_
    have k87 := (((k79.keep K80 (ninS (ne_of_born (Nat.le_of_eq eb74.symm) V65.lt (Nat.le_trans (Nat.le_trans (Nat.le_trans K67.1 K69.1) K71.1) K73.1)) nin0)).keep K81 nin0).keep K84 (ninS (ne_of_born (Nat.le_of_eq eb81.symm) V65.lt (Nat.le_trans (Nat.le_trans (Nat.le_trans (Nat.le_trans (Nat.le_trans (Nat.le_trans (Nat.le_trans K67.1 K69.1) K71.1) K73.1) K74.1) K76.1) K78.1) K80.1)) nin0))
    refine W84.callS hx hEL (hw _ (mI 34 rfl)) (hw _ (mI 35 rfl)) (hw _ (mI 3 rfl)) (hw _ (mI 36 rfl)) (by decide +kernel) (argsL := [(.ref b65), (.int (3 : Int32))]) (rest := []) (rm23 l Z a0 hw hEL zc SC hzc fm SF rfm b65 c65 q66 q68 q70 q72 h84 W84.old k87) all0 (by decide +kernel) (Wd := 0) (by decide +kernel) (by decide +kernel) (by decide +kernel) all0 rfl (by rw [hml]; rfl) (lenOf pd17 rfl) rfl (by show 2 * 0 + _ ≤ _; exact Nat.le_of_eq rfl) (hb hby at_121) (fun T86 h86 v86 W86 K86 q86 => ?_)
    obtain ⟨rfl, rfl⟩ := q86
    show Go p e below _ (T86.setTop (mkF m 124 #[vi i0, vi i1, vi i2, vi i3, vi i4, vi 3, vr b65, vr b74, vr b81, U0, U0, U0, U0, U0] [(.int (idxC (47 : Int32) [q66, q68, q70] (0 : Int32)))]))
    by_cases c88 : q66 = (47 : Int32)
    · have ei : (idxC (47 : Int32) [q66, q68, q70] (0 : Int32)) = (0 : Int32) := by simp [idxC, c88]
      rw [ei]
      refine gof T86 m 173 #[vi i0, vi i1, vi i2, vi i3, vi i4, vi 3, vr b65, vr b74, vr b81, vi 0, vi 0, U0, U0, U0] [] (fun _ kk => XS.istore W86.here hx rfl (hb hby at_124) rfl (l' := #[vi i0, vi i1, vi i2, vi i3, vi i4, vi 3, vr b65, vr b74, vr b81, vi 0, U0, U0, U0, U0]) rfl (XS.iload W86.here hx rfl (hb hby at_126) rfl (XS.ifYes W86.here hx rfl (pc0 := 128) (pc' := 136) rfl (hb hby at_128) rfl (XT.i0_ge_t (by decide +kernel)) (by decide +kernel) (by decide +kernel) (XS.iload W86.here hx rfl (hb hby at_136) rfl (XS.istore W86.here hx rfl (hb hby at_138) rfl (l' := #[vi i0, vi i1, vi i2, vi i3, vi i4, vi 3, vr b65, vr b74, vr b81, vi 0, vi 0, U0, U0, U0]) rfl (XS.iload W86.here hx rfl (hb hby at_140) rfl (XS.ifYes W86.here hx rfl (pc0 := 142) (pc' := 173) rfl (hb hby at_142) rfl (XT.i0_le_t (by decide +kernel)) (by decide +kernel) (by decide +kernel) kk))))))) ?_
      refine gof T86 m 182 #[vi i0, vi i1, vi i2, vi i3, vi i4, vi 3, vr b65, vr b74, vr b81, vi 0, vi 0, vi 0, U0, U0] [(.int 1)] (fun _ kk => XS.iconst W86.here hx rfl (hb hby at_173) (XS.istore W86.here hx rfl (hb hby at_174) rfl (l' := #[vi i0, vi i1, vi i2, vi i3, vi i4, vi 3, vr b65, vr b74, vr b81, vi 0, vi 0, vi 0, U0, U0]) rfl (XS.iload W86.here hx rfl (hb hby at_176) rfl (XS.ifNo W86.here hx rfl (hb hby at_178) rfl (XT.i0_ne_f (by decide +kernel)) (XS.iconst W86.here hx rfl (hb hby at_181) kk))))) ?_
      exact W86.retI hx hEL hs hlk (by decide +kernel) (by decide +kernel) hret (by simp) rfl (hb hby at_182) rfl
    · by_cases c89 : q68 = (47 : Int32)
      · have ei : (idxC (47 : Int32) [q66, q68, q70] (0 : Int32)) = (1 : Int32) := by simp [idxC, c88, c89]
        rw [ei]
        refine gof T86 m 145 #[vi i0, vi i1, vi i2, vi i3, vi i4, vi 3, vr b65, vr b74, vr b81, vi 1, vi 1, U0, U0, U0] [] (fun _ kk => XS.istore W86.here hx rfl (hb hby at_124) rfl (l' := #[vi i0, vi i1, vi i2, vi i3, vi i4, vi 3, vr b65, vr b74, vr b81, vi 1, U0, U0, U0, U0]) rfl (XS.iload W86.here hx rfl (hb hby at_126) rfl (XS.ifYes W86.here hx rfl (pc0 := 128) (pc' := 136) rfl (hb hby at_128) rfl (XT.i0_ge_t (by decide +kernel)) (by decide +kernel) (by decide +kernel) (XS.iload W86.here hx rfl (hb hby at_136) rfl (XS.istore W86.here hx rfl (hb hby at_138) rfl (l' := #[vi i0, vi i1, vi i2, vi i3, vi i4, vi 3, vr b65, vr b74, vr b81, vi 1, vi 1, U0, U0, U0]) rfl (XS.iload W86.here hx rfl (hb hby at_140) rfl (XS.ifNo W86.here hx rfl (hb hby at_142) rfl (XT.i0_le_f (by decide +kernel)) kk))))))) ?_
        refine gof T86 m 154 #[vi i0, vi i1, vi i2, vi i3, vi i4, vi 3, vr b65, vr b74, vr b81, vi 1, vi 1, U0, U0, U0] [(.int 0), (.ref b65)] (fun _ kk => XS.iload W86.here hx rfl (hb hby at_145) rfl (XS.iconst W86.here hx rfl (hb hby at_147) (XS.icmpNo W86.here hx rfl (hb hby at_148) rfl (XT.ii_ne_f (by decide +kernel)) (XS.aload W86.here hx rfl (hb hby at_151) rfl rfl (XS.iconst W86.here hx rfl (hb hby at_153) kk))))) ?_
        refine W86.caload hx k87 ⟨by decide, by decide⟩ (v := (.int q66)) rfl rfl rfl (hb hby at_154) ?_
        refine gof T86 m 157 #[vi i0, vi i1, vi i2, vi i3, vi i4, vi 3, vr b65, vr b74, vr b81, vi 1, vi 1, U0, U0, U0] [(.int 42), (.int q66)] (fun _ kk => XS.bipush W86.here hx rfl (hb hby at_155) kk) ?_
        by_cases c90 : q66 = (42 : Int32)
        · refine gof T86 m 182 #[vi i0, vi i1, vi i2, vi i3, vi i4, vi 3, vr b65, vr b74, vr b81, vi 1, vi 1, vi 0, U0, U0] [(.int 1)] (fun _ kk => XS.icmpYes W86.here hx rfl (pc0 := 157) (pc' := 173) rfl (hb hby at_157) rfl (XT.ii_eq_t c90) (by decide +kernel) (by decide +kernel) (XS.iconst W86.here hx rfl (hb hby at_173) (XS.istore W86.here hx rfl (hb hby at_174) rfl (l' := #[vi i0, vi i1, vi i2, vi i3, vi i4, vi 3, vr b65, vr b74, vr b81, vi 1, vi 1, vi 0, U0, U0]) rfl (XS.iload W86.here hx rfl (hb hby at_176) rfl (XS.ifNo W86.here hx rfl (hb hby at_178) rfl (XT.i0_ne_f (by decide +kernel)) (XS.iconst W86.here hx rfl (hb hby at_181) kk)))))) ?_
          exact W86.retI hx hEL hs hlk (by decide +kernel) (by decide +kernel) hret (by simp) rfl (hb hby at_182) rfl
        · refine gof T86 m 170 #[vi i0, vi i1, vi i2, vi i3, vi i4, vi 3, vr b65, vr b74, vr b81, vi 1, vi 1, U0, U0, U0] [(.int 1)] (fun _ kk => XS.icmpNo W86.here hx rfl (hb hby at_157) rfl (XT.ii_eq_f c90) (XS.iload W86.here hx rfl (hb hby at_160) rfl (XS.iload W86.here hx rfl (hb hby at_162) rfl (XS.iconst W86.here hx rfl (hb hby at_164) (XS.isub W86.here hx rfl (hb hby at_165) rfl (XS.icmpNo W86.here hx rfl (hb hby at_166) rfl (XT.ii_eq_f (by decide +kernel)) (XS.iconst W86.here hx rfl (hb hby at_169) kk))))))) ?_
          refine gof T86 m 185 #[vi i0, vi i1, vi i2, vi i3, vi i4, vi 3, vr b65, vr b74, vr b81, vi 1, vi 1, vi 1, U0, U0] [(.ref b81)] (fun _ kk => XS.goto W86.here hx rfl (pc0 := 170) (pc' := 174) rfl (hb hby at_170) (by decide +kernel) (by decide +kernel) (XS.istore W86.here hx rfl (hb hby at_174) rfl (l' := #[vi i0, vi i1, vi i2, vi i3, vi i4, vi 3, vr b65, vr b74, vr b81, vi 1, vi 1, vi 1, U0, U0]) rfl (XS.iload W86.here hx rfl (hb hby at_176) rfl (XS.ifYes W86.here hx rfl (pc0 := 178) (pc' := 183) rfl (hb hby at_178) rfl (XT.i0_ne_t (by decide +kernel)) (by decide +kernel) (by decide +kernel) (XS.aload W86.here hx rfl (hb hby at_183) rfl rfl kk))))) ?_
          refine W86.callS hx hEL (hw _ (mI 37 rfl)) (hw _ (mI 38 rfl)) (hw _ (mI 39 rfl)) (hw _ (mI 40 rfl)) (by decide +kernel) (argsL := [(.ref b81)]) (rest := []) (rm404 l Z a0 hw hEL zc SC hzc fm SF rfm b81 q66 q68 q70 h84 W86.old S84 cq66 cq68 cq70 c88 c89 c90) all0 (by decide +kernel) (Wd := 0) (by decide +kernel) (by decide +kernel) (by decide +kernel) all0 rfl (by rw [hml]; rfl) (lenOf pd18 rfl) rfl (by show 2 * 0 + _ ≤ _; exact Nat.le_of_eq rfl) (hb hby at_185) (fun T91 h91 v91 W91 K91 q91 => ?_)
          obtain ⟨r91, ty91, rfl, lr91, E91, Fn91, Ft91, St91⟩ := q91
          have gr91 : n0 ≤ r91 ∧ s.heap.size ≤ r91 := ⟨Nat.le_trans W86.n0le lr91, Nat.le_trans W86.s0le lr91⟩
          refine gof T91 m 194 #[vi i0, vi i1, vi i2, vi i3, vi i4, vi 3, vr b65, vr b74, vr b81, vi 1, vi 1, vi 1, vr r91, U0] [(.ref r91), (.ref b81)] (fun _ kk => XS.astore W91.here hx rfl (hb hby at_188) rfl rfl (l' := #[vi i0, vi i1, vi i2, vi i3, vi i4, vi 3, vr b65, vr b74, vr b81, vi 1, vi 1, vi 1, vr r91, U0]) rfl (XS.aload W91.here hx rfl (hb hby at_190) rfl rfl (XS.aload W91.here hx rfl (hb hby at_192) rfl rfl kk))) ?_
          refine W91.callV hx hEL (hw _ (mI 119 rfl)) (hw _ (mI 120 rfl)) (hw _ (mI 122 rfl)) (hw _ (mI 121 rfl)) (hw _ (mI 39 rfl)) (hw _ (mI 123 rfl)) (by decide +kernel) E91 (a := r91) (argsL := []) (rest := [(.ref b81)]) (rm450 l Z a0 hw hEL zc SC hzc fm SF rfm r91 b81 h91 W91.old Fn91) all0 (by decide +kernel) (Wd := 1) (by decide +kernel) (by decide +kernel) (by decide +kernel) all0 rfl (by rw [hml]; rfl) (lenOf pd19 rfl) rfl (by show 2 * 0 + _ ≤ _; exact Nat.le_of_eq rfl) (hb hby at_194) (fun T92 h92 v92 W92 K92 q92 => ?_)
          obtain ⟨rfl, rfl⟩ := q92
          show Go p e below _ (T92.setTop (mkF m 197 #[vi i0, vi i1, vi i2, vi i3, vi i4, vi 3, vr b65, vr b74, vr b81, vi 1, vi 1, vi 1, vr r91, U0] [(.ref b81), (.ref b81)]))
          have k94 := (S84.keep0 K91)
          refine W92.strEq hx heq (hw _ (mI 6 rfl)) SC hzc k94 k94 (hw _ (mI 124 rfl)) (hw _ (mI 100 rfl)) (hw _ (mI 102 rfl)) (hw _ (mI 101 rfl)) (by decide +kernel) (Wd := 0) (by decide +kernel) (by decide +kernel) (by decide +kernel) rfl (by rw [hml]; rfl) rfl (by show 2 * 0 + _ ≤ _; exact Nat.le_of_eq rfl) (hb hby at_197) (fun T93 z93 hz93 W93 => ?_)
          obtain ⟨rfl, -⟩ | ⟨-, hn93⟩ := hz93
          case inr => exact absurd rfl hn93
          refine gof T93 m 207 #[vi i0, vi i1, vi i2, vi i3, vi i4, vi 3, vr b65, vr b74, vr b81, vi 1, vi 1, vi 1, vr r91, U0] [(.ref r91)] (fun _ kk => XS.ifYes W93.here hx rfl (pc0 := 200) (pc' := 205) rfl (hb hby at_200) rfl (XT.i0_ne_t (by decide +kernel)) (by decide +kernel) (by decide +kernel) (XS.aload W93.here hx rfl (hb hby at_205) rfl rfl kk)) ?_
          refine W93.callV hx hEL (hw _ (mI 125 rfl)) (hw _ (mI 126 rfl)) (hw _ (mI 128 rfl)) (hw _ (mI 127 rfl)) (hw _ (mI 39 rfl)) (hw _ (mI 129 rfl)) (by decide +kernel) E91 (a := r91) (argsL := []) (rest := []) (rm460 l Z a0 hw hEL zc SC hzc fm SF rfm r91 b81 ty91 q66 q68 q70 h91 W93.old E91 Fn91 Ft91 k94 St91 cq66 cq68 cq70) all0 (by decide +kernel) (Wd := 0) (by decide +kernel) (by decide +kernel) (by decide +kernel) all0 rfl (by rw [hml]; rfl) (lenOf pd4 rfl) rfl (by show 2 * 0 + _ ≤ _; exact Nat.le_of_eq rfl) (hb hby at_207) (fun T95 h95 v95 W95 K95 q95 => ?_)
          obtain ⟨rfl, rfl⟩ := q95
          refine gof T95 m 227 #[vi i0, vi i1, vi i2, vi i3, vi i4, vi 3, vr b65, vr b74, vr b81, vi 1, vi 1, vi 1, vr r91, U0] [(.ref r91)] (fun _ kk => XS.iload W95.here hx rfl (hb hby at_210) rfl (XS.ifNo W95.here hx rfl (hb hby at_212) rfl (XT.i0_lt_f (by decide +kernel)) (XS.iconst W95.here hx rfl (hb hby at_215) (XS.goto W95.here hx rfl (pc0 := 216) (pc' := 220) rfl (hb hby at_216) (by decide +kernel) (by decide +kernel) (XS.icmpYes W95.here hx rfl (pc0 := 220) (pc' := 225) rfl (hb hby at_220) rfl (XT.ii_eq_t (by decide +kernel)) (by decide +kernel) (by decide +kernel) (XS.aload W95.here hx rfl (hb hby at_225) rfl rfl kk)))))) ?_
          refine W95.callV hx hEL (hw _ (mI 130 rfl)) (hw _ (mI 131 rfl)) (hw _ (mI 133 rfl)) (hw _ (mI 132 rfl)) (hw _ (mI 39 rfl)) (hw _ (mI 134 rfl)) (by decide +kernel) E91 (a := r91) (argsL := []) (rest := []) (rm451 l Z a0 hw hEL zc SC hzc fm SF rfm r91 ty91 h91 W95.old Ft91) all0 (by decide +kernel) (Wd := 0) (by decide +kernel) (by decide +kernel) (by decide +kernel) all0 rfl (by rw [hml]; rfl) (lenOf pd19 rfl) rfl (by show 2 * 0 + _ ≤ _; exact Nat.le_of_eq rfl) (hb hby at_227) (fun T96 h96 v96 W96 K96 q96 => ?_)
          obtain ⟨rfl, rfl⟩ := q96
          refine gof T96 m 235 #[vi i0, vi i1, vi i2, vi i3, vi i4, vi 3, vr b65, vr b74, vr b81, vi 1, vi 1, vi 1, vr r91, U0] [(.int 1), (.int 0), (.ref b65), (.ref ty91)] (fun _ kk => XS.aload W96.here hx rfl (hb hby at_230) rfl rfl (XS.iconst W96.here hx rfl (hb hby at_232) (XS.iload W96.here hx rfl (hb hby at_233) rfl kk))) ?_
          have k98 := (k87.keep K91 nin0)
          refine W96.callS hx hEL (hw _ (mI 135 rfl)) (hw _ (mI 136 rfl)) (hw _ (mI 3 rfl)) (hw _ (mI 137 rfl)) (by decide +kernel) (argsL := [(.ref ty91), (.ref b65), (.int (0 : Int32)), (.int (1 : Int32))]) (rest := []) (rm30 l Z a0 hw hEL zc SC hzc fm SF rfm ty91 b65 c65 q66 q68 q70 q72 h91 W96.old St91 k98 cq66 cq68 cq70 cq72) all0 (by decide +kernel) (Wd := 0) (by decide +kernel) (by decide +kernel) (by decide +kernel) all0 rfl (by rw [hml]; rfl) (lenOf pd20 rfl) rfl (by show 2 * 0 + _ ≤ _; exact Nat.le_of_eq rfl) (hb hby at_235) (fun T97 h97 v97 W97 K97 q97 => ?_)
          obtain ⟨rfl, rfl⟩ := q97
          refine gof T97 m 245 #[vi i0, vi i1, vi i2, vi i3, vi i4, vi 3, vr b65, vr b74, vr b81, vi 1, vi 1, vi 1, vr r91, U0] [(.ref r91)] (fun _ kk => XS.ifYes W97.here hx rfl (pc0 := 238) (pc' := 243) rfl (hb hby at_238) rfl (XT.i0_ne_t (by decide +kernel)) (by decide +kernel) (by decide +kernel) (XS.aload W97.here hx rfl (hb hby at_243) rfl rfl kk)) ?_
          refine W97.callV hx hEL (hw _ (mI 155 rfl)) (hw _ (mI 156 rfl)) (hw _ (mI 158 rfl)) (hw _ (mI 157 rfl)) (hw _ (mI 39 rfl)) (hw _ (mI 159 rfl)) (by decide +kernel) E91 (a := r91) (argsL := []) (rest := []) (rm461 l Z a0 hw hEL zc SC hzc fm SF rfm r91 b81 ty91 q66 q68 q70 h91 W97.old E91 Fn91 Ft91 k94 St91 cq66 cq68 cq70) all0 (by decide +kernel) (Wd := 0) (by decide +kernel) (by decide +kernel) (by decide +kernel) all0 rfl (by rw [hml]; rfl) (lenOf pd19 rfl) rfl (by show 2 * 0 + _ ≤ _; exact Nat.le_of_eq rfl) (hb hby at_245) (fun T99 h99 v99 W99 K99 q99 => ?_)
          obtain ⟨r99, rfl, lr99, S99⟩ := q99
          have gr99 : n0 ≤ r99 ∧ s.heap.size ≤ r99 := ⟨Nat.le_trans W97.n0le lr99, Nat.le_trans W97.s0le lr99⟩
          have E99 := S99.exa
          refine gof T99 m 273 #[vi i0, vi i1, vi i2, vi i3, vi i4, vi 3, vr b65, vr b74, vr b81, vi 1, vi 1, vi 1, vr r91, vr r99] [(.int 1), (.int 1), (.ref b65), (.ref r99)] (fun _ kk => XS.astore W99.here hx rfl (hb hby at_248) rfl rfl (l' := #[vi i0, vi i1, vi i2, vi i3, vi i4, vi 3, vr b65, vr b74, vr b81, vi 1, vi 1, vi 1, vr r91, vr r99]) rfl (XS.iload W99.here hx rfl (hb hby at_250) rfl (XS.ifYes W99.here hx rfl (pc0 := 252) (pc' := 266) rfl (hb hby at_252) rfl (XT.i0_ge_t (by decide +kernel)) (by decide +kernel) (by decide +kernel) (XS.aload W99.here hx rfl (hb hby at_266) rfl rfl (XS.aload W99.here hx rfl (hb hby at_268) rfl rfl (XS.iload W99.here hx rfl (hb hby at_270) rfl (XS.iconst W99.here hx rfl (hb hby at_272) kk))))))) ?_
          refine gof T99 m 281 #[vi i0, vi i1, vi i2, vi i3, vi i4, vi 3, vr b65, vr b74, vr b81, vi 1, vi 1, vi 1, vr r91, vr r99] [(.int 1), (.int 2), (.ref b65), (.ref r99)] (fun _ kk => XS.iadd W99.here hx rfl (hb hby at_273) rfl (XS.iload W99.here hx rfl (hb hby at_274) rfl (XS.iload W99.here hx rfl (hb hby at_276) rfl (XS.isub W99.here hx rfl (hb hby at_278) rfl (XS.iconst W99.here hx rfl (hb hby at_279) (XS.isub W99.here hx rfl (hb hby at_280) rfl kk)))))) ?_
          have k101 := (k98.keep K99 nin0)
          refine W99.callS hx hEL (hw _ (mI 135 rfl)) (hw _ (mI 136 rfl)) (hw _ (mI 3 rfl)) (hw _ (mI 137 rfl)) (by decide +kernel) (argsL := [(.ref r99), (.ref b65), (.int (2 : Int32)), (.int (1 : Int32))]) (rest := []) (rm32 l Z a0 hw hEL zc SC hzc fm SF rfm r99 b65 c65 q66 q68 q70 q72 h99 W99.old S99 k101 cq66 cq68 cq70 cq72) all0 (by decide +kernel) (Wd := 0) (by decide +kernel) (by decide +kernel) (by decide +kernel) all0 rfl (by rw [hml]; rfl) (lenOf pd20 rfl) rfl (by show 2 * 0 + _ ≤ _; exact Nat.le_of_eq rfl) (hb hby at_281) (fun T100 h100 v100 W100 K100 q100 => ?_)
          obtain ⟨rfl, rfl⟩ := q100
          show Go p e below _ (T100.setTop (mkF m 284 #[vi i0, vi i1, vi i2, vi i3, vi i4, vi 3, vr b65, vr b74, vr b81, vi 1, vi 1, vi 1, vr r91, vr r99] [(.int 1)]))
          exact W100.retI hx hEL hs hlk (by decide +kernel) (by decide +kernel) hret (by simp) rfl (hb hby at_284) rfl
      · by_cases c102 : q70 = (47 : Int32)
        · have ei : (idxC (47 : Int32) [q66, q68, q70] (0 : Int32)) = (2 : Int32) := by simp [idxC, c88, c89, c102]
          rw [ei]
          refine gof T86 m 145 #[vi i0, vi i1, vi i2, vi i3, vi i4, vi 3, vr b65, vr b74, vr b81, vi 2, vi 2, U0, U0, U0] [] (fun _ kk => XS.istore W86.here hx rfl (hb hby at_124) rfl (l' := #[vi i0, vi i1, vi i2, vi i3, vi i4, vi 3, vr b65, vr b74, vr b81, vi 2, U0, U0, U0, U0]) rfl (XS.iload W86.here hx rfl (hb hby at_126) rfl (XS.ifYes W86.here hx rfl (pc0 := 128) (pc' := 136) rfl (hb hby at_128) rfl (XT.i0_ge_t (by decide +kernel)) (by decide +kernel) (by decide +kernel) (XS.iload W86.here hx rfl (hb hby at_136) rfl (XS.istore W86.here hx rfl (hb hby at_138) rfl (l' := #[vi i0, vi i1, vi i2, vi i3, vi i4, vi 3, vr b65, vr b74, vr b81, vi 2, vi 2, U0, U0, U0]) rfl (XS.iload W86.here hx rfl (hb hby at_140) rfl (XS.ifNo W86.here hx rfl (hb hby at_142) rfl (XT.i0_le_f (by decide +kernel)) kk))))))) ?_
          refine gof T86 m 166 #[vi i0, vi i1, vi i2, vi i3, vi i4, vi 3, vr b65, vr b74, vr b81, vi 2, vi 2, U0, U0, U0] [(.int 2), (.int 2)] (fun _ kk => XS.iload W86.here hx rfl (hb hby at_145) rfl (XS.iconst W86.here hx rfl (hb hby at_147) (XS.icmpYes W86.here hx rfl (pc0 := 148) (pc' := 160) rfl (hb hby at_148) rfl (XT.ii_ne_t (by decide +kernel)) (by decide +kernel) (by decide +kernel) (XS.iload W86.here hx rfl (hb hby at_160) rfl (XS.iload W86.here hx rfl (hb hby at_162) rfl (XS.iconst W86.here hx rfl (hb hby at_164) (XS.isub W86.here hx rfl (hb hby at_165) rfl kk))))))) ?_
          refine gof T86 m 182 #[vi i0, vi i1, vi i2, vi i3, vi i4, vi 3, vr b65, vr b74, vr b81, vi 2, vi 2, vi 0, U0, U0] [(.int 1)] (fun _ kk => XS.icmpYes W86.here hx rfl (pc0 := 166) (pc' := 173) rfl (hb hby at_166) rfl (XT.ii_eq_t (by decide +kernel)) (by decide +kernel) (by decide +kernel) (XS.iconst W86.here hx rfl (hb hby at_173) (XS.istore W86.here hx rfl (hb hby at_174) rfl (l' := #[vi i0, vi i1, vi i2, vi i3, vi i4, vi 3, vr b65, vr b74, vr b81, vi 2, vi 2, vi 0, U0, U0]) rfl (XS.iload W86.here hx rfl (hb hby at_176) rfl (XS.ifNo W86.here hx rfl (hb hby at_178) rfl (XT.i0_ne_f (by decide +kernel)) (XS.iconst W86.here hx rfl (hb hby at_181) kk)))))) ?_
          exact W86.retI hx hEL hs hlk (by decide +kernel) (by decide +kernel) hret (by simp) rfl (hb hby at_182) rfl
        · have ei : (idxC (47 : Int32) [q66, q68, q70] (0 : Int32)) = (-1 : Int32) := by simp [idxC, c88, c89, c102]
          rw [ei]
          refine gof T86 m 142 #[vi i0, vi i1, vi i2, vi i3, vi i4, vi 3, vr b65, vr b74, vr b81, vi (-1 : Int32), vi 3, U0, U0, U0] [(.int 3)] (fun _ kk => XS.istore W86.here hx rfl (hb hby at_124) rfl (l' := #[vi i0, vi i1, vi i2, vi i3, vi i4, vi 3, vr b65, vr b74, vr b81, vi (-1 : Int32), U0, U0, U0, U0]) rfl (XS.iload W86.here hx rfl (hb hby at_126) rfl (XS.ifNo W86.here hx rfl (hb hby at_128) rfl (XT.i0_ge_f (by decide +kernel)) (XS.iload W86.here hx rfl (hb hby at_131) rfl (XS.goto W86.here hx rfl (pc0 := 133) (pc' := 138) rfl (hb hby at_133) (by decide +kernel) (by decide +kernel) (XS.istore W86.here hx rfl (hb hby at_138) rfl (l' := #[vi i0, vi i1, vi i2, vi i3, vi i4, vi 3, vr b65, vr b74, vr b81, vi (-1 : Int32), vi 3, U0, U0, U0]) rfl (XS.iload W86.here hx rfl (hb hby at_140) rfl kk))))))) ?_
          refine gof T86 m 165 #[vi i0, vi i1, vi i2, vi i3, vi i4, vi 3, vr b65, vr b74, vr b81, vi (-1 : Int32), vi 3, U0, U0, U0] [(.int 1), (.int 3), (.int (-1 : Int32))] (fun _ kk => XS.ifNo W86.here hx rfl (hb hby at_142) rfl (XT.i0_le_f (by decide +kernel)) (XS.iload W86.here hx rfl (hb hby at_145) rfl (XS.iconst W86.here hx rfl (hb hby at_147) (XS.icmpYes W86.here hx rfl (pc0 := 148) (pc' := 160) rfl (hb hby at_148) rfl (XT.ii_ne_t (by decide +kernel)) (by decide +kernel) (by decide +kernel) (XS.iload W86.here hx rfl (hb hby at_160) rfl (XS.iload W86.here hx rfl (hb hby at_162) rfl (XS.iconst W86.here hx rfl (hb hby at_164) kk))))))) ?_
          refine gof T86 m 183 #[vi i0, vi i1, vi i2, vi i3, vi i4, vi 3, vr b65, vr b74, vr b81, vi (-1 : Int32), vi 3, vi 1, U0, U0] [] (fun _ kk => XS.isub W86.here hx rfl (hb hby at_165) rfl (XS.icmpNo W86.here hx rfl (hb hby at_166) rfl (XT.ii_eq_f (by decide +kernel)) (XS.iconst W86.here hx rfl (hb hby at_169) (XS.goto W86.here hx rfl (pc0 := 170) (pc' := 174) rfl (hb hby at_170) (by decide +kernel) (by decide +kernel) (XS.istore W86.here hx rfl (hb hby at_174) rfl (l' := #[vi i0, vi i1, vi i2, vi i3, vi i4, vi 3, vr b65, vr b74, vr b81, vi (-1 : Int32), vi 3, vi 1, U0, U0]) rfl (XS.iload W86.here hx rfl (hb hby at_176) rfl (XS.ifYes W86.here hx rfl (pc0 := 178) (pc' := 183) rfl (hb hby at_178) rfl (XT.i0_ne_t (by decide +kernel)) (by decide +kernel) (by decide +kernel) kk))))))) ?_
          refine gof T86 m 185 #[vi i0, vi i1, vi i2, vi i3, vi i4, vi 3, vr b65, vr b74, vr b81, vi (-1 : Int32), vi 3, vi 1, U0, U0] [(.ref b81)] (fun _ kk => XS.aload W86.here hx rfl (hb hby at_183) rfl rfl kk) ?_
          refine W86.callS hx hEL (hw _ (mI 37 rfl)) (hw _ (mI 38 rfl)) (hw _ (mI 39 rfl)) (hw _ (mI 40 rfl)) (by decide +kernel) (argsL := [(.ref b81)]) (rest := []) (rm402 l Z a0 hw hEL zc SC hzc fm SF rfm b81 q66 q68 q70 h84 W86.old S84 cq66 cq68 cq70 c88 c89 c102) all0 (by decide +kernel) (Wd := 0) (by decide +kernel) (by decide +kernel) (by decide +kernel) all0 rfl (by rw [hml]; rfl) (lenOf pd18 rfl) rfl (by show 2 * 0 + _ ≤ _; exact Nat.le_of_eq rfl) (hb hby at_185) (fun T103 h103 v103 W103 K103 q103 => ?_)
          obtain ⟨r103, rfl, lr103, E103, Fn103, Ft103⟩ := q103
          have gr103 : n0 ≤ r103 ∧ s.heap.size ≤ r103 := ⟨Nat.le_trans W86.n0le lr103, Nat.le_trans W86.s0le lr103⟩
          refine gof T103 m 194 #[vi i0, vi i1, vi i2, vi i3, vi i4, vi 3, vr b65, vr b74, vr b81, vi (-1 : Int32), vi 3, vi 1, vr r103, U0] [(.ref r103), (.ref b81)] (fun _ kk => XS.astore W103.here hx rfl (hb hby at_188) rfl rfl (l' := #[vi i0, vi i1, vi i2, vi i3, vi i4, vi 3, vr b65, vr b74, vr b81, vi (-1 : Int32), vi 3, vi 1, vr r103, U0]) rfl (XS.aload W103.here hx rfl (hb hby at_190) rfl rfl (XS.aload W103.here hx rfl (hb hby at_192) rfl rfl kk))) ?_
          refine W103.callV hx hEL (hw _ (mI 119 rfl)) (hw _ (mI 120 rfl)) (hw _ (mI 122 rfl)) (hw _ (mI 121 rfl)) (hw _ (mI 39 rfl)) (hw _ (mI 123 rfl)) (by decide +kernel) E103 (a := r103) (argsL := []) (rest := [(.ref b81)]) (rm450 l Z a0 hw hEL zc SC hzc fm SF rfm r103 b81 h103 W103.old Fn103) all0 (by decide +kernel) (Wd := 1) (by decide +kernel) (by decide +kernel) (by decide +kernel) all0 rfl (by rw [hml]; rfl) (lenOf pd19 rfl) rfl (by show 2 * 0 + _ ≤ _; exact Nat.le_of_eq rfl) (hb hby at_194) (fun T104 h104 v104 W104 K104 q104 => ?_)
          obtain ⟨rfl, rfl⟩ := q104
          show Go p e below _ (T104.setTop (mkF m 197 #[vi i0, vi i1, vi i2, vi i3, vi i4, vi 3, vr b65, vr b74, vr b81, vi (-1 : Int32), vi 3, vi 1, vr r103, U0] [(.ref b81), (.ref b81)]))
          have k106 := (S84.keep0 K103)
          refine W104.strEq hx heq (hw _ (mI 6 rfl)) SC hzc k106 k106 (hw _ (mI 124 rfl)) (hw _ (mI 100 rfl)) (hw _ (mI 102 rfl)) (hw _ (mI 101 rfl)) (by decide +kernel) (Wd := 0) (by decide +kernel) (by decide +kernel) (by decide +kernel) rfl (by rw [hml]; rfl) rfl (by show 2 * 0 + _ ≤ _; exact Nat.le_of_eq rfl) (hb hby at_197) (fun T105 z105 hz105 W105 => ?_)
          obtain ⟨rfl, -⟩ | ⟨-, hn105⟩ := hz105
          case inr => exact absurd rfl hn105
          refine gof T105 m 207 #[vi i0, vi i1, vi i2, vi i3, vi i4, vi 3, vr b65, vr b74, vr b81, vi (-1 : Int32), vi 3, vi 1, vr r103, U0] [(.ref r103)] (fun _ kk => XS.ifYes W105.here hx rfl (pc0 := 200) (pc' := 205) rfl (hb hby at_200) rfl (XT.i0_ne_t (by decide +kernel)) (by decide +kernel) (by decide +kernel) (XS.aload W105.here hx rfl (hb hby at_205) rfl rfl kk)) ?_
          refine W105.callV hx hEL (hw _ (mI 125 rfl)) (hw _ (mI 126 rfl)) (hw _ (mI 128 rfl)) (hw _ (mI 127 rfl)) (hw _ (mI 39 rfl)) (hw _ (mI 129 rfl)) (by decide +kernel) E103 (a := r103) (argsL := []) (rest := []) (rm452 l Z a0 hw hEL zc SC hzc fm SF rfm r103 b81 [q66, q68, q70] h103 W105.old E103 Fn103 Ft103 k106) all0 (by decide +kernel) (Wd := 0) (by decide +kernel) (by decide +kernel) (by decide +kernel) all0 rfl (by rw [hml]; rfl) (lenOf pd4 rfl) rfl (by show 2 * 0 + _ ≤ _; exact Nat.le_of_eq rfl) (hb hby at_207) (fun T107 h107 v107 W107 K107 q107 => ?_)
          obtain ⟨rfl, rfl⟩ := q107
          refine gof T107 m 227 #[vi i0, vi i1, vi i2, vi i3, vi i4, vi 3, vr b65, vr b74, vr b81, vi (-1 : Int32), vi 3, vi 1, vr r103, U0] [(.ref r103)] (fun _ kk => XS.iload W107.here hx rfl (hb hby at_210) rfl (XS.ifYes W107.here hx rfl (pc0 := 212) (pc' := 219) rfl (hb hby at_212) rfl (XT.i0_lt_t (by decide +kernel)) (by decide +kernel) (by decide +kernel) (XS.iconst W107.here hx rfl (hb hby at_219) (XS.icmpYes W107.here hx rfl (pc0 := 220) (pc' := 225) rfl (hb hby at_220) rfl (XT.ii_eq_t (by decide +kernel)) (by decide +kernel) (by decide +kernel) (XS.aload W107.here hx rfl (hb hby at_225) rfl rfl kk))))) ?_
          refine W107.callV hx hEL (hw _ (mI 130 rfl)) (hw _ (mI 131 rfl)) (hw _ (mI 133 rfl)) (hw _ (mI 132 rfl)) (hw _ (mI 39 rfl)) (hw _ (mI 134 rfl)) (by decide +kernel) E103 (a := r103) (argsL := []) (rest := []) (rm451 l Z a0 hw hEL zc SC hzc fm SF rfm r103 b81 h103 W107.old Ft103) all0 (by decide +kernel) (Wd := 0) (by decide +kernel) (by decide +kernel) (by decide +kernel) all0 rfl (by rw [hml]; rfl) (lenOf pd19 rfl) rfl (by show 2 * 0 + _ ≤ _; exact Nat.le_of_eq rfl) (hb hby at_227) (fun T108 h108 v108 W108 K108 q108 => ?_)
          obtain ⟨rfl, rfl⟩ := q108
          refine gof T108 m 235 #[vi i0, vi i1, vi i2, vi i3, vi i4, vi 3, vr b65, vr b74, vr b81, vi (-1 : Int32), vi 3, vi 1, vr r103, U0] [(.int 3), (.int 0), (.ref b65), (.ref b81)] (fun _ kk => XS.aload W108.here hx rfl (hb hby at_230) rfl rfl (XS.iconst W108.here hx rfl (hb hby at_232) (XS.iload W108.here hx rfl (hb hby at_233) rfl kk))) ?_
          have k110 := (k87.keep K103 nin0)
          refine W108.callS hx hEL (hw _ (mI 135 rfl)) (hw _ (mI 136 rfl)) (hw _ (mI 3 rfl)) (hw _ (mI 137 rfl)) (by decide +kernel) (argsL := [(.ref b81), (.ref b65), (.int (0 : Int32)), (.int (3 : Int32))]) (rest := []) (rm37 l Z a0 hw hEL zc SC hzc fm SF rfm b81 b65 c65 q66 q68 q70 q72 h103 W108.old k106 k110 cq66 cq68 cq70 cq72) all0 (by decide +kernel) (Wd := 0) (by decide +kernel) (by decide +kernel) (by decide +kernel) all0 rfl (by rw [hml]; rfl) (lenOf pd20 rfl) rfl (by show 2 * 0 + _ ≤ _; exact Nat.le_of_eq rfl) (hb hby at_235) (fun T109 h109 v109 W109 K109 q109 => ?_)
          obtain ⟨rfl, rfl⟩ := q109
          refine gof T109 m 245 #[vi i0, vi i1, vi i2, vi i3, vi i4, vi 3, vr b65, vr b74, vr b81, vi (-1 : Int32), vi 3, vi 1, vr r103, U0] [(.ref r103)] (fun _ kk => XS.ifYes W109.here hx rfl (pc0 := 238) (pc' := 243) rfl (hb hby at_238) rfl (XT.i0_ne_t (by decide +kernel)) (by decide +kernel) (by decide +kernel) (XS.aload W109.here hx rfl (hb hby at_243) rfl rfl kk)) ?_
          refine W109.callV hx hEL (hw _ (mI 155 rfl)) (hw _ (mI 156 rfl)) (hw _ (mI 158 rfl)) (hw _ (mI 157 rfl)) (hw _ (mI 39 rfl)) (hw _ (mI 159 rfl)) (by decide +kernel) E103 (a := r103) (argsL := []) (rest := []) (rm453 l Z a0 hw hEL zc SC hzc fm SF rfm r103 b81 [q66, q68, q70] h103 W109.old E103 Fn103 Ft103 k106) all0 (by decide +kernel) (Wd := 0) (by decide +kernel) (by decide +kernel) (by decide +kernel) all0 rfl (by rw [hml]; rfl) (lenOf pd19 rfl) rfl (by show 2 * 0 + _ ≤ _; exact Nat.le_of_eq rfl) (hb hby at_245) (fun T111 h111 v111 W111 K111 q111 => ?_)
          obtain ⟨rfl, rfl⟩ := q111
          refine gof T111 m 265 #[vi i0, vi i1, vi i2, vi i3, vi i4, vi 3, vr b65, vr b74, vr b81, vi (-1 : Int32), vi 3, vi 1, vr r103, vN] [(.int 1)] (fun _ kk => XS.astore W111.here hx rfl (hb hby at_248) rfl rfl (l' := #[vi i0, vi i1, vi i2, vi i3, vi i4, vi 3, vr b65, vr b74, vr b81, vi (-1 : Int32), vi 3, vi 1, vr r103, vN]) rfl (XS.iload W111.here hx rfl (hb hby at_250) rfl (XS.ifNo W111.here hx rfl (hb hby at_252) rfl (XT.i0_ge_f (by decide +kernel)) (XS.aload W111.here hx rfl (hb hby at_255) rfl rfl (XS.ifnonnullNo W111.here hx rfl (hb hby at_257) rfl (XS.iconst W111.here hx rfl (hb hby at_260) (XS.goto W111.here hx rfl (pc0 := 261) (pc' := 265) rfl (hb hby at_261) (by decide +kernel) (by decide +kernel) kk))))))) ?_
          exact W111.retI hx hEL hs hlk (by decide +kernel) (by decide +kernel) hret (by simp) rfl (hb hby at_265) rfl
  · rw [z1]
    refine gof T0 m 9 #[vi i0, vi i1, vi i2, vi i3, vi i4, vi 4, U0, U0, U0, U0, U0, U0, U0, U0] [(.int 4)] (fun _ kk => XS.iconst W0.here hx rfl (hb hby at_4) (XS.iadd W0.here hx rfl (hb hby at_5) rfl (XS.istore W0.here hx rfl (hb hby at_6) rfl (l' := #[vi i0, vi i1, vi i2, vi i3, vi i4, vi 4, U0, U0, U0, U0, U0, U0, U0, U0]) rfl (XS.iconst W0.here hx rfl (hb hby at_8) kk)))) ?_
    refine W0.newP hx (hw _ (mI 0 rfl)) rfl (hb hby at_9) rfl (by decide +kernel) (cap := 4) (by decide +kernel) (by decide +kernel) (by decide +kernel) (by decide +kernel) (fun T112 h112 b112 c112 eb112 gb112 W112 K112 A112 => ?_)
    have V112 : Arv Z h112 b112 c112 .char (4 : Int32) [(.int (0 : Int32)), (.int (0 : Int32)), (.int (0 : Int32)), (.int (0 : Int32))] (.int (0 : Int32)) := A112
    refine gof T112 m 17 #[vi i0, vi i1, vi i2, vi i3, vi i4, vi 4, vr b112, U0, U0, U0, U0, U0, U0, U0] [(.int i0), (.int 0), (.ref b112)] (fun _ kk => XS.astore W112.here hx rfl (hb hby at_11) rfl rfl (l' := #[vi i0, vi i1, vi i2, vi i3, vi i4, vi 4, vr b112, U0, U0, U0, U0, U0, U0, U0]) rfl (XS.aload W112.here hx rfl (hb hby at_13) rfl rfl (XS.iconst W112.here hx rfl (hb hby at_15) (XS.iloadN W112.here hx rfl (hb hby at_16) rfl kk)))) ?_
    refine W112.callS hx hEL (hw _ (mI 1 rfl)) (hw _ (mI 2 rfl)) (hw _ (mI 3 rfl)) (hw _ (mI 4 rfl)) (by decide +kernel) (argsL := [(.int i0)]) (rest := [(.int (0 : Int32)), (.ref b112)]) (rm1 l Z a0 hw hEL zc SC hzc fm SF rfm i0 h112 W112.old ) all0 (by decide +kernel) (Wd := 2) (by decide +kernel) (by decide +kernel) (by decide +kernel) all0 rfl (by rw [hml]; rfl) (lenOf pd16 rfl) rfl (by show 2 * 0 + _ ≤ _; exact Nat.le_of_eq rfl) (hb hby at_17) (fun T113 h113 v113 W113 K113 q113 => ?_)
    obtain ⟨q113, rfl, cq113, rfl⟩ := q113
    show Go p e below _ (T113.setTop (mkF m 20 #[vi i0, vi i1, vi i2, vi i3, vi i4, vi 4, vr b112, U0, U0, U0, U0, U0, U0, U0] [(.int q113), (.int 0), (.ref b112)]))
    refine W113.stC hx V112 ⟨by decide, by decide⟩ 0 rfl (Nat.le_of_ble_eq_true rfl) gb112.1 (Or.inr gb112.2) rfl rfl (hb hby at_20) (fun T114 h114 W114 K114 A114 => ?_)
    have V114 : Arv Z h114 b112 c112 .char (4 : Int32) [(.int q113), (.int (0 : Int32)), (.int (0 : Int32)), (.int (0 : Int32))] (.int (0 : Int32)) := (by rw [(nar_char cq113)] at A114; exact A114)
    refine gof T114 m 25 #[vi i0, vi i1, vi i2, vi i3, vi i4, vi 4, vr b112, U0, U0, U0, U0, U0, U0, U0] [(.int i1), (.int 1), (.ref b112)] (fun _ kk => XS.aload W114.here hx rfl (hb hby at_21) rfl rfl (XS.iconst W114.here hx rfl (hb hby at_23) (XS.iloadN W114.here hx rfl (hb hby at_24) rfl kk))) ?_
    refine W114.callS hx hEL (hw _ (mI 1 rfl)) (hw _ (mI 2 rfl)) (hw _ (mI 3 rfl)) (hw _ (mI 4 rfl)) (by decide +kernel) (argsL := [(.int i1)]) (rest := [(.int (1 : Int32)), (.ref b112)]) (rm1 l Z a0 hw hEL zc SC hzc fm SF rfm i1 h114 W114.old ) all0 (by decide +kernel) (Wd := 2) (by decide +kernel) (by decide +kernel) (by decide +kernel) all0 rfl (by rw [hml]; rfl) (lenOf pd16 rfl) rfl (by show 2 * 0 + _ ≤ _; exact Nat.le_of_eq rfl) (hb hby at_25) (fun T115 h115 v115 W115 K115 q115 => ?_)
    obtain ⟨q115, rfl, cq115, rfl⟩ := q115
    show Go p e below _ (T115.setTop (mkF m 28 #[vi i0, vi i1, vi i2, vi i3, vi i4, vi 4, vr b112, U0, U0, U0, U0, U0, U0, U0] [(.int q115), (.int 1), (.ref b112)]))
    refine W115.stC hx V114 ⟨by decide, by decide⟩ 1 rfl (Nat.le_of_ble_eq_true rfl) gb112.1 (Or.inr gb112.2) rfl rfl (hb hby at_28) (fun T116 h116 W116 K116 A116 => ?_)
    have V116 : Arv Z h116 b112 c112 .char (4 : Int32) [(.int q113), (.int q115), (.int (0 : Int32)), (.int (0 : Int32))] (.int (0 : Int32)) := (by rw [(nar_char cq115)] at A116; exact A116)
    refine gof T116 m 33 #[vi i0, vi i1, vi i2, vi i3, vi i4, vi 4, vr b112, U0, U0, U0, U0, U0, U0, U0] [(.int i2), (.int 2), (.ref b112)] (fun _ kk => XS.aload W116.here hx rfl (hb hby at_29) rfl rfl (XS.iconst W116.here hx rfl (hb hby at_31) (XS.iloadN W116.here hx rfl (hb hby at_32) rfl kk))) ?_
    refine W116.callS hx hEL (hw _ (mI 1 rfl)) (hw _ (mI 2 rfl)) (hw _ (mI 3 rfl)) (hw _ (mI 4 rfl)) (by decide +kernel) (argsL := [(.int i2)]) (rest := [(.int (2 : Int32)), (.ref b112)]) (rm1 l Z a0 hw hEL zc SC hzc fm SF rfm i2 h116 W116.old ) all0 (by decide +kernel) (Wd := 2) (by decide +kernel) (by decide +kernel) (by decide +kernel) all0 rfl (by rw [hml]; rfl) (lenOf pd16 rfl) rfl (by show 2 * 0 + _ ≤ _; exact Nat.le_of_eq rfl) (hb hby at_33) (fun T117 h117 v117 W117 K117 q117 => ?_)
    obtain ⟨q117, rfl, cq117, rfl⟩ := q117
    show Go p e below _ (T117.setTop (mkF m 36 #[vi i0, vi i1, vi i2, vi i3, vi i4, vi 4, vr b112, U0, U0, U0, U0, U0, U0, U0] [(.int q117), (.int 2), (.ref b112)]))
    refine W117.stC hx V116 ⟨by decide, by decide⟩ 2 rfl (Nat.le_of_ble_eq_true rfl) gb112.1 (Or.inr gb112.2) rfl rfl (hb hby at_36) (fun T118 h118 W118 K118 A118 => ?_)
    have V118 : Arv Z h118 b112 c112 .char (4 : Int32) [(.int q113), (.int q115), (.int q117), (.int (0 : Int32))] (.int (0 : Int32)) := (by rw [(nar_char cq117)] at A118; exact A118)
    refine gof T118 m 41 #[vi i0, vi i1, vi i2, vi i3, vi i4, vi 4, vr b112, U0, U0, U0, U0, U0, U0, U0] [(.int i3), (.int 3), (.ref b112)] (fun _ kk => XS.aload W118.here hx rfl (hb hby at_37) rfl rfl (XS.iconst W118.here hx rfl (hb hby at_39) (XS.iloadN W118.here hx rfl (hb hby at_40) rfl kk))) ?_
    refine W118.callS hx hEL (hw _ (mI 1 rfl)) (hw _ (mI 2 rfl)) (hw _ (mI 3 rfl)) (hw _ (mI 4 rfl)) (by decide +kernel) (argsL := [(.int i3)]) (rest := [(.int (3 : Int32)), (.ref b112)]) (rm1 l Z a0 hw hEL zc SC hzc fm SF rfm i3 h118 W118.old ) all0 (by decide +kernel) (Wd := 2) (by decide +kernel) (by decide +kernel) (by decide +kernel) all0 rfl (by rw [hml]; rfl) (lenOf pd16 rfl) rfl (by show 2 * 0 + _ ≤ _; exact Nat.le_of_eq rfl) (hb hby at_41) (fun T119 h119 v119 W119 K119 q119 => ?_)
    obtain ⟨q119, rfl, cq119, rfl⟩ := q119
    show Go p e below _ (T119.setTop (mkF m 44 #[vi i0, vi i1, vi i2, vi i3, vi i4, vi 4, vr b112, U0, U0, U0, U0, U0, U0, U0] [(.int q119), (.int 3), (.ref b112)]))
    refine W119.stC hx V118 ⟨by decide, by decide⟩ 3 rfl (Nat.le_of_ble_eq_true rfl) gb112.1 (Or.inr gb112.2) rfl rfl (hb hby at_44) (fun T120 h120 W120 K120 A120 => ?_)
    have V120 : Arv Z h120 b112 c112 .char (4 : Int32) [(.int q113), (.int q115), (.int q117), (.int q119)] (.int (0 : Int32)) := (by rw [(nar_char cq119)] at A120; exact A120)
    refine gof T120 m 47 #[vi i0, vi i1, vi i2, vi i3, vi i4, vi 4, vr b112, U0, U0, U0, U0, U0, U0, U0] [(.int 4)] (fun _ kk => XS.iload W120.here hx rfl (hb hby at_45) rfl kk) ?_
    refine W120.newP hx (hw _ (mI 0 rfl)) rfl (hb hby at_47) rfl (by decide +kernel) (cap := 4) (by decide +kernel) (by decide +kernel) (by decide +kernel) (by decide +kernel) (fun T121 h121 b121 c121 eb121 gb121 W121 K121 A121 => ?_)
    have V121 : Arv Z h121 b121 c121 .char (4 : Int32) [(.int (0 : Int32)), (.int (0 : Int32)), (.int (0 : Int32)), (.int (0 : Int32))] (.int (0 : Int32)) := A121
    refine gof T121 m 62 #[vi i0, vi i1, vi i2, vi i3, vi i4, vi 4, vr b112, vr b121, U0, U0, U0, U0, U0, U0] [(.int 0), (.ref b112), (.int 0), (.ref b121)] (fun _ kk => XS.astore W121.here hx rfl (hb hby at_49) rfl rfl (l' := #[vi i0, vi i1, vi i2, vi i3, vi i4, vi 4, vr b112, vr b121, U0, U0, U0, U0, U0, U0]) rfl (XS.iload W121.here hx rfl (hb hby at_51) rfl (XS.ifNo W121.here hx rfl (hb hby at_53) rfl (XT.i0_le_f (by decide +kernel)) (XS.aload W121.here hx rfl (hb hby at_56) rfl rfl (XS.iconst W121.here hx rfl (hb hby at_58) (XS.aload W121.here hx rfl (hb hby at_59) rfl rfl (XS.iconst W121.here hx rfl (hb hby at_61) kk))))))) ?_
    have k122 := (V120.keep K121 nin0)
    refine W121.caload hx k122 ⟨by decide, by decide⟩ (v := (.int q113)) rfl rfl rfl (hb hby at_62) ?_
    show Go p e below _ (T121.setTop (mkF m 63 #[vi i0, vi i1, vi i2, vi i3, vi i4, vi 4, vr b112, vr b121, U0, U0, U0, U0, U0, U0] [(.int q113), (.int 0), (.ref b121)]))
    refine W121.stC hx V121 ⟨by decide, by decide⟩ 0 rfl (Nat.le_of_ble_eq_true rfl) gb121.1 (Or.inr gb121.2) rfl rfl (hb hby at_63) (fun T123 h123 W123 K123 A123 => ?_)
    have V123 : Arv Z h123 b121 c121 .char (4 : Int32) [(.int q113), (.int (0 : Int32)), (.int (0 : Int32)), (.int (0 : Int32))] (.int (0 : Int32)) := (by rw [(nar_char cq113)] at A123; exact A123)
    refine gof T123 m 76 #[vi i0, vi i1, vi i2, vi i3, vi i4, vi 4, vr b112, vr b121, U0, U0, U0, U0, U0, U0] [(.int 1), (.ref b112), (.int 1), (.ref b121)] (fun _ kk => XS.iload W123.here hx rfl (hb hby at_64) rfl (XS.iconst W123.here hx rfl (hb hby at_66) (XS.icmpNo W123.here hx rfl (hb hby at_67) rfl (XT.ii_le_f (by decide +kernel)) (XS.aload W123.here hx rfl (hb hby at_70) rfl rfl (XS.iconst W123.here hx rfl (hb hby at_72) (XS.aload W123.here hx rfl (hb hby at_73) rfl rfl (XS.iconst W123.here hx rfl (hb hby at_75) kk))))))) ?_
    have k124 := (k122.keep K123 (ninS (ne_of_born (Nat.le_of_eq eb121.symm) V112.lt (Nat.le_trans (Nat.le_trans (Nat.le_trans K114.1 K116.1) K118.1) K120.1)) nin0))
    refine W123.caload hx k124 ⟨by decide, by decide⟩ (v := (.int q115)) rfl rfl rfl (hb hby at_76) ?_
    show Go p e below _ (T123.setTop (mkF m 77 #[vi i0, vi i1, vi i2, vi i3, vi i4, vi 4, vr b112, vr b121, U0, U0, U0, U0, U0, U0] [(.int q115), (.int 1), (.ref b121)]))
    refine W123.stC hx V123 ⟨by decide, by decide⟩ 1 rfl (Nat.le_of_ble_eq_true rfl) gb121.1 (Or.inr gb121.2) rfl rfl (hb hby at_77) (fun T125 h125 W125 K125 A125 => ?_)
    have V125 : Arv Z h125 b121 c121 .char (4 : Int32) [(.int q113), (.int q115), (.int (0 : Int32)), (.int (0 : Int32))] (.int (0 : Int32)) := (by rw [(nar_char cq115)] at A125; exact A125)
    refine gof T125 m 90 #[vi i0, vi i1, vi i2, vi i3, vi i4, vi 4, vr b112, vr b121, U0, U0, U0, U0, U0, U0] [(.int 2), (.ref b112), (.int 2), (.ref b121)] (fun _ kk => XS.iload W125.here hx rfl (hb hby at_78) rfl (XS.iconst W125.here hx rfl (hb hby at_80) (XS.icmpNo W125.here hx rfl (hb hby at_81) rfl (XT.ii_le_f (by decide +kernel)) (XS.aload W125.here hx rfl (hb hby at_84) rfl rfl (XS.iconst W125.here hx rfl (hb hby at_86) (XS.aload W125.here hx rfl (hb hby at_87) rfl rfl (XS.iconst W125.here hx rfl (hb hby at_89) kk))))))) ?_
    have k126 := (k124.keep K125 (ninS (ne_of_born (Nat.le_of_eq eb121.symm) V112.lt (Nat.le_trans (Nat.le_trans (Nat.le_trans K114.1 K116.1) K118.1) K120.1)) nin0))
    refine W125.caload hx k126 ⟨by decide, by decide⟩ (v := (.int q117)) rfl rfl rfl (hb hby at_90) ?_
    show Go p e below _ (T125.setTop (mkF m 91 #[vi i0, vi i1, vi i2, vi i3, vi i4, vi 4, vr b112, vr b121, U0, U0, U0, U0, U0, U0] [(.int q117), (.int 2), (.ref b121)]))
    refine W125.stC hx V125 ⟨by decide, by decide⟩ 2 rfl (Nat.le_of_ble_eq_true rfl) gb121.1 (Or.inr gb121.2) rfl rfl (hb hby at_91) (fun T127 h127 W127 K127 A127 => ?_)
    have V127 : Arv Z h127 b121 c121 .char (4 : Int32) [(.int q113), (.int q115), (.int q117), (.int (0 : Int32))] (.int (0 : Int32)) := (by rw [(nar_char cq117)] at A127; exact A127)
    refine gof T127 m 104 #[vi i0, vi i1, vi i2, vi i3, vi i4, vi 4, vr b112, vr b121, U0, U0, U0, U0, U0, U0] [(.int 3), (.ref b112), (.int 3), (.ref b121)] (fun _ kk => XS.iload W127.here hx rfl (hb hby at_92) rfl (XS.iconst W127.here hx rfl (hb hby at_94) (XS.icmpNo W127.here hx rfl (hb hby at_95) rfl (XT.ii_le_f (by decide +kernel)) (XS.aload W127.here hx rfl (hb hby at_98) rfl rfl (XS.iconst W127.here hx rfl (hb hby at_100) (XS.aload W127.here hx rfl (hb hby at_101) rfl rfl (XS.iconst W127.here hx rfl (hb hby at_103) kk))))))) ?_
    have k128 := (k126.keep K127 (ninS (ne_of_born (Nat.le_of_eq eb121.symm) V112.lt (Nat.le_trans (Nat.le_trans (Nat.le_trans K114.1 K116.1) K118.1) K120.1)) nin0))
    refine W127.caload hx k128 ⟨by decide, by decide⟩ (v := (.int q119)) rfl rfl rfl (hb hby at_104) ?_
    show Go p e below _ (T127.setTop (mkF m 105 #[vi i0, vi i1, vi i2, vi i3, vi i4, vi 4, vr b112, vr b121, U0, U0, U0, U0, U0, U0] [(.int q119), (.int 3), (.ref b121)]))
    refine W127.stC hx V127 ⟨by decide, by decide⟩ 3 rfl (Nat.le_of_ble_eq_true rfl) gb121.1 (Or.inr gb121.2) rfl rfl (hb hby at_105) (fun T129 h129 W129 K129 A129 => ?_)
    have V129 : Arv Z h129 b121 c121 .char (4 : Int32) [(.int q113), (.int q115), (.int q117), (.int q119)] (.int (0 : Int32)) := (by rw [(nar_char cq119)] at A129; exact A129)
    show Go p e below _ (T129.setTop (mkF m 106 #[vi i0, vi i1, vi i2, vi i3, vi i4, vi 4, vr b112, vr b121, U0, U0, U0, U0, U0, U0] []))
    refine W129.newO hx (hw _ (mI 5 rfl)) (hw _ (mI 6 rfl)) (hw _ (mI 7 rfl)) rfl (hb hby at_106) (by decide +kernel) (by decide +kernel) (fun T130 h130 b130 eb130 gb130 W130 K130 E130 D130 => ?_)
    have k131 : Fld Z h130 b130 "java/lang/String" "coder" "B" (.int (0 : Int32)) := D130 (Or.inr (hw _ (mI 31 rfl))) (ty := .byte) (by decide +kernel)
    have k132 : Fld Z h130 b130 "java/lang/String" "value" "[B" .null := D130 (Or.inr (hw _ (mI 33 rfl))) (ty := (.array .byte)) (by decide +kernel)
    refine gof T130 m 112 #[vi i0, vi i1, vi i2, vi i3, vi i4, vi 4, vr b112, vr b121, U0, U0, U0, U0, U0, U0] [(.ref b121), (.ref b130), (.ref b130)] (fun _ kk => XS.dup W130.here hx rfl (hb hby at_109) rfl rfl (XS.aload W130.here hx rfl (hb hby at_110) rfl rfl kk)) ?_
    have k134 := (V129.keep K130 nin0)
    refine W130.newStr hx hws (hw _ (mI 6 rfl)) SC hzc (hw _ (mI 8 rfl)) (hw _ (mI 9 rfl)) (hw _ (mI 10 rfl)) E130 k132 k131 (cs := [q113, q115, q117, q119]) (n := 4) k134 rfl rfl (by decide +kernel) (by decide +kernel) (allSi cq113 (allSi cq115 (allSi cq117 (allSi cq119 all0i)))) gb130.1 (Or.inr gb130.2) (mI 0 rfl) (by decide +kernel) (Wd := 1) (by decide +kernel) (by decide +kernel) (by decide +kernel) rfl (by rw [hml]; rfl) rfl (by show 2 * 0 + _ ≤ _; exact Nat.le_of_eq rfl) (hb hby at_112) (fun T133 h133 W133 K133 S133 => ?_)
    refine gof T133 m 121 #[vi i0, vi i1, vi i2, vi i3, vi i4, vi 4, vr b112, vr b121, vr b130, U0, U0, U0, U0, U0] [(.int 4), (.ref b112)] (fun _ kk => XS.astore W133.here hx rfl (hb hby at_115) rfl rfl (l' := #[vi i0, vi i1, vi i2, vi i3, vi i4, vi 4, vr b112, vr b121, vr b130, U0, U0, U0, U0, U0]) rfl (XS.aload W133.here hx rfl (hb hby at_117) rfl rfl (XS.iload W133.here hx rfl (hb hby at_119) rfl kk))) ?_
    have k136 := (((k128.keep K129 (ninS (ne_of_born (Nat.le_of_eq eb121.symm) V112.lt (Nat.le_trans (Nat.le_trans (Nat.le_trans K114.1 K116.1) K118.1) K120.1)) nin0)).keep K130 nin0).keep K133 (ninS (ne_of_born (Nat.le_of_eq eb130.symm) V112.lt (Nat.le_trans (Nat.le_trans (Nat.le_trans (Nat.le_trans (Nat.le_trans (Nat.le_trans (Nat.le_trans (Nat.le_trans K114.1 K116.1) K118.1) K120.1) K121.1) K123.1) K125.1) K127.1) K129.1)) nin0))
    refine W133.callS hx hEL (hw _ (mI 34 rfl)) (hw _ (mI 35 rfl)) (hw _ (mI 3 rfl)) (hw _ (mI 36 rfl)) (by decide +kernel) (argsL := [(.ref b112), (.int (4 : Int32))]) (rest := []) (rm24 l Z a0 hw hEL zc SC hzc fm SF rfm b112 c112 q113 q115 q117 q119 h133 W133.old k136) all0 (by decide +kernel) (Wd := 0) (by decide +kernel) (by decide +kernel) (by decide +kernel) all0 rfl (by rw [hml]; rfl) (lenOf pd17 rfl) rfl (by show 2 * 0 + _ ≤ _; exact Nat.le_of_eq rfl) (hb hby at_121) (fun T135 h135 v135 W135 K135 q135 => ?_)
    obtain ⟨rfl, rfl⟩ := q135
    show Go p e below _ (T135.setTop (mkF m 124 #[vi i0, vi i1, vi i2, vi i3, vi i4, vi 4, vr b112, vr b121, vr b130, U0, U0, U0, U0, U0] [(.int (idxC (47 : Int32) [q113, q115, q117, q119] (0 : Int32)))]))
    by_cases c137 : q113 = (47 : Int32)
    · have ei : (idxC (47 : Int32) [q113, q115, q117, q119] (0 : Int32)) = (0 : Int32) := by simp [idxC, c137]
      rw [ei]
      refine gof T135 m 173 #[vi i0, vi i1, vi i2, vi i3, vi i4, vi 4, vr b112, vr b121, vr b130, vi 0, vi 0, U0, U0, U0] [] (fun _ kk => XS.istore W135.here hx rfl (hb hby at_124) rfl (l' := #[vi i0, vi i1, vi i2, vi i3, vi i4, vi 4, vr b112, vr b121, vr b130, vi 0, U0, U0, U0, U0]) rfl (XS.iload W135.here hx rfl (hb hby at_126) rfl (XS.ifYes W135.here hx rfl (pc0 := 128) (pc' := 136) rfl (hb hby at_128) rfl (XT.i0_ge_t (by decide +kernel)) (by decide +kernel) (by decide +kernel) (XS.iload W135.here hx rfl (hb hby at_136) rfl (XS.istore W135.here hx rfl (hb hby at_138) rfl (l' := #[vi i0, vi i1, vi i2, vi i3, vi i4, vi 4, vr b112, vr b121, vr b130, vi 0, vi 0, U0, U0, U0]) rfl (XS.iload W135.here hx rfl (hb hby at_140) rfl (XS.ifYes W135.here hx rfl (pc0 := 142) (pc' := 173) rfl (hb hby at_142) rfl (XT.i0_le_t (by decide +kernel)) (by decide +kernel) (by decide +kernel) kk))))))) ?_
      refine gof T135 m 182 #[vi i0, vi i1, vi i2, vi i3, vi i4, vi 4, vr b112, vr b121, vr b130, vi 0, vi 0, vi 0, U0, U0] [(.int 1)] (fun _ kk => XS.iconst W135.here hx rfl (hb hby at_173) (XS.istore W135.here hx rfl (hb hby at_174) rfl (l' := #[vi i0, vi i1, vi i2, vi i3, vi i4, vi 4, vr b112, vr b121, vr b130, vi 0, vi 0, vi 0, U0, U0]) rfl (XS.iload W135.here hx rfl (hb hby at_176) rfl (XS.ifNo W135.here hx rfl (hb hby at_178) rfl (XT.i0_ne_f (by decide +kernel)) (XS.iconst W135.here hx rfl (hb hby at_181) kk))))) ?_
      exact W135.retI hx hEL hs hlk (by decide +kernel) (by decide +kernel) hret (by simp) rfl (hb hby at_182) rfl
    · by_cases c138 : q115 = (47 : Int32)
      · have ei : (idxC (47 : Int32) [q113, q115, q117, q119] (0 : Int32)) = (1 : Int32) := by simp [idxC, c137, c138]
        rw [ei]
        refine gof T135 m 145 #[vi i0, vi i1, vi i2, vi i3, vi i4, vi 4, vr b112, vr b121, vr b130, vi 1, vi 1, U0, U0, U0] [] (fun _ kk => XS.istore W135.here hx rfl (hb hby at_124) rfl (l' := #[vi i0, vi i1, vi i2, vi i3, vi i4, vi 4, vr b112, vr b121, vr b130, vi 1, U0, U0, U0, U0]) rfl (XS.iload W135.here hx rfl (hb hby at_126) rfl (XS.ifYes W135.here hx rfl (pc0 := 128) (pc' := 136) rfl (hb hby at_128) rfl (XT.i0_ge_t (by decide +kernel)) (by decide +kernel) (by decide +kernel) (XS.iload W135.here hx rfl (hb hby at_136) rfl (XS.istore W135.here hx rfl (hb hby at_138) rfl (l' := #[vi i0, vi i1, vi i2, vi i3, vi i4, vi 4, vr b112, vr b121, vr b130, vi 1, vi 1, U0, U0, U0]) rfl (XS.iload W135.here hx rfl (hb hby at_140) rfl (XS.ifNo W135.here hx rfl (hb hby at_142) rfl (XT.i0_le_f (by decide +kernel)) kk))))))) ?_
        refine gof T135 m 154 #[vi i0, vi i1, vi i2, vi i3, vi i4, vi 4, vr b112, vr b121, vr b130, vi 1, vi 1, U0, U0, U0] [(.int 0), (.ref b112)] (fun _ kk => XS.iload W135.here hx rfl (hb hby at_145) rfl (XS.iconst W135.here hx rfl (hb hby at_147) (XS.icmpNo W135.here hx rfl (hb hby at_148) rfl (XT.ii_ne_f (by decide +kernel)) (XS.aload W135.here hx rfl (hb hby at_151) rfl rfl (XS.iconst W135.here hx rfl (hb hby at_153) kk))))) ?_
        refine W135.caload hx k136 ⟨by decide, by decide⟩ (v := (.int q113)) rfl rfl rfl (hb hby at_154) ?_
        refine gof T135 m 157 #[vi i0, vi i1, vi i2, vi i3, vi i4, vi 4, vr b112, vr b121, vr b130, vi 1, vi 1, U0, U0, U0] [(.int 42), (.int q113)] (fun _ kk => XS.bipush W135.here hx rfl (hb hby at_155) kk) ?_
        by_cases c139 : q113 = (42 : Int32)
        · refine gof T135 m 182 #[vi i0, vi i1, vi i2, vi i3, vi i4, vi 4, vr b112, vr b121, vr b130, vi 1, vi 1, vi 0, U0, U0] [(.int 1)] (fun _ kk => XS.icmpYes W135.here hx rfl (pc0 := 157) (pc' := 173) rfl (hb hby at_157) rfl (XT.ii_eq_t c139) (by decide +kernel) (by decide +kernel) (XS.iconst W135.here hx rfl (hb hby at_173) (XS.istore W135.here hx rfl (hb hby at_174) rfl (l' := #[vi i0, vi i1, vi i2, vi i3, vi i4, vi 4, vr b112, vr b121, vr b130, vi 1, vi 1, vi 0, U0, U0]) rfl (XS.iload W135.here hx rfl (hb hby at_176) rfl (XS.ifNo W135.here hx rfl (hb hby at_178) rfl (XT.i0_ne_f (by decide +kernel)) (XS.iconst W135.here hx rfl (hb hby at_181) kk)))))) ?_
          exact W135.retI hx hEL hs hlk (by decide +kernel) (by decide +kernel) hret (by simp) rfl (hb hby at_182) rfl
        · refine gof T135 m 170 #[vi i0, vi i1, vi i2, vi i3, vi i4, vi 4, vr b112, vr b121, vr b130, vi 1, vi 1, U0, U0, U0] [(.int 1)] (fun _ kk => XS.icmpNo W135.here hx rfl (hb hby at_157) rfl (XT.ii_eq_f c139) (XS.iload W135.here hx rfl (hb hby at_160) rfl (XS.iload W135.here hx rfl (hb hby at_162) rfl (XS.iconst W135.here hx rfl (hb hby at_164) (XS.isub W135.here hx rfl (hb hby at_165) rfl (XS.icmpNo W135.here hx rfl (hb hby at_166) rfl (XT.ii_eq_f (by decide +kernel)) (XS.iconst W135.here hx rfl (hb hby at_169) kk))))))) ?_
          refine gof T135 m 185 #[vi i0, vi i1, vi i2, vi i3, vi i4, vi 4, vr b112, vr b121, vr b130, vi 1, vi 1, vi 1, U0, U0] [(.ref b130)] (fun _ kk => XS.goto W135.here hx rfl (pc0 := 170) (pc' := 174) rfl (hb hby at_170) (by decide +kernel) (by decide +kernel) (XS.istore W135.here hx rfl (hb hby at_174) rfl (l' := #[vi i0, vi i1, vi i2, vi i3, vi i4, vi 4, vr b112, vr b121, vr b130, vi 1, vi 1, vi 1, U0, U0]) rfl (XS.iload W135.here hx rfl (hb hby at_176) rfl (XS.ifYes W135.here hx rfl (pc0 := 178) (pc' := 183) rfl (hb hby at_178) rfl (XT.i0_ne_t (by decide +kernel)) (by decide +kernel) (by decide +kernel) (XS.aload W135.here hx rfl (hb hby at_183) rfl rfl kk))))) ?_
          refine W135.callS hx hEL (hw _ (mI 37 rfl)) (hw _ (mI 38 rfl)) (hw _ (mI 39 rfl)) (hw _ (mI 40 rfl)) (by decide +kernel) (argsL := [(.ref b130)]) (rest := []) (rm405 l Z a0 hw hEL zc SC hzc fm SF rfm b130 q113 q115 q117 q119 h133 W135.old S133 cq113 cq115 cq117 cq119 c137 c138 c139) all0 (by decide +kernel) (Wd := 0) (by decide +kernel) (by decide +kernel) (by decide +kernel) all0 rfl (by rw [hml]; rfl) (lenOf pd18 rfl) rfl (by show 2 * 0 + _ ≤ _; exact Nat.le_of_eq rfl) (hb hby at_185) (fun T140 h140 v140 W140 K140 q140 => ?_)
          obtain ⟨r140, ty140, rfl, lr140, E140, Fn140, Ft140, St140⟩ := q140
          have gr140 : n0 ≤ r140 ∧ s.heap.size ≤ r140 := ⟨Nat.le_trans W135.n0le lr140, Nat.le_trans W135.s0le lr140⟩
          refine gof T140 m 194 #[vi i0, vi i1, vi i2, vi i3, vi i4, vi 4, vr b112, vr b121, vr b130, vi 1, vi 1, vi 1, vr r140, U0] [(.ref r140), (.ref b130)] (fun _ kk => XS.astore W140.here hx rfl (hb hby at_188) rfl rfl (l' := #[vi i0, vi i1, vi i2, vi i3, vi i4, vi 4, vr b112, vr b121, vr b130, vi 1, vi 1, vi 1, vr r140, U0]) rfl (XS.aload W140.here hx rfl (hb hby at_190) rfl rfl (XS.aload W140.here hx rfl (hb hby at_192) rfl rfl kk))) ?_
          refine W140.callV hx hEL (hw _ (mI 119 rfl)) (hw _ (mI 120 rfl)) (hw _ (mI 122 rfl)) (hw _ (mI 121 rfl)) (hw _ (mI 39 rfl)) (hw _ (mI 123 rfl)) (by decide +kernel) E140 (a := r140) (argsL := []) (rest := [(.ref b130)]) (rm450 l Z a0 hw hEL zc SC hzc fm SF rfm r140 b130 h140 W140.old Fn140) all0 (by decide +kernel) (Wd := 1) (by decide +kernel) (by decide +kernel) (by decide +kernel) all0 rfl (by rw [hml]; rfl) (lenOf pd19 rfl) rfl (by show 2 * 0 + _ ≤ _; exact Nat.le_of_eq rfl) (hb hby at_194) (fun T141 h141 v141 W141 K141 q141 => ?_)
          obtain ⟨rfl, rfl⟩ := q141
          show Go p e below _ (T141.setTop (mkF m 197 #[vi i0, vi i1, vi i2, vi i3, vi i4, vi 4, vr b112, vr b121, vr b130, vi 1, vi 1, vi 1, vr r140, U0] [(.ref b130), (.ref b130)]))
          have k143 := (S133.keep0 K140)
          refine W141.strEq hx heq (hw _ (mI 6 rfl)) SC hzc k143 k143 (hw _ (mI 124 rfl)) (hw _ (mI 100 rfl)) (hw _ (mI 102 rfl)) (hw _ (mI 101 rfl)) (by decide +kernel) (Wd := 0) (by decide +kernel) (by decide +kernel) (by decide +kernel) rfl (by rw [hml]; rfl) rfl (by show 2 * 0 + _ ≤ _; exact Nat.le_of_eq rfl) (hb hby at_197) (fun T142 z142 hz142 W142 => ?_)
          obtain ⟨rfl, -⟩ | ⟨-, hn142⟩ := hz142
          case inr => exact absurd rfl hn142
          refine gof T142 m 207 #[vi i0, vi i1, vi i2, vi i3, vi i4, vi 4, vr b112, vr b121, vr b130, vi 1, vi 1, vi 1, vr r140, U0] [(.ref r140)] (fun _ kk => XS.ifYes W142.here hx rfl (pc0 := 200) (pc' := 205) rfl (hb hby at_200) rfl (XT.i0_ne_t (by decide +kernel)) (by decide +kernel) (by decide +kernel) (XS.aload W142.here hx rfl (hb hby at_205) rfl rfl kk)) ?_
          refine W142.callV hx hEL (hw _ (mI 125 rfl)) (hw _ (mI 126 rfl)) (hw _ (mI 128 rfl)) (hw _ (mI 127 rfl)) (hw _ (mI 39 rfl)) (hw _ (mI 129 rfl)) (by decide +kernel) E140 (a := r140) (argsL := []) (rest := []) (rm462 l Z a0 hw hEL zc SC hzc fm SF rfm r140 b130 ty140 q113 q115 q117 q119 h140 W142.old E140 Fn140 Ft140 k143 St140 cq113 cq115 cq117 cq119) all0 (by decide +kernel) (Wd := 0) (by decide +kernel) (by decide +kernel) (by decide +kernel) all0 rfl (by rw [hml]; rfl) (lenOf pd4 rfl) rfl (by show 2 * 0 + _ ≤ _; exact Nat.le_of_eq rfl) (hb hby at_207) (fun T144 h144 v144 W144 K144 q144 => ?_)
          obtain ⟨rfl, rfl⟩ := q144
          refine gof T144 m 227 #[vi i0, vi i1, vi i2, vi i3, vi i4, vi 4, vr b112, vr b121, vr b130, vi 1, vi 1, vi 1, vr r140, U0] [(.ref r140)] (fun _ kk => XS.iload W144.here hx rfl (hb hby at_210) rfl (XS.ifNo W144.here hx rfl (hb hby at_212) rfl (XT.i0_lt_f (by decide +kernel)) (XS.iconst W144.here hx rfl (hb hby at_215) (XS.goto W144.here hx rfl (pc0 := 216) (pc' := 220) rfl (hb hby at_216) (by decide +kernel) (by decide +kernel) (XS.icmpYes W144.here hx rfl (pc0 := 220) (pc' := 225) rfl (hb hby at_220) rfl (XT.ii_eq_t (by decide +kernel)) (by decide +kernel) (by decide +kernel) (XS.aload W144.here hx rfl (hb hby at_225) rfl rfl kk)))))) ?_
          refine W144.callV hx hEL (hw _ (mI 130 rfl)) (hw _ (mI 131 rfl)) (hw _ (mI 133 rfl)) (hw _ (mI 132 rfl)) (hw _ (mI 39 rfl)) (hw _ (mI 134 rfl)) (by decide +kernel) E140 (a := r140) (argsL := []) (rest := []) (rm451 l Z a0 hw hEL zc SC hzc fm SF rfm r140 ty140 h140 W144.old Ft140) all0 (by decide +kernel) (Wd := 0) (by decide +kernel) (by decide +kernel) (by decide +kernel) all0 rfl (by rw [hml]; rfl) (lenOf pd19 rfl) rfl (by show 2 * 0 + _ ≤ _; exact Nat.le_of_eq rfl) (hb hby at_227) (fun T145 h145 v145 W145 K145 q145 => ?_)
          obtain ⟨rfl, rfl⟩ := q145
          refine gof T145 m 235 #[vi i0, vi i1, vi i2, vi i3, vi i4, vi 4, vr b112, vr b121, vr b130, vi 1, vi 1, vi 1, vr r140, U0] [(.int 1), (.int 0), (.ref b112), (.ref ty140)] (fun _ kk => XS.aload W145.here hx rfl (hb hby at_230) rfl rfl (XS.iconst W145.here hx rfl (hb hby at_232) (XS.iload W145.here hx rfl (hb hby at_233) rfl kk))) ?_
          have k147 := (k136.keep K140 nin0)
          refine W145.callS hx hEL (hw _ (mI 135 rfl)) (hw _ (mI 136 rfl)) (hw _ (mI 3 rfl)) (hw _ (mI 137 rfl)) (by decide +kernel) (argsL := [(.ref ty140), (.ref b112), (.int (0 : Int32)), (.int (1 : Int32))]) (rest := []) (rm30 l Z a0 hw hEL zc SC hzc fm SF rfm ty140 b112 c112 q113 q115 q117 q119 h140 W145.old St140 k147 cq113 cq115 cq117 cq119) all0 (by decide +kernel) (Wd := 0) (by decide +kernel) (by decide +kernel) (by decide +kernel) all0 rfl (by rw [hml]; rfl) (lenOf pd20 rfl) rfl (by show 2 * 0 + _ ≤ _; exact Nat.le_of_eq rfl) (hb hby at_235) (fun T146 h146 v146 W146 K146 q146 => ?_)
          obtain ⟨rfl, rfl⟩ := q146
          refine gof T146 m 245 #[vi i0, vi i1, vi i2, vi i3, vi i4, vi 4, vr b112, vr b121, vr b130, vi 1, vi 1, vi 1, vr r140, U0] [(.ref r140)] (fun _ kk => XS.ifYes W146.here hx rfl (pc0 := 238) (pc' := 243) rfl (hb hby at_238) rfl (XT.i0_ne_t (by decide +kernel)) (by decide +kernel) (by decide +kernel) (XS.aload W146.here hx rfl (hb hby at_243) rfl rfl kk)) ?_
          refine W146.callV hx hEL (hw _ (mI 155 rfl)) (hw _ (mI 156 rfl)) (hw _ (mI 158 rfl)) (hw _ (mI 157 rfl)) (hw _ (mI 39 rfl)) (hw _ (mI 159 rfl)) (by decide +kernel) E140 (a := r140) (argsL := []) (rest := []) (rm463 l Z a0 hw hEL zc SC hzc fm SF rfm r140 b130 ty140 q113 q115 q117 q119 h140 W146.old E140 Fn140 Ft140 k143 St140 cq113 cq115 cq117 cq119) all0 (by decide +kernel) (Wd := 0) (by decide +kernel) (by decide +kernel) (by decide +kernel) all0 rfl (by rw [hml]; rfl) (lenOf pd19 rfl) rfl (by show 2 * 0 + _ ≤ _; exact Nat.le_of_eq rfl) (hb hby at_245) (fun T148 h148 v148 W148 K148 q148 => ?_)
          obtain ⟨r148, rfl, lr148, S148⟩ := q148
          have gr148 : n0 ≤ r148 ∧ s.heap.size ≤ r148 := ⟨Nat.le_trans W146.n0le lr148, Nat.le_trans W146.s0le lr148⟩
          have E148 := S148.exa
          refine gof T148 m 273 #[vi i0, vi i1, vi i2, vi i3, vi i4, vi 4, vr b112, vr b121, vr b130, vi 1, vi 1, vi 1, vr r140, vr r148] [(.int 1), (.int 1), (.ref b112), (.ref r148)] (fun _ kk => XS.astore W148.here hx rfl (hb hby at_248) rfl rfl (l' := #[vi i0, vi i1, vi i2, vi i3, vi i4, vi 4, vr b112, vr b121, vr b130, vi 1, vi 1, vi 1, vr r140, vr r148]) rfl (XS.iload W148.here hx rfl (hb hby at_250) rfl (XS.ifYes W148.here hx rfl (pc0 := 252) (pc' := 266) rfl (hb hby at_252) rfl (XT.i0_ge_t (by decide +kernel)) (by decide +kernel) (by decide +kernel) (XS.aload W148.here hx rfl (hb hby at_266) rfl rfl (XS.aload W148.here hx rfl (hb hby at_268) rfl rfl (XS.iload W148.here hx rfl (hb hby at_270) rfl (XS.iconst W148.here hx rfl (hb hby at_272) kk))))))) ?_
          refine gof T148 m 281 #[vi i0, vi i1, vi i2, vi i3, vi i4, vi 4, vr b112, vr b121, vr b130, vi 1, vi 1, vi 1, vr r140, vr r148] [(.int 2), (.int 2), (.ref b112), (.ref r148)] (fun _ kk => XS.iadd W148.here hx rfl (hb hby at_273) rfl (XS.iload W148.here hx rfl (hb hby at_274) rfl (XS.iload W148.here hx rfl (hb hby at_276) rfl (XS.isub W148.here hx rfl (hb hby at_278) rfl (XS.iconst W148.here hx rfl (hb hby at_279) (XS.isub W148.here hx rfl (hb hby at_280) rfl kk)))))) ?_
          have k150 := (k147.keep K148 nin0)
          refine W148.callS hx hEL (hw _ (mI 135 rfl)) (hw _ (mI 136 rfl)) (hw _ (mI 3 rfl)) (hw _ (mI 137 rfl)) (by decide +kernel) (argsL := [(.ref r148), (.ref b112), (.int (2 : Int32)), (.int (2 : Int32))]) (rest := []) (rm36 l Z a0 hw hEL zc SC hzc fm SF rfm r148 b112 c112 q113 q115 q117 q119 h148 W148.old S148 k150 cq113 cq115 cq117 cq119) all0 (by decide +kernel) (Wd := 0) (by decide +kernel) (by decide +kernel) (by decide +kernel) all0 rfl (by rw [hml]; rfl) (lenOf pd20 rfl) rfl (by show 2 * 0 + _ ≤ _; exact Nat.le_of_eq rfl) (hb hby at_281) (fun T149 h149 v149 W149 K149 q149 => ?_)
          obtain ⟨rfl, rfl⟩ := q149
          show Go p e below _ (T149.setTop (mkF m 284 #[vi i0, vi i1, vi i2, vi i3, vi i4, vi 4, vr b112, vr b121, vr b130, vi 1, vi 1, vi 1, vr r140, vr r148] [(.int 1)]))
          exact W149.retI hx hEL hs hlk (by decide +kernel) (by decide +kernel) hret (by simp) rfl (hb hby at_284) rfl
      · by_cases c151 : q117 = (47 : Int32)
        · have ei : (idxC (47 : Int32) [q113, q115, q117, q119] (0 : Int32)) = (2 : Int32) := by simp [idxC, c137, c138, c151]
          rw [ei]
          refine gof T135 m 145 #[vi i0, vi i1, vi i2, vi i3, vi i4, vi 4, vr b112, vr b121, vr b130, vi 2, vi 2, U0, U0, U0] [] (fun _ kk => XS.istore W135.here hx rfl (hb hby at_124) rfl (l' := #[vi i0, vi i1, vi i2, vi i3, vi i4, vi 4, vr b112, vr b121, vr b130, vi 2, U0, U0, U0, U0]) rfl (XS.iload W135.here hx rfl (hb hby at_126) rfl (XS.ifYes W135.here hx rfl (pc0 := 128) (pc' := 136) rfl (hb hby at_128) rfl (XT.i0_ge_t (by decide +kernel)) (by decide +kernel) (by decide +kernel) (XS.iload W135.here hx rfl (hb hby at_136) rfl (XS.istore W135.here hx rfl (hb hby at_138) rfl (l' := #[vi i0, vi i1, vi i2, vi i3, vi i4, vi 4, vr b112, vr b121, vr b130, vi 2, vi 2, U0, U0, U0]) rfl (XS.iload W135.here hx rfl (hb hby at_140) rfl (XS.ifNo W135.here hx rfl (hb hby at_142) rfl (XT.i0_le_f (by decide +kernel)) kk))))))) ?_
          refine gof T135 m 166 #[vi i0, vi i1, vi i2, vi i3, vi i4, vi 4, vr b112, vr b121, vr b130, vi 2, vi 2, U0, U0, U0] [(.int 3), (.int 2)] (fun _ kk => XS.iload W135.here hx rfl (hb hby at_145) rfl (XS.iconst W135.here hx rfl (hb hby at_147) (XS.icmpYes W135.here hx rfl (pc0 := 148) (pc' := 160) rfl (hb hby at_148) rfl (XT.ii_ne_t (by decide +kernel)) (by decide +kernel) (by decide +kernel) (XS.iload W135.here hx rfl (hb hby at_160) rfl (XS.iload W135.here hx rfl (hb hby at_162) rfl (XS.iconst W135.here hx rfl (hb hby at_164) (XS.isub W135.here hx rfl (hb hby at_165) rfl kk))))))) ?_
          refine gof T135 m 185 #[vi i0, vi i1, vi i2, vi i3, vi i4, vi 4, vr b112, vr b121, vr b130, vi 2, vi 2, vi 1, U0, U0] [(.ref b130)] (fun _ kk => XS.icmpNo W135.here hx rfl (hb hby at_166) rfl (XT.ii_eq_f (by decide +kernel)) (XS.iconst W135.here hx rfl (hb hby at_169) (XS.goto W135.here hx rfl (pc0 := 170) (pc' := 174) rfl (hb hby at_170) (by decide +kernel) (by decide +kernel) (XS.istore W135.here hx rfl (hb hby at_174) rfl (l' := #[vi i0, vi i1, vi i2, vi i3, vi i4, vi 4, vr b112, vr b121, vr b130, vi 2, vi 2, vi 1, U0, U0]) rfl (XS.iload W135.here hx rfl (hb hby at_176) rfl (XS.ifYes W135.here hx rfl (pc0 := 178) (pc' := 183) rfl (hb hby at_178) rfl (XT.i0_ne_t (by decide +kernel)) (by decide +kernel) (by decide +kernel) (XS.aload W135.here hx rfl (hb hby at_183) rfl rfl kk))))))) ?_
          refine W135.callS hx hEL (hw _ (mI 37 rfl)) (hw _ (mI 38 rfl)) (hw _ (mI 39 rfl)) (hw _ (mI 40 rfl)) (by decide +kernel) (argsL := [(.ref b130)]) (rest := []) (rm406 l Z a0 hw hEL zc SC hzc fm SF rfm b130 q113 q115 q117 q119 h133 W135.old S133 cq113 cq115 cq117 cq119 c137 c138 c151) all0 (by decide +kernel) (Wd := 0) (by decide +kernel) (by decide +kernel) (by decide +kernel) all0 rfl (by rw [hml]; rfl) (lenOf pd18 rfl) rfl (by show 2 * 0 + _ ≤ _; exact Nat.le_of_eq rfl) (hb hby at_185) (fun T152 h152 v152 W152 K152 q152 => ?_)
          obtain ⟨r152, ty152, rfl, lr152, E152, Fn152, Ft152, St152⟩ := q152
          have gr152 : n0 ≤ r152 ∧ s.heap.size ≤ r152 := ⟨Nat.le_trans W135.n0le lr152, Nat.le_trans W135.s0le lr152⟩
          refine gof T152 m 194 #[vi i0, vi i1, vi i2, vi i3, vi i4, vi 4, vr b112, vr b121, vr b130, vi 2, vi 2, vi 1, vr r152, U0] [(.ref r152), (.ref b130)] (fun _ kk => XS.astore W152.here hx rfl (hb hby at_188) rfl rfl (l' := #[vi i0, vi i1, vi i2, vi i3, vi i4, vi 4, vr b112, vr b121, vr b130, vi 2, vi 2, vi 1, vr r152, U0]) rfl (XS.aload W152.here hx rfl (hb hby at_190) rfl rfl (XS.aload W152.here hx rfl (hb hby at_192) rfl rfl kk))) ?_
          refine W152.callV hx hEL (hw _ (mI 119 rfl)) (hw _ (mI 120 rfl)) (hw _ (mI 122 rfl)) (hw _ (mI 121 rfl)) (hw _ (mI 39 rfl)) (hw _ (mI 123 rfl)) (by decide +kernel) E152 (a := r152) (argsL := []) (rest := [(.ref b130)]) (rm450 l Z a0 hw hEL zc SC hzc fm SF rfm r152 b130 h152 W152.old Fn152) all0 (by decide +kernel) (Wd := 1) (by decide +kernel) (by decide +kernel) (by decide +kernel) all0 rfl (by rw [hml]; rfl) (lenOf pd19 rfl) rfl (by show 2 * 0 + _ ≤ _; exact Nat.le_of_eq rfl) (hb hby at_194) (fun T153 h153 v153 W153 K153 q153 => ?_)
          obtain ⟨rfl, rfl⟩ := q153
          show Go p e below _ (T153.setTop (mkF m 197 #[vi i0, vi i1, vi i2, vi i3, vi i4, vi 4, vr b112, vr b121, vr b130, vi 2, vi 2, vi 1, vr r152, U0] [(.ref b130), (.ref b130)]))
          have k155 := (S133.keep0 K152)
          refine W153.strEq hx heq (hw _ (mI 6 rfl)) SC hzc k155 k155 (hw _ (mI 124 rfl)) (hw _ (mI 100 rfl)) (hw _ (mI 102 rfl)) (hw _ (mI 101 rfl)) (by decide +kernel) (Wd := 0) (by decide +kernel) (by decide +kernel) (by decide +kernel) rfl (by rw [hml]; rfl) rfl (by show 2 * 0 + _ ≤ _; exact Nat.le_of_eq rfl) (hb hby at_197) (fun T154 z154 hz154 W154 => ?_)
          obtain ⟨rfl, -⟩ | ⟨-, hn154⟩ := hz154
          case inr => exact absurd rfl hn154
          refine gof T154 m 207 #[vi i0, vi i1, vi i2, vi i3, vi i4, vi 4, vr b112, vr b121, vr b130, vi 2, vi 2, vi 1, vr r152, U0] [(.ref r152)] (fun _ kk => XS.ifYes W154.here hx rfl (pc0 := 200) (pc' := 205) rfl (hb hby at_200) rfl (XT.i0_ne_t (by decide +kernel)) (by decide +kernel) (by decide +kernel) (XS.aload W154.here hx rfl (hb hby at_205) rfl rfl kk)) ?_
          refine W154.callV hx hEL (hw _ (mI 125 rfl)) (hw _ (mI 126 rfl)) (hw _ (mI 128 rfl)) (hw _ (mI 127 rfl)) (hw _ (mI 39 rfl)) (hw _ (mI 129 rfl)) (by decide +kernel) E152 (a := r152) (argsL := []) (rest := []) (rm464 l Z a0 hw hEL zc SC hzc fm SF rfm r152 b130 ty152 q113 q115 q117 q119 h152 W154.old E152 Fn152 Ft152 k155 St152 cq113 cq115 cq117 cq119) all0 (by decide +kernel) (Wd := 0) (by decide +kernel) (by decide +kernel) (by decide +kernel) all0 rfl (by rw [hml]; rfl) (lenOf pd4 rfl) rfl (by show 2 * 0 + _ ≤ _; exact Nat.le_of_eq rfl) (hb hby at_207) (fun T156 h156 v156 W156 K156 q156 => ?_)
          obtain ⟨rfl, rfl⟩ := q156
          refine gof T156 m 227 #[vi i0, vi i1, vi i2, vi i3, vi i4, vi 4, vr b112, vr b121, vr b130, vi 2, vi 2, vi 1, vr r152, U0] [(.ref r152)] (fun _ kk => XS.iload W156.here hx rfl (hb hby at_210) rfl (XS.ifNo W156.here hx rfl (hb hby at_212) rfl (XT.i0_lt_f (by decide +kernel)) (XS.iconst W156.here hx rfl (hb hby at_215) (XS.goto W156.here hx rfl (pc0 := 216) (pc' := 220) rfl (hb hby at_216) (by decide +kernel) (by decide +kernel) (XS.icmpYes W156.here hx rfl (pc0 := 220) (pc' := 225) rfl (hb hby at_220) rfl (XT.ii_eq_t (by decide +kernel)) (by decide +kernel) (by decide +kernel) (XS.aload W156.here hx rfl (hb hby at_225) rfl rfl kk)))))) ?_
          refine W156.callV hx hEL (hw _ (mI 130 rfl)) (hw _ (mI 131 rfl)) (hw _ (mI 133 rfl)) (hw _ (mI 132 rfl)) (hw _ (mI 39 rfl)) (hw _ (mI 134 rfl)) (by decide +kernel) E152 (a := r152) (argsL := []) (rest := []) (rm451 l Z a0 hw hEL zc SC hzc fm SF rfm r152 ty152 h152 W156.old Ft152) all0 (by decide +kernel) (Wd := 0) (by decide +kernel) (by decide +kernel) (by decide +kernel) all0 rfl (by rw [hml]; rfl) (lenOf pd19 rfl) rfl (by show 2 * 0 + _ ≤ _; exact Nat.le_of_eq rfl) (hb hby at_227) (fun T157 h157 v157 W157 K157 q157 => ?_)
          obtain ⟨rfl, rfl⟩ := q157
          refine gof T157 m 235 #[vi i0, vi i1, vi i2, vi i3, vi i4, vi 4, vr b112, vr b121, vr b130, vi 2, vi 2, vi 1, vr r152, U0] [(.int 2), (.int 0), (.ref b112), (.ref ty152)] (fun _ kk => XS.aload W157.here hx rfl (hb hby at_230) rfl rfl (XS.iconst W157.here hx rfl (hb hby at_232) (XS.iload W157.here hx rfl (hb hby at_233) rfl kk))) ?_
          have k159 := (k136.keep K152 nin0)
          refine W157.callS hx hEL (hw _ (mI 135 rfl)) (hw _ (mI 136 rfl)) (hw _ (mI 3 rfl)) (hw _ (mI 137 rfl)) (by decide +kernel) (argsL := [(.ref ty152), (.ref b112), (.int (0 : Int32)), (.int (2 : Int32))]) (rest := []) (rm34 l Z a0 hw hEL zc SC hzc fm SF rfm ty152 b112 c112 q113 q115 q117 q119 h152 W157.old St152 k159 cq113 cq115 cq117 cq119) all0 (by decide +kernel) (Wd := 0) (by decide +kernel) (by decide +kernel) (by decide +kernel) all0 rfl (by rw [hml]; rfl) (lenOf pd20 rfl) rfl (by show 2 * 0 + _ ≤ _; exact Nat.le_of_eq rfl) (hb hby at_235) (fun T158 h158 v158 W158 K158 q158 => ?_)
          obtain ⟨rfl, rfl⟩ := q158
          refine gof T158 m 245 #[vi i0, vi i1, vi i2, vi i3, vi i4, vi 4, vr b112, vr b121, vr b130, vi 2, vi 2, vi 1, vr r152, U0] [(.ref r152)] (fun _ kk => XS.ifYes W158.here hx rfl (pc0 := 238) (pc' := 243) rfl (hb hby at_238) rfl (XT.i0_ne_t (by decide +kernel)) (by decide +kernel) (by decide +kernel) (XS.aload W158.here hx rfl (hb hby at_243) rfl rfl kk)) ?_
          refine W158.callV hx hEL (hw _ (mI 155 rfl)) (hw _ (mI 156 rfl)) (hw _ (mI 158 rfl)) (hw _ (mI 157 rfl)) (hw _ (mI 39 rfl)) (hw _ (mI 159 rfl)) (by decide +kernel) E152 (a := r152) (argsL := []) (rest := []) (rm465 l Z a0 hw hEL zc SC hzc fm SF rfm r152 b130 ty152 q113 q115 q117 q119 h152 W158.old E152 Fn152 Ft152 k155 St152 cq113 cq115 cq117 cq119) all0 (by decide +kernel) (Wd := 0) (by decide +kernel) (by decide +kernel) (by decide +kernel) all0 rfl (by rw [hml]; rfl) (lenOf pd19 rfl) rfl (by show 2 * 0 + _ ≤ _; exact Nat.le_of_eq rfl) (hb hby at_245) (fun T160 h160 v160 W160 K160 q160 => ?_)
          obtain ⟨r160, rfl, lr160, S160⟩ := q160
          have gr160 : n0 ≤ r160 ∧ s.heap.size ≤ r160 := ⟨Nat.le_trans W158.n0le lr160, Nat.le_trans W158.s0le lr160⟩
          have E160 := S160.exa
          refine gof T160 m 273 #[vi i0, vi i1, vi i2, vi i3, vi i4, vi 4, vr b112, vr b121, vr b130, vi 2, vi 2, vi 1, vr r152, vr r160] [(.int 1), (.int 2), (.ref b112), (.ref r160)] (fun _ kk => XS.astore W160.here hx rfl (hb hby at_248) rfl rfl (l' := #[vi i0, vi i1, vi i2, vi i3, vi i4, vi 4, vr b112, vr b121, vr b130, vi 2, vi 2, vi 1, vr r152, vr r160]) rfl (XS.iload W160.here hx rfl (hb hby at_250) rfl (XS.ifYes W160.here hx rfl (pc0 := 252) (pc' := 266) rfl (hb hby at_252) rfl (XT.i0_ge_t (by decide +kernel)) (by decide +kernel) (by decide +kernel) (XS.aload W160.here hx rfl (hb hby at_266) rfl rfl (XS.aload W160.here hx rfl (hb hby at_268) rfl rfl (XS.iload W160.here hx rfl (hb hby at_270) rfl (XS.iconst W160.here hx rfl (hb hby at_272) kk))))))) ?_
          refine gof T160 m 281 #[vi i0, vi i1, vi i2, vi i3, vi i4, vi 4, vr b112, vr b121, vr b130, vi 2, vi 2, vi 1, vr r152, vr r160] [(.int 1), (.int 3), (.ref b112), (.ref r160)] (fun _ kk => XS.iadd W160.here hx rfl (hb hby at_273) rfl (XS.iload W160.here hx rfl (hb hby at_274) rfl (XS.iload W160.here hx rfl (hb hby at_276) rfl (XS.isub W160.here hx rfl (hb hby at_278) rfl (XS.iconst W160.here hx rfl (hb hby at_279) (XS.isub W160.here hx rfl (hb hby at_280) rfl kk)))))) ?_
          have k162 := (k159.keep K160 nin0)
          refine W160.callS hx hEL (hw _ (mI 135 rfl)) (hw _ (mI 136 rfl)) (hw _ (mI 3 rfl)) (hw _ (mI 137 rfl)) (by decide +kernel) (argsL := [(.ref r160), (.ref b112), (.int (3 : Int32)), (.int (1 : Int32))]) (rest := []) (rm33 l Z a0 hw hEL zc SC hzc fm SF rfm r160 b112 c112 q113 q115 q117 q119 h160 W160.old S160 k162 cq113 cq115 cq117 cq119) all0 (by decide +kernel) (Wd := 0) (by decide +kernel) (by decide +kernel) (by decide +kernel) all0 rfl (by rw [hml]; rfl) (lenOf pd20 rfl) rfl (by show 2 * 0 + _ ≤ _; exact Nat.le_of_eq rfl) (hb hby at_281) (fun T161 h161 v161 W161 K161 q161 => ?_)
          obtain ⟨rfl, rfl⟩ := q161
          show Go p e below _ (T161.setTop (mkF m 284 #[vi i0, vi i1, vi i2, vi i3, vi i4, vi 4, vr b112, vr b121, vr b130, vi 2, vi 2, vi 1, vr r152, vr r160] [(.int 1)]))
          exact W161.retI hx hEL hs hlk (by decide +kernel) (by decide +kernel) hret (by simp) rfl (hb hby at_284) rfl
        · by_cases c163 : q119 = (47 : Int32)
          · have ei : (idxC (47 : Int32) [q113, q115, q117, q119] (0 : Int32)) = (3 : Int32) := by simp [idxC, c137, c138, c151, c163]
            rw [ei]
            refine gof T135 m 145 #[vi i0, vi i1, vi i2, vi i3, vi i4, vi 4, vr b112, vr b121, vr b130, vi 3, vi 3, U0, U0, U0] [] (fun _ kk => XS.istore W135.here hx rfl (hb hby at_124) rfl (l' := #[vi i0, vi i1, vi i2, vi i3, vi i4, vi 4, vr b112, vr b121, vr b130, vi 3, U0, U0, U0, U0]) rfl (XS.iload W135.here hx rfl (hb hby at_126) rfl (XS.ifYes W135.here hx rfl (pc0 := 128) (pc' := 136) rfl (hb hby at_128) rfl (XT.i0_ge_t (by decide +kernel)) (by decide +kernel) (by decide +kernel) (XS.iload W135.here hx rfl (hb hby at_136) rfl (XS.istore W135.here hx rfl (hb hby at_138) rfl (l' := #[vi i0, vi i1, vi i2, vi i3, vi i4, vi 4, vr b112, vr b121, vr b130, vi 3, vi 3, U0, U0, U0]) rfl (XS.iload W135.here hx rfl (hb hby at_140) rfl (XS.ifNo W135.here hx rfl (hb hby at_142) rfl (XT.i0_le_f (by decide +kernel)) kk))))))) ?_
            refine gof T135 m 166 #[vi i0, vi i1, vi i2, vi i3, vi i4, vi 4, vr b112, vr b121, vr b130, vi 3, vi 3, U0, U0, U0] [(.int 3), (.int 3)] (fun _ kk => XS.iload W135.here hx rfl (hb hby at_145) rfl (XS.iconst W135.here hx rfl (hb hby at_147) (XS.icmpYes W135.here hx rfl (pc0 := 148) (pc' := 160) rfl (hb hby at_148) rfl (XT.ii_ne_t (by decide +kernel)) (by decide +kernel) (by decide +kernel) (XS.iload W135.here hx rfl (hb hby at_160) rfl (XS.iload W135.here hx rfl (hb hby at_162) rfl (XS.iconst W135.here hx rfl (hb hby at_164) (XS.isub W135.here hx rfl (hb hby at_165) rfl kk))))))) ?_
            refine gof T135 m 182 #[vi i0, vi i1, vi i2, vi i3, vi i4, vi 4, vr b112, vr b121, vr b130, vi 3, vi 3, vi 0, U0, U0] [(.int 1)] (fun _ kk => XS.icmpYes W135.here hx rfl (pc0 := 166) (pc' := 173) rfl (hb hby at_166) rfl (XT.ii_eq_t (by decide +kernel)) (by decide +kernel) (by decide +kernel) (XS.iconst W135.here hx rfl (hb hby at_173) (XS.istore W135.here hx rfl (hb hby at_174) rfl (l' := #[vi i0, vi i1, vi i2, vi i3, vi i4, vi 4, vr b112, vr b121, vr b130, vi 3, vi 3, vi 0, U0, U0]) rfl (XS.iload W135.here hx rfl (hb hby at_176) rfl (XS.ifNo W135.here hx rfl (hb hby at_178) rfl (XT.i0_ne_f (by decide +kernel)) (XS.iconst W135.here hx rfl (hb hby at_181) kk)))))) ?_
            exact W135.retI hx hEL hs hlk (by decide +kernel) (by decide +kernel) hret (by simp) rfl (hb hby at_182) rfl
          · have ei : (idxC (47 : Int32) [q113, q115, q117, q119] (0 : Int32)) = (-1 : Int32) := by simp [idxC, c137, c138, c151, c163]
            rw [ei]
            refine gof T135 m 142 #[vi i0, vi i1, vi i2, vi i3, vi i4, vi 4, vr b112, vr b121, vr b130, vi (-1 : Int32), vi 4, U0, U0, U0] [(.int 4)] (fun _ kk => XS.istore W135.here hx rfl (hb hby at_124) rfl (l' := #[vi i0, vi i1, vi i2, vi i3, vi i4, vi 4, vr b112, vr b121, vr b130, vi (-1 : Int32), U0, U0, U0, U0]) rfl (XS.iload W135.here hx rfl (hb hby at_126) rfl (XS.ifNo W135.here hx rfl (hb hby at_128) rfl (XT.i0_ge_f (by decide +kernel)) (XS.iload W135.here hx rfl (hb hby at_131) rfl (XS.goto W135.here hx rfl (pc0 := 133) (pc' := 138) rfl (hb hby at_133) (by decide +kernel) (by decide +kernel) (XS.istore W135.here hx rfl (hb hby at_138) rfl (l' := #[vi i0, vi i1, vi i2, vi i3, vi i4, vi 4, vr b112, vr b121, vr b130, vi (-1 : Int32), vi 4, U0, U0, U0]) rfl (XS.iload W135.here hx rfl (hb hby at_140) rfl kk))))))) ?_
            refine gof T135 m 165 #[vi i0, vi i1, vi i2, vi i3, vi i4, vi 4, vr b112, vr b121, vr b130, vi (-1 : Int32), vi 4, U0, U0, U0] [(.int 1), (.int 4), (.int (-1 : Int32))] (fun _ kk => XS.ifNo W135.here hx rfl (hb hby at_142) rfl (XT.i0_le_f (by decide +kernel)) (XS.iload W135.here hx rfl (hb hby at_145) rfl (XS.iconst W135.here hx rfl (hb hby at_147) (XS.icmpYes W135.here hx rfl (pc0 := 148) (pc' := 160) rfl (hb hby at_148) rfl (XT.ii_ne_t (by decide +kernel)) (by decide +kernel) (by decide +kernel) (XS.iload W135.here hx rfl (hb hby at_160) rfl (XS.iload W135.here hx rfl (hb hby at_162) rfl (XS.iconst W135.here hx rfl (hb hby at_164) kk))))))) ?_
            refine gof T135 m 183 #[vi i0, vi i1, vi i2, vi i3, vi i4, vi 4, vr b112, vr b121, vr b130, vi (-1 : Int32), vi 4, vi 1, U0, U0] [] (fun _ kk => XS.isub W135.here hx rfl (hb hby at_165) rfl (XS.icmpNo W135.here hx rfl (hb hby at_166) rfl (XT.ii_eq_f (by decide +kernel)) (XS.iconst W135.here hx rfl (hb hby at_169) (XS.goto W135.here hx rfl (pc0 := 170) (pc' := 174) rfl (hb hby at_170) (by decide +kernel) (by decide +kernel) (XS.istore W135.here hx rfl (hb hby at_174) rfl (l' := #[vi i0, vi i1, vi i2, vi i3, vi i4, vi 4, vr b112, vr b121, vr b130, vi (-1 : Int32), vi 4, vi 1, U0, U0]) rfl (XS.iload W135.here hx rfl (hb hby at_176) rfl (XS.ifYes W135.here hx rfl (pc0 := 178) (pc' := 183) rfl (hb hby at_178) rfl (XT.i0_ne_t (by decide +kernel)) (by decide +kernel) (by decide +kernel) kk))))))) ?_
            refine gof T135 m 185 #[vi i0, vi i1, vi i2, vi i3, vi i4, vi 4, vr b112, vr b121, vr b130, vi (-1 : Int32), vi 4, vi 1, U0, U0] [(.ref b130)] (fun _ kk => XS.aload W135.here hx rfl (hb hby at_183) rfl rfl kk) ?_
            refine W135.callS hx hEL (hw _ (mI 37 rfl)) (hw _ (mI 38 rfl)) (hw _ (mI 39 rfl)) (hw _ (mI 40 rfl)) (by decide +kernel) (argsL := [(.ref b130)]) (rest := []) (rm403 l Z a0 hw hEL zc SC hzc fm SF rfm b130 q113 q115 q117 q119 h133 W135.old S133 cq113 cq115 cq117 cq119 c137 c138 c151 c163) all0 (by decide +kernel) (Wd := 0) (by decide +kernel) (by decide +kernel) (by decide +kernel) all0 rfl (by rw [hml]; rfl) (lenOf pd18 rfl) rfl (by show 2 * 0 + _ ≤ _; exact Nat.le_of_eq rfl) (hb hby at_185) (fun T164 h164 v164 W164 K164 q164 => ?_)
            obtain ⟨r164, rfl, lr164, E164, Fn164, Ft164⟩ := q164
            have gr164 : n0 ≤ r164 ∧ s.heap.size ≤ r164 := ⟨Nat.le_trans W135.n0le lr164, Nat.le_trans W135.s0le lr164⟩
            refine gof T164 m 194 #[vi i0, vi i1, vi i2, vi i3, vi i4, vi 4, vr b112, vr b121, vr b130, vi (-1 : Int32), vi 4, vi 1, vr r164, U0] [(.ref r164), (.ref b130)] (fun _ kk => XS.astore W164.here hx rfl (hb hby at_188) rfl rfl (l' := #[vi i0, vi i1, vi i2, vi i3, vi i4, vi 4, vr b112, vr b121, vr b130, vi (-1 : Int32), vi 4, vi 1, vr r164, U0]) rfl (XS.aload W164.here hx rfl (hb hby at_190) rfl rfl (XS.aload W164.here hx rfl (hb hby at_192) rfl rfl kk))) ?_
            refine W164.callV hx hEL (hw _ (mI 119 rfl)) (hw _ (mI 120 rfl)) (hw _ (mI 122 rfl)) (hw _ (mI 121 rfl)) (hw _ (mI 39 rfl)) (hw _ (mI 123 rfl)) (by decide +kernel) E164 (a := r164) (argsL := []) (rest := [(.ref b130)]) (rm450 l Z a0 hw hEL zc SC hzc fm SF rfm r164 b130 h164 W164.old Fn164) all0 (by decide +kernel) (Wd := 1) (by decide +kernel) (by decide +kernel) (by decide +kernel) all0 rfl (by rw [hml]; rfl) (lenOf pd19 rfl) rfl (by show 2 * 0 + _ ≤ _; exact Nat.le_of_eq rfl) (hb hby at_194) (fun T165 h165 v165 W165 K165 q165 => ?_)
            obtain ⟨rfl, rfl⟩ := q165
            show Go p e below _ (T165.setTop (mkF m 197 #[vi i0, vi i1, vi i2, vi i3, vi i4, vi 4, vr b112, vr b121, vr b130, vi (-1 : Int32), vi 4, vi 1, vr r164, U0] [(.ref b130), (.ref b130)]))
            have k167 := (S133.keep0 K164)
            refine W165.strEq hx heq (hw _ (mI 6 rfl)) SC hzc k167 k167 (hw _ (mI 124 rfl)) (hw _ (mI 100 rfl)) (hw _ (mI 102 rfl)) (hw _ (mI 101 rfl)) (by decide +kernel) (Wd := 0) (by decide +kernel) (by decide +kernel) (by decide +kernel) rfl (by rw [hml]; rfl) rfl (by show 2 * 0 + _ ≤ _; exact Nat.le_of_eq rfl) (hb hby at_197) (fun T166 z166 hz166 W166 => ?_)
            obtain ⟨rfl, -⟩ | ⟨-, hn166⟩ := hz166
            case inr => exact absurd rfl hn166
            refine gof T166 m 207 #[vi i0, vi i1, vi i2, vi i3, vi i4, vi 4, vr b112, vr b121, vr b130, vi (-1 : Int32), vi 4, vi 1, vr r164, U0] [(.ref r164)] (fun _ kk => XS.ifYes W166.here hx rfl (pc0 := 200) (pc' := 205) rfl (hb hby at_200) rfl (XT.i0_ne_t (by decide +kernel)) (by decide +kernel) (by decide +kernel) (XS.aload W166.here hx rfl (hb hby at_205) rfl rfl kk)) ?_
            refine W166.callV hx hEL (hw _ (mI 125 rfl)) (hw _ (mI 126 rfl)) (hw _ (mI 128 rfl)) (hw _ (mI 127 rfl)) (hw _ (mI 39 rfl)) (hw _ (mI 129 rfl)) (by decide +kernel) E164 (a := r164) (argsL := []) (rest := []) (rm452 l Z a0 hw hEL zc SC hzc fm SF rfm r164 b130 [q113, q115, q117, q119] h164 W166.old E164 Fn164 Ft164 k167) all0 (by decide +kernel) (Wd := 0) (by decide +kernel) (by decide +kernel) (by decide +kernel) all0 rfl (by rw [hml]; rfl) (lenOf pd4 rfl) rfl (by show 2 * 0 + _ ≤ _; exact Nat.le_of_eq rfl) (hb hby at_207) (fun T168 h168 v168 W168 K168 q168 => ?_)
            obtain ⟨rfl, rfl⟩ := q168
            refine gof T168 m 227 #[vi i0, vi i1, vi i2, vi i3, vi i4, vi 4, vr b112, vr b121, vr b130, vi (-1 : Int32), vi 4, vi 1, vr r164, U0] [(.ref r164)] (fun _ kk => XS.iload W168.here hx rfl (hb hby at_210) rfl (XS.ifYes W168.here hx rfl (pc0 := 212) (pc' := 219) rfl (hb hby at_212) rfl (XT.i0_lt_t (by decide +kernel)) (by decide +kernel) (by decide +kernel) (XS.iconst W168.here hx rfl (hb hby at_219) (XS.icmpYes W168.here hx rfl (pc0 := 220) (pc' := 225) rfl (hb hby at_220) rfl (XT.ii_eq_t (by decide +kernel)) (by decide +kernel) (by decide +kernel) (XS.aload W168.here hx rfl (hb hby at_225) rfl rfl kk))))) ?_
            refine W168.callV hx hEL (hw _ (mI 130 rfl)) (hw _ (mI 131 rfl)) (hw _ (mI 133 rfl)) (hw _ (mI 132 rfl)) (hw _ (mI 39 rfl)) (hw _ (mI 134 rfl)) (by decide +kernel) E164 (a := r164) (argsL := []) (rest := []) (rm451 l Z a0 hw hEL zc SC hzc fm SF rfm r164 b130 h164 W168.old Ft164) all0 (by decide +kernel) (Wd := 0) (by decide +kernel) (by decide +kernel) (by decide +kernel) all0 rfl (by rw [hml]; rfl) (lenOf pd19 rfl) rfl (by show 2 * 0 + _ ≤ _; exact Nat.le_of_eq rfl) (hb hby at_227) (fun T169 h169 v169 W169 K169 q169 => ?_)
            obtain ⟨rfl, rfl⟩ := q169
            refine gof T169 m 235 #[vi i0, vi i1, vi i2, vi i3, vi i4, vi 4, vr b112, vr b121, vr b130, vi (-1 : Int32), vi 4, vi 1, vr r164, U0] [(.int 4), (.int 0), (.ref b112), (.ref b130)] (fun _ kk => XS.aload W169.here hx rfl (hb hby at_230) rfl rfl (XS.iconst W169.here hx rfl (hb hby at_232) (XS.iload W169.here hx rfl (hb hby at_233) rfl kk))) ?_
            have k171 := (k136.keep K164 nin0)
            refine W169.callS hx hEL (hw _ (mI 135 rfl)) (hw _ (mI 136 rfl)) (hw _ (mI 3 rfl)) (hw _ (mI 137 rfl)) (by decide +kernel) (argsL := [(.ref b130), (.ref b112), (.int (0 : Int32)), (.int (4 : Int32))]) (rest := []) (rm39 l Z a0 hw hEL zc SC hzc fm SF rfm b130 b112 c112 q113 q115 q117 q119 h164 W169.old k167 k171 cq113 cq115 cq117 cq119) all0 (by decide +kernel) (Wd := 0) (by decide +kernel) (by decide +kernel) (by decide +kernel) all0 rfl (by rw [hml]; rfl) (lenOf pd20 rfl) rfl (by show 2 * 0 + _ ≤ _; exact Nat.le_of_eq rfl) (hb hby at_235) (fun T170 h170 v170 W170 K170 q170 => ?_)
            obtain ⟨rfl, rfl⟩ := q170
            refine gof T170 m 245 #[vi i0, vi i1, vi i2, vi i3, vi i4, vi 4, vr b112, vr b121, vr b130, vi (-1 : Int32), vi 4, vi 1, vr r164, U0] [(.ref r164)] (fun _ kk => XS.ifYes W170.here hx rfl (pc0 := 238) (pc' := 243) rfl (hb hby at_238) rfl (XT.i0_ne_t (by decide +kernel)) (by decide +kernel) (by decide +kernel) (XS.aload W170.here hx rfl (hb hby at_243) rfl rfl kk)) ?_
            refine W170.callV hx hEL (hw _ (mI 155 rfl)) (hw _ (mI 156 rfl)) (hw _ (mI 158 rfl)) (hw _ (mI 157 rfl)) (hw _ (mI 39 rfl)) (hw _ (mI 159 rfl)) (by decide +kernel) E164 (a := r164) (argsL := []) (rest := []) (rm453 l Z a0 hw hEL zc SC hzc fm SF rfm r164 b130 [q113, q115, q117, q119] h164 W170.old E164 Fn164 Ft164 k167) all0 (by decide +kernel) (Wd := 0) (by decide +kernel) (by decide +kernel) (by decide +kernel) all0 rfl (by rw [hml]; rfl) (lenOf pd19 rfl) rfl (by show 2 * 0 + _ ≤ _; exact Nat.le_of_eq rfl) (hb hby at_245) (fun T172 h172 v172 W172 K172 q172 => ?_)
            obtain ⟨rfl, rfl⟩ := q172
            refine gof T172 m 265 #[vi i0, vi i1, vi i2, vi i3, vi i4, vi 4, vr b112, vr b121, vr b130, vi (-1 : Int32), vi 4, vi 1, vr r164, vN] [(.int 1)] (fun _ kk => XS.astore W172.here hx rfl (hb hby at_248) rfl rfl (l' := #[vi i0, vi i1, vi i2, vi i3, vi i4, vi 4, vr b112, vr b121, vr b130, vi (-1 : Int32), vi 4, vi 1, vr r164, vN]) rfl (XS.iload W172.here hx rfl (hb hby at_250) rfl (XS.ifNo W172.here hx rfl (hb hby at_252) rfl (XT.i0_ge_f (by decide +kernel)) (XS.aload W172.here hx rfl (hb hby at_255) rfl rfl (XS.ifnonnullNo W172.here hx rfl (hb hby at_257) rfl (XS.iconst W172.here hx rfl (hb hby at_260) (XS.goto W172.here hx rfl (pc0 := 261) (pc' := 265) rfl (hb hby at_261) (by decide +kernel) (by decide +kernel) kk))))))) ?_
            exact W172.retI hx hEL hs hlk (by decide +kernel) (by decide +kernel) hret (by simp) rfl (hb hby at_265) rfl
set_option maxRecDepth 65536 in
set_option maxHeartbeats 40000000 in
theorem comes_1 {Post : Tables → Env → Array Value → State → Outcome → State → Prop} (hpost : ∀ tb e args s v u, (limb_1_1.after args s (.returned v) u = true ∧ limb_1_2.after args s (.returned v) u = true ∧ True) → FramedW s (.returned v) u (Jvm.fieldLocs frame_1_writes args s ++ Jvm.arrayLocs frame_1_arrays args s ++ Jvm.staticLocs frame_1_statics s) 32 2240 → Post tb e args s (.returned v) u) :
    ArmFor flags0 classFile x code maxLocals ret World_1 tables_1 room_1 Calls_1 rest_1 Pre_1 Post := by
  intro l hfl _ _ p e ha hc hk s m args below hf hA hF happ hP
  obtain ⟨hcalls, hrest, hpre⟩ := hP
  obtain ⟨-, -, -, hnamed, -, -, -, hat⟩ := (Spec.applies_iff hf).mp happ
  obtain ⟨hg, hn⟩ := and_e (Cond.before_iff.mp (show (Jvm.Cond.and given_1 narrow_1).before args s = true from hpre))
  obtain ⟨hy0, hz0⟩ := and_e hg
  obtain ⟨hy1, hz1⟩ := and_e hz0
  obtain ⟨hy2, hz2⟩ := and_e hz1
  obtain ⟨hy3, hz3⟩ := and_e hz2
  obtain ⟨hy4, hz4⟩ := and_e hz3
  obtain ⟨w0, w1, w2, w3, w4, rfl⟩ : ∃ w0 w1 w2 w3 w4 : Value, args = #[w0, w1, w2, w3, w4] := by
    have hs : args.size = 5 := by simpa [Cond.value, given_1] using hy0
    obtain ⟨L⟩ := args
    match L, hs with
    | [w0, w1, w2, w3, w4], _ => exact ⟨w0, w1, w2, w3, w4, rfl⟩
  have hw := fun d (hd : d ∈ tables_1) => atoms_spec (ws := Jvm.Cond.code x code maxLocals ret :: tables_1) hat d (List.mem_cons_of_mem _ hd)
  obtain ⟨hsets, hown0⟩ := atoms_of _ (rest_1_c_eq ▸ (show rest_1_c.before _ s = true from hrest))
  have hfit : Fit s := fun {y c} hc i hi => by
    obtain ⟨ha, rfl⟩ := Array.getElem?_eq_some_iff.mp hc
    have q := List.all_eq_true.mp ((Array.all_eq_true_iff_forall_mem.mp hF) _ (Array.getElem_mem ha)) i (List.mem_range.mpr hi)
    simpa [Array.getElem?_eq_getElem hi] using q
  have nzc := not_v (Cond.before_iff.mp (hsets _ (mI 2 rfl)))
  obtain ⟨i0, ei0⟩ := is_v hy1
  obtain rfl : w0 = (.int i0) := Option.some.inj ei0
  obtain ⟨i1, ei1⟩ := is_v hy2
  obtain rfl : w1 = (.int i1) := Option.some.inj ei1
  obtain ⟨i2, ei2⟩ := is_v hy3
  obtain rfl : w2 = (.int i2) := Option.some.inj ei2
  obtain ⟨i3, ei3⟩ := is_v hy4
  obtain rfl : w3 = (.int i3) := Option.some.inj ei3
  obtain ⟨i4, ei4⟩ := is_v hz4
  obtain rfl : w4 = (.int i4) := Option.some.inj ei4
  obtain ⟨zc, ezc⟩ := is_v (Cond.before_iff.mp (hsets _ (mI 1 rfl)))
  have SC : Sta s s.heap "java/lang/String" "COMPACT_STRINGS" "Z" (.int zc) := Sta.start ezc (Or.inl (hsets _ (mI 0 rfl)))
  obtain ⟨fm, efm, rfm⟩ := isR_v (Cond.before_iff.mp (hsets _ (mI 8 rfl)))
  have SF : Sta s s.heap "jdk/internal/util/Preconditions" "SIOOBE_FORMATTER" "Ljava/util/function/BiFunction;" fm := Sta.start efm (Or.inl (hsets _ (mI 7 rfl)))
  have hzc : ¬ (zc = (0 : Int32)) := gotF (Cond.eq_ints ezc (Term.int_eval (0))) nzc
  have hEL : EW s #[(.int i0), (.int i1), (.int i2), (.int i3), (.int i4)] EL0 := (EW.cons (hw _ (mI 41 rfl)) (by decide +kernel) (EW.cons (hw _ (mI 98 rfl)) (by decide +kernel) EW.nil))
  have hCH : CHv s EL0 s.vm s.heap := CHv.start hEL (fun q hq => hcalls.1 q hq) (hsets _ (mI 2 rfl)) (hw _ (mI 23 rfl)) (hw _ (mI 6 rfl))
  obtain ⟨n, o, h1, h2, h3, _, L, rfl, ⟨q1, N, K⟩, -, hq1, hq2, hq3, hq4⟩ := rm0 l s _ hw hEL zc SC hzc fm SF rfm i0 i1 i2 i3 i4 s.heap (Old.start s)  p e ha hc hk s m _ below hf ((Spec.applies_iff_loose hf).mp happ).1 ⟨rfl, State.Warmed39.refl s, rfl, hCH, all0⟩ trivial
  cases q1
  refine ⟨n, _, h1, h2, h3, hpost _ _ _ _ _ _ ⟨Cond.after_iff.mpr rfl, Cond.after_iff.mpr (eq_i res_at (Term.int_eval (1)) rfl), trivial⟩ ⟨hq1, hq2, hq3, (hq4.sift fun y hy => Or.inr (N y hy)).mono (by decide +kernel) (by decide +kernel)⟩⟩
theorem main_1_1 : Claimed_1_1 := comes_1 fun _ _ _ _ _ _ h hF => ⟨h.1, hF⟩
theorem main_1_2 : Claimed_1_2 := comes_1 fun _ _ _ _ _ _ h hF => ⟨h.2.1, hF⟩
end Jvm.Pilot.@@N@@
namespace Jvm.Pilot.@@N@@
open Jvm Jvm.ClassFile Sem Op Lib Jvm.Free Jvm.Stand Jvm.Pilot.@@N@@.Jvm.D
/-! MADE BY PROGRAM (witnessworld.py) out of the Statement's table words and the real class files: 24 classes; the members and pool entries that the words name. The judged class is class 1, her method 4. -/
namespace start1
open Jvm.ClassFile
def u (s : String) : CpInfo := .utf8 (stringToUtf16 s)
/-- a pool by its gaps: so many unusable entries, then the entry; so many at the end -/
def gap : Nat → List CpInfo → List CpInfo
  | 0, r => r
  | n + 1, r => .unusable :: gap n r
def poolList (es : List (Nat × CpInfo)) (last : Nat) : List CpInfo := es.foldr (fun e r => gap e.1 (e.2 :: r)) (gap last [])
def pool (es : List (Nat × CpInfo)) (last : Nat) : Array CpInfo := ⟨poolList es last⟩
def fileOf (pool : Array CpInfo) (this : Nat) (attrs : Array Attribute := #[]) (ms : Array MethodInfo := #[]) (fl : Nat := 33) (sup : Nat := 0) (ifs : Array Nat := #[]) (fds : Array FieldInfo := #[]) : ClassFile where
  minorVersion := 0
  majorVersion := 65
  constantPool := pool
  accessFlags := fl
  thisClass := this
  superClass := sup
  interfaces := ifs
  fields := fds
  methods := ms
  attributes := attrs
def plain (name : String) (sup : Option ClassId) : Class where
  name := name
  kind := .ordinary
  loader := none
  accessFlags := 33
  super := sup
  interfaces := #[]
  cf := none
  fields := #[]
  methods := #[]
  instanceTypes := #[]
  staticTypes := #[]
  resolved := #[]
  callSites := []
  init := .initialized
  statics := none
  mirror := none

def pool0 : Array CpInfo := pool [(5, u "<init>"), (0, u "()V"), (1, .class_ 10), (1, u "java/lang/Object")] 113

def k0c0 : Code := { maxStack := 0, maxLocals := 1, code := object_method_1_code, exceptionTable := #[], attributes := #[] }
def k0m0 : Method := { name := "<init>", desc := "()V", sig := { parameters := [], returnType := none }, accessFlags := 1, code := some k0c0 }
/-- java/lang/Object -/
def k0 : Class := { plain "java/lang/Object" none with
  accessFlags := 33
  interfaces := #[]
  cf := some (fileOf pool0 8 #[] #[{ accessFlags := 1, nameIndex := 5, descriptorIndex := 6, attributes := #[] }] 33 0 #[] #[])
  fields := #[]
  methods := #[k0m0]
  instanceTypes := #[]
  staticTypes := #[]
  resolved := Array.replicate 124 none
  statics := none }

def pool1 : Array CpInfo := pool [(2, .class_ 4), (1, u "java/lang/Object"), (0, u "<init>"), (0, u "()V"), (0, .methodref 8 9), (0, .class_ 10), (0, .nameAndType 11 12), (0, u "java/lang/String"), (0, u "length"), (0, u "()I"), (0, .methodref 8 14), (0, .nameAndType 15 16), (0, u "charAt"), (0, u "(I)C"), (0, .methodref 18 19), (0, .class_ 20), (0, .nameAndType 21 16), (0, u "com/example/grantwork/grantwork/resources/ResourceParsePinLaw"), (0, u "draw"), (0, .methodref 8 23), (0, .nameAndType 5 24), (0, u "([C)V"), (0, .methodref 18 26), (0, .nameAndType 27 28), (0, u "firstSlash"), (0, u "([CI)I"), (0, .methodref 30 31), (0, .class_ 32), (0, .nameAndType 33 34), (0, u "com/example/grantwork/grantwork/resources/Resource"), (0, u "parse"), (0, u "(Ljava/lang/String;)Lcom/example/grantwork/grantwork/resources/Resource;"), (0, .methodref 30 36), (0, .nameAndType 37 38), (0, u "name"), (0, u "()Ljava/lang/String;"), (0, .methodref 8 40), (0, .nameAndType 41 42), (0, u "equals"), (0, u "(Ljava/lang/Object;)Z"), (0, .methodref 30 44), (0, .nameAndType 45 46), (0, u "isRecord"), (0, u "()Z"), (0, .methodref 30 48), (0, .nameAndType 49 38), (0, u "type"), (0, .methodref 18 51), (0, .nameAndType 52 53), (0, u "matches"), (0, u "(Ljava/lang/String;[CII)Z"), (0, .methodref 30 55), (0, .nameAndType 56 38), (0, u "id"), (3, u "law"), (0, u "(IIIII)Z")] 4

def k1m0 : Method := { name := "<init>", desc := "()V", sig := { parameters := [], returnType := none }, accessFlags := 1, code := none }
def k1c1 : Code := { maxStack := 2, maxLocals := 2, code := method_2_code, exceptionTable := #[], attributes := #[] }
def k1m1 : Method := { name := "draw", desc := "(I)C", sig := { parameters := [.int], returnType := some .char }, accessFlags := 10, code := some k1c1 }
def k1c2 : Code := { maxStack := 2, maxLocals := 2, code := method_3_code, exceptionTable := #[], attributes := #[] }
def k1m2 : Method := { name := "firstSlash", desc := "([CI)I", sig := { parameters := [(.array .char), .int], returnType := some .int }, accessFlags := 10, code := some k1c2 }
def k1c3 : Code := { maxStack := 4, maxLocals := 4, code := method_4_code, exceptionTable := #[], attributes := #[] }
def k1m3 : Method := { name := "matches", desc := "(Ljava/lang/String;[CII)Z", sig := { parameters := [(.object "java/lang/String"), (.array .char), .int, .int], returnType := some .boolean }, accessFlags := 10, code := some k1c3 }
def k1c4 : Code := { maxStack := 5, maxLocals := 14, code := code, exceptionTable := #[], attributes := #[] }
def k1m4 : Method := { name := "law", desc := "(IIIII)Z", sig := { parameters := [.int, .int, .int, .int, .int], returnType := some .boolean }, accessFlags := 9, code := some k1c4 }
/-- com/example/grantwork/grantwork/resources/ResourceParsePinLaw -/
def k1 : Class := { plain "com/example/grantwork/grantwork/resources/ResourceParsePinLaw" (some 0) with
  accessFlags := 49
  interfaces := #[]
  cf := some (fileOf pool1 18 #[] #[{ accessFlags := 1, nameIndex := 5, descriptorIndex := 6, attributes := #[] }, { accessFlags := 10, nameIndex := 21, descriptorIndex := 16, attributes := #[] }, { accessFlags := 10, nameIndex := 27, descriptorIndex := 28, attributes := #[] }, { accessFlags := 10, nameIndex := 52, descriptorIndex := 53, attributes := #[] }, { accessFlags := 9, nameIndex := 60, descriptorIndex := 61, attributes := #[] }] 49 2 #[] #[])
  fields := #[]
  methods := #[k1m0, k1m1, k1m2, k1m3, k1m4]
  instanceTypes := #[]
  staticTypes := #[]
  resolved := Array.replicate 66 none
  statics := none }

def pool2 : Array CpInfo := pool [(1, .class_ 2), (0, u "java/io/Serializable"), (0, .class_ 4), (0, u "java/lang/Object")] 2

/-- java/io/Serializable -/
def k2 : Class := { plain "java/io/Serializable" (some 0) with
  accessFlags := 1537
  interfaces := #[]
  cf := some (fileOf pool2 1 #[] #[] 1537 3 #[] #[])
  fields := #[]
  methods := #[]
  instanceTypes := #[]
  staticTypes := #[]
  resolved := Array.replicate 7 none
  statics := none }

def pool3 : Array CpInfo := pool [(1, .class_ 2), (0, u "java/lang/Comparable"), (0, .class_ 4), (0, u "java/lang/Object")] 7

/-- java/lang/Comparable -/
def k3 : Class := { plain "java/lang/Comparable" (some 0) with
  accessFlags := 1537
  interfaces := #[]
  cf := some (fileOf pool3 1 #[] #[] 1537 3 #[] #[])
  fields := #[]
  methods := #[]
  instanceTypes := #[]
  staticTypes := #[]
  resolved := Array.replicate 12 none
  statics := none }

def pool4 : Array CpInfo := pool [(2, .class_ 4), (1, u "java/lang/CharSequence"), (42, .class_ 48), (0, u "java/lang/CharSequence$1CodePointIterator"), (10, .class_ 60), (0, u "java/lang/CharSequence$1CharIterator"), (5, .class_ 67), (0, u "java/lang/Object")] 63

/-- java/lang/CharSequence -/
def k4 : Class := { plain "java/lang/CharSequence" (some 0) with
  accessFlags := 1537
  interfaces := #[]
  cf := some (fileOf pool4 2 #[.nestMembers #[47, 59]] #[] 1537 66 #[] #[])
  fields := #[]
  methods := #[]
  instanceTypes := #[]
  staticTypes := #[]
  resolved := Array.replicate 131 none
  statics := none }

def pool5 : Array CpInfo := pool [(1, .class_ 2), (0, u "java/lang/constant/Constable"), (0, .class_ 4), (0, u "java/lang/Object")] 6

/-- java/lang/constant/Constable -/
def k5 : Class := { plain "java/lang/constant/Constable" (some 0) with
  accessFlags := 1537
  interfaces := #[]
  cf := some (fileOf pool5 1 #[] #[] 1537 3 #[] #[])
  fields := #[]
  methods := #[]
  instanceTypes := #[]
  staticTypes := #[]
  resolved := Array.replicate 11 none
  statics := none }

def pool6 : Array CpInfo := pool [(1, .class_ 2), (0, u "java/lang/constant/ConstantDesc"), (0, .class_ 4), (0, u "java/lang/Object")] 32

/-- java/lang/constant/ConstantDesc -/
def k6 : Class := { plain "java/lang/constant/ConstantDesc" (some 0) with
  accessFlags := 1537
  interfaces := #[]
  cf := some (fileOf pool6 1 #[] #[] 1537 3 #[] #[])
  fields := #[]
  methods := #[]
  instanceTypes := #[]
  staticTypes := #[]
  resolved := Array.replicate 37 none
  statics := none }

def pool7 : Array CpInfo := pool [(1, .methodref 2 3), (0, .class_ 4), (0, .nameAndType 5 6), (0, u "java/lang/Object"), (0, u "<init>"), (0, u "()V"), (2, .fieldref 10 11), (0, .class_ 12), (0, .nameAndType 13 14), (0, u "java/lang/String"), (0, u "value"), (0, u "[B"), (0, .fieldref 10 16), (0, .nameAndType 17 18), (0, u "coder"), (0, u "B"), (2, u "hash"), (0, u "I"), (2, u "hashIsZero"), (0, u "Z"), (0, .methodref 10 28), (0, .nameAndType 5 29), (0, u "([CIILjava/lang/Void;)V"), (8, .fieldref 10 39), (0, .nameAndType 40 26), (0, u "COMPACT_STRINGS"), (1, .class_ 44), (1, u "java/lang/StringUTF16"), (0, u "compress"), (1, .methodref 42 48), (0, .nameAndType 49 50), (0, u "coderFromArrayLen"), (0, u "([BI)B"), (56, .class_ 109), (1, u "java/lang/StringLatin1"), (32, u "()Z"), (34, .methodref 42 178), (0, .nameAndType 45 179), (0, u "([CII)[B"), (31, u "([BB)V"), (122, u "()I"), (0, .methodref 10 336), (0, .nameAndType 17 337), (0, u "()B"), (25, u "([BI)C"), (27, u "(II)V"), (35, u "(I)C"), (64, .methodref 10 493), (0, .nameAndType 494 142), (0, u "isLatin1"), (0, .methodref 107 496), (0, .nameAndType 497 363), (0, u "charAt"), (3, u "checkIndex"), (3, .methodref 10 506), (0, .nameAndType 507 334), (0, u "length"), (5, u "checkFromToIndex"), (7, .methodref 10 522), (0, .nameAndType 523 524), (0, u "checkBoundsBeginEnd"), (0, u "(III)V"), (16, .methodref 107 542), (0, .nameAndType 543 544), (0, u "equals"), (0, u "([B[B)Z"), (28, u "(Ljava/lang/Object;)Z"), (1, .class_ 576), (0, u "java/lang/CharSequence"), (22, u "CASE_INSENSITIVE_ORDER"), (0, u "Ljava/util/Comparator;"), (32, .methodref 10 634), (0, .nameAndType 635 636), (0, u "indexOf"), (0, u "(II)I"), (0, .methodref 107 638), (0, .nameAndType 635 639), (0, u "([BIII)I"), (41, .methodref 10 682), (0, .nameAndType 683 684), (0, u "substring"), (0, u "(II)Ljava/lang/String;"), (0, .methodref 107 686), (0, .nameAndType 687 688), (0, u "newString"), (0, u "([BII)Ljava/lang/String;"), (3, u "isEmpty"), (72, u "(I)I"), (126, u "(I)Ljava/lang/String;"), (117, u "([C)V"), (42, .fieldref 1054 1055), (0, .class_ 1056), (0, .nameAndType 1057 1058), (0, u "jdk/internal/util/Preconditions"), (0, u "SIOOBE_FORMATTER"), (0, u "Ljava/util/function/BiFunction;"), (0, .methodref 1054 1060), (0, .nameAndType 501 1061), (0, u "(IILjava/util/function/BiFunction;)I"), (0, .methodref 1054 1063), (0, .nameAndType 513 1064), (0, u "(IIILjava/util/function/BiFunction;)I"), (36, u "serialPersistentFields"), (0, u "[Ljava/io/ObjectStreamField;"), (0, .class_ 1104), (0, u "java/lang/String$CaseInsensitiveComparator"), (1, .class_ 1107), (0, u "java/io/Serializable"), (0, .class_ 1109), (0, u "java/lang/Comparable"), (0, .class_ 1111), (0, u "java/lang/constant/Constable"), (0, .class_ 1113), (0, u "java/lang/constant/ConstantDesc"), (2, u "serialVersionUID"), (0, u "J"), (3, u "REPL"), (0, u "C"), (2, u "LATIN1"), (1, u "UTF16")] 323

def k7m0 : Method := { name := "<init>", desc := "()V", sig := { parameters := [], returnType := none }, accessFlags := 1, code := none }
def k7c1 : Code := { maxStack := 5, maxLocals := 2, code := jdk_42_method_3_code, exceptionTable := #[], attributes := #[] }
def k7m1 : Method := { name := "<init>", desc := "([C)V", sig := { parameters := [(.array .char)], returnType := none }, accessFlags := 1, code := some k7c1 }
def k7c2 : Code := { maxStack := 2, maxLocals := 1, code := jdk_42_method_54_code, exceptionTable := #[], attributes := #[] }
def k7m2 : Method := { name := "length", desc := "()I", sig := { parameters := [], returnType := some .int }, accessFlags := 1, code := some k7c2 }
def k7c3 : Code := { maxStack := 1, maxLocals := 1, code := jdk_42_method_55_code, exceptionTable := #[], attributes := #[] }
def k7m3 : Method := { name := "isEmpty", desc := "()Z", sig := { parameters := [], returnType := some .boolean }, accessFlags := 1, code := some k7c3 }
def k7c4 : Code := { maxStack := 2, maxLocals := 2, code := jdk_42_method_56_code, exceptionTable := #[], attributes := #[] }
def k7m4 : Method := { name := "charAt", desc := "(I)C", sig := { parameters := [.int], returnType := some .char }, accessFlags := 1, code := some k7c4 }
def k7c5 : Code := { maxStack := 2, maxLocals := 3, code := jdk_42_method_66_code, exceptionTable := #[], attributes := #[] }
def k7m5 : Method := { name := "equals", desc := "(Ljava/lang/Object;)Z", sig := { parameters := [(.object "java/lang/Object")], returnType := some .boolean }, accessFlags := 1, code := some k7c5 }
def k7c6 : Code := { maxStack := 3, maxLocals := 2, code := jdk_42_method_79_code, exceptionTable := #[], attributes := #[] }
def k7m6 : Method := { name := "indexOf", desc := "(I)I", sig := { parameters := [.int], returnType := some .int }, accessFlags := 1, code := some k7c6 }
def k7c7 : Code := { maxStack := 4, maxLocals := 3, code := jdk_42_method_80_code, exceptionTable := #[], attributes := #[] }
def k7m7 : Method := { name := "indexOf", desc := "(II)I", sig := { parameters := [.int, .int], returnType := some .int }, accessFlags := 1, code := some k7c7 }
def k7c8 : Code := { maxStack := 3, maxLocals := 2, code := jdk_42_method_91_code, exceptionTable := #[], attributes := #[] }
def k7m8 : Method := { name := "substring", desc := "(I)Ljava/lang/String;", sig := { parameters := [.int], returnType := some (.object "java/lang/String") }, accessFlags := 1, code := some k7c8 }
def k7c9 : Code := { maxStack := 3, maxLocals := 5, code := jdk_42_method_92_code, exceptionTable := #[], attributes := #[] }
def k7m9 : Method := { name := "substring", desc := "(II)Ljava/lang/String;", sig := { parameters := [.int, .int], returnType := some (.object "java/lang/String") }, accessFlags := 1, code := some k7c9 }
def k7c10 : Code := { maxStack := 4, maxLocals := 6, code := jdk_42_method_149_code, exceptionTable := #[], attributes := #[] }
def k7m10 : Method := { name := "<init>", desc := "([CIILjava/lang/Void;)V", sig := { parameters := [(.array .char), .int, .int, (.object "java/lang/Void")], returnType := none }, accessFlags := 2, code := some k7c10 }
def k7c11 : Code := { maxStack := 2, maxLocals := 3, code := jdk_42_method_151_code, exceptionTable := #[], attributes := #[] }
def k7m11 : Method := { name := "<init>", desc := "([BB)V", sig := { parameters := [(.array .byte), .byte], returnType := none }, accessFlags := 0, code := some k7c11 }
def k7c12 : Code := { maxStack := 1, maxLocals := 1, code := jdk_42_method_152_code, exceptionTable := #[], attributes := #[] }
def k7m12 : Method := { name := "coder", desc := "()B", sig := { parameters := [], returnType := some .byte }, accessFlags := 0, code := some k7c12 }
def k7c13 : Code := { maxStack := 1, maxLocals := 1, code := jdk_42_method_154_code, exceptionTable := #[], attributes := #[] }
def k7m13 : Method := { name := "isLatin1", desc := "()Z", sig := { parameters := [], returnType := some .boolean }, accessFlags := 0, code := some k7c13 }
def k7c14 : Code := { maxStack := 3, maxLocals := 2, code := jdk_42_method_155_code, exceptionTable := #[], attributes := #[] }
def k7m14 : Method := { name := "checkIndex", desc := "(II)V", sig := { parameters := [.int, .int], returnType := none }, accessFlags := 8, code := some k7c14 }
def k7c15 : Code := { maxStack := 4, maxLocals := 3, code := jdk_42_method_158_code, exceptionTable := #[], attributes := #[] }
def k7m15 : Method := { name := "checkBoundsBeginEnd", desc := "(III)V", sig := { parameters := [.int, .int, .int], returnType := none }, accessFlags := 8, code := some k7c15 }
/-- java/lang/String -/
def k7 : Class := { plain "java/lang/String" (some 0) with
  accessFlags := 49
  interfaces := #[2, 3, 4, 5, 6]
  cf := some (fileOf pool7 10 #[.nestMembers #[1103]] #[{ accessFlags := 1, nameIndex := 5, descriptorIndex := 6, attributes := #[] }, { accessFlags := 1, nameIndex := 5, descriptorIndex := 1010, attributes := #[] }, { accessFlags := 1, nameIndex := 507, descriptorIndex := 334, attributes := #[] }, { accessFlags := 1, nameIndex := 692, descriptorIndex := 142, attributes := #[] }, { accessFlags := 1, nameIndex := 497, descriptorIndex := 427, attributes := #[] }, { accessFlags := 1, nameIndex := 543, descriptorIndex := 573, attributes := #[] }, { accessFlags := 1, nameIndex := 635, descriptorIndex := 765, attributes := #[] }, { accessFlags := 1, nameIndex := 635, descriptorIndex := 636, attributes := #[] }, { accessFlags := 1, nameIndex := 683, descriptorIndex := 892, attributes := #[] }, { accessFlags := 1, nameIndex := 683, descriptorIndex := 684, attributes := #[] }, { accessFlags := 2, nameIndex := 5, descriptorIndex := 29, attributes := #[] }, { accessFlags := 0, nameIndex := 5, descriptorIndex := 211, attributes := #[] }, { accessFlags := 0, nameIndex := 17, descriptorIndex := 337, attributes := #[] }, { accessFlags := 0, nameIndex := 494, descriptorIndex := 142, attributes := #[] }, { accessFlags := 8, nameIndex := 501, descriptorIndex := 391, attributes := #[] }, { accessFlags := 8, nameIndex := 523, descriptorIndex := 524, attributes := #[] }] 49 2 #[1106, 1108, 575, 1110, 1112] #[{ accessFlags := 18, nameIndex := 13, descriptorIndex := 14, attributes := #[] }, { accessFlags := 18, nameIndex := 17, descriptorIndex := 18, attributes := #[] }, { accessFlags := 2, nameIndex := 21, descriptorIndex := 22, attributes := #[] }, { accessFlags := 2, nameIndex := 25, descriptorIndex := 26, attributes := #[] }, { accessFlags := 26, nameIndex := 1116, descriptorIndex := 1117, attributes := #[] }, { accessFlags := 24, nameIndex := 40, descriptorIndex := 26, attributes := #[] }, { accessFlags := 26, nameIndex := 1101, descriptorIndex := 1102, attributes := #[] }, { accessFlags := 26, nameIndex := 1121, descriptorIndex := 1122, attributes := #[] }, { accessFlags := 25, nameIndex := 599, descriptorIndex := 600, attributes := #[] }, { accessFlags := 24, nameIndex := 1125, descriptorIndex := 18, attributes := #[] }, { accessFlags := 24, nameIndex := 1127, descriptorIndex := 18, attributes := #[] }])
  fields := #[{ name := "value", type := (.array .byte), accessFlags := 18, slot := 0, constantValue := 0 }, { name := "coder", type := .byte, accessFlags := 18, slot := 1, constantValue := 0 }, { name := "hash", type := .int, accessFlags := 2, slot := 2, constantValue := 0 }, { name := "hashIsZero", type := .boolean, accessFlags := 2, slot := 3, constantValue := 0 }, { name := "serialVersionUID", type := .long, accessFlags := 26, slot := 0, constantValue := 0 }, { name := "COMPACT_STRINGS", type := .boolean, accessFlags := 24, slot := 1, constantValue := 0 }, { name := "serialPersistentFields", type := (.array (.object "java/io/ObjectStreamField")), accessFlags := 26, slot := 2, constantValue := 0 }, { name := "REPL", type := .char, accessFlags := 26, slot := 3, constantValue := 0 }, { name := "CASE_INSENSITIVE_ORDER", type := (.object "java/util/Comparator"), accessFlags := 25, slot := 4, constantValue := 0 }, { name := "LATIN1", type := .byte, accessFlags := 24, slot := 5, constantValue := 0 }, { name := "UTF16", type := .byte, accessFlags := 24, slot := 6, constantValue := 0 }]
  methods := #[k7m0, k7m1, k7m2, k7m3, k7m4, k7m5, k7m6, k7m7, k7m8, k7m9, k7m10, k7m11, k7m12, k7m13, k7m14, k7m15]
  instanceTypes := #[(.array .byte), .byte, .int, .boolean]
  staticTypes := #[.long, .boolean, (.array (.object "java/io/ObjectStreamField")), .char, (.object "java/util/Comparator"), .byte, .byte]
  resolved := Array.replicate 1451 none
  statics := some 0 }

def pool8 : Array CpInfo := pool [(6, .class_ 8), (1, u "java/lang/Object"), (0, u "<init>"), (0, u "()V"), (1, .class_ 14), (1, u "java/lang/StringUTF16"), (31, u "$assertionsDisabled"), (0, u "Z"), (13, u "HI_BYTE_SHIFT"), (0, u "I"), (2, u "LO_BYTE_SHIFT"), (49, .methodref 12 116), (0, .nameAndType 117 118), (0, u "compress"), (0, u "([CI[BII)I"), (3, u "([CII)[B"), (138, u "coderFromArrayLen"), (0, u "([BI)B"), (106, .class_ 371), (1, u "java/lang/StringUTF16$LinesSpliterator"), (58, u "MAX_LENGTH"), (196, .class_ 628), (0, u "java/lang/StringUTF16$CodePointsSpliterator"), (0, .class_ 630), (0, u "java/lang/StringUTF16$CharsSpliterator")] 4

def k8m0 : Method := { name := "<init>", desc := "()V", sig := { parameters := [], returnType := none }, accessFlags := 0, code := none }
def k8c1 : Code := { maxStack := 2, maxLocals := 2, code := jdk_52_method_15_code, exceptionTable := #[], attributes := #[] }
def k8m1 : Method := { name := "coderFromArrayLen", desc := "([BI)B", sig := { parameters := [(.array .byte), .int], returnType := some .byte }, accessFlags := 8, code := some k8c1 }
def k8c2 : Code := { maxStack := 5, maxLocals := 6, code := jdk_52_method_16_code, exceptionTable := #[], attributes := #[] }
def k8m2 : Method := { name := "compress", desc := "([CII)[B", sig := { parameters := [(.array .char), .int, .int], returnType := some (.array .byte) }, accessFlags := 9, code := some k8c2 }
def k8c3 : Code := { maxStack := 3, maxLocals := 7, code := jdk_52_method_21_code, exceptionTable := #[], attributes := #[] }
def k8m3 : Method := { name := "compress", desc := "([CI[BII)I", sig := { parameters := [(.array .char), .int, (.array .byte), .int, .int], returnType := some .int }, accessFlags := 9, code := some k8c3 }
/-- java/lang/StringUTF16 -/
def k8 : Class := { plain "java/lang/StringUTF16" (some 0) with
  accessFlags := 48
  interfaces := #[]
  cf := some (fileOf pool8 12 #[.nestMembers #[627, 629, 369]] #[{ accessFlags := 0, nameIndex := 9, descriptorIndex := 10, attributes := #[] }, { accessFlags := 8, nameIndex := 261, descriptorIndex := 262, attributes := #[] }, { accessFlags := 9, nameIndex := 117, descriptorIndex := 122, attributes := #[] }, { accessFlags := 9, nameIndex := 117, descriptorIndex := 118, attributes := #[] }] 48 6 #[] #[{ accessFlags := 26, nameIndex := 61, descriptorIndex := 62, attributes := #[] }, { accessFlags := 26, nameIndex := 65, descriptorIndex := 62, attributes := #[] }, { accessFlags := 24, nameIndex := 430, descriptorIndex := 62, attributes := #[] }, { accessFlags := 4120, nameIndex := 46, descriptorIndex := 47, attributes := #[] }])
  fields := #[{ name := "HI_BYTE_SHIFT", type := .int, accessFlags := 26, slot := 0, constantValue := 0 }, { name := "LO_BYTE_SHIFT", type := .int, accessFlags := 26, slot := 1, constantValue := 0 }, { name := "MAX_LENGTH", type := .int, accessFlags := 24, slot := 2, constantValue := 0 }, { name := "$assertionsDisabled", type := .boolean, accessFlags := 4120, slot := 3, constantValue := 0 }]
  methods := #[k8m0, k8m1, k8m2, k8m3]
  instanceTypes := #[]
  staticTypes := #[.int, .int, .int, .boolean]
  resolved := Array.replicate 635 none
  statics := none }

def pool9 : Array CpInfo := pool [(1, .methodref 2 3), (0, .class_ 4), (0, .nameAndType 5 6), (0, u "java/lang/Object"), (0, u "<init>"), (0, u "()V"), (0, .fieldref 8 9), (0, .class_ 10), (0, .nameAndType 11 12), (0, u "com/example/grantwork/grantwork/resources/Resource"), (0, u "mName"), (0, u "Ljava/lang/String;"), (0, .fieldref 8 14), (0, .nameAndType 15 12), (0, u "mType"), (0, .string 17), (0, u "resource"), (0, .methodref 19 20), (0, .class_ 21), (0, .nameAndType 22 23), (0, u "java/util/Objects"), (0, u "requireNonNull"), (0, u "(Ljava/lang/Object;Ljava/lang/String;)Ljava/lang/Object;"), (0, .methodref 25 26), (0, .class_ 27), (0, .nameAndType 28 29), (0, u "java/lang/String"), (0, u "isEmpty"), (0, u "()Z"), (7, .methodref 25 38), (0, .nameAndType 39 40), (0, u "indexOf"), (0, u "(I)I"), (0, .methodref 25 42), (0, .nameAndType 43 44), (0, u "substring"), (0, u "(II)Ljava/lang/String;"), (0, .methodref 8 46), (0, .nameAndType 47 48), (0, u "isType"), (0, u "(Ljava/lang/String;)Z"), (4, .methodref 25 54), (0, .nameAndType 55 56), (0, u "length"), (0, u "()I"), (1, .methodref 8 59), (0, .nameAndType 5 60), (0, u "(Ljava/lang/String;Ljava/lang/String;)V"), (4, u "id"), (6, u "type"), (1, .string 75), (0, u "*"), (0, .methodref 25 77), (0, .nameAndType 78 79), (0, u "equals"), (0, u "(Ljava/lang/Object;)Z"), (0, .methodref 8 81), (0, .nameAndType 82 29), (0, u "isRecord"), (0, .methodref 25 84), (0, .nameAndType 43 85), (0, u "(I)Ljava/lang/String;"), (0, u "EVERY"), (3, u "parse"), (0, u "(Ljava/lang/String;)Lcom/example/grantwork/grantwork/resources/Resource;"), (3, u "name"), (0, u "()Ljava/lang/String;")] 23

def k9c0 : Code := { maxStack := 2, maxLocals := 3, code := prog_21_method_1_code, exceptionTable := #[], attributes := #[] }
def k9m0 : Method := { name := "<init>", desc := "(Ljava/lang/String;Ljava/lang/String;)V", sig := { parameters := [(.object "java/lang/String"), (.object "java/lang/String")], returnType := none }, accessFlags := 2, code := some k9c0 }
def k9c1 : Code := { maxStack := 4, maxLocals := 3, code := prog_21_method_2_code, exceptionTable := #[], attributes := #[] }
def k9m1 : Method := { name := "parse", desc := "(Ljava/lang/String;)Lcom/example/grantwork/grantwork/resources/Resource;", sig := { parameters := [(.object "java/lang/String")], returnType := some (.object "com/example/grantwork/grantwork/resources/Resource") }, accessFlags := 9, code := some k9c1 }
def k9c2 : Code := { maxStack := 2, maxLocals := 1, code := prog_21_method_6_code, exceptionTable := #[], attributes := #[] }
def k9m2 : Method := { name := "isType", desc := "(Ljava/lang/String;)Z", sig := { parameters := [(.object "java/lang/String")], returnType := some .boolean }, accessFlags := 10, code := some k9c2 }
def k9c3 : Code := { maxStack := 1, maxLocals := 1, code := prog_21_method_7_code, exceptionTable := #[], attributes := #[] }
def k9m3 : Method := { name := "name", desc := "()Ljava/lang/String;", sig := { parameters := [], returnType := some (.object "java/lang/String") }, accessFlags := 1, code := some k9c3 }
def k9c4 : Code := { maxStack := 1, maxLocals := 1, code := prog_21_method_8_code, exceptionTable := #[], attributes := #[] }
def k9m4 : Method := { name := "type", desc := "()Ljava/lang/String;", sig := { parameters := [], returnType := some (.object "java/lang/String") }, accessFlags := 1, code := some k9c4 }
def k9c5 : Code := { maxStack := 3, maxLocals := 1, code := prog_21_method_9_code, exceptionTable := #[], attributes := #[] }
def k9m5 : Method := { name := "id", desc := "()Ljava/lang/String;", sig := { parameters := [], returnType := some (.object "java/lang/String") }, accessFlags := 1, code := some k9c5 }
def k9c6 : Code := { maxStack := 2, maxLocals := 1, code := prog_21_method_10_code, exceptionTable := #[], attributes := #[] }
def k9m6 : Method := { name := "isRecord", desc := "()Z", sig := { parameters := [], returnType := some .boolean }, accessFlags := 1, code := some k9c6 }
/-- com/example/grantwork/grantwork/resources/Resource -/
def k9 : Class := { plain "com/example/grantwork/grantwork/resources/Resource" (some 0) with
  accessFlags := 49
  interfaces := #[]
  cf := some (fileOf pool9 8 #[] #[{ accessFlags := 2, nameIndex := 5, descriptorIndex := 60, attributes := #[] }, { accessFlags := 9, nameIndex := 90, descriptorIndex := 91, attributes := #[] }, { accessFlags := 10, nameIndex := 47, descriptorIndex := 48, attributes := #[] }, { accessFlags := 1, nameIndex := 95, descriptorIndex := 96, attributes := #[] }, { accessFlags := 1, nameIndex := 72, descriptorIndex := 96, attributes := #[] }, { accessFlags := 1, nameIndex := 65, descriptorIndex := 96, attributes := #[] }, { accessFlags := 1, nameIndex := 82, descriptorIndex := 29, attributes := #[] }] 49 2 #[] #[{ accessFlags := 25, nameIndex := 86, descriptorIndex := 12, attributes := #[] }, { accessFlags := 18, nameIndex := 11, descriptorIndex := 12, attributes := #[] }, { accessFlags := 18, nameIndex := 15, descriptorIndex := 12, attributes := #[] }])
  fields := #[{ name := "EVERY", type := (.object "java/lang/String"), accessFlags := 25, slot := 0, constantValue := 0 }, { name := "mName", type := (.object "java/lang/String"), accessFlags := 18, slot := 0, constantValue := 0 }, { name := "mType", type := (.object "java/lang/String"), accessFlags := 18, slot := 1, constantValue := 0 }]
  methods := #[k9m0, k9m1, k9m2, k9m3, k9m4, k9m5, k9m6]
  instanceTypes := #[(.object "java/lang/String"), (.object "java/lang/String")]
  staticTypes := #[(.object "java/lang/String")]
  resolved := Array.replicate 120 none
  statics := none }

def pool10 : Array CpInfo := pool [(2, .class_ 4), (1, u "java/lang/Object"), (0, u "<init>"), (0, u "()V"), (35, .class_ 44), (1, u "java/util/Objects"), (0, u "requireNonNull"), (48, u "(Ljava/lang/Object;Ljava/lang/String;)Ljava/lang/Object;")] 89

def k10m0 : Method := { name := "<init>", desc := "()V", sig := { parameters := [], returnType := none }, accessFlags := 2, code := none }
def k10c1 : Code := { maxStack := 3, maxLocals := 2, code := jdk_31_method_11_code, exceptionTable := #[], attributes := #[] }
def k10m1 : Method := { name := "requireNonNull", desc := "(Ljava/lang/Object;Ljava/lang/String;)Ljava/lang/Object;", sig := { parameters := [(.object "java/lang/Object"), (.object "java/lang/String")], returnType := some (.object "java/lang/Object") }, accessFlags := 9, code := some k10c1 }
/-- java/util/Objects -/
def k10 : Class := { plain "java/util/Objects" (some 0) with
  accessFlags := 49
  interfaces := #[]
  cf := some (fileOf pool10 42 #[] #[{ accessFlags := 2, nameIndex := 5, descriptorIndex := 6, attributes := #[] }, { accessFlags := 9, nameIndex := 45, descriptorIndex := 94, attributes := #[] }] 49 2 #[] #[])
  fields := #[]
  methods := #[k10m0, k10m1]
  instanceTypes := #[]
  staticTypes := #[]
  resolved := Array.replicate 184 none
  statics := none }

def pool11 : Array CpInfo := pool [(1, .class_ 2), (0, u "java/lang/String"), (1, .class_ 6), (1, u "java/lang/Object"), (0, u "<init>"), (0, u "()V"), (0, .methodref 1 10), (0, .nameAndType 11 12), (0, u "checkIndex"), (0, u "(II)V"), (1, .class_ 16), (1, u "java/lang/StringLatin1"), (21, .methodref 39 40), (0, .class_ 41), (0, .nameAndType 42 43), (0, u "java/lang/Math"), (0, u "min"), (0, u "(II)I"), (9, u "([BI)C"), (34, .methodref 14 89), (0, .nameAndType 90 91), (0, u "canEncode"), (0, u "(I)Z"), (0, .methodref 39 93), (0, .nameAndType 94 43), (0, u "max"), (0, .methodref 14 96), (0, .nameAndType 97 98), (0, u "indexOfChar"), (0, u "([BIII)I"), (2, u "indexOf"), (10, .methodref 1 113), (0, .nameAndType 7 114), (0, u "([BB)V"), (6, u "$assertionsDisabled"), (0, u "Z"), (8, .class_ 133), (1, u "java/util/Arrays"), (62, u "newString"), (0, u "([BII)Ljava/lang/String;"), (23, .class_ 223), (1, u "java/lang/StringLatin1$LinesSpliterator"), (8, .methodref 131 233), (0, .nameAndType 234 235), (0, u "copyOfRange"), (0, u "([BII)[B"), (16, u "charAt"), (28, u "equals"), (0, u "([B[B)Z"), (107, .class_ 391), (0, u "java/lang/StringLatin1$CharsSpliterator")] 3

def k11m0 : Method := { name := "<init>", desc := "()V", sig := { parameters := [], returnType := none }, accessFlags := 0, code := none }
def k11c1 : Code := { maxStack := 2, maxLocals := 2, code := jdk_43_method_2_code, exceptionTable := #[], attributes := #[] }
def k11m1 : Method := { name := "charAt", desc := "([BI)C", sig := { parameters := [(.array .byte), .int], returnType := some .char }, accessFlags := 9, code := some k11c1 }
def k11c2 : Code := { maxStack := 2, maxLocals := 1, code := jdk_43_method_4_code, exceptionTable := #[], attributes := #[] }
def k11m2 : Method := { name := "canEncode", desc := "(I)Z", sig := { parameters := [.int], returnType := some .boolean }, accessFlags := 9, code := some k11c2 }
def k11c3 : Code := { maxStack := 3, maxLocals := 3, code := jdk_43_method_13_code, exceptionTable := #[], attributes := #[] }
def k11m3 : Method := { name := "equals", desc := "([B[B)Z", sig := { parameters := [(.array .byte), (.array .byte)], returnType := some .boolean }, accessFlags := 9, code := some k11c3 }
def k11c4 : Code := { maxStack := 4, maxLocals := 4, code := jdk_43_method_22_code, exceptionTable := #[], attributes := #[] }
def k11m4 : Method := { name := "indexOf", desc := "([BIII)I", sig := { parameters := [(.array .byte), .int, .int, .int], returnType := some .int }, accessFlags := 9, code := some k11c4 }
def k11c5 : Code := { maxStack := 2, maxLocals := 6, code := jdk_43_method_23_code, exceptionTable := #[], attributes := #[] }
def k11m5 : Method := { name := "indexOfChar", desc := "([BIII)I", sig := { parameters := [(.array .byte), .int, .int, .int], returnType := some .int }, accessFlags := 10, code := some k11c5 }
def k11c6 : Code := { maxStack := 6, maxLocals := 3, code := jdk_43_method_47_code, exceptionTable := #[], attributes := #[] }
def k11m6 : Method := { name := "newString", desc := "([BII)Ljava/lang/String;", sig := { parameters := [(.array .byte), .int, .int], returnType := some (.object "java/lang/String") }, accessFlags := 9, code := some k11c6 }
/-- java/lang/StringLatin1 -/
def k11 : Class := { plain "java/lang/StringLatin1" (some 0) with
  accessFlags := 48
  interfaces := #[]
  cf := some (fileOf pool11 14 #[.nestMembers #[390, 221]] #[{ accessFlags := 0, nameIndex := 7, descriptorIndex := 8, attributes := #[] }, { accessFlags := 9, nameIndex := 252, descriptorIndex := 53, attributes := #[] }, { accessFlags := 9, nameIndex := 90, descriptorIndex := 91, attributes := #[] }, { accessFlags := 9, nameIndex := 281, descriptorIndex := 282, attributes := #[] }, { accessFlags := 9, nameIndex := 101, descriptorIndex := 98, attributes := #[] }, { accessFlags := 10, nameIndex := 97, descriptorIndex := 98, attributes := #[] }, { accessFlags := 9, nameIndex := 196, descriptorIndex := 197, attributes := #[] }] 48 4 #[] #[{ accessFlags := 4120, nameIndex := 121, descriptorIndex := 122, attributes := #[] }])
  fields := #[{ name := "$assertionsDisabled", type := .boolean, accessFlags := 4120, slot := 0, constantValue := 0 }]
  methods := #[k11m0, k11m1, k11m2, k11m3, k11m4, k11m5, k11m6]
  instanceTypes := #[]
  staticTypes := #[.boolean]
  resolved := Array.replicate 395 none
  statics := none }

def pool12 : Array CpInfo := pool [(1, .class_ 2), (0, u "java/lang/Math"), (1, .class_ 6), (1, u "java/lang/Object"), (0, u "<init>"), (0, u "()V"), (89, .class_ 100), (1, u "java/lang/Math$RandomNumberGeneratorHolder"), (71, u "negativeZeroFloatBits"), (0, u "J"), (2, u "negativeZeroDoubleBits"), (21, u "max"), (2, u "min"), (43, u "$assertionsDisabled"), (0, u "Z"), (88, u "(II)I"), (2, u "twoToTheDoubleScaleDown"), (0, u "D"), (4, u "twoToTheDoubleScaleUp"), (9, u "E"), (3, u "PI"), (2, u "TAU"), (2, u "DEGREES_TO_RADIANS"), (0, u "RADIANS_TO_DEGREES")] 94

def k12m0 : Method := { name := "<init>", desc := "()V", sig := { parameters := [], returnType := none }, accessFlags := 2, code := none }
def k12c1 : Code := { maxStack := 2, maxLocals := 2, code := jdk_29_method_65_code, exceptionTable := #[], attributes := #[] }
def k12m1 : Method := { name := "max", desc := "(II)I", sig := { parameters := [.int, .int], returnType := some .int }, accessFlags := 9, code := some k12c1 }
def k12c2 : Code := { maxStack := 2, maxLocals := 2, code := jdk_29_method_69_code, exceptionTable := #[], attributes := #[] }
def k12m2 : Method := { name := "min", desc := "(II)I", sig := { parameters := [.int, .int], returnType := some .int }, accessFlags := 9, code := some k12c2 }
/-- java/lang/Math -/
def k12 : Class := { plain "java/lang/Math" (some 0) with
  accessFlags := 49
  interfaces := #[]
  cf := some (fileOf pool12 1 #[.nestMembers #[98]] #[{ accessFlags := 2, nameIndex := 7, descriptorIndex := 8, attributes := #[] }, { accessFlags := 9, nameIndex := 198, descriptorIndex := 335, attributes := #[] }, { accessFlags := 9, nameIndex := 201, descriptorIndex := 335, attributes := #[] }] 49 4 #[] #[{ accessFlags := 25, nameIndex := 354, descriptorIndex := 339, attributes := #[] }, { accessFlags := 25, nameIndex := 358, descriptorIndex := 339, attributes := #[] }, { accessFlags := 25, nameIndex := 361, descriptorIndex := 339, attributes := #[] }, { accessFlags := 26, nameIndex := 364, descriptorIndex := 339, attributes := #[] }, { accessFlags := 26, nameIndex := 365, descriptorIndex := 339, attributes := #[] }, { accessFlags := 26, nameIndex := 172, descriptorIndex := 173, attributes := #[] }, { accessFlags := 26, nameIndex := 176, descriptorIndex := 173, attributes := #[] }, { accessFlags := 8, nameIndex := 344, descriptorIndex := 339, attributes := #[] }, { accessFlags := 8, nameIndex := 338, descriptorIndex := 339, attributes := #[] }, { accessFlags := 4120, nameIndex := 245, descriptorIndex := 246, attributes := #[] }])
  fields := #[{ name := "E", type := .double, accessFlags := 25, slot := 0, constantValue := 0 }, { name := "PI", type := .double, accessFlags := 25, slot := 1, constantValue := 0 }, { name := "TAU", type := .double, accessFlags := 25, slot := 2, constantValue := 0 }, { name := "DEGREES_TO_RADIANS", type := .double, accessFlags := 26, slot := 3, constantValue := 0 }, { name := "RADIANS_TO_DEGREES", type := .double, accessFlags := 26, slot := 4, constantValue := 0 }, { name := "negativeZeroFloatBits", type := .long, accessFlags := 26, slot := 5, constantValue := 0 }, { name := "negativeZeroDoubleBits", type := .long, accessFlags := 26, slot := 6, constantValue := 0 }, { name := "twoToTheDoubleScaleUp", type := .double, accessFlags := 8, slot := 7, constantValue := 0 }, { name := "twoToTheDoubleScaleDown", type := .double, accessFlags := 8, slot := 8, constantValue := 0 }, { name := "$assertionsDisabled", type := .boolean, accessFlags := 4120, slot := 9, constantValue := 0 }]
  methods := #[k12m0, k12m1, k12m2]
  instanceTypes := #[]
  staticTypes := #[.double, .double, .double, .double, .double, .long, .long, .double, .double, .boolean]
  resolved := Array.replicate 460 none
  statics := none }

def pool13 : Array CpInfo := pool [(2, .class_ 4), (1, u "java/lang/Object"), (0, u "<init>"), (0, u "()V"), (17, .class_ 26), (1, u "jdk/internal/util/Preconditions"), (6, u "checkIndex"), (13, u "checkFromToIndex"), (7, .class_ 56), (0, u "jdk/internal/util/Preconditions$4"), (57, .class_ 115), (0, u "jdk/internal/util/Preconditions$1"), (7, u "SIOOBE_FORMATTER"), (0, u "Ljava/util/function/BiFunction;"), (0, .class_ 126), (0, u "jdk/internal/util/Preconditions$2"), (3, u "AIOOBE_FORMATTER"), (0, .class_ 132), (0, u "jdk/internal/util/Preconditions$3"), (3, u "IOOBE_FORMATTER"), (41, u "(IILjava/util/function/BiFunction;)I"), (4, u "(IIILjava/util/function/BiFunction;)I")] 10

def k13m0 : Method := { name := "<init>", desc := "()V", sig := { parameters := [], returnType := none }, accessFlags := 1, code := none }
def k13c1 : Code := { maxStack := 3, maxLocals := 3, code := jdk_41_method_11_code, exceptionTable := #[], attributes := #[] }
def k13m1 : Method := { name := "checkIndex", desc := "(IILjava/util/function/BiFunction;)I", sig := { parameters := [.int, .int, (.object "java/util/function/BiFunction")], returnType := some .int }, accessFlags := 9, code := some k13c1 }
def k13c2 : Code := { maxStack := 4, maxLocals := 4, code := jdk_41_method_12_code, exceptionTable := #[], attributes := #[] }
def k13m2 : Method := { name := "checkFromToIndex", desc := "(IIILjava/util/function/BiFunction;)I", sig := { parameters := [.int, .int, .int, (.object "java/util/function/BiFunction")], returnType := some .int }, accessFlags := 9, code := some k13c2 }
/-- jdk/internal/util/Preconditions -/
def k13 : Class := { plain "jdk/internal/util/Preconditions" (some 0) with
  accessFlags := 33
  interfaces := #[]
  cf := some (fileOf pool13 24 #[.nestMembers #[55, 131, 125, 114]] #[{ accessFlags := 1, nameIndex := 5, descriptorIndex := 6, attributes := #[] }, { accessFlags := 9, nameIndex := 33, descriptorIndex := 178, attributes := #[] }, { accessFlags := 9, nameIndex := 47, descriptorIndex := 183, attributes := #[] }] 33 2 #[] #[{ accessFlags := 25, nameIndex := 123, descriptorIndex := 124, attributes := #[] }, { accessFlags := 25, nameIndex := 130, descriptorIndex := 124, attributes := #[] }, { accessFlags := 25, nameIndex := 136, descriptorIndex := 124, attributes := #[] }])
  fields := #[{ name := "SIOOBE_FORMATTER", type := (.object "java/util/function/BiFunction"), accessFlags := 25, slot := 0, constantValue := 0 }, { name := "AIOOBE_FORMATTER", type := (.object "java/util/function/BiFunction"), accessFlags := 25, slot := 1, constantValue := 0 }, { name := "IOOBE_FORMATTER", type := (.object "java/util/function/BiFunction"), accessFlags := 25, slot := 2, constantValue := 0 }]
  methods := #[k13m0, k13m1, k13m2]
  instanceTypes := #[]
  staticTypes := #[(.object "java/util/function/BiFunction"), (.object "java/util/function/BiFunction"), (.object "java/util/function/BiFunction")]
  resolved := Array.replicate 194 none
  statics := some 1 }

def pool14 : Array CpInfo := pool [(2, .class_ 4), (1, u "java/lang/Object"), (0, u "<init>"), (0, u "()V"), (7, .class_ 16), (1, u "java/util/Arrays"), (57, .class_ 76), (1, u "java/util/Arrays$NaturalOrder"), (36, .class_ 115), (1, u "java/util/Arrays$LegacyMergeSort"), (1, u "Z"), (21, u "copyOfRange"), (10, .methodref 151 152), (0, .class_ 153), (0, .nameAndType 154 155), (0, u "java/lang/System"), (0, u "arraycopy"), (0, u "(Ljava/lang/Object;ILjava/lang/Object;II)V"), (148, .methodref 305 306), (0, .class_ 307), (0, .nameAndType 308 309), (0, u "java/lang/Math"), (0, u "min"), (0, u "(II)I"), (29, .methodref 14 340), (0, .nameAndType 341 342), (0, u "copyOfRangeByte"), (0, u "([BII)[B"), (0, .methodref 14 344), (0, .nameAndType 345 346), (0, u "checkLength"), (0, u "(II)V"), (28, .class_ 376), (0, u "java/util/Arrays$ArrayList"), (68, u "$assertionsDisabled"), (269, u "MIN_ARRAY_SORT_GRAN"), (0, u "I"), (2, u "INSERTIONSORT_THRESHOLD"), (255, .class_ 976), (0, u "java/util/Arrays$ArrayItr")] 52

def k14m0 : Method := { name := "<init>", desc := "()V", sig := { parameters := [], returnType := none }, accessFlags := 2, code := none }
def k14c1 : Code := { maxStack := 4, maxLocals := 2, code := jdk_65_method_131_code, exceptionTable := #[], attributes := #[] }
def k14m1 : Method := { name := "checkLength", desc := "(II)V", sig := { parameters := [.int, .int], returnType := none }, accessFlags := 10, code := some k14c1 }
def k14c2 : Code := { maxStack := 3, maxLocals := 3, code := jdk_65_method_132_code, exceptionTable := #[], attributes := #[] }
def k14m2 : Method := { name := "copyOfRange", desc := "([BII)[B", sig := { parameters := [(.array .byte), .int, .int], returnType := some (.array .byte) }, accessFlags := 9, code := some k14c2 }
def k14c3 : Code := { maxStack := 6, maxLocals := 5, code := jdk_65_method_133_code, exceptionTable := #[], attributes := #[] }
def k14m3 : Method := { name := "copyOfRangeByte", desc := "([BII)[B", sig := { parameters := [(.array .byte), .int, .int], returnType := some (.array .byte) }, accessFlags := 10, code := some k14c3 }
/-- java/util/Arrays -/
def k14 : Class := { plain "java/util/Arrays" (some 0) with
  accessFlags := 49
  interfaces := #[]
  cf := some (fileOf pool14 14 #[.nestMembers #[975, 375, 113, 74]] #[{ accessFlags := 2, nameIndex := 5, descriptorIndex := 6, attributes := #[] }, { accessFlags := 10, nameIndex := 345, descriptorIndex := 346, attributes := #[] }, { accessFlags := 9, nameIndex := 139, descriptorIndex := 342, attributes := #[] }, { accessFlags := 10, nameIndex := 341, descriptorIndex := 342, attributes := #[] }] 49 2 #[] #[{ accessFlags := 26, nameIndex := 715, descriptorIndex := 716, attributes := #[] }, { accessFlags := 26, nameIndex := 719, descriptorIndex := 716, attributes := #[] }, { accessFlags := 4120, nameIndex := 445, descriptorIndex := 117, attributes := #[] }])
  fields := #[{ name := "MIN_ARRAY_SORT_GRAN", type := .int, accessFlags := 26, slot := 0, constantValue := 0 }, { name := "INSERTIONSORT_THRESHOLD", type := .int, accessFlags := 26, slot := 1, constantValue := 0 }, { name := "$assertionsDisabled", type := .boolean, accessFlags := 4120, slot := 2, constantValue := 0 }]
  methods := #[k14m0, k14m1, k14m2, k14m3]
  instanceTypes := #[]
  staticTypes := #[.int, .int, .boolean]
  resolved := Array.replicate 1029 none
  statics := none }

def pool15 : Array CpInfo := pool [(2, .class_ 4), (1, u "java/lang/Object"), (0, u "<init>"), (0, u "()V"), (1, .class_ 10), (1, u "java/lang/System"), (0, u "allowSecurityManager"), (0, u "I"), (16, u "cons"), (0, u "Ljava/io/Console;"), (77, .class_ 110), (1, u "java/lang/System$CallersHolder"), (43, u "initialErrStream"), (0, u "Ljava/io/PrintStream;"), (19, u "security"), (0, u "Ljava/lang/SecurityManager;"), (31, .class_ 209), (0, u "java/lang/System$1"), (7, u "props"), (0, u "Ljava/util/Properties;"), (2, u "lineSeparator"), (0, u "Ljava/lang/String;"), (96, .class_ 321), (1, u "java/lang/System$LoggerFinder"), (5, .class_ 328), (0, u "java/lang/System$Logger"), (67, u "err"), (2, u "out"), (91, u "notSupportedJnuEncoding"), (15, u "in"), (17, u "initialIn"), (0, u "Ljava/io/InputStream;"), (35, u "bootLayer"), (0, u "Ljava/lang/ModuleLayer;"), (99, .class_ 664), (0, u "java/lang/System$2"), (9, u "NEVER"), (2, u "MAYBE"), (49, u "arraycopy"), (0, u "(Ljava/lang/Object;ILjava/lang/Object;II)V"), (72, .class_ 802), (0, u "java/lang/System$Logger$Level")] 31

def k15m0 : Method := { name := "<init>", desc := "()V", sig := { parameters := [], returnType := none }, accessFlags := 2, code := none }
def k15m1 : Method := { name := "arraycopy", desc := "(Ljava/lang/Object;ILjava/lang/Object;II)V", sig := { parameters := [(.object "java/lang/Object"), .int, (.object "java/lang/Object"), .int, .int], returnType := none }, accessFlags := 265, code := none }
/-- java/lang/System -/
def k15 : Class := { plain "java/lang/System" (some 0) with
  accessFlags := 49
  interfaces := #[]
  cf := some (fileOf pool15 8 #[.nestMembers #[319, 327, 801, 108, 663, 208]] #[{ accessFlags := 2, nameIndex := 5, descriptorIndex := 6, attributes := #[] }, { accessFlags := 265, nameIndex := 727, descriptorIndex := 728, attributes := #[] }] 49 2 #[] #[{ accessFlags := 25, nameIndex := 507, descriptorIndex := 526, attributes := #[] }, { accessFlags := 25, nameIndex := 399, descriptorIndex := 155, attributes := #[] }, { accessFlags := 25, nameIndex := 396, descriptorIndex := 155, attributes := #[] }, { accessFlags := 10, nameIndex := 525, descriptorIndex := 526, attributes := #[] }, { accessFlags := 26, nameIndex := 674, descriptorIndex := 12, attributes := #[] }, { accessFlags := 26, nameIndex := 677, descriptorIndex := 12, attributes := #[] }, { accessFlags := 10, nameIndex := 11, descriptorIndex := 12, attributes := #[] }, { accessFlags := 74, nameIndex := 175, descriptorIndex := 176, attributes := #[] }, { accessFlags := 10, nameIndex := 491, descriptorIndex := 222, attributes := #[] }, { accessFlags := 74, nameIndex := 29, descriptorIndex := 30, attributes := #[] }, { accessFlags := 74, nameIndex := 154, descriptorIndex := 155, attributes := #[] }, { accessFlags := 10, nameIndex := 217, descriptorIndex := 218, attributes := #[] }, { accessFlags := 10, nameIndex := 221, descriptorIndex := 222, attributes := #[] }, { accessFlags := 8, nameIndex := 562, descriptorIndex := 563, attributes := #[] }])
  fields := #[{ name := "in", type := (.object "java/io/InputStream"), accessFlags := 25, slot := 0, constantValue := 0 }, { name := "out", type := (.object "java/io/PrintStream"), accessFlags := 25, slot := 1, constantValue := 0 }, { name := "err", type := (.object "java/io/PrintStream"), accessFlags := 25, slot := 2, constantValue := 0 }, { name := "initialIn", type := (.object "java/io/InputStream"), accessFlags := 10, slot := 3, constantValue := 0 }, { name := "NEVER", type := .int, accessFlags := 26, slot := 4, constantValue := 0 }, { name := "MAYBE", type := .int, accessFlags := 26, slot := 5, constantValue := 0 }, { name := "allowSecurityManager", type := .int, accessFlags := 10, slot := 6, constantValue := 0 }, { name := "security", type := (.object "java/lang/SecurityManager"), accessFlags := 74, slot := 7, constantValue := 0 }, { name := "notSupportedJnuEncoding", type := (.object "java/lang/String"), accessFlags := 10, slot := 8, constantValue := 0 }, { name := "cons", type := (.object "java/io/Console"), accessFlags := 74, slot := 9, constantValue := 0 }, { name := "initialErrStream", type := (.object "java/io/PrintStream"), accessFlags := 74, slot := 10, constantValue := 0 }, { name := "props", type := (.object "java/util/Properties"), accessFlags := 10, slot := 11, constantValue := 0 }, { name := "lineSeparator", type := (.object "java/lang/String"), accessFlags := 10, slot := 12, constantValue := 0 }, { name := "bootLayer", type := (.object "java/lang/ModuleLayer"), accessFlags := 8, slot := 13, constantValue := 0 }]
  methods := #[k15m0, k15m1]
  instanceTypes := #[]
  staticTypes := #[(.object "java/io/InputStream"), (.object "java/io/PrintStream"), (.object "java/io/PrintStream"), (.object "java/io/InputStream"), .int, .int, .int, (.object "java/lang/SecurityManager"), (.object "java/lang/String"), (.object "java/io/Console"), (.object "java/io/PrintStream"), (.object "java/util/Properties"), (.object "java/lang/String"), (.object "java/lang/ModuleLayer")]
  resolved := Array.replicate 834 none
  statics := none }

def pool16 : Array CpInfo := pool [(9, u "<init>"), (6, .class_ 18), (1, u "java/lang/Object"), (0, u "()V"), (1, .class_ 23), (1, u "jdk/internal/util/ArraysSupport"), (0, u "LOG2_ARRAY_LONG_INDEX_SCALE"), (0, u "I"), (2, u "U"), (0, u "Ljdk/internal/misc/Unsafe;"), (8, u "BIG_ENDIAN"), (0, u "Z"), (8, u "LOG2_BYTE_BIT_SIZE"), (4, u "LOG2_ARRAY_INT_INDEX_SCALE"), (54, u "JLA"), (0, u "Ljdk/internal/access/JavaLangAccess;"), (11, u "LOG2_ARRAY_BOOLEAN_INDEX_SCALE"), (9, u "LOG2_ARRAY_BYTE_INDEX_SCALE"), (5, u "LOG2_ARRAY_CHAR_INDEX_SCALE"), (5, u "LOG2_ARRAY_SHORT_INDEX_SCALE"), (18, u "LOG2_ARRAY_FLOAT_INDEX_SCALE"), (24, u "LOG2_ARRAY_DOUBLE_INDEX_SCALE"), (89, u "T_BOOLEAN"), (2, u "T_CHAR"), (1, u "T_FLOAT"), (1, u "T_DOUBLE"), (1, u "T_BYTE"), (1, u "T_SHORT"), (1, u "T_INT"), (1, u "T_LONG"), (1, u "SOFT_MAX_ARRAY_LENGTH")] 83

def k16m0 : Method := { name := "<init>", desc := "()V", sig := { parameters := [], returnType := none }, accessFlags := 2, code := none }
/-- jdk/internal/util/ArraysSupport -/
def k16 : Class := { plain "jdk/internal/util/ArraysSupport" (some 0) with
  accessFlags := 33
  interfaces := #[]
  cf := some (fileOf pool16 21 #[] #[{ accessFlags := 2, nameIndex := 9, descriptorIndex := 19, attributes := #[] }] 33 16 #[] #[{ accessFlags := 24, nameIndex := 28, descriptorIndex := 29, attributes := #[] }, { accessFlags := 26, nameIndex := 38, descriptorIndex := 39, attributes := #[] }, { accessFlags := 25, nameIndex := 121, descriptorIndex := 25, attributes := #[] }, { accessFlags := 25, nameIndex := 131, descriptorIndex := 25, attributes := #[] }, { accessFlags := 25, nameIndex := 137, descriptorIndex := 25, attributes := #[] }, { accessFlags := 25, nameIndex := 143, descriptorIndex := 25, attributes := #[] }, { accessFlags := 25, nameIndex := 53, descriptorIndex := 25, attributes := #[] }, { accessFlags := 25, nameIndex := 24, descriptorIndex := 25, attributes := #[] }, { accessFlags := 25, nameIndex := 162, descriptorIndex := 25, attributes := #[] }, { accessFlags := 25, nameIndex := 187, descriptorIndex := 25, attributes := #[] }, { accessFlags := 26, nameIndex := 48, descriptorIndex := 25, attributes := #[] }, { accessFlags := 25, nameIndex := 277, descriptorIndex := 25, attributes := #[] }, { accessFlags := 25, nameIndex := 280, descriptorIndex := 25, attributes := #[] }, { accessFlags := 25, nameIndex := 282, descriptorIndex := 25, attributes := #[] }, { accessFlags := 25, nameIndex := 284, descriptorIndex := 25, attributes := #[] }, { accessFlags := 25, nameIndex := 286, descriptorIndex := 25, attributes := #[] }, { accessFlags := 25, nameIndex := 288, descriptorIndex := 25, attributes := #[] }, { accessFlags := 25, nameIndex := 290, descriptorIndex := 25, attributes := #[] }, { accessFlags := 25, nameIndex := 292, descriptorIndex := 25, attributes := #[] }, { accessFlags := 26, nameIndex := 108, descriptorIndex := 109, attributes := #[] }, { accessFlags := 25, nameIndex := 294, descriptorIndex := 25, attributes := #[] }])
  fields := #[{ name := "U", type := (.object "jdk/internal/misc/Unsafe"), accessFlags := 24, slot := 0, constantValue := 0 }, { name := "BIG_ENDIAN", type := .boolean, accessFlags := 26, slot := 1, constantValue := 0 }, { name := "LOG2_ARRAY_BOOLEAN_INDEX_SCALE", type := .int, accessFlags := 25, slot := 2, constantValue := 0 }, { name := "LOG2_ARRAY_BYTE_INDEX_SCALE", type := .int, accessFlags := 25, slot := 3, constantValue := 0 }, { name := "LOG2_ARRAY_CHAR_INDEX_SCALE", type := .int, accessFlags := 25, slot := 4, constantValue := 0 }, { name := "LOG2_ARRAY_SHORT_INDEX_SCALE", type := .int, accessFlags := 25, slot := 5, constantValue := 0 }, { name := "LOG2_ARRAY_INT_INDEX_SCALE", type := .int, accessFlags := 25, slot := 6, constantValue := 0 }, { name := "LOG2_ARRAY_LONG_INDEX_SCALE", type := .int, accessFlags := 25, slot := 7, constantValue := 0 }, { name := "LOG2_ARRAY_FLOAT_INDEX_SCALE", type := .int, accessFlags := 25, slot := 8, constantValue := 0 }, { name := "LOG2_ARRAY_DOUBLE_INDEX_SCALE", type := .int, accessFlags := 25, slot := 9, constantValue := 0 }, { name := "LOG2_BYTE_BIT_SIZE", type := .int, accessFlags := 26, slot := 10, constantValue := 0 }, { name := "T_BOOLEAN", type := .int, accessFlags := 25, slot := 11, constantValue := 0 }, { name := "T_CHAR", type := .int, accessFlags := 25, slot := 12, constantValue := 0 }, { name := "T_FLOAT", type := .int, accessFlags := 25, slot := 13, constantValue := 0 }, { name := "T_DOUBLE", type := .int, accessFlags := 25, slot := 14, constantValue := 0 }, { name := "T_BYTE", type := .int, accessFlags := 25, slot := 15, constantValue := 0 }, { name := "T_SHORT", type := .int, accessFlags := 25, slot := 16, constantValue := 0 }, { name := "T_INT", type := .int, accessFlags := 25, slot := 17, constantValue := 0 }, { name := "T_LONG", type := .int, accessFlags := 25, slot := 18, constantValue := 0 }, { name := "JLA", type := (.object "jdk/internal/access/JavaLangAccess"), accessFlags := 26, slot := 19, constantValue := 0 }, { name := "SOFT_MAX_ARRAY_LENGTH", type := .int, accessFlags := 25, slot := 20, constantValue := 0 }]
  methods := #[k16m0]
  instanceTypes := #[]
  staticTypes := #[(.object "jdk/internal/misc/Unsafe"), .boolean, .int, .int, .int, .int, .int, .int, .int, .int, .int, .int, .int, .int, .int, .int, .int, .int, .int, (.object "jdk/internal/access/JavaLangAccess"), .int]
  resolved := Array.replicate 378 none
  statics := none }

def pool17 : Array CpInfo := pool [(1, u "java/lang/Cloneable"), (0, .class_ 1), (0, u "java/lang/Object"), (0, .class_ 3)] 3

/-- java/lang/Cloneable -/
def k17 : Class := { plain "java/lang/Cloneable" (some 0) with
  accessFlags := 1537
  interfaces := #[]
  cf := some (fileOf pool17 2 #[] #[] 1537 4 #[] #[])
  fields := #[]
  methods := #[]
  instanceTypes := #[]
  staticTypes := #[]
  resolved := Array.replicate 8 none
  statics := none }

/-- the primitive byte -/
def k18 : Class := { plain "byte" none with kind := .primitive 'B', accessFlags := 0x411 }
/-- [B -/
def k19 : Class := { plain "[B" (some 0) with kind := .array 18 .byte, interfaces := #[17, 2], accessFlags := 1041 }

/-- the primitive char -/
def k20 : Class := { plain "char" none with kind := .primitive 'C', accessFlags := 0x411 }
/-- [C -/
def k21 : Class := { plain "[C" (some 0) with kind := .array 20 .char, interfaces := #[17, 2], accessFlags := 1041 }

/-- the primitive int -/
def k22 : Class := { plain "int" none with kind := .primitive 'I', accessFlags := 0x411 }
/-- [I -/
def k23 : Class := { plain "[I" (some 0) with kind := .array 22 .int, interfaces := #[17, 2], accessFlags := 1041 }

def heap : Heap := #[{ cls := 7, slots := #[.long 0, .int 1, .null, .int 0, .null, .int 0, .int 0], vm := .statics 7 },
  { cls := 13, slots := #[.null, .null, .null], vm := .statics 13 }]
def classes : Array Class := #[k0, k1, k2, k3, k4, k5, k6, k7, k8, k9, k10, k11, k12, k13, k14, k15, k16, k17, k18, k19, k20, k21, k22, k23]
def interned : List (Array UInt16 × Addr) := []
def slotsUsed : Nat := 10
def theMethod : MethodId := ⟨1, 4⟩
def args0 : Array Value := #[.int 5, .int 6, .int 7, .int 8, .int 9]
def aboutOver (below : List Frame) : State where
  vm := { classes := classes, interned := interned.toArray }
  heap := heap
  slotsUsed := slotsUsed
  threads := #[{ frames := .invoking theMethod args0 :: below }]
def below0 : List Frame := [.native { method := ⟨0, 0⟩, args := #[] }]
def about1 : State := aboutOver below0
def p0 : Program := .bare "" "" ""
def e0 : Env := launch0.env 0 0 0
theorem w_frames : about1.frames = Frame.invoking theMethod args0 :: below0 := rfl
set_option maxRecDepth 65536 in
theorem w_args : argsFit about1.vm theMethod args0 = true := by decide +kernel
set_option maxRecDepth 65536 in
theorem w_heap : heapFits about1 = true := by decide +kernel
set_option maxRecDepth 65536 in
theorem w_runnable : about1.curStatus? = some .runnable := by decide +kernel
set_option maxRecDepth 65536 in
theorem w_alone : about1.alone = true := by decide +kernel
set_option maxRecDepth 65536 in
theorem w_named : about1.methodNamed? x = some theMethod := by decide +kernel
set_option maxRecDepth 65536 in
theorem w_hears : about1.hears theMethod below0 = true := by decide +kernel
set_option maxRecDepth 65536 in
theorem w_ripe : about1.ripe theMethod args0 below0 = true := by decide +kernel
theorem w_running : about1.status = .running := rfl
set_option maxRecDepth 65536 in
theorem w_room : about1.hasRoom e0.platform room_1 = true :=
  launch0.hasRoom_least _ room_1 (by decide +kernel) (by decide +kernel) (by decide +kernel) (by decide +kernel) (by decide +kernel) (by decide +kernel)
theorem allAtoms_all (ts : List Jvm.Cond) (a : Array Jvm.Value) (st : Jvm.State) : (allAtoms ts).before a st = ts.all (fun c => c.before a st) := by
  induction ts with
  | nil => rfl
  | cons c t ih =>
    show (Jvm.Cond.and c (allAtoms t)).before a st = _
    rw [Jvm.Cond.before_and, ih, List.all_cons]
def words1 : List Jvm.Cond := Jvm.Cond.code x code maxLocals ret :: tables_1
/-- a 'code' word, met by the world's own term for the bytes: nothing is compared byte by byte -/
theorem code_word {y : MethodName} {bytes : ByteArray} {mx : Nat} {rt : Option FieldType} {a : Array Value} {s : State} {m : MethodId} {meth : Method} {c : Code} (h1 : s.methodNamed? y = some m) (h2 : s.vm.method? m = some meth) (h3 : meth.code = some c) (h4 : c.code = bytes)
    (h5 : (c.maxLocals == mx && c.exceptionTable.isEmpty && decide (c.maxStack ≤ mostOperands) && decide (meth.sig.returnType = rt) && !meth.locks && decide (parseMethodDescriptor y.desc = some meth.sig)) = true) : (Jvm.Cond.code y bytes mx rt).before a s = true := by
  simp only [Bool.and_eq_true, beq_iff_eq, Bool.not_eq_true', decide_eq_true_eq] at h5
  obtain ⟨⟨⟨⟨⟨g1, g2⟩, g3⟩, g4⟩, g5⟩, g6⟩ := h5
  simp [Cond.before, Cond.holds, Cond.value, h1, h2, h3, h4, g1, g2, g3, g4, g5, g6]
def isCode : Jvm.Cond → Bool
  | .code _ _ _ _ => true
  | _ => false
theorem all_split {L : List Jvm.Cond} {P : Jvm.Cond → Bool} (h1 : L.all (fun c => isCode c || P c) = true) (h2 : ∀ c ∈ L.filter isCode, P c = true) : L.all P = true := by
  refine List.all_eq_true.mpr fun c hc => ?_
  have h := List.all_eq_true.mp h1 c hc
  rcases Bool.eq_false_or_eq_true (isCode c) with hi | hi
  · exact h2 c (List.mem_filter.mpr ⟨hc, hi⟩)
  · simpa [hi] using h
set_option maxRecDepth 65536 in
theorem w_c0 : (Jvm.Cond.code x code maxLocals ret).before args0 about1 = true := code_word (m := ⟨1, 4⟩) (meth := k1m4) (c := k1c4) (by decide +kernel) rfl rfl rfl (by decide +kernel)
set_option maxRecDepth 65536 in
theorem w_c1 : (Jvm.Cond.code ({ cls := "com/example/grantwork/grantwork/resources/ResourceParsePinLaw", name := "draw", desc := "(I)C" } : Jvm.MethodName) method_2_code (2 : Nat) (Option.some Jvm.ClassFile.FieldType.char)).before args0 about1 = true := code_word (m := ⟨1, 1⟩) (meth := k1m1) (c := k1c1) (by decide +kernel) rfl rfl rfl (by decide +kernel)
set_option maxRecDepth 65536 in
theorem w_c2 : (Jvm.Cond.code ({ cls := "java/lang/String", name := "<init>", desc := "([C)V" } : Jvm.MethodName) jdk_42_method_3_code (2 : Nat) (Option.none : Option Jvm.ClassFile.FieldType)).before args0 about1 = true := code_word (m := ⟨7, 1⟩) (meth := k7m1) (c := k7c1) (by decide +kernel) rfl rfl rfl (by decide +kernel)
set_option maxRecDepth 65536 in
theorem w_c3 : (Jvm.Cond.code ({ cls := "java/lang/String", name := "<init>", desc := "([CIILjava/lang/Void;)V" } : Jvm.MethodName) jdk_42_method_149_code (6 : Nat) (Option.none : Option Jvm.ClassFile.FieldType)).before args0 about1 = true := code_word (m := ⟨7, 10⟩) (meth := k7m10) (c := k7c10) (by decide +kernel) rfl rfl rfl (by decide +kernel)
set_option maxRecDepth 65536 in
theorem w_c4 : (Jvm.Cond.code ({ cls := "java/lang/Object", name := "<init>", desc := "()V" } : Jvm.MethodName) object_method_1_code (1 : Nat) (Option.none : Option Jvm.ClassFile.FieldType)).before args0 about1 = true := code_word (m := ⟨0, 0⟩) (meth := k0m0) (c := k0c0) (by decide +kernel) rfl rfl rfl (by decide +kernel)
set_option maxRecDepth 65536 in
theorem w_c5 : (Jvm.Cond.code ({ cls := "java/lang/StringUTF16", name := "compress", desc := "([CII)[B" } : Jvm.MethodName) jdk_52_method_16_code (6 : Nat) (Option.some (Jvm.ClassFile.FieldType.array Jvm.ClassFile.FieldType.byte))).before args0 about1 = true := code_word (m := ⟨8, 2⟩) (meth := k8m2) (c := k8c2) (by decide +kernel) rfl rfl rfl (by decide +kernel)
set_option maxRecDepth 65536 in
theorem w_c6 : (Jvm.Cond.code ({ cls := "java/lang/StringUTF16", name := "compress", desc := "([CI[BII)I" } : Jvm.MethodName) jdk_52_method_21_code (7 : Nat) (Option.some Jvm.ClassFile.FieldType.int)).before args0 about1 = true := code_word (m := ⟨8, 3⟩) (meth := k8m3) (c := k8c3) (by decide +kernel) rfl rfl rfl (by decide +kernel)
set_option maxRecDepth 65536 in
theorem w_c7 : (Jvm.Cond.code ({ cls := "java/lang/StringUTF16", name := "coderFromArrayLen", desc := "([BI)B" } : Jvm.MethodName) jdk_52_method_15_code (2 : Nat) (Option.some Jvm.ClassFile.FieldType.byte)).before args0 about1 = true := code_word (m := ⟨8, 1⟩) (meth := k8m1) (c := k8c1) (by decide +kernel) rfl rfl rfl (by decide +kernel)
set_option maxRecDepth 65536 in
theorem w_c8 : (Jvm.Cond.code ({ cls := "com/example/grantwork/grantwork/resources/ResourceParsePinLaw", name := "firstSlash", desc := "([CI)I" } : Jvm.MethodName) method_3_code (2 : Nat) (Option.some Jvm.ClassFile.FieldType.int)).before args0 about1 = true := code_word (m := ⟨1, 2⟩) (meth := k1m2) (c := k1c2) (by decide +kernel) rfl rfl rfl (by decide +kernel)
set_option maxRecDepth 65536 in
theorem w_c9 : (Jvm.Cond.code ({ cls := "com/example/grantwork/grantwork/resources/Resource", name := "parse", desc := "(Ljava/lang/String;)Lcom/example/grantwork/grantwork/resources/Resource;" } : Jvm.MethodName) prog_21_method_2_code (3 : Nat) (Option.some (Jvm.ClassFile.FieldType.object "com/example/grantwork/grantwork/resources/Resource"))).before args0 about1 = true := code_word (m := ⟨9, 1⟩) (meth := k9m1) (c := k9c1) (by decide +kernel) rfl rfl rfl (by decide +kernel)
set_option maxRecDepth 65536 in
theorem w_c10 : (Jvm.Cond.code ({ cls := "java/util/Objects", name := "requireNonNull", desc := "(Ljava/lang/Object;Ljava/lang/String;)Ljava/lang/Object;" } : Jvm.MethodName) jdk_31_method_11_code (2 : Nat) (Option.some (Jvm.ClassFile.FieldType.object "java/lang/Object"))).before args0 about1 = true := code_word (m := ⟨10, 1⟩) (meth := k10m1) (c := k10c1) (by decide +kernel) rfl rfl rfl (by decide +kernel)
set_option maxRecDepth 65536 in
theorem w_c11 : (Jvm.Cond.code ({ cls := "java/lang/String", name := "isEmpty", desc := "()Z" } : Jvm.MethodName) jdk_42_method_55_code (1 : Nat) (Option.some Jvm.ClassFile.FieldType.boolean)).before args0 about1 = true := code_word (m := ⟨7, 3⟩) (meth := k7m3) (c := k7c3) (by decide +kernel) rfl rfl rfl (by decide +kernel)
set_option maxRecDepth 65536 in
theorem w_c12 : (Jvm.Cond.code ({ cls := "java/lang/String", name := "indexOf", desc := "(I)I" } : Jvm.MethodName) jdk_42_method_79_code (2 : Nat) (Option.some Jvm.ClassFile.FieldType.int)).before args0 about1 = true := code_word (m := ⟨7, 6⟩) (meth := k7m6) (c := k7c6) (by decide +kernel) rfl rfl rfl (by decide +kernel)
set_option maxRecDepth 65536 in
theorem w_c13 : (Jvm.Cond.code ({ cls := "java/lang/String", name := "indexOf", desc := "(II)I" } : Jvm.MethodName) jdk_42_method_80_code (3 : Nat) (Option.some Jvm.ClassFile.FieldType.int)).before args0 about1 = true := code_word (m := ⟨7, 7⟩) (meth := k7m7) (c := k7c7) (by decide +kernel) rfl rfl rfl (by decide +kernel)
set_option maxRecDepth 65536 in
theorem w_c14 : (Jvm.Cond.code ({ cls := "java/lang/String", name := "isLatin1", desc := "()Z" } : Jvm.MethodName) jdk_42_method_154_code (1 : Nat) (Option.some Jvm.ClassFile.FieldType.boolean)).before args0 about1 = true := code_word (m := ⟨7, 13⟩) (meth := k7m13) (c := k7c13) (by decide +kernel) rfl rfl rfl (by decide +kernel)
set_option maxRecDepth 65536 in
theorem w_c15 : (Jvm.Cond.code ({ cls := "java/lang/String", name := "length", desc := "()I" } : Jvm.MethodName) jdk_42_method_54_code (1 : Nat) (Option.some Jvm.ClassFile.FieldType.int)).before args0 about1 = true := code_word (m := ⟨7, 2⟩) (meth := k7m2) (c := k7c2) (by decide +kernel) rfl rfl rfl (by decide +kernel)
set_option maxRecDepth 65536 in
theorem w_c16 : (Jvm.Cond.code ({ cls := "java/lang/String", name := "coder", desc := "()B" } : Jvm.MethodName) jdk_42_method_152_code (1 : Nat) (Option.some Jvm.ClassFile.FieldType.byte)).before args0 about1 = true := code_word (m := ⟨7, 12⟩) (meth := k7m12) (c := k7c12) (by decide +kernel) rfl rfl rfl (by decide +kernel)
set_option maxRecDepth 65536 in
theorem w_c17 : (Jvm.Cond.code ({ cls := "java/lang/StringLatin1", name := "indexOf", desc := "([BIII)I" } : Jvm.MethodName) jdk_43_method_22_code (4 : Nat) (Option.some Jvm.ClassFile.FieldType.int)).before args0 about1 = true := code_word (m := ⟨11, 4⟩) (meth := k11m4) (c := k11c4) (by decide +kernel) rfl rfl rfl (by decide +kernel)
set_option maxRecDepth 65536 in
theorem w_c18 : (Jvm.Cond.code ({ cls := "java/lang/StringLatin1", name := "canEncode", desc := "(I)Z" } : Jvm.MethodName) jdk_43_method_4_code (1 : Nat) (Option.some Jvm.ClassFile.FieldType.boolean)).before args0 about1 = true := code_word (m := ⟨11, 2⟩) (meth := k11m2) (c := k11c2) (by decide +kernel) rfl rfl rfl (by decide +kernel)
set_option maxRecDepth 65536 in
theorem w_c19 : (Jvm.Cond.code ({ cls := "java/lang/Math", name := "max", desc := "(II)I" } : Jvm.MethodName) jdk_29_method_65_code (2 : Nat) (Option.some Jvm.ClassFile.FieldType.int)).before args0 about1 = true := code_word (m := ⟨12, 1⟩) (meth := k12m1) (c := k12c1) (by decide +kernel) rfl rfl rfl (by decide +kernel)
set_option maxRecDepth 65536 in
theorem w_c20 : (Jvm.Cond.code ({ cls := "java/lang/Math", name := "min", desc := "(II)I" } : Jvm.MethodName) jdk_29_method_69_code (2 : Nat) (Option.some Jvm.ClassFile.FieldType.int)).before args0 about1 = true := code_word (m := ⟨12, 2⟩) (meth := k12m2) (c := k12c2) (by decide +kernel) rfl rfl rfl (by decide +kernel)
set_option maxRecDepth 65536 in
theorem w_c21 : (Jvm.Cond.code ({ cls := "java/lang/StringLatin1", name := "indexOfChar", desc := "([BIII)I" } : Jvm.MethodName) jdk_43_method_23_code (6 : Nat) (Option.some Jvm.ClassFile.FieldType.int)).before args0 about1 = true := code_word (m := ⟨11, 5⟩) (meth := k11m5) (c := k11c5) (by decide +kernel) rfl rfl rfl (by decide +kernel)
set_option maxRecDepth 65536 in
theorem w_c22 : (Jvm.Cond.code ({ cls := "com/example/grantwork/grantwork/resources/Resource", name := "isType", desc := "(Ljava/lang/String;)Z" } : Jvm.MethodName) prog_21_method_6_code (1 : Nat) (Option.some Jvm.ClassFile.FieldType.boolean)).before args0 about1 = true := code_word (m := ⟨9, 2⟩) (meth := k9m2) (c := k9c2) (by decide +kernel) rfl rfl rfl (by decide +kernel)
set_option maxRecDepth 65536 in
theorem w_c23 : (Jvm.Cond.code ({ cls := "java/lang/String", name := "equals", desc := "(Ljava/lang/Object;)Z" } : Jvm.MethodName) jdk_42_method_66_code (3 : Nat) (Option.some Jvm.ClassFile.FieldType.boolean)).before args0 about1 = true := code_word (m := ⟨7, 5⟩) (meth := k7m5) (c := k7c5) (by decide +kernel) rfl rfl rfl (by decide +kernel)
set_option maxRecDepth 65536 in
theorem w_c24 : (Jvm.Cond.code ({ cls := "java/lang/StringLatin1", name := "equals", desc := "([B[B)Z" } : Jvm.MethodName) jdk_43_method_13_code (3 : Nat) (Option.some Jvm.ClassFile.FieldType.boolean)).before args0 about1 = true := code_word (m := ⟨11, 3⟩) (meth := k11m3) (c := k11c3) (by decide +kernel) rfl rfl rfl (by decide +kernel)
set_option maxRecDepth 65536 in
theorem w_c25 : (Jvm.Cond.code ({ cls := "com/example/grantwork/grantwork/resources/Resource", name := "<init>", desc := "(Ljava/lang/String;Ljava/lang/String;)V" } : Jvm.MethodName) prog_21_method_1_code (3 : Nat) (Option.none : Option Jvm.ClassFile.FieldType)).before args0 about1 = true := code_word (m := ⟨9, 0⟩) (meth := k9m0) (c := k9c0) (by decide +kernel) rfl rfl rfl (by decide +kernel)
set_option maxRecDepth 65536 in
theorem w_c26 : (Jvm.Cond.code ({ cls := "com/example/grantwork/grantwork/resources/Resource", name := "name", desc := "()Ljava/lang/String;" } : Jvm.MethodName) prog_21_method_7_code (1 : Nat) (Option.some (Jvm.ClassFile.FieldType.object "java/lang/String"))).before args0 about1 = true := code_word (m := ⟨9, 3⟩) (meth := k9m3) (c := k9c3) (by decide +kernel) rfl rfl rfl (by decide +kernel)
set_option maxRecDepth 65536 in
theorem w_c27 : (Jvm.Cond.code ({ cls := "com/example/grantwork/grantwork/resources/Resource", name := "isRecord", desc := "()Z" } : Jvm.MethodName) prog_21_method_10_code (1 : Nat) (Option.some Jvm.ClassFile.FieldType.boolean)).before args0 about1 = true := code_word (m := ⟨9, 6⟩) (meth := k9m6) (c := k9c6) (by decide +kernel) rfl rfl rfl (by decide +kernel)
set_option maxRecDepth 65536 in
theorem w_c28 : (Jvm.Cond.code ({ cls := "com/example/grantwork/grantwork/resources/Resource", name := "type", desc := "()Ljava/lang/String;" } : Jvm.MethodName) prog_21_method_8_code (1 : Nat) (Option.some (Jvm.ClassFile.FieldType.object "java/lang/String"))).before args0 about1 = true := code_word (m := ⟨9, 4⟩) (meth := k9m4) (c := k9c4) (by decide +kernel) rfl rfl rfl (by decide +kernel)
set_option maxRecDepth 65536 in
theorem w_c29 : (Jvm.Cond.code ({ cls := "com/example/grantwork/grantwork/resources/ResourceParsePinLaw", name := "matches", desc := "(Ljava/lang/String;[CII)Z" } : Jvm.MethodName) method_4_code (4 : Nat) (Option.some Jvm.ClassFile.FieldType.boolean)).before args0 about1 = true := code_word (m := ⟨1, 3⟩) (meth := k1m3) (c := k1c3) (by decide +kernel) rfl rfl rfl (by decide +kernel)
set_option maxRecDepth 65536 in
theorem w_c30 : (Jvm.Cond.code ({ cls := "java/lang/String", name := "charAt", desc := "(I)C" } : Jvm.MethodName) jdk_42_method_56_code (2 : Nat) (Option.some Jvm.ClassFile.FieldType.char)).before args0 about1 = true := code_word (m := ⟨7, 4⟩) (meth := k7m4) (c := k7c4) (by decide +kernel) rfl rfl rfl (by decide +kernel)
set_option maxRecDepth 65536 in
theorem w_c31 : (Jvm.Cond.code ({ cls := "java/lang/StringLatin1", name := "charAt", desc := "([BI)C" } : Jvm.MethodName) jdk_43_method_2_code (2 : Nat) (Option.some Jvm.ClassFile.FieldType.char)).before args0 about1 = true := code_word (m := ⟨11, 1⟩) (meth := k11m1) (c := k11c1) (by decide +kernel) rfl rfl rfl (by decide +kernel)
set_option maxRecDepth 65536 in
theorem w_c32 : (Jvm.Cond.code ({ cls := "java/lang/String", name := "checkIndex", desc := "(II)V" } : Jvm.MethodName) jdk_42_method_155_code (2 : Nat) (Option.none : Option Jvm.ClassFile.FieldType)).before args0 about1 = true := code_word (m := ⟨7, 14⟩) (meth := k7m14) (c := k7c14) (by decide +kernel) rfl rfl rfl (by decide +kernel)
set_option maxRecDepth 65536 in
theorem w_c33 : (Jvm.Cond.code ({ cls := "jdk/internal/util/Preconditions", name := "checkIndex", desc := "(IILjava/util/function/BiFunction;)I" } : Jvm.MethodName) jdk_41_method_11_code (3 : Nat) (Option.some Jvm.ClassFile.FieldType.int)).before args0 about1 = true := code_word (m := ⟨13, 1⟩) (meth := k13m1) (c := k13c1) (by decide +kernel) rfl rfl rfl (by decide +kernel)
set_option maxRecDepth 65536 in
theorem w_c34 : (Jvm.Cond.code ({ cls := "com/example/grantwork/grantwork/resources/Resource", name := "id", desc := "()Ljava/lang/String;" } : Jvm.MethodName) prog_21_method_9_code (1 : Nat) (Option.some (Jvm.ClassFile.FieldType.object "java/lang/String"))).before args0 about1 = true := code_word (m := ⟨9, 5⟩) (meth := k9m5) (c := k9c5) (by decide +kernel) rfl rfl rfl (by decide +kernel)
set_option maxRecDepth 65536 in
theorem w_c35 : (Jvm.Cond.code ({ cls := "java/lang/String", name := "substring", desc := "(II)Ljava/lang/String;" } : Jvm.MethodName) jdk_42_method_92_code (5 : Nat) (Option.some (Jvm.ClassFile.FieldType.object "java/lang/String"))).before args0 about1 = true := code_word (m := ⟨7, 9⟩) (meth := k7m9) (c := k7c9) (by decide +kernel) rfl rfl rfl (by decide +kernel)
set_option maxRecDepth 65536 in
theorem w_c36 : (Jvm.Cond.code ({ cls := "java/lang/String", name := "checkBoundsBeginEnd", desc := "(III)V" } : Jvm.MethodName) jdk_42_method_158_code (3 : Nat) (Option.none : Option Jvm.ClassFile.FieldType)).before args0 about1 = true := code_word (m := ⟨7, 15⟩) (meth := k7m15) (c := k7c15) (by decide +kernel) rfl rfl rfl (by decide +kernel)
set_option maxRecDepth 65536 in
theorem w_c37 : (Jvm.Cond.code ({ cls := "jdk/internal/util/Preconditions", name := "checkFromToIndex", desc := "(IIILjava/util/function/BiFunction;)I" } : Jvm.MethodName) jdk_41_method_12_code (4 : Nat) (Option.some Jvm.ClassFile.FieldType.int)).before args0 about1 = true := code_word (m := ⟨13, 2⟩) (meth := k13m2) (c := k13c2) (by decide +kernel) rfl rfl rfl (by decide +kernel)
set_option maxRecDepth 65536 in
theorem w_c38 : (Jvm.Cond.code ({ cls := "java/lang/StringLatin1", name := "newString", desc := "([BII)Ljava/lang/String;" } : Jvm.MethodName) jdk_43_method_47_code (3 : Nat) (Option.some (Jvm.ClassFile.FieldType.object "java/lang/String"))).before args0 about1 = true := code_word (m := ⟨11, 6⟩) (meth := k11m6) (c := k11c6) (by decide +kernel) rfl rfl rfl (by decide +kernel)
set_option maxRecDepth 65536 in
theorem w_c39 : (Jvm.Cond.code ({ cls := "java/util/Arrays", name := "copyOfRange", desc := "([BII)[B" } : Jvm.MethodName) jdk_65_method_132_code (3 : Nat) (Option.some (Jvm.ClassFile.FieldType.array Jvm.ClassFile.FieldType.byte))).before args0 about1 = true := code_word (m := ⟨14, 2⟩) (meth := k14m2) (c := k14c2) (by decide +kernel) rfl rfl rfl (by decide +kernel)
set_option maxRecDepth 65536 in
theorem w_c40 : (Jvm.Cond.code ({ cls := "java/util/Arrays", name := "copyOfRangeByte", desc := "([BII)[B" } : Jvm.MethodName) jdk_65_method_133_code (5 : Nat) (Option.some (Jvm.ClassFile.FieldType.array Jvm.ClassFile.FieldType.byte))).before args0 about1 = true := code_word (m := ⟨14, 3⟩) (meth := k14m3) (c := k14c3) (by decide +kernel) rfl rfl rfl (by decide +kernel)
set_option maxRecDepth 65536 in
theorem w_c41 : (Jvm.Cond.code ({ cls := "java/util/Arrays", name := "checkLength", desc := "(II)V" } : Jvm.MethodName) jdk_65_method_131_code (2 : Nat) (Option.none : Option Jvm.ClassFile.FieldType)).before args0 about1 = true := code_word (m := ⟨14, 1⟩) (meth := k14m1) (c := k14c1) (by decide +kernel) rfl rfl rfl (by decide +kernel)
set_option maxRecDepth 65536 in
theorem w_c42 : (Jvm.Cond.code ({ cls := "java/lang/String", name := "<init>", desc := "([BB)V" } : Jvm.MethodName) jdk_42_method_151_code (3 : Nat) (Option.none : Option Jvm.ClassFile.FieldType)).before args0 about1 = true := code_word (m := ⟨7, 11⟩) (meth := k7m11) (c := k7c11) (by decide +kernel) rfl rfl rfl (by decide +kernel)
set_option maxRecDepth 65536 in
theorem w_c43 : (Jvm.Cond.code ({ cls := "java/lang/String", name := "substring", desc := "(I)Ljava/lang/String;" } : Jvm.MethodName) jdk_42_method_91_code (2 : Nat) (Option.some (Jvm.ClassFile.FieldType.object "java/lang/String"))).before args0 about1 = true := code_word (m := ⟨7, 8⟩) (meth := k7m8) (c := k7c8) (by decide +kernel) rfl rfl rfl (by decide +kernel)
def codes1 : List Jvm.Cond := [Jvm.Cond.code x code maxLocals ret, Jvm.Cond.code ({ cls := "com/example/grantwork/grantwork/resources/ResourceParsePinLaw", name := "draw", desc := "(I)C" } : Jvm.MethodName) method_2_code (2 : Nat) (Option.some Jvm.ClassFile.FieldType.char), Jvm.Cond.code ({ cls := "java/lang/String", name := "<init>", desc := "([C)V" } : Jvm.MethodName) jdk_42_method_3_code (2 : Nat) (Option.none : Option Jvm.ClassFile.FieldType), Jvm.Cond.code ({ cls := "java/lang/String", name := "<init>", desc := "([CIILjava/lang/Void;)V" } : Jvm.MethodName) jdk_42_method_149_code (6 : Nat) (Option.none : Option Jvm.ClassFile.FieldType), Jvm.Cond.code ({ cls := "java/lang/Object", name := "<init>", desc := "()V" } : Jvm.MethodName) object_method_1_code (1 : Nat) (Option.none : Option Jvm.ClassFile.FieldType), Jvm.Cond.code ({ cls := "java/lang/StringUTF16", name := "compress", desc := "([CII)[B" } : Jvm.MethodName) jdk_52_method_16_code (6 : Nat) (Option.some (Jvm.ClassFile.FieldType.array Jvm.ClassFile.FieldType.byte)), Jvm.Cond.code ({ cls := "java/lang/StringUTF16", name := "compress", desc := "([CI[BII)I" } : Jvm.MethodName) jdk_52_method_21_code (7 : Nat) (Option.some Jvm.ClassFile.FieldType.int), Jvm.Cond.code ({ cls := "java/lang/StringUTF16", name := "coderFromArrayLen", desc := "([BI)B" } : Jvm.MethodName) jdk_52_method_15_code (2 : Nat) (Option.some Jvm.ClassFile.FieldType.byte), Jvm.Cond.code ({ cls := "com/example/grantwork/grantwork/resources/ResourceParsePinLaw", name := "firstSlash", desc := "([CI)I" } : Jvm.MethodName) method_3_code (2 : Nat) (Option.some Jvm.ClassFile.FieldType.int), Jvm.Cond.code ({ cls := "com/example/grantwork/grantwork/resources/Resource", name := "parse", desc := "(Ljava/lang/String;)Lcom/example/grantwork/grantwork/resources/Resource;" } : Jvm.MethodName) prog_21_method_2_code (3 : Nat) (Option.some (Jvm.ClassFile.FieldType.object "com/example/grantwork/grantwork/resources/Resource")), Jvm.Cond.code ({ cls := "java/util/Objects", name := "requireNonNull", desc := "(Ljava/lang/Object;Ljava/lang/String;)Ljava/lang/Object;" } : Jvm.MethodName) jdk_31_method_11_code (2 : Nat) (Option.some (Jvm.ClassFile.FieldType.object "java/lang/Object")), Jvm.Cond.code ({ cls := "java/lang/String", name := "isEmpty", desc := "()Z" } : Jvm.MethodName) jdk_42_method_55_code (1 : Nat) (Option.some Jvm.ClassFile.FieldType.boolean), Jvm.Cond.code ({ cls := "java/lang/String", name := "indexOf", desc := "(I)I" } : Jvm.MethodName) jdk_42_method_79_code (2 : Nat) (Option.some Jvm.ClassFile.FieldType.int), Jvm.Cond.code ({ cls := "java/lang/String", name := "indexOf", desc := "(II)I" } : Jvm.MethodName) jdk_42_method_80_code (3 : Nat) (Option.some Jvm.ClassFile.FieldType.int), Jvm.Cond.code ({ cls := "java/lang/String", name := "isLatin1", desc := "()Z" } : Jvm.MethodName) jdk_42_method_154_code (1 : Nat) (Option.some Jvm.ClassFile.FieldType.boolean), Jvm.Cond.code ({ cls := "java/lang/String", name := "length", desc := "()I" } : Jvm.MethodName) jdk_42_method_54_code (1 : Nat) (Option.some Jvm.ClassFile.FieldType.int), Jvm.Cond.code ({ cls := "java/lang/String", name := "coder", desc := "()B" } : Jvm.MethodName) jdk_42_method_152_code (1 : Nat) (Option.some Jvm.ClassFile.FieldType.byte), Jvm.Cond.code ({ cls := "java/lang/StringLatin1", name := "indexOf", desc := "([BIII)I" } : Jvm.MethodName) jdk_43_method_22_code (4 : Nat) (Option.some Jvm.ClassFile.FieldType.int), Jvm.Cond.code ({ cls := "java/lang/StringLatin1", name := "canEncode", desc := "(I)Z" } : Jvm.MethodName) jdk_43_method_4_code (1 : Nat) (Option.some Jvm.ClassFile.FieldType.boolean), Jvm.Cond.code ({ cls := "java/lang/Math", name := "max", desc := "(II)I" } : Jvm.MethodName) jdk_29_method_65_code (2 : Nat) (Option.some Jvm.ClassFile.FieldType.int), Jvm.Cond.code ({ cls := "java/lang/Math", name := "min", desc := "(II)I" } : Jvm.MethodName) jdk_29_method_69_code (2 : Nat) (Option.some Jvm.ClassFile.FieldType.int), Jvm.Cond.code ({ cls := "java/lang/StringLatin1", name := "indexOfChar", desc := "([BIII)I" } : Jvm.MethodName) jdk_43_method_23_code (6 : Nat) (Option.some Jvm.ClassFile.FieldType.int), Jvm.Cond.code ({ cls := "com/example/grantwork/grantwork/resources/Resource", name := "isType", desc := "(Ljava/lang/String;)Z" } : Jvm.MethodName) prog_21_method_6_code (1 : Nat) (Option.some Jvm.ClassFile.FieldType.boolean), Jvm.Cond.code ({ cls := "java/lang/String", name := "equals", desc := "(Ljava/lang/Object;)Z" } : Jvm.MethodName) jdk_42_method_66_code (3 : Nat) (Option.some Jvm.ClassFile.FieldType.boolean), Jvm.Cond.code ({ cls := "java/lang/StringLatin1", name := "equals", desc := "([B[B)Z" } : Jvm.MethodName) jdk_43_method_13_code (3 : Nat) (Option.some Jvm.ClassFile.FieldType.boolean), Jvm.Cond.code ({ cls := "com/example/grantwork/grantwork/resources/Resource", name := "<init>", desc := "(Ljava/lang/String;Ljava/lang/String;)V" } : Jvm.MethodName) prog_21_method_1_code (3 : Nat) (Option.none : Option Jvm.ClassFile.FieldType), Jvm.Cond.code ({ cls := "com/example/grantwork/grantwork/resources/Resource", name := "name", desc := "()Ljava/lang/String;" } : Jvm.MethodName) prog_21_method_7_code (1 : Nat) (Option.some (Jvm.ClassFile.FieldType.object "java/lang/String")), Jvm.Cond.code ({ cls := "com/example/grantwork/grantwork/resources/Resource", name := "isRecord", desc := "()Z" } : Jvm.MethodName) prog_21_method_10_code (1 : Nat) (Option.some Jvm.ClassFile.FieldType.boolean), Jvm.Cond.code ({ cls := "com/example/grantwork/grantwork/resources/Resource", name := "type", desc := "()Ljava/lang/String;" } : Jvm.MethodName) prog_21_method_8_code (1 : Nat) (Option.some (Jvm.ClassFile.FieldType.object "java/lang/String")), Jvm.Cond.code ({ cls := "com/example/grantwork/grantwork/resources/ResourceParsePinLaw", name := "matches", desc := "(Ljava/lang/String;[CII)Z" } : Jvm.MethodName) method_4_code (4 : Nat) (Option.some Jvm.ClassFile.FieldType.boolean), Jvm.Cond.code ({ cls := "java/lang/String", name := "charAt", desc := "(I)C" } : Jvm.MethodName) jdk_42_method_56_code (2 : Nat) (Option.some Jvm.ClassFile.FieldType.char), Jvm.Cond.code ({ cls := "java/lang/StringLatin1", name := "charAt", desc := "([BI)C" } : Jvm.MethodName) jdk_43_method_2_code (2 : Nat) (Option.some Jvm.ClassFile.FieldType.char), Jvm.Cond.code ({ cls := "java/lang/String", name := "checkIndex", desc := "(II)V" } : Jvm.MethodName) jdk_42_method_155_code (2 : Nat) (Option.none : Option Jvm.ClassFile.FieldType), Jvm.Cond.code ({ cls := "jdk/internal/util/Preconditions", name := "checkIndex", desc := "(IILjava/util/function/BiFunction;)I" } : Jvm.MethodName) jdk_41_method_11_code (3 : Nat) (Option.some Jvm.ClassFile.FieldType.int), Jvm.Cond.code ({ cls := "com/example/grantwork/grantwork/resources/Resource", name := "id", desc := "()Ljava/lang/String;" } : Jvm.MethodName) prog_21_method_9_code (1 : Nat) (Option.some (Jvm.ClassFile.FieldType.object "java/lang/String")), Jvm.Cond.code ({ cls := "java/lang/String", name := "substring", desc := "(II)Ljava/lang/String;" } : Jvm.MethodName) jdk_42_method_92_code (5 : Nat) (Option.some (Jvm.ClassFile.FieldType.object "java/lang/String")), Jvm.Cond.code ({ cls := "java/lang/String", name := "checkBoundsBeginEnd", desc := "(III)V" } : Jvm.MethodName) jdk_42_method_158_code (3 : Nat) (Option.none : Option Jvm.ClassFile.FieldType), Jvm.Cond.code ({ cls := "jdk/internal/util/Preconditions", name := "checkFromToIndex", desc := "(IIILjava/util/function/BiFunction;)I" } : Jvm.MethodName) jdk_41_method_12_code (4 : Nat) (Option.some Jvm.ClassFile.FieldType.int), Jvm.Cond.code ({ cls := "java/lang/StringLatin1", name := "newString", desc := "([BII)Ljava/lang/String;" } : Jvm.MethodName) jdk_43_method_47_code (3 : Nat) (Option.some (Jvm.ClassFile.FieldType.object "java/lang/String")), Jvm.Cond.code ({ cls := "java/util/Arrays", name := "copyOfRange", desc := "([BII)[B" } : Jvm.MethodName) jdk_65_method_132_code (3 : Nat) (Option.some (Jvm.ClassFile.FieldType.array Jvm.ClassFile.FieldType.byte)), Jvm.Cond.code ({ cls := "java/util/Arrays", name := "copyOfRangeByte", desc := "([BII)[B" } : Jvm.MethodName) jdk_65_method_133_code (5 : Nat) (Option.some (Jvm.ClassFile.FieldType.array Jvm.ClassFile.FieldType.byte)), Jvm.Cond.code ({ cls := "java/util/Arrays", name := "checkLength", desc := "(II)V" } : Jvm.MethodName) jdk_65_method_131_code (2 : Nat) (Option.none : Option Jvm.ClassFile.FieldType), Jvm.Cond.code ({ cls := "java/lang/String", name := "<init>", desc := "([BB)V" } : Jvm.MethodName) jdk_42_method_151_code (3 : Nat) (Option.none : Option Jvm.ClassFile.FieldType), Jvm.Cond.code ({ cls := "java/lang/String", name := "substring", desc := "(I)Ljava/lang/String;" } : Jvm.MethodName) jdk_42_method_91_code (2 : Nat) (Option.some (Jvm.ClassFile.FieldType.object "java/lang/String"))]
set_option maxRecDepth 65536 in
theorem codes_eq : words1.filter isCode = codes1 := rfl
theorem w_codes : ∀ c ∈ words1.filter isCode, c.before args0 about1 = true := by
  rw [codes_eq]
  intro c hc
  simp only [codes1, List.mem_cons, List.not_mem_nil, or_false] at hc
  rcases hc with rfl | rfl | rfl | rfl | rfl | rfl | rfl | rfl | rfl | rfl | rfl | rfl | rfl | rfl | rfl | rfl | rfl | rfl | rfl | rfl | rfl | rfl | rfl | rfl | rfl | rfl | rfl | rfl | rfl | rfl | rfl | rfl | rfl | rfl | rfl | rfl | rfl | rfl | rfl | rfl | rfl | rfl | rfl | rfl
  · exact w_c0
  · exact w_c1
  · exact w_c2
  · exact w_c3
  · exact w_c4
  · exact w_c5
  · exact w_c6
  · exact w_c7
  · exact w_c8
  · exact w_c9
  · exact w_c10
  · exact w_c11
  · exact w_c12
  · exact w_c13
  · exact w_c14
  · exact w_c15
  · exact w_c16
  · exact w_c17
  · exact w_c18
  · exact w_c19
  · exact w_c20
  · exact w_c21
  · exact w_c22
  · exact w_c23
  · exact w_c24
  · exact w_c25
  · exact w_c26
  · exact w_c27
  · exact w_c28
  · exact w_c29
  · exact w_c30
  · exact w_c31
  · exact w_c32
  · exact w_c33
  · exact w_c34
  · exact w_c35
  · exact w_c36
  · exact w_c37
  · exact w_c38
  · exact w_c39
  · exact w_c40
  · exact w_c41
  · exact w_c42
  · exact w_c43
set_option maxRecDepth 65536 in
theorem w_t1 : (words1.take 24).all (fun c => isCode c || c.before args0 about1) = true := by decide +kernel
set_option maxRecDepth 65536 in
theorem w_t2 : ((words1.drop 24).take 24).all (fun c => isCode c || c.before args0 about1) = true := by decide +kernel
set_option maxRecDepth 65536 in
theorem w_t3 : (((words1.drop 24).drop 24).take 24).all (fun c => isCode c || c.before args0 about1) = true := by decide +kernel
set_option maxRecDepth 65536 in
theorem w_t4 : ((((words1.drop 24).drop 24).drop 24).take 24).all (fun c => isCode c || c.before args0 about1) = true := by decide +kernel
set_option maxRecDepth 65536 in
theorem w_t5 : (((((words1.drop 24).drop 24).drop 24).drop 24).take 24).all (fun c => isCode c || c.before args0 about1) = true := by decide +kernel
set_option maxRecDepth 65536 in
theorem w_t6 : ((((((words1.drop 24).drop 24).drop 24).drop 24).drop 24).take 24).all (fun c => isCode c || c.before args0 about1) = true := by decide +kernel
set_option maxRecDepth 65536 in
theorem w_t7 : (((((((words1.drop 24).drop 24).drop 24).drop 24).drop 24).drop 24).take 24).all (fun c => isCode c || c.before args0 about1) = true := by decide +kernel
set_option maxRecDepth 65536 in
theorem w_t8 : ((((((((words1.drop 24).drop 24).drop 24).drop 24).drop 24).drop 24).drop 24).take 24).all (fun c => isCode c || c.before args0 about1) = true := by decide +kernel
set_option maxRecDepth 65536 in
theorem w_t9 : ((((((((words1.drop 24).drop 24).drop 24).drop 24).drop 24).drop 24).drop 24).drop 24).all (fun c => isCode c || c.before args0 about1) = true := by decide +kernel
theorem w_tables : (allAtoms (Jvm.Cond.code x code maxLocals ret :: tables_1)).before args0 about1 = true := by
  rw [allAtoms_all]
  show words1.all (fun c => c.before args0 about1) = true
  refine all_split ?_ w_codes
  rw [← List.take_append_drop 24 words1, List.all_append, w_t1, ← List.take_append_drop 24 (words1.drop 24), List.all_append, w_t2, ← List.take_append_drop 24 ((words1.drop 24).drop 24), List.all_append, w_t3, ← List.take_append_drop 24 (((words1.drop 24).drop 24).drop 24), List.all_append, w_t4, ← List.take_append_drop 24 ((((words1.drop 24).drop 24).drop 24).drop 24), List.all_append, w_t5, ← List.take_append_drop 24 (((((words1.drop 24).drop 24).drop 24).drop 24).drop 24), List.all_append, w_t6, ← List.take_append_drop 24 ((((((words1.drop 24).drop 24).drop 24).drop 24).drop 24).drop 24), List.all_append, w_t7, ← List.take_append_drop 24 (((((((words1.drop 24).drop 24).drop 24).drop 24).drop 24).drop 24).drop 24), List.all_append, w_t8, w_t9]
  rfl
set_option maxRecDepth 65536 in
theorem w_rest : rest_1_c.before args0 about1 = true := by decide +kernel
set_option maxRecDepth 65536 in
theorem w_case : (Jvm.Cond.and given_1 narrow_1).before args0 about1 = true := by decide +kernel
set_option maxRecDepth 65536 in
theorem w_consts : constsHeld consts_1 about1 := Jvm.Lit.constsHeldB_iff.mp (by decide +kernel)
theorem w_applies : (headSpec (Jvm.Cond.code x code maxLocals ret :: tables_1) room_1).applies x e0.platform about1 = true :=
  (Spec.applies_iff w_frames).mpr ⟨w_running, w_runnable, w_alone, w_named, w_hears, w_ripe, w_room, w_tables⟩
theorem atStart : AtStart classFile x code maxLocals ret World_1 tables_1 room_1 Calls_1 rest_1 Pre_1 launch0 p0 e0 about1 theMethod args0 below0 :=
  ⟨lists_1, trivial, launch0.admits_env _ _ _, launch0.least_env, fairChoices_fair.cas, fairChoices_fair.clock, w_frames, w_args, w_heap, w_applies, ⟨w_consts, trivial⟩, w_rest, w_case⟩
end start1
theorem witness_1 : WitnessClaimed_1 := ⟨start1.p0, start1.e0, start1.about1, start1.theMethod, start1.args0, start1.below0, start1.atStart⟩
end Jvm.Pilot.@@N@@
