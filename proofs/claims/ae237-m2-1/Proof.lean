import JvmDerived
import JvmDerived.Pilot.@@N@@Statement
import JvmDerived.Pilot.@@N@@Code
set_option linter.unusedVariables false
set_option linter.unusedSimpArgs false
/- laws to paste: Road.backV, Road.codOf (cut by pick.py; bodies as the Statement names them) -/
namespace Jvm.Pilot.@@N@@
namespace StrChars
open Jvm Sem ClassFile Op Lib Jvm.Stand Jvm.Free.XT Jvm.Free.ALB Jvm.Free.JM Jvm.Free
open Jvm.Lib.Cold (StaticIs)
/-- a char array whose places are chars -/
def Ch (a : Addr) (A : Cell) (U : State) : Prop := Arr .char a A U ∧ Typed .char A
theorem Ch.mv {a : Addr} {A : Cell} {U U' : State} (h : Ch a A U) (hal : U.vm.Alike U'.vm) (hh : U'.heap = U.heap) : Ch a A U' := ⟨h.1.mv hal hh, h.2⟩
theorem Ch.keep {a : Addr} {A : Cell} {U U' : State} (h : Ch a A U) (hal : U.vm.Alike U'.vm) (hk : U'.heap[a]? = some A) : Ch a A U' := ⟨h.1.keep hal hk, h.2⟩
/-- what place i of a char[]'s cell holds -/
def cv (A : Cell) (i : Nat) : Int32 := match A.slots[i]? with | some (.int x) => x | _ => 0
theorem Ch.get {a : Addr} {A : Cell} {U : State} (h : Ch a A U) {i : Nat} (hi : i < A.slots.size) : A.slots[i]? = some (.int (cv A i)) := by
  have e := Array.getElem?_eq_getElem hi
  have f := h.2 i _ e
  unfold cv; rw [e]
  generalize A.slots[i] = v at f
  cases v <;> simp [fits] at f ⊢
/-- the byte that i2b leaves of a char -/
def lo8 (x : Int32) : Int32 := x.toInt8.toInt32
theorem fits_lo8 (y : Int32) : fits .byte (.int (lo8 y)) = true := by
  have h1 := y.toInt8.le_toInt
  have h2 := y.toInt8.toInt_lt
  simp only [lo8, fits, Bool.and_eq_true, decide_eq_true_eq, Int32.le_iff_toInt_le, Int8.toInt_toInt32, show (-128 : Int32).toInt = -128 from by decide, show (127 : Int32).toInt = 127 from by decide]
  omega
/-- A' is A but that each place j of lo .. hi - 1 holds f j -/
def Laid (A A' : Cell) (lo hi : Nat) (f : Nat → Value) : Prop := A'.cls = A.cls ∧ A'.vm = A.vm ∧ A'.slots.size = A.slots.size ∧ ∀ i, A'.slots[i]? = if lo ≤ i ∧ i < hi then some (f i) else A.slots[i]?
theorem Laid.zero (A : Cell) (lo : Nat) (f : Nat → Value) : Laid A A lo (lo + 0) f := ⟨rfl, rfl, rfl, fun i => by rw [if_neg (by omega)]⟩
theorem Laid.step {A Ak : Cell} {lo k : Nat} {f : Nat → Value} {v : Value} (h : Laid A Ak lo k f) (hlo : lo ≤ k) (hk : k < Ak.slots.size) (hv : v = f k) : Laid A (Ak.setSlot k v) lo (k + 1) f := by
  refine ⟨h.1, h.2.1, by simpa [Cell.setSlot] using h.2.2.1, fun i => ?_⟩
  by_cases e : k = i
  · subst e; rw [Cell.slots_setSlot_self v hk, if_pos (by omega), hv]
  · rw [Cell.slots_setSlot_ne v e, h.2.2.2 i]
    by_cases q : lo ≤ i ∧ i < k
    · rw [if_pos q, if_pos (by omega)]
    · rw [if_neg q, if_neg (by omega)]
def U16 : String := "java/lang/StringUTF16"
namespace Cmp5
def yN : MethodName := ⟨"java/lang/StringUTF16", "compress", "([CI[BII)I"⟩
abbrev yB : ByteArray := jdk_52_method_21_code
theorem d0 : decode yB 0 = .ok (.iconst 0, 1) := by decide +kernel
theorem d1 : decode yB 1 = .ok (.istore 5, 2) := by decide +kernel
theorem d3 : decode yB 3 = .ok (.iload 5, 2) := by decide +kernel
theorem d5 : decode yB 5 = .ok (.iload 4, 2) := by decide +kernel
theorem d7 : decode yB 7 = .ok (.if_icmp (.ge) 37, 3) := by decide +kernel
theorem d10 : decode yB 10 = .ok (.aload_n 0, 1) := by decide +kernel
theorem d11 : decode yB 11 = .ok (.iload_n 1, 1) := by decide +kernel
theorem d12 : decode yB 12 = .ok (.caload, 1) := by decide +kernel
theorem d13 : decode yB 13 = .ok (.istore 6, 2) := by decide +kernel
theorem d15 : decode yB 15 = .ok (.iload 6, 2) := by decide +kernel
theorem d17 : decode yB 17 = .ok (.sipush 255, 3) := by decide +kernel
theorem d20 : decode yB 20 = .ok (.if_icmp (.le) 6, 3) := by decide +kernel
theorem d26 : decode yB 26 = .ok (.aload_n 2, 1) := by decide +kernel
theorem d27 : decode yB 27 = .ok (.iload_n 3, 1) := by decide +kernel
theorem d28 : decode yB 28 = .ok (.iload 6, 2) := by decide +kernel
theorem d30 : decode yB 30 = .ok (.i2b, 1) := by decide +kernel
theorem d31 : decode yB 31 = .ok (.bastore, 1) := by decide +kernel
theorem d32 : decode yB 32 = .ok (.iinc 1 1, 3) := by decide +kernel
theorem d35 : decode yB 35 = .ok (.iinc 3 1, 3) := by decide +kernel
theorem d38 : decode yB 38 = .ok (.iinc 5 1, 3) := by decide +kernel
theorem d41 : decode yB 41 = .ok (.goto (-38), 3) := by decide +kernel
theorem d44 : decode yB 44 = .ok (.iload 4, 2) := by decide +kernel
theorem d46 : decode yB 46 = .ok (.ireturn, 1) := by decide +kernel
def site : List Cond := []
def tab : Cond := tabOf yN yB 7 (some .int) site
def P (b : Addr) (A : Cell) (d : Addr) (B : Cell) (o q len : Nat) (args : Array Value) (s : State) : Prop := args = #[.ref b, .int (Int32.ofNat o), .ref d, .int (Int32.ofNat q), .int (Int32.ofNat len)] ∧ Ch b A s ∧ Arr .byte d B s ∧ b ≠ d ∧ o + len ≤ A.slots.size ∧ q + len ≤ B.slots.size ∧ ∀ i, i < len → ¬ 255 < cv A (o + i)
def E (b : Addr) (A : Cell) (d : Addr) (B : Cell) (o q len : Nat) (r : Option Value) (s u : State) : Prop := r = some (.int (Int32.ofNat len)) ∧ ∃ B', Put d B' s u ∧ Laid B B' q (q + len) (fun j => Value.int (lo8 (cv A (o + (j - q)))))
/-- no char of the range above 255: len; the places written hold each char's low byte -/
theorem law (l : Launch) (b : Addr) (A : Cell) (d : Addr) (B : Cell) (o q len : Nat) : Law l yN 5 5 0 0 yB 7 (some .int) site (P b A d B o q len) (E b A d B o q len) (copyLocs d q len) 0 0 := by
  refine Law.of_walk (plainFor_of_name (by decide +kernel)) (by decide +kernel) (by decide +kernel) (by decide) (fun _ _ h => by rw [h.1]; rfl) (fun _ U U' hal hh h => ⟨h.1, h.2.1.mv hal hh, h.2.2.1.mv hal hh, h.2.2.2⟩) (fun r U U' V V' h1 hal h2 h => ⟨h.1, h.2.elim fun B' q => ⟨B', q.1.mv h1 h2, q.2⟩⟩) ?_
  intro p e s m args below meth c s₁ X0 hexec hbytes hml hret hlk hnm hown hh0 W hP
  obtain ⟨rfl, hA, hB, hne, l1, l2, hp⟩ := hP
  have c1 : Steps p.tables e below (s₁.setTop (entryFrame m #[.ref b, .int (Int32.ofNat o), .ref d, .int (Int32.ofNat q), .int (Int32.ofNat len)] 7)) (s₁.setTop (mkF m 0 #[.val (.ref b), .val (.int (Int32.ofNat o)), .val (.ref d), .val (.int (Int32.ofNat q)), .val (.int (Int32.ofNat len)), .unset, .unset] [])) := entry rfl
  have hA0 := hA.1.mv X0.warmed.alike hh0
  have hB0 := hB.mv X0.warmed.alike hh0
  have a31 := hA.1.2.2.2
  have c2 : Steps p.tables e below (s₁.setTop (entryFrame m #[.ref b, .int (Int32.ofNat o), .ref d, .int (Int32.ofNat q), .int (Int32.ofNat len)] 7)) (s₁.setTop (mkF m 3 #[.val (.ref b), .val (.int (Int32.ofNat o)), .val (.ref d), .val (.int (Int32.ofNat q)), .val (.int (Int32.ofNat len)), .val (.int 0), .unset] [])) := c1.trans (by
    refine iconstV X0.here hexec rfl 0 (hb hbytes d0) (by decide) ?_
    refine XS.istore X0.here hexec rfl (hb hbytes d1) rfl rfl ?_
    exact Steps.refl _)
  have loop : ∀ (r i : Nat), i + r = len → ∀ (z : Slot), (z = .unset ∨ ∃ w, z = .val w ∧ w.category = 1) → ∀ (Tl : State) (Bk : Cell), Stand p l e { frames := 0, locals := 0, cells := 0, slots := 0 } s m #[.ref b, .int (Int32.ofNat o), .ref d, .int (Int32.ofNat q), .int (Int32.ofNat len)] below meth c Tl ([] ++ copyLocs d q i) 0 0 → Put d Bk s₁ Tl → Laid B Bk q (q + i) (fun j => Value.int (lo8 (cv A (o + (j - q))))) →
      Steps p.tables e below (s₁.setTop (entryFrame m #[.ref b, .int (Int32.ofNat o), .ref d, .int (Int32.ofNat q), .int (Int32.ofNat len)] 7)) (Tl.setTop (mkF m 3 #[.val (.ref b), .val (.int (Int32.ofNat (o + i))), .val (.ref d), .val (.int (Int32.ofNat (q + i))), .val (.int (Int32.ofNat len)), .val (.int (Int32.ofNat i)), z] [])) → ∃ (T' : State) (B' : Cell) (z' : Slot), Stand p l e { frames := 0, locals := 0, cells := 0, slots := 0 } s m #[.ref b, .int (Int32.ofNat o), .ref d, .int (Int32.ofNat q), .int (Int32.ofNat len)] below meth c T' ([] ++ copyLocs d q len) 0 0 ∧ Put d B' s₁ T' ∧ Laid B B' q (q + len) (fun j => Value.int (lo8 (cv A (o + (j - q))))) ∧
      Steps p.tables e below (s₁.setTop (entryFrame m #[.ref b, .int (Int32.ofNat o), .ref d, .int (Int32.ofNat q), .int (Int32.ofNat len)] 7)) (T'.setTop (mkF m 3 #[.val (.ref b), .val (.int (Int32.ofNat (o + len))), .val (.ref d), .val (.int (Int32.ofNat (q + len))), .val (.int (Int32.ofNat len)), .val (.int (Int32.ofNat len)), z'] [])) := by
    intro r
    induction r with
    | zero =>
      intro i hi z hz Tl Bk Xl pl fl cl
      have hil : i = len := by omega
      rw [hil] at Xl fl cl
      exact ⟨Tl, Bk, z, Xl, pl, fl, cl⟩
    | succ r ih =>
      intro i hi z hz Tl Bk Xl pl fl cl
      have all := X0.warmed.alike.symm.trans Xl.warmed.alike
      have hAl := hA0.keep all (pl.other hne hA0.1)
      have hBk := hB0.like all pl.1 fl.1 fl.2.1 fl.2.2.1
      have hlt : q + i < Bk.slots.size := by rw [fl.2.2.1]; omega
      have c3 : Steps p.tables e below (s₁.setTop (entryFrame m #[.ref b, .int (Int32.ofNat o), .ref d, .int (Int32.ofNat q), .int (Int32.ofNat len)] 7)) (Tl.setTop (mkF m 12 #[.val (.ref b), .val (.int (Int32.ofNat (o + i))), .val (.ref d), .val (.int (Int32.ofNat (q + i))), .val (.int (Int32.ofNat len)), .val (.int (Int32.ofNat i)), z] [.int (Int32.ofNat (o + i)), .ref b])) := cl.trans (by
        refine XS.iload Xl.here hexec rfl (hb hbytes d3) rfl ?_
        refine XS.iload Xl.here hexec rfl (hb hbytes d5) rfl ?_
        refine XS.icmpNo Xl.here hexec rfl (hb hbytes d7) rfl (ii_ge_f (lt32 (by omega) (by omega))) ?_
        refine XS.aloadN Xl.here hexec rfl (hb hbytes d10) rfl rfl ?_
        refine XS.iloadN Xl.here hexec rfl (hb hbytes d11) rfl ?_
        exact Steps.refl _)
      have c4 : Steps p.tables e below (s₁.setTop (entryFrame m #[.ref b, .int (Int32.ofNat o), .ref d, .int (Int32.ofNat q), .int (Int32.ofNat len)] 7)) (Tl.setTop (mkF m 13 #[.val (.ref b), .val (.int (Int32.ofNat (o + i))), .val (.ref d), .val (.int (Int32.ofNat (q + i))), .val (.int (Int32.ofNat len)), .val (.int (Int32.ofNat i)), z] [.int (cv A (o + i))])) := c3.trans (by
        refine Xl.aget hexec hAl rfl (hA.get (i := o + i) (by omega)) rfl rfl (hb hbytes d12) ?_
        exact Steps.refl _)
      have c5 : Steps p.tables e below (s₁.setTop (entryFrame m #[.ref b, .int (Int32.ofNat o), .ref d, .int (Int32.ofNat q), .int (Int32.ofNat len)] 7)) (Tl.setTop (mkF m 15 #[.val (.ref b), .val (.int (Int32.ofNat (o + i))), .val (.ref d), .val (.int (Int32.ofNat (q + i))), .val (.int (Int32.ofNat len)), .val (.int (Int32.ofNat i)), .val (.int (cv A (o + i)))] [])) := c4.trans (by
        refine XS.istoreS Xl.here hexec rfl (hb hbytes d13) rfl rfl hz ?_
        exact Steps.refl _)
      have c6 : Steps p.tables e below (s₁.setTop (entryFrame m #[.ref b, .int (Int32.ofNat o), .ref d, .int (Int32.ofNat q), .int (Int32.ofNat len)] 7)) (Tl.setTop (mkF m 31 #[.val (.ref b), .val (.int (Int32.ofNat (o + i))), .val (.ref d), .val (.int (Int32.ofNat (q + i))), .val (.int (Int32.ofNat len)), .val (.int (Int32.ofNat i)), .val (.int (cv A (o + i)))] [.int (lo8 (cv A (o + i))), .int (Int32.ofNat (q + i)), .ref d])) := c5.trans (by
        refine XS.iload Xl.here hexec rfl (hb hbytes d15) rfl ?_
        refine sipushV Xl.here hexec rfl 255 (hb hbytes d17) (by decide) ?_
        refine XS.icmpYes Xl.here hexec rfl (pc0 := 20) rfl (hb hbytes d20) rfl (ii_le_t (hp i (by omega))) (by decide) rfl ?_
        refine XS.aloadN Xl.here hexec rfl (hb hbytes d26) rfl rfl ?_
        refine XS.iloadN Xl.here hexec rfl (hb hbytes d27) rfl ?_
        refine XS.iload Xl.here hexec rfl (hb hbytes d28) rfl ?_
        refine i2b Xl.here hexec rfl (hb hbytes d30) rfl ?_
        exact Steps.refl _)
      obtain ⟨T7, X7, p7, st7⟩ := Xl.aput hexec hBk rfl hlt rfl (fits_lo8 (cv A (o + i))) (g := (mkF m 31 #[.val (.ref b), .val (.int (Int32.ofNat (o + i))), .val (.ref d), .val (.int (Int32.ofNat (q + i))), .val (.int (Int32.ofNat len)), .val (.int (Int32.ofNat i)), .val (.int (cv A (o + i)))] [.int (lo8 (cv A (o + i))), .int (Int32.ofNat (q + i)), .ref d])) rfl (rest := []) rfl (hb hbytes d31)
      have c8 : Steps p.tables e below (s₁.setTop (entryFrame m #[.ref b, .int (Int32.ofNat o), .ref d, .int (Int32.ofNat q), .int (Int32.ofNat len)] 7)) (T7.setTop (mkF m 32 #[.val (.ref b), .val (.int (Int32.ofNat (o + i))), .val (.ref d), .val (.int (Int32.ofNat (q + i))), .val (.int (Int32.ofNat len)), .val (.int (Int32.ofNat i)), .val (.int (cv A (o + i)))] [])) := c6.trans (st7 _ (Steps.refl _))
      have c9 : Steps p.tables e below (s₁.setTop (entryFrame m #[.ref b, .int (Int32.ofNat o), .ref d, .int (Int32.ofNat q), .int (Int32.ofNat len)] 7)) (T7.setTop (mkF m 3 #[.val (.ref b), .val (.int (Int32.ofNat (o + i) + 1)), .val (.ref d), .val (.int (Int32.ofNat (q + i) + 1)), .val (.int (Int32.ofNat len)), .val (.int (Int32.ofNat i + 1)), .val (.int (cv A (o + i)))] [])) := c8.trans (by
        refine iincV X7.here hexec rfl 1 (hb hbytes d32) (by decide) rfl rfl ?_
        refine iincV X7.here hexec rfl 1 (hb hbytes d35) (by decide) rfl rfl ?_
        refine iincV X7.here hexec rfl 1 (hb hbytes d38) (by decide) rfl rfl ?_
        refine XS.goto X7.here hexec rfl (pc0 := 41) rfl (hb hbytes d41) (by decide) rfl ?_
        exact Steps.refl _)
      have c10 : Steps p.tables e below (s₁.setTop (entryFrame m #[.ref b, .int (Int32.ofNat o), .ref d, .int (Int32.ofNat q), .int (Int32.ofNat len)] 7)) (T7.setTop (mkF m 3 #[.val (.ref b), .val (.int (Int32.ofNat (o + (i + 1)))), .val (.ref d), .val (.int (Int32.ofNat (q + (i + 1)))), .val (.int (Int32.ofNat len)), .val (.int (Int32.ofNat (i + 1))), .val (.int (cv A (o + i)))] [])) := by
        have := c9
        rw [succ32, succ32, succ32] at this
        exact this
      exact ih (i + 1) (by omega) _ (Or.inr ⟨_, rfl, rfl⟩) T7 _ (by rw [copyLocs_step, ← List.append_assoc]; exact X7) (pl.trans p7) (fl.step (by omega) hlt (by simp)) c10
  obtain ⟨T9, B9, z9, X9, p9, f9, g9⟩ := loop len 0 (by omega) .unset (Or.inl rfl) s₁ B (by simpa [copyLocs] using X0) ⟨hB0.1, fun _ _ => rfl, rfl⟩ (Laid.zero _ _ _) c2
  have c11 : Steps p.tables e below (s₁.setTop (entryFrame m #[.ref b, .int (Int32.ofNat o), .ref d, .int (Int32.ofNat q), .int (Int32.ofNat len)] 7)) (T9.setTop (mkF m 46 #[.val (.ref b), .val (.int (Int32.ofNat (o + len))), .val (.ref d), .val (.int (Int32.ofNat (q + len))), .val (.int (Int32.ofNat len)), .val (.int (Int32.ofNat len)), z9] [.int (Int32.ofNat len)])) := g9.trans (by
    refine XS.iload X9.here hexec rfl (hb hbytes d3) rfl ?_
    refine XS.iload X9.here hexec rfl (hb hbytes d5) rfl ?_
    refine XS.icmpYes X9.here hexec rfl (pc0 := 7) rfl (hb hbytes d7) rfl (ii_ge_t (nlt32 (by omega) (Nat.le_refl _))) (by decide) rfl ?_
    refine XS.iload X9.here hexec rfl (hb hbytes d44) rfl ?_
    exact Steps.refl _)
  exact ⟨T9, some (.int (Int32.ofNat len)), _, _, _, X9, by simp, rfl, rfl, (fun h => by cases h), ⟨rfl, B9, p9.from hh0, f9⟩, fun fs hl => c11.trans (X9.ireturnOut hexec hret rfl (Or.inl rfl) (hb hbytes d46) hl)⟩
end Cmp5
namespace Cmp3
def yN : MethodName := ⟨"java/lang/StringUTF16", "compress", "([CII)[B"⟩
abbrev yB : ByteArray := jdk_52_method_16_code
theorem d0 : decode yB 0 = .ok (.iload_n 2, 1) := by decide +kernel
theorem d1 : decode yB 1 = .ok (.newarray .byte, 2) := by decide +kernel
theorem d3 : decode yB 3 = .ok (.astore_n 3, 1) := by decide +kernel
theorem d4 : decode yB 4 = .ok (.aload_n 0, 1) := by decide +kernel
theorem d5 : decode yB 5 = .ok (.iload_n 1, 1) := by decide +kernel
theorem d6 : decode yB 6 = .ok (.aload_n 3, 1) := by decide +kernel
theorem d7 : decode yB 7 = .ok (.iconst 0, 1) := by decide +kernel
theorem d8 : decode yB 8 = .ok (.iload_n 2, 1) := by decide +kernel
theorem d9 : decode yB 9 = .ok (.invokestatic 115, 3) := by decide +kernel
theorem d12 : decode yB 12 = .ok (.istore 4, 2) := by decide +kernel
theorem d14 : decode yB 14 = .ok (.iload 4, 2) := by decide +kernel
theorem d16 : decode yB 16 = .ok (.iload_n 2, 1) := by decide +kernel
theorem d17 : decode yB 17 = .ok (.if_icmp (.eq) 40, 3) := by decide +kernel
theorem d57 : decode yB 57 = .ok (.aload_n 3, 1) := by decide +kernel
theorem d58 : decode yB 58 = .ok (.areturn, 1) := by decide +kernel
def site : List Cond := [.arrayClass .byte, Cmp5.tab] ++ staticW U16 115 Cmp5.yN
def tab : Cond := tabOf yN yB 6 (some (.array .byte)) site
def P (b : Addr) (A : Cell) (o len : Nat) (args : Array Value) (s : State) : Prop := args = #[.ref b, .int (Int32.ofNat o), .int (Int32.ofNat len)] ∧ Ch b A s ∧ o + len ≤ A.slots.size ∧ len ≤ 536870912 ∧ ∀ i, i < len → ¬ 255 < cv A (o + i)
def E (b : Addr) (A : Cell) (o len : Nat) (r : Option Value) (s u : State) : Prop := NewArr .byte "[B" len (fun j => .int (lo8 (cv A (o + j)))) r s u ∧ u.heap.size = s.heap.size + 1
/-- no char of the range above 255: a new byte[] of their low bytes -/
theorem law (l : Launch) (b : Addr) (A : Cell) (o len : Nat) : Law l yN 3 3 1 18 yB 6 (some (.array .byte)) site (P b A o len) (E b A o len) [] 1 len := by
  refine Law.of_walk (plainFor_of_name (by decide +kernel)) (by decide +kernel) (by decide +kernel) (by decide) (fun _ _ h => by rw [h.1]; rfl) (fun _ U U' hal hh h => ⟨h.1, h.2.1.mv hal hh, h.2.2⟩) (fun r U U' V V' h1 hal h2 h => ⟨NewArr.mv r U U' V V' h1 hal h2 h.1, by rw [h1, h2]; exact h.2⟩) ?_
  intro p e s m args below meth c s₁ X0 hexec hbytes hml hret hlk hnm hown hh0 W hP
  obtain ⟨rfl, hA, l1, l2, hp⟩ := hP
  have a31 := hA.1.2.2.2
  have c1 : Steps p.tables e below (s₁.setTop (entryFrame m #[.ref b, .int (Int32.ofNat o), .int (Int32.ofNat len)] 6)) (s₁.setTop (mkF m 0 #[.val (.ref b), .val (.int (Int32.ofNat o)), .val (.int (Int32.ofNat len)), .unset, .unset, .unset] [])) := entry rfl
  have c2 : Steps p.tables e below (s₁.setTop (entryFrame m #[.ref b, .int (Int32.ofNat o), .int (Int32.ofNat len)] 6)) (s₁.setTop (mkF m 1 #[.val (.ref b), .val (.int (Int32.ofNat o)), .val (.int (Int32.ofNat len)), .unset, .unset, .unset] [.int (Int32.ofNat len)])) := c1.trans (by
    refine XS.iloadN X0.here hexec rfl (hb hbytes d0) rfl ?_
    exact Steps.refl _)
  obtain ⟨T3, B3, X3, ba3, bs3, bv3, bh3, bf3, st3⟩ := X0.anew hexec (atype := .byte) (wk W (.arrayClass .byte)) rfl (by show len * 1 ≤ _; omega) (by omega) (g := (mkF m 1 #[.val (.ref b), .val (.int (Int32.ofNat o)), .val (.int (Int32.ofNat len)), .unset, .unset, .unset] [.int (Int32.ofNat len)])) rfl (hb hbytes d1) (rest := []) rfl (Nat.le_refl _) (by show 0 + len ≤ len; omega)
  rw [hh0] at ba3 st3
  have kp3 : XT.Kept s T3 := (XT.Kept.of_eq hh0).push bh3
  have hA3 := hA.keep X3.warmed.alike (kp3 _ _ hA.1.1)
  have hne : b ≠ s.heap.size := hA.1.ne
  have c4 : Steps p.tables e below (s₁.setTop (entryFrame m #[.ref b, .int (Int32.ofNat o), .int (Int32.ofNat len)] 6)) (T3.setTop (mkF m 3 #[.val (.ref b), .val (.int (Int32.ofNat o)), .val (.int (Int32.ofNat len)), .unset, .unset, .unset] [.ref s.heap.size])) := c2.trans (st3 _ (Steps.refl _))
  have c5 : Steps p.tables e below (s₁.setTop (entryFrame m #[.ref b, .int (Int32.ofNat o), .int (Int32.ofNat len)] 6)) (T3.setTop (mkF m 9 #[.val (.ref b), .val (.int (Int32.ofNat o)), .val (.int (Int32.ofNat len)), .val (.ref s.heap.size), .unset, .unset] [.int (Int32.ofNat len), .int 0, .ref s.heap.size, .int (Int32.ofNat o), .ref b])) := c4.trans (by
    refine XS.astoreN X3.here hexec rfl (hb hbytes d3) rfl rfl rfl ?_
    refine XS.aloadN X3.here hexec rfl (hb hbytes d4) rfl rfl ?_
    refine XS.iloadN X3.here hexec rfl (hb hbytes d5) rfl ?_
    refine XS.aloadN X3.here hexec rfl (hb hbytes d6) rfl rfl ?_
    refine iconstV X3.here hexec rfl 0 (hb hbytes d7) (by decide) ?_
    refine XS.iloadN X3.here hexec rfl (hb hbytes d8) rfl ?_
    exact Steps.refl _)
  obtain ⟨v6, T6, X6, E6, g6⟩ := X3.callS hexec (Cmp5.law l b A s.heap.size B3 o 0 len) hown (wks W (staticW U16 115 Cmp5.yN)) (wk W Cmp5.tab) (W := 0) (Nat.le_of_ble_eq_true rfl) (Nat.le_of_ble_eq_true rfl) (Nat.le_refl _) (by show 0 + len + 0 ≤ len; omega) (g := (mkF m 9 #[.val (.ref b), .val (.int (Int32.ofNat o)), .val (.int (Int32.ofNat len)), .val (.ref s.heap.size), .unset, .unset] [.int (Int32.ofNat len), .int (Int32.ofNat 0), .ref s.heap.size, .int (Int32.ofNat o), .ref b])) rfl (by rw [hml]; rfl) c5 (argsL := [.ref b, .int (Int32.ofNat o), .ref s.heap.size, .int (Int32.ofNat 0), .int (Int32.ofNat len)]) (rest := []) rfl rfl (by show 2 * 0 + 0 ≤ _; decide) (hb hbytes d9) (⟨rfl, hA3, ba3, hne, l1, by rw [bs3]; simp, hp⟩)
  obtain ⟨rfl, B6, p6, f6⟩ := E6
  have c7 : Steps p.tables e below (s₁.setTop (entryFrame m #[.ref b, .int (Int32.ofNat o), .int (Int32.ofNat len)] 6)) (T6.setTop (mkF m 12 #[.val (.ref b), .val (.int (Int32.ofNat o)), .val (.int (Int32.ofNat len)), .val (.ref s.heap.size), .unset, .unset] [.int (Int32.ofNat len)])) := g6
  have c8 : Steps p.tables e below (s₁.setTop (entryFrame m #[.ref b, .int (Int32.ofNat o), .int (Int32.ofNat len)] 6)) (T6.setTop (mkF m 58 #[.val (.ref b), .val (.int (Int32.ofNat o)), .val (.int (Int32.ofNat len)), .val (.ref s.heap.size), .val (.int (Int32.ofNat len)), .unset] [.ref s.heap.size])) := c7.trans (by
    refine XS.istore X6.here hexec rfl (hb hbytes d12) rfl rfl ?_
    refine XS.iload X6.here hexec rfl (hb hbytes d14) rfl ?_
    refine XS.iloadN X6.here hexec rfl (hb hbytes d16) rfl ?_
    refine XS.icmpYes X6.here hexec rfl (pc0 := 17) rfl (hb hbytes d17) rfl (ii_eq_t rfl) (by decide) rfl ?_
    refine XS.aloadN X6.here hexec rfl (hb hbytes d57) rfl rfl ?_
    exact Steps.refl _)
  have X8 := X6.wide (L' := []) (cells' := 1) (slots' := len) (fun x hx hlt => by
    simp only [List.nil_append, copyLocs, List.mem_map, List.mem_range] at hx
    obtain ⟨i, -, rfl⟩ := hx
    exact absurd hlt (Nat.lt_irrefl _)) (Nat.le_refl _) (by omega)
  exact ⟨T6, some (.ref s.heap.size), _, _, _, X8, rfl, rfl, rfl, (fun h => by cases h), ⟨⟨rfl, B6, ba3.like (X3.warmed.alike.symm.trans X6.warmed.alike) p6.1 f6.1 f6.2.1 f6.2.2.1, f6.2.1.trans bv3, by rw [X6.warmed.alike.findClass, f6.1]; exact bf3, by rw [f6.2.2.1, bs3]; simp, fun j hj => by rw [f6.2.2.2 j, if_pos (by omega)]; rfl, kp3.put p6 (Nat.le_refl _)⟩, by rw [p6.2.2, bh3, hh0]; simp⟩, fun fs hl => c8.trans (X8.areturnOut hexec rfl hret rfl (hb hbytes d58) hl)⟩
end Cmp3
namespace CodL
def yN : MethodName := ⟨"java/lang/StringUTF16", "coderFromArrayLen", "([BI)B"⟩
abbrev yB : ByteArray := jdk_52_method_15_code
theorem d0 : decode yB 0 = .ok (.iload_n 1, 1) := by decide +kernel
theorem d1 : decode yB 1 = .ok (.aload_n 0, 1) := by decide +kernel
theorem d2 : decode yB 2 = .ok (.arraylength, 1) := by decide +kernel
theorem d3 : decode yB 3 = .ok (.isub, 1) := by decide +kernel
theorem d4 : decode yB 4 = .ok (.bipush 31, 2) := by decide +kernel
theorem d6 : decode yB 6 = .ok (.iushr, 1) := by decide +kernel
theorem d7 : decode yB 7 = .ok (.i2b, 1) := by decide +kernel
theorem d8 : decode yB 8 = .ok (.ireturn, 1) := by decide +kernel
def site : List Cond := []
def tab : Cond := tabOf yN yB 2 (some .byte) site
def P (d : Addr) (B : Cell) (args : Array Value) (s : State) : Prop := args = #[.ref d, .int (Int32.ofNat B.slots.size)] ∧ Arr .byte d B s
def E (r : Option Value) (s u : State) : Prop := XT.PureE (some (.int 0)) r s u
/-- an array as long as the number of chars: LATIN1 -/
theorem law (l : Launch) (d : Addr) (B : Cell) : Law l yN 2 2 0 0 yB 2 (some .byte) site (P d B) E [] 0 0 := by
  refine Law.of_walk (plainFor_of_name (by decide +kernel)) (by decide +kernel) (by decide +kernel) (by decide) (fun _ _ h => by rw [h.1]; rfl) (fun _ U U' hal hh h => ⟨h.1, h.2.mv hal hh⟩) (fun r U U' V V' h1 hal h2 h => XT.PureE.mv r U U' V V' h1 hal h2 h) ?_
  intro p e s m args below meth c s₁ X0 hexec hbytes hml hret hlk hnm hown hh0 W hP
  obtain ⟨rfl, hB⟩ := hP
  have hB0 := hB.mv X0.warmed.alike hh0
  have c1 : Steps p.tables e below (s₁.setTop (entryFrame m #[.ref d, .int (Int32.ofNat B.slots.size)] 2)) (s₁.setTop (mkF m 0 #[.val (.ref d), .val (.int (Int32.ofNat B.slots.size))] [])) := entry rfl
  have c2 : Steps p.tables e below (s₁.setTop (entryFrame m #[.ref d, .int (Int32.ofNat B.slots.size)] 2)) (s₁.setTop (mkF m 2 #[.val (.ref d), .val (.int (Int32.ofNat B.slots.size))] [.ref d, .int (Int32.ofNat B.slots.size)])) := c1.trans (by
    refine XS.iloadN X0.here hexec rfl (hb hbytes d0) rfl ?_
    refine XS.aloadN X0.here hexec rfl (hb hbytes d1) rfl rfl ?_
    exact Steps.refl _)
  have c3 : Steps p.tables e below (s₁.setTop (entryFrame m #[.ref d, .int (Int32.ofNat B.slots.size)] 2)) (s₁.setTop (mkF m 8 #[.val (.ref d), .val (.int (Int32.ofNat B.slots.size))] [.int (lo8 (ushr (Int32.ofNat B.slots.size - Int32.ofNat B.slots.size) 31))])) := c2.trans (by
    refine X0.alen hexec hB0 rfl rfl (hb hbytes d2) ?_
    refine XS.isub X0.here hexec rfl (hb hbytes d3) rfl ?_
    refine bipushV X0.here hexec rfl 31 (hb hbytes d4) (by decide) ?_
    refine iushr X0.here hexec rfl (hb hbytes d6) rfl ?_
    refine i2b X0.here hexec rfl (hb hbytes d7) rfl ?_
    exact Steps.refl _)
  have e0 : lo8 (ushr (Int32.ofNat B.slots.size - Int32.ofNat B.slots.size) 31) = 0 := by rw [Int32.sub_self]; decide
  rw [e0] at c3
  exact ⟨s₁, some (.int 0), _, _, _, X0, rfl, rfl, rfl, (fun h => by cases h), ⟨rfl, hh0⟩, fun fs hl => c3.trans (X0.ireturnOut hexec hret rfl (Or.inr (Or.inr (Or.inl rfl))) (hb hbytes d8) hl)⟩
end CodL
/-- the String at a is Latin-1 over a new byte[] (the heap's one new cell): the low bytes of the len chars of A from o on; every cell but a is kept -/
def Got (a : Addr) (D : Cell) (fV fC : Field) (A : Cell) (o len : Nat) (r : Option Value) (s u : State) : Prop := r = none ∧ ∃ D' V : Cell, Blank "java/lang/String" a D' u ∧ Same D D' [fV.slot, fC.slot] ∧ D'.slots[fV.slot]? = some (.ref s.heap.size) ∧ D'.slots[fC.slot]? = some (.int 0) ∧ Arr .byte s.heap.size V u ∧ V.vm = .none ∧ u.vm.findClass "[B" = some V.cls ∧ V.slots.size = len ∧ (∀ j, j < len → V.slots[j]? = some (.int (lo8 (cv A (o + j))))) ∧ (∀ (y : Addr) (c : Cell), y ≠ a → s.heap[y]? = some c → u.heap[y]? = some c) ∧ u.heap.size = s.heap.size + 1
theorem Got.mv {a : Addr} {D A : Cell} {fV fC : Field} {o len : Nat} : ∀ r (U U' V V' : State), U'.heap = U.heap → V.vm.Alike V'.vm → V'.heap = V.heap → Got a D fV fC A o len r U V → Got a D fV fC A o len r U' V' :=
  fun r U U' V V' h1 hal h2 ⟨e0, D', X, a1, a2, a3, a4, a5, a6, a7, a8, a9, a10, a11⟩ => ⟨e0, D', X, a1.mv hal h2, a2, by rw [h1]; exact a3, a4, by rw [h1]; exact a5.mv hal h2, a6, by rw [hal.findClass]; exact a7, a8, a9, by rw [h1, h2]; exact a10, by rw [h1, h2]; exact a11⟩
namespace New4
def yN : MethodName := ⟨"java/lang/String", "<init>", "([CIILjava/lang/Void;)V"⟩
abbrev yB : ByteArray := jdk_42_method_149_code
theorem d0 : decode yB 0 = .ok (.aload_n 0, 1) := by decide +kernel
theorem d1 : decode yB 1 = .ok (.invokespecial 1, 3) := by decide +kernel
theorem d4 : decode yB 4 = .ok (.iload_n 3, 1) := by decide +kernel
theorem d5 : decode yB 5 = .ok (.ifCond (.ne) 22, 3) := by decide +kernel
theorem d27 : decode yB 27 = .ok (.getstatic 38, 3) := by decide +kernel
theorem d30 : decode yB 30 = .ok (.ifCond (.eq) 28, 3) := by decide +kernel
theorem d33 : decode yB 33 = .ok (.aload_n 1, 1) := by decide +kernel
theorem d34 : decode yB 34 = .ok (.iload_n 2, 1) := by decide +kernel
theorem d35 : decode yB 35 = .ok (.iload_n 3, 1) := by decide +kernel
theorem d36 : decode yB 36 = .ok (.invokestatic 177, 3) := by decide +kernel
theorem d39 : decode yB 39 = .ok (.astore 5, 2) := by decide +kernel
theorem d41 : decode yB 41 = .ok (.aload_n 0, 1) := by decide +kernel
theorem d42 : decode yB 42 = .ok (.aload 5, 2) := by decide +kernel
theorem d44 : decode yB 44 = .ok (.iload_n 3, 1) := by decide +kernel
theorem d45 : decode yB 45 = .ok (.invokestatic 47, 3) := by decide +kernel
theorem d48 : decode yB 48 = .ok (.putfield 15, 3) := by decide +kernel
theorem d51 : decode yB 51 = .ok (.aload_n 0, 1) := by decide +kernel
theorem d52 : decode yB 52 = .ok (.aload 5, 2) := by decide +kernel
theorem d54 : decode yB 54 = .ok (.putfield 9, 3) := by decide +kernel
theorem d57 : decode yB 57 = .ok (.return_, 1) := by decide +kernel
def site : List Cond := [.fieldLink "java/lang/String" 38 "java/lang/String" "COMPACT_STRINGS" "Z", Cmp3.tab, CodL.tab, .laysFinal "java/lang/String" "java/lang/String" "value" "[B", .fieldLink "java/lang/String" 9 "java/lang/String" "value" "[B", .laysFinal "java/lang/String" "java/lang/String" "coder" "B", .fieldLink "java/lang/String" 15 "java/lang/String" "coder" "B"] ++ objW "java/lang/String" 1 ++ staticW "java/lang/String" 177 Cmp3.yN ++ staticW "java/lang/String" 47 CodL.yN
def tab : Cond := tabOf yN yB 6 none site
def P (a : Addr) (D : Cell) (fV fC : Field) (b : Addr) (A : Cell) (z : Int32) (o len : Nat) (args : Array Value) (s : State) : Prop := args = #[.ref a, .ref b, .int (Int32.ofNat o), .int (Int32.ofNat len), .null] ∧ Blank "java/lang/String" a D s ∧ Found "java/lang/String" "value" "[B" fV s ∧ Found "java/lang/String" "coder" "B" fC s ∧ Ch b A s ∧ StaticIs s "java/lang/String" "COMPACT_STRINGS" "Z" (.int z) ∧ ¬ z = 0 ∧ 0 < len ∧ o + len ≤ A.slots.size ∧ len ≤ 536870912 ∧ ∀ i, i < len → ¬ 255 < cv A (o + i)
def E (a : Addr) (D : Cell) (fV fC : Field) (A : Cell) (o len : Nat) (r : Option Value) (s u : State) : Prop := Got a D fV fC A o len r s u
/-- len > 0, no char of the range above 255: a Latin-1 String of their low bytes -/
theorem law (l : Launch) (a : Addr) (D : Cell) (fV fC : Field) (b : Addr) (A : Cell) (z : Int32) (o len : Nat) : Law l yN 5 4 2 35 yB 6 none site (P a D fV fC b A z o len) (E a D fV fC A o len) [⟨a, fC.slot⟩, ⟨a, fV.slot⟩] 1 len := by
  refine Law.of_walk (plainFor_of_name (by decide +kernel)) (by decide +kernel) (by decide +kernel) (by decide) (fun _ _ h => by rw [h.1]; rfl) (fun _ U U' hal hh h => ⟨h.1, h.2.1.mv hal hh, h.2.2.1.al hal, h.2.2.2.1.al hal, h.2.2.2.2.1.mv hal hh, h.2.2.2.2.2.1.there hal hh, h.2.2.2.2.2.2⟩) (fun r U U' V V' h1 hal h2 h => Got.mv r U U' V V' h1 hal h2 h) ?_
  intro p e s m args below meth c s₁ X0 hexec hbytes hml hret hlk hnm hown hh0 W hP
  obtain ⟨rfl, hB, f1, f2, hA, s1, hz, l0, l1, l2, hp⟩ := hP
  have a31 := hA.1.2.2.2
  have c1 : Steps p.tables e below (s₁.setTop (entryFrame m #[.ref a, .ref b, .int (Int32.ofNat o), .int (Int32.ofNat len), .null] 6)) (s₁.setTop (mkF m 0 #[.val (.ref a), .val (.ref b), .val (.int (Int32.ofNat o)), .val (.int (Int32.ofNat len)), .val .null, .unset] [])) := entry rfl
  have c2 : Steps p.tables e below (s₁.setTop (entryFrame m #[.ref a, .ref b, .int (Int32.ofNat o), .int (Int32.ofNat len), .null] 6)) (s₁.setTop (mkF m 1 #[.val (.ref a), .val (.ref b), .val (.int (Int32.ofNat o)), .val (.int (Int32.ofNat len)), .val .null, .unset] [.ref a])) := c1.trans (by
    refine XS.aloadN X0.here hexec rfl (hb hbytes d0) rfl rfl ?_
    exact Steps.refl _)
  obtain ⟨T3, X3, q3, st3⟩ := X0.oinit hexec hown (wks W (objW "java/lang/String" 1)) (g := (mkF m 1 #[.val (.ref a), .val (.ref b), .val (.int (Int32.ofNat o)), .val (.int (Int32.ofNat len)), .val .null, .unset] [.ref a])) rfl (by rw [hml]; rfl) (rest := []) rfl (hb hbytes d1) (W := 0) (by show 2 * 0 + 0 ≤ _; decide) (Nat.le_of_ble_eq_true rfl) (Nat.le_of_ble_eq_true rfl)
  have hh3 := q3.trans hh0
  have c4 : Steps p.tables e below (s₁.setTop (entryFrame m #[.ref a, .ref b, .int (Int32.ofNat o), .int (Int32.ofNat len), .null] 6)) (T3.setTop (mkF m 27 #[.val (.ref a), .val (.ref b), .val (.int (Int32.ofNat o)), .val (.int (Int32.ofNat len)), .val .null, .unset] [])) := (c2.trans (st3 _ (Steps.refl _))).trans (by
    refine XS.iloadN X3.here hexec rfl (hb hbytes d4) rfl ?_
    refine XS.ifYes X3.here hexec rfl (pc0 := 5) rfl (hb hbytes d5) rfl (i0_ne_t (nz32 (by omega) l0)) (by decide) rfl ?_
    exact Steps.refl _)
  obtain ⟨T5, X5, q5, st5⟩ := X3.sget hexec hown (wk W (.fieldLink "java/lang/String" 38 "java/lang/String" "COMPACT_STRINGS" "Z")) s1 (fun _ _ h => by rw [hh3]; exact h) (g := (mkF m 27 #[.val (.ref a), .val (.ref b), .val (.int (Int32.ofNat o)), .val (.int (Int32.ofNat len)), .val .null, .unset] [])) rfl (hb hbytes d27)
  have hh5 := q5.trans hh3
  have c6 : Steps p.tables e below (s₁.setTop (entryFrame m #[.ref a, .ref b, .int (Int32.ofNat o), .int (Int32.ofNat len), .null] 6)) (T5.setTop (mkF m 30 #[.val (.ref a), .val (.ref b), .val (.int (Int32.ofNat o)), .val (.int (Int32.ofNat len)), .val .null, .unset] [.int z])) := c4.trans (st5 _ (Steps.refl _))
  have c7 : Steps p.tables e below (s₁.setTop (entryFrame m #[.ref a, .ref b, .int (Int32.ofNat o), .int (Int32.ofNat len), .null] 6)) (T5.setTop (mkF m 36 #[.val (.ref a), .val (.ref b), .val (.int (Int32.ofNat o)), .val (.int (Int32.ofNat len)), .val .null, .unset] [.int (Int32.ofNat len), .int (Int32.ofNat o), .ref b])) := c6.trans (by
    refine XS.ifNo X5.here hexec rfl (hb hbytes d30) rfl (i0_eq_f hz) ?_
    refine XS.aloadN X5.here hexec rfl (hb hbytes d33) rfl rfl ?_
    refine XS.iloadN X5.here hexec rfl (hb hbytes d34) rfl ?_
    refine XS.iloadN X5.here hexec rfl (hb hbytes d35) rfl ?_
    exact Steps.refl _)
  obtain ⟨v8, T8, X8, E8, g8⟩ := X5.callS hexec (Cmp3.law l b A o len) hown (wks W (staticW "java/lang/String" 177 Cmp3.yN)) (wk W Cmp3.tab) (W := 0) (Nat.le_of_ble_eq_true rfl) (Nat.le_of_ble_eq_true rfl) (Nat.le_refl _) (by show 0 + len ≤ len; omega) (g := (mkF m 36 #[.val (.ref a), .val (.ref b), .val (.int (Int32.ofNat o)), .val (.int (Int32.ofNat len)), .val .null, .unset] [.int (Int32.ofNat len), .int (Int32.ofNat o), .ref b])) rfl (by rw [hml]; rfl) c7 (argsL := [.ref b, .int (Int32.ofNat o), .int (Int32.ofNat len)]) (rest := []) rfl rfl (by show 2 * 0 + 0 ≤ _; decide) (hb hbytes d36) (⟨rfl, hA.mv X5.warmed.alike hh5, l1, l2, hp⟩)
  obtain ⟨e8, z8⟩ := E8
  obtain ⟨rfl, N, n1, n2, n3, n4, n5, n6⟩ := NewArr.mv _ T5 s _ _ hh5.symm (Vm.Alike.refl _) rfl e8
  rw [hh5] at z8
  have hB1 := hB.keep X8.warmed.alike (n6 _ _ hB.1)
  have hne : s.heap.size ≠ a := (Nat.ne_of_lt (Array.getElem?_eq_some_iff.mp hB.1).1).symm
  have c9 : Steps p.tables e below (s₁.setTop (entryFrame m #[.ref a, .ref b, .int (Int32.ofNat o), .int (Int32.ofNat len), .null] 6)) (T8.setTop (mkF m 39 #[.val (.ref a), .val (.ref b), .val (.int (Int32.ofNat o)), .val (.int (Int32.ofNat len)), .val .null, .unset] [.ref s.heap.size])) := g8
  have c10 : Steps p.tables e below (s₁.setTop (entryFrame m #[.ref a, .ref b, .int (Int32.ofNat o), .int (Int32.ofNat len), .null] 6)) (T8.setTop (mkF m 45 #[.val (.ref a), .val (.ref b), .val (.int (Int32.ofNat o)), .val (.int (Int32.ofNat len)), .val .null, .val (.ref s.heap.size)] [.int (Int32.ofNat N.slots.size), .ref s.heap.size, .ref a])) := by
    have hc : Steps p.tables e below (s₁.setTop (entryFrame m #[.ref a, .ref b, .int (Int32.ofNat o), .int (Int32.ofNat len), .null] 6)) (T8.setTop (mkF m 45 #[.val (.ref a), .val (.ref b), .val (.int (Int32.ofNat o)), .val (.int (Int32.ofNat len)), .val .null, .val (.ref s.heap.size)] [.int (Int32.ofNat len), .ref s.heap.size, .ref a])) := c9.trans (by
      refine XS.astore X8.here hexec rfl (hb hbytes d39) rfl rfl rfl ?_
      refine XS.aloadN X8.here hexec rfl (hb hbytes d41) rfl rfl ?_
      refine XS.aload X8.here hexec rfl (hb hbytes d42) rfl rfl ?_
      refine XS.iloadN X8.here hexec rfl (hb hbytes d44) rfl ?_
      exact Steps.refl _)
    rw [n4]; exact hc
  obtain ⟨v11, T11, X11, E11, g11⟩ := X8.callS hexec (CodL.law l s.heap.size N) hown (wks W (staticW "java/lang/String" 47 CodL.yN)) (wk W CodL.tab) (W := 1) (Nat.le_of_ble_eq_true rfl) (Nat.le_of_ble_eq_true rfl) (Nat.le_refl _) (by show 0 + len + 0 ≤ len; omega) (g := (mkF m 45 #[.val (.ref a), .val (.ref b), .val (.int (Int32.ofNat o)), .val (.int (Int32.ofNat len)), .val .null, .val (.ref s.heap.size)] [.int (Int32.ofNat N.slots.size), .ref s.heap.size, .ref a])) rfl (by rw [hml]; rfl) c10 (argsL := [.ref s.heap.size, .int (Int32.ofNat N.slots.size)]) (rest := [.ref a]) rfl rfl (by show 2 * 0 + (1 + 0) ≤ _; decide) (hb hbytes d45) (⟨rfl, n1⟩)
  obtain ⟨rfl, q11⟩ := E11
  have hB11 := hB1.mv (X8.warmed.alike.symm.trans X11.warmed.alike) q11
  have c12 : Steps p.tables e below (s₁.setTop (entryFrame m #[.ref a, .ref b, .int (Int32.ofNat o), .int (Int32.ofNat len), .null] 6)) (T11.setTop (mkF m 48 #[.val (.ref a), .val (.ref b), .val (.int (Int32.ofNat o)), .val (.int (Int32.ofNat len)), .val .null, .val (.ref s.heap.size)] [.int 0, .ref a])) := g11
  obtain ⟨T13, X13, p13, bl13, sl13, st13⟩ := X11.finit hexec hown (wk W (.fieldLink "java/lang/String" 15 "java/lang/String" "coder" "B")) (Or.inr ⟨_, (wk W (.laysFinal "java/lang/String" "java/lang/String" "coder" "B"))⟩) (Or.inl ⟨rfl, hnm⟩) f2 (Or.inl rfl) hB11 (t := .byte) (by decide +kernel) rfl (g := (mkF m 48 #[.val (.ref a), .val (.ref b), .val (.int (Int32.ofNat o)), .val (.int (Int32.ofNat len)), .val .null, .val (.ref s.heap.size)] [.int 0, .ref a])) rfl (rest := []) rfl (hb hbytes d48)
  have c14 : Steps p.tables e below (s₁.setTop (entryFrame m #[.ref a, .ref b, .int (Int32.ofNat o), .int (Int32.ofNat len), .null] 6)) (T13.setTop (mkF m 54 #[.val (.ref a), .val (.ref b), .val (.int (Int32.ofNat o)), .val (.int (Int32.ofNat len)), .val .null, .val (.ref s.heap.size)] [.ref s.heap.size, .ref a])) := (c12.trans (st13 _ (Steps.refl _))).trans (by
    refine XS.aloadN X13.here hexec rfl (hb hbytes d51) rfl rfl ?_
    refine XS.aload X13.here hexec rfl (hb hbytes d52) rfl rfl ?_
    exact Steps.refl _)
  obtain ⟨T15, X15, p15, bl15, sl15, st15⟩ := X13.finit hexec hown (wk W (.fieldLink "java/lang/String" 9 "java/lang/String" "value" "[B")) (Or.inr ⟨_, (wk W (.laysFinal "java/lang/String" "java/lang/String" "value" "[B"))⟩) (Or.inl ⟨rfl, hnm⟩) f1 (Or.inl rfl) bl13 (t := (.array .byte)) (by decide +kernel) rfl (g := (mkF m 54 #[.val (.ref a), .val (.ref b), .val (.int (Int32.ofNat o)), .val (.int (Int32.ofNat len)), .val .null, .val (.ref s.heap.size)] [.ref s.heap.size, .ref a])) rfl (rest := []) rfl (hb hbytes d54)
  have c16 : Steps p.tables e below (s₁.setTop (entryFrame m #[.ref a, .ref b, .int (Int32.ofNat o), .int (Int32.ofNat len), .null] 6)) (T15.setTop (mkF m 57 #[.val (.ref a), .val (.ref b), .val (.int (Int32.ofNat o)), .val (.int (Int32.ofNat len)), .val .null, .val (.ref s.heap.size)] [])) := c14.trans (st15 _ (Steps.refl _))
  have ap := apart (Or.inr ⟨_, (wk W (.laysFinal "java/lang/String" "java/lang/String" "value" "[B"))⟩) (Or.inr ⟨_, (wk W (.laysFinal "java/lang/String" "java/lang/String" "coder" "B"))⟩) f1 f2 (t₁ := .array .byte) (t₂ := .byte) (by decide +kernel) (by decide +kernel) (by decide)
  have al := X8.warmed.alike.symm.trans X15.warmed.alike
  have n7 : T11.heap[s.heap.size]? = some N := by rw [q11]; exact n1.1
  exact ⟨T15, none, _, _, _, X15, by simp, rfl, by omega, (fun _ => rfl), ⟨rfl, _, N, bl15, ((Same.refl D _).set _ (by simp)).set _ (by simp), sl15, (Cell.slots_setSlot_ne _ ap).trans sl13, n1.keep al (p15.other hne (p13.other hne n7)), n2, by rw [al.findClass]; exact n3, n4, n5, fun y c h1 h2 => p15.other h1 (p13.other h1 (by rw [q11]; exact n6 y c h2)), by rw [p15.2.2, p13.2.2, q11]; exact z8⟩, fun fs hl => c16.trans (X15.returnOut hexec hret (hb hbytes d57) hl)⟩
end New4
namespace New1
def yN : MethodName := ⟨"java/lang/String", "<init>", "([C)V"⟩
abbrev yB : ByteArray := jdk_42_method_3_code
theorem d0 : decode yB 0 = .ok (.aload_n 0, 1) := by decide +kernel
theorem d1 : decode yB 1 = .ok (.aload_n 1, 1) := by decide +kernel
theorem d2 : decode yB 2 = .ok (.iconst 0, 1) := by decide +kernel
theorem d3 : decode yB 3 = .ok (.aload_n 1, 1) := by decide +kernel
theorem d4 : decode yB 4 = .ok (.arraylength, 1) := by decide +kernel
theorem d5 : decode yB 5 = .ok (.aconst_null, 1) := by decide +kernel
theorem d6 : decode yB 6 = .ok (.invokespecial 27, 3) := by decide +kernel
theorem d9 : decode yB 9 = .ok (.return_, 1) := by decide +kernel
def site : List Cond := [New4.tab] ++ initW "java/lang/String" 27 New4.yN
def tab : Cond := tabOf yN yB 2 none site
def P (a : Addr) (D : Cell) (fV fC : Field) (b : Addr) (A : Cell) (z : Int32) (args : Array Value) (s : State) : Prop := args = #[.ref a, .ref b] ∧ Blank "java/lang/String" a D s ∧ Found "java/lang/String" "value" "[B" fV s ∧ Found "java/lang/String" "coder" "B" fC s ∧ Ch b A s ∧ StaticIs s "java/lang/String" "COMPACT_STRINGS" "Z" (.int z) ∧ ¬ z = 0 ∧ 0 < A.slots.size ∧ A.slots.size ≤ 536870912 ∧ ∀ i, i < A.slots.size → ¬ 255 < cv A i
def E (a : Addr) (D : Cell) (fV fC : Field) (A : Cell) (r : Option Value) (s u : State) : Prop := Got a D fV fC A 0 A.slots.size r s u
/-- new String(chars), not empty, no char above 255: a Latin-1 String of their low bytes -/
theorem law (l : Launch) (a : Addr) (D : Cell) (fV fC : Field) (b : Addr) (A : Cell) (z : Int32) : Law l yN 2 1 3 52 yB 2 none site (P a D fV fC b A z) (E a D fV fC A) [⟨a, fC.slot⟩, ⟨a, fV.slot⟩] 1 A.slots.size := by
  refine Law.of_walk (plainFor_of_name (by decide +kernel)) (by decide +kernel) (by decide +kernel) (by decide) (fun _ _ h => by rw [h.1]; rfl) (fun _ U U' hal hh h => ⟨h.1, h.2.1.mv hal hh, h.2.2.1.al hal, h.2.2.2.1.al hal, h.2.2.2.2.1.mv hal hh, h.2.2.2.2.2.1.there hal hh, h.2.2.2.2.2.2⟩) (fun r U U' V V' h1 hal h2 h => Got.mv r U U' V V' h1 hal h2 h) ?_
  intro p e s m args below meth c s₁ X0 hexec hbytes hml hret hlk hnm hown hh0 W hP
  obtain ⟨rfl, hB, f1, f2, hA, s1, hz, l0, l2, hp⟩ := hP
  have c1 : Steps p.tables e below (s₁.setTop (entryFrame m #[.ref a, .ref b] 2)) (s₁.setTop (mkF m 0 #[.val (.ref a), .val (.ref b)] [])) := entry rfl
  have c2 : Steps p.tables e below (s₁.setTop (entryFrame m #[.ref a, .ref b] 2)) (s₁.setTop (mkF m 6 #[.val (.ref a), .val (.ref b)] [.null, .int (Int32.ofNat A.slots.size), .int 0, .ref b, .ref a])) := c1.trans (by
    refine XS.aloadN X0.here hexec rfl (hb hbytes d0) rfl rfl ?_
    refine XS.aloadN X0.here hexec rfl (hb hbytes d1) rfl rfl ?_
    refine iconstV X0.here hexec rfl 0 (hb hbytes d2) (by decide) ?_
    refine XS.aloadN X0.here hexec rfl (hb hbytes d3) rfl rfl ?_
    refine X0.alen hexec (hA.1.mv X0.warmed.alike hh0) rfl rfl (hb hbytes d4) ?_
    refine XS.aconstNull X0.here hexec rfl (hb hbytes d5) ?_
    exact Steps.refl _)
  obtain ⟨v3, T3, X3, E3, g3⟩ := X0.callN hexec (New4.law l a D fV fC b A z 0 A.slots.size) rfl hown (wks W (initW "java/lang/String" 27 New4.yN)) (W New4.tab (by simp only [site, List.mem_cons, List.mem_append, true_or, or_true])) (W := 0) (Nat.le_of_ble_eq_true rfl) (Nat.le_of_ble_eq_true rfl) (Nat.le_refl _) (by show 0 + A.slots.size ≤ A.slots.size; omega) (g := (mkF m 6 #[.val (.ref a), .val (.ref b)] [.null, .int (Int32.ofNat A.slots.size), .int (Int32.ofNat 0), .ref b, .ref a])) rfl (by rw [hml]; rfl) c2 (argsL := [.ref b, .int (Int32.ofNat 0), .int (Int32.ofNat A.slots.size), .null]) (rest := []) rfl rfl (by show 2 * 0 + 0 ≤ _; decide) (hb hbytes d6) (⟨rfl, hB.mv X0.warmed.alike hh0, f1.al X0.warmed.alike, f2.al X0.warmed.alike, hA.mv X0.warmed.alike hh0, s1.there X0.warmed.alike hh0, hz, l0, by omega, l2, fun i hi => by rw [Nat.zero_add]; exact hp i hi⟩)
  have e0 := Got.mv _ s₁ s _ _ hh0.symm (Vm.Alike.refl _) rfl E3
  obtain rfl := e0.1
  have c4 : Steps p.tables e below (s₁.setTop (entryFrame m #[.ref a, .ref b] 2)) (T3.setTop (mkF m 9 #[.val (.ref a), .val (.ref b)] [])) := g3
  exact ⟨T3, none, _, _, _, X3, by simp, rfl, by omega, (fun _ => rfl), e0, fun fs hl => c4.trans (X3.returnOut hexec hret (hb hbytes d9) hl)⟩
theorem pays {l : Launch} {R : Room} {p : Program} {e : Env} {below : List Frame} {s : State} {sargs : Array Value} {len W : Nat} (a : Addr) (D : Cell) (fV fC : Field) (b : Addr) (A : Cell) (z : Int32) (htab : tab.before sargs s = true) (hfr : 4 ≤ R.frames) (hlo : W + 65 ≤ R.locals) :
    Back l R p e below s sargs yN len W (fun A₁ a₁ => A₁.cells + 1 ≤ R.cells ∧ A₁.slots + A.slots.size ≤ R.slots ∧ P a D fV fC b A z a₁ A₁.U) (fun A₁ _ v₁ B₁ => E a D fV fC A v₁ A₁.U B₁.U ∧ B₁.locs = A₁.locs ++ [⟨a, fC.slot⟩, ⟨a, fV.slot⟩] ∧ B₁.cells = A₁.cells + 1 ∧ B₁.slots = A₁.slots + A.slots.size) :=
  (law l a D fV fC b A z).pays htab hfr (by omega)
end New1
end StrChars
namespace StrChars.Road
open Jvm Sem ClassFile Op Lib Jvm.Stand Jvm.Free Jvm.Free.XT
open Jvm.Lib.Cold (StaticIs)
abbrev ST : String := "java/lang/String"
/-- every table word that New1's law asks, flat -/
abbrev words : List Jvm.Cond := [.code New1.yN New1.yB 2 none, .initialized ST, .methodLink ST 27 New4.yN, .instanceMethod New4.yN,
  .code New4.yN New4.yB 6 none, .fieldLink ST 38 ST "COMPACT_STRINGS" "Z", .laysFinal ST ST "value" "[B", .fieldLink ST 9 ST "value" "[B", .laysFinal ST ST "coder" "B", .fieldLink ST 15 ST "coder" "B",
  .methodLink ST 1 Lib.objectInit, .instanceMethod Lib.objectInit, .code Lib.objectInit ⟨#[0xb1]⟩ 1 none, .methodLink ST 177 Cmp3.yN, .static Cmp3.yN, .methodLink ST 47 CodL.yN, .static CodL.yN,
  .code Cmp3.yN Cmp3.yB 6 (some (.array .byte)), .initialized U16, .arrayClass .byte, .methodLink U16 115 Cmp5.yN, .static Cmp5.yN, .code Cmp5.yN Cmp5.yB 7 (some .int), .code CodL.yN CodL.yB 2 (some .byte)]
theorem tab_of {a : Array Value} {s : State} (h : ∀ w ∈ words, w.before a s = true) : New1.tab.before a s = true := by
  have h5 : Cmp5.tab.before a s = true := unparts (wk h (.code Cmp5.yN Cmp5.yB 7 (some .int))) (wks h (.initialized Cmp5.yN.cls :: Cmp5.site))
  have hc : CodL.tab.before a s = true := unparts (wk h (.code CodL.yN CodL.yB 2 (some .byte))) (wks h (.initialized CodL.yN.cls :: CodL.site))
  have q5 : ∀ w ∈ Cmp5.tab :: words, w.before a s = true := fun w hw => (List.mem_cons.mp hw).elim (fun e => e ▸ h5) (h w)
  have h3 : Cmp3.tab.before a s = true := unparts (wk q5 (.code Cmp3.yN Cmp3.yB 6 (some (.array .byte)))) (wks q5 (.initialized Cmp3.yN.cls :: Cmp3.site))
  have q3 : ∀ w ∈ Cmp3.tab :: CodL.tab :: words, w.before a s = true := fun w hw => (List.mem_cons.mp hw).elim (fun e => e ▸ h3) fun hw => (List.mem_cons.mp hw).elim (fun e => e ▸ hc) (h w)
  have h4 : New4.tab.before a s = true := unparts (wk q3 (.code New4.yN New4.yB 6 none)) (wks q3 (.initialized New4.yN.cls :: New4.site))
  have q4 : ∀ w ∈ New4.tab :: words, w.before a s = true := fun w hw => (List.mem_cons.mp hw).elim (fun e => e ▸ h4) (h w)
  exact unparts (wk q4 (.code New1.yN New1.yB 2 none)) (wks q4 (.initialized New1.yN.cls :: New1.site))
/-- the words ride from the start Z to the walk's own state -/
theorem moved {Z s : State} {a0 args : Array Value} (hZ : Z.Warmed39 s.vm) (hw : ∀ d ∈ words, d.before a0 Z = true) : ∀ d ∈ words, d.before args s = true := fun d hd => by
  have q := hw d hd
  have t : ∀ d ∈ words, d = .arrayClass .byte ∨ (d.onTables && d.keepsFace) = true := by decide +kernel
  rcases t d hd with rfl | t
  · exact RoadKit.mvA hZ q
  · exact RoadKit.mv hZ q t
/-- WHAT COMES BACK, over the tables of the start Z: h the heap at the call, h' behind it -/
def Q (Z : State) (x : Addr) (A : Cell) (h : Heap) (v : Option Value) (h' : Heap) (L : List Loc) : Prop := v = none ∧ (∀ y ∈ L, y.base = x) ∧ RoadKit.Keep h h' [x] ∧ h'.size = h.size + 1 ∧ RoadKit.Exa Z h' x ST ∧ RoadKit.Fld Z h' x ST "value" "[B" (.ref h.size) ∧ RoadKit.Fld Z h' x ST "coder" "B" (.int 0) ∧
  (∃ V : Cell, RoadKit.Arr Z h' h.size V .byte ∧ V.vm = .none ∧ Z.vm.findClass "[B" = some V.cls ∧ V.slots.size = A.slots.size ∧ ∀ j, j < A.slots.size → V.slots[j]? = some (.int (lo8 (cv A j)))) ∧
  ∀ (O n d : String) (w : Value), RoadKit.Fld Z h x O n d w → RoadKit.slotOf Z O n d ≠ RoadKit.slotOf Z ST "value" "[B" → RoadKit.slotOf Z O n d ≠ RoadKit.slotOf Z ST "coder" "B" → RoadKit.Fld Z h' x O n d w
/-- **new String(chars) AT A CALL, IN THE ROAD'S FORM**: for specialBack behind newO: x the fresh String, b the char[] with the cell A -/
theorem back {p : Program} {l : Launch} {e : Env} {R : Room} {s : State} {args : Array Value} {below : List Frame} {len W : Nat} {Z : State} {a0 : Array Value} {h : Heap} (hZ : Z.Warmed39 s.vm) (hw : ∀ d ∈ words, d.before a0 Z = true) {kI : Nat} (wi : (Jvm.Cond.instantiable ST kI).before a0 Z = true)
    {x b : Addr} {A : Cell} {z : Int32} {v0 c0 : Value} (E : RoadKit.Exa Z h x ST) (V : RoadKit.Fld Z h x ST "value" "[B" v0) (C : RoadKit.Fld Z h x ST "coder" "B" c0) (K : RoadKit.Arr Z h b A .char) (hty : Typed .char A) (S : RoadKit.Sta Z h ST "COMPACT_STRINGS" "Z" (.int z)) (hz : ¬ z = 0)
    (l0 : 0 < A.slots.size) (l2 : A.slots.size ≤ 536870912) (hp : ∀ i, i < A.slots.size → ¬ 255 < cv A i) (hfr : 4 ≤ R.frames) (hlo : W + 65 ≤ R.locals) :
    Back l R p e below s args New1.yN len W (fun P a => a = #[.ref x, .ref b] ∧ P.U.heap = h ∧ P.cells + 1 ≤ R.cells ∧ P.slots + A.slots.size ≤ R.slots)
      (fun P _ v B => ∃ L, Q Z x A h v B.U.heap L ∧ B.locs = P.locs ++ L ∧ B.cells = P.cells + 1 ∧ B.slots = P.slots + A.slots.size) := by
  intro m meth c P g ig mk a X hg hsize hdg hW hn hp'
  obtain ⟨rfl, rfl, r1, r2⟩ := hp'
  have al : Z.vm.Alike P.U.vm := hZ.alike.trans X.warmed.alike
  obtain ⟨D, cfV, kV, iV, fV, hD, gV, stV, knV, obV, asV, slV⟩ := id V
  obtain ⟨D', cfC, kC, iC, fC, hD', gC, stC, -, -, asC, slC⟩ := id C
  cases hD.symm.trans hD'
  obtain ⟨D2, kD, e1, e2, e3, e4, e5⟩ := id E
  cases hD.symm.trans e1
  obtain ⟨c2, k2, i1, i2, i3, -⟩ := Cond.instantiable_spec wi
  cases e2.symm.trans i1
  cases e3.symm.trans i2
  obtain ⟨kU, u1, u2⟩ := al.2.2 _ _ e3
  have hB : Blank ST x D P.U := ⟨hD, ⟨knV, fun q hq => by rw [hq] at obV; cases obV⟩, by rw [al.findClass]; exact e2, kU, u1, by rw [u2]; exact i3, by rw [u2]; exact e5 i3⟩
  have F1 : Found ST "value" "[B" fV P.U := ⟨SBG.found_only al ⟨cfV, kV, iV, gV⟩, stV⟩
  have F2 : Found ST "coder" "B" fC P.U := ⟨SBG.found_only al ⟨cfC, kC, iC, gC⟩, stC⟩
  have hA : Ch b A P.U := ⟨⟨K.1, State.isArrayOf_alike al K.2.1, K.2.2, by omega⟩, hty⟩
  have hS : StaticIs P.U ST "COMPACT_STRINGS" "Z" (.int z) := by
    obtain ⟨cfS, iS, kS, fS, st, cS, t1, t2, t3, t4, t5, t6, t7⟩ := S
    exact StaticIs.there (s := { Z with heap := P.U.heap }) ⟨cfS, iS, kS, fS, st, cS, t1, t2, t3, t4, t5, (fun q => by rw [q] at t6; cases t6), t7⟩ al rfl
  obtain ⟨v, B, X', ⟨⟨hv, E', V', q1, q2, q3, q4, q5, q6, q7, q8, q9, q10, q11⟩, hl, hc, hs⟩, st⟩ := New1.pays x D fV fC b A z (tab_of (moved hZ hw)) hfr hlo m meth c P g ig mk _ X hg hsize hdg hW hn ⟨r1, r2, rfl, hB, F1, F2, hA, hS, hz, l0, l2, hp⟩
  have al' : Z.vm.Alike B.U.vm := hZ.alike.trans X'.warmed.alike
  have hsz : E'.slots.size = D.slots.size := by
    obtain ⟨-, -, -, kB, w1, w2, w3⟩ := q1
    obtain ⟨kB', y1, y2⟩ := al'.2.2 _ _ e3
    rw [q2.2.1] at w1
    cases w1.symm.trans y1
    rw [w3, e5 i3, y2]
  refine ⟨v, B, X', ⟨_, ⟨hv, ?_, ⟨by omega, fun y cy hy hn' => q10 y cy (by simpa using hn') hy, fun y cy hy => ?_⟩, q11, ⟨E', _, q1.1, by rw [q2.2.1]; exact e2, by rw [q2.2.1]; exact e3, by rw [q2.1]; exact obV, fun _ => by rw [hsz]; exact e5 i3⟩,
    ⟨E', cfV, kV, iV, fV, q1.1, gV, stV, by rw [q2.1]; exact knV, by rw [q2.1]; exact obV, by rw [q2.2.1]; exact asV, q3⟩, ⟨E', cfC, kC, iC, fC, q1.1, gC, stC, by rw [q2.1]; exact knV, by rw [q2.1]; exact obV, by rw [q2.2.1]; exact asC, q4⟩,
    ⟨V', ⟨q5.1, State.isArrayOf_alike al'.symm q5.2.1, q5.2.2.1⟩, q6, by rw [← al'.findClass]; exact q7, q8, fun j hj => by have := q9 j hj; rwa [Nat.zero_add] at this⟩, fun O n d w F n1 n2 => ?_⟩, hl, hc, hs⟩, st⟩
  · intro y hy
    simp only [List.mem_cons, List.not_mem_nil, or_false] at hy
    rcases hy with rfl | rfl <;> rfl
  · by_cases q : y = x
    · subst q
      cases hD.symm.trans hy
      exact ⟨E', q1.1, q2.2.1, q2.1, hsz⟩
    · exact ⟨cy, q10 y cy q hy, rfl, rfl, rfl⟩
  · obtain ⟨D3, cf, k, i, f, g1, g2, g3, g4, g5, g6, g7⟩ := F
    cases hD.symm.trans g1
    simp only [RoadKit.slotOf, g2, gV, gC, Option.map_some, Option.getD_some] at n1 n2
    exact ⟨E', cf, k, i, f, q1.1, g2, g3, by rw [q2.1]; exact g4, by rw [q2.1]; exact g5, by rw [q2.2.1]; exact g6, by rw [q2.2.2 f.slot (by simp [n1, n2])]; exact g7⟩
end StrChars.Road
namespace StrChars.Road
open Jvm Sem ClassFile Op Lib Jvm.Stand Jvm.Free Jvm.Free.XT
/-- WHAT COMES BACK, the byte[] as a list of values -/
def QA (Z : State) (x : Addr) (zn : Int32) (cs : List Int32) (h : Heap) (v : Option Value) (h' : Heap) (L : List Loc) : Prop := v = none ∧ (∀ y ∈ L, y.base = x) ∧ RoadKit.Keep h h' [x] ∧ h'.size = h.size + 1 ∧ RoadKit.Exa Z h' x ST ∧ RoadKit.Fld Z h' x ST "value" "[B" (.ref h.size) ∧ RoadKit.Fld Z h' x ST "coder" "B" (.int 0) ∧
  (∃ kb, Z.vm.findClass "[B" = some kb ∧ RoadKit.Arv Z h' h.size kb .byte zn (cs.map fun c => .int (lo8 c)) (.int 0)) ∧
  ∀ (O n d : String) (w : Value), RoadKit.Fld Z h x O n d w → RoadKit.slotOf Z O n d ≠ RoadKit.slotOf Z ST "value" "[B" → RoadKit.slotOf Z O n d ≠ RoadKit.slotOf Z ST "coder" "B" → RoadKit.Fld Z h' x O n d w
/-- **new String(chars) AT A CALL, THE ARRAYS AS LISTS**: the char[] at b holds cs, not empty, no char above 255 -/
theorem backArv {p : Program} {l : Launch} {e : Env} {R : Room} {s : State} {args : Array Value} {below : List Frame} {len W : Nat} {Z : State} {a0 : Array Value} {h : Heap} (hZ : Z.Warmed39 s.vm) (hw : ∀ d ∈ words, d.before a0 Z = true) {kI : Nat} (wi : (Jvm.Cond.instantiable ST kI).before a0 Z = true)
    {x b : Addr} {k : ClassId} {zn z : Int32} {cs : List Int32} {dv v0 c0 : Value} (E : RoadKit.Exa Z h x ST) (V : RoadKit.Fld Z h x ST "value" "[B" v0) (C : RoadKit.Fld Z h x ST "coder" "B" c0) (K : RoadKit.Arv Z h b k .char zn (cs.map Value.int) dv) (S : RoadKit.Sta Z h ST "COMPACT_STRINGS" "Z" (.int z)) (hz : ¬ z = 0)
    (hlen : zn.toNatClampNeg = cs.length) (h0 : 0 < cs.length) (hbig : cs.length ≤ 536870912) (hall : ∀ c ∈ cs, ¬ 255 < c) (hfr : 4 ≤ R.frames) (hlo : W + 65 ≤ R.locals) :
    Back l R p e below s args New1.yN len W (fun P a => a = #[.ref x, .ref b] ∧ P.U.heap = h ∧ P.cells + 1 ≤ R.cells ∧ P.slots + cs.length ≤ R.slots)
      (fun P _ v B => ∃ L, QA Z x zn cs h v B.U.heap L ∧ B.locs = P.locs ++ L ∧ B.cells = P.cells + 1 ∧ B.slots = P.slots + cs.length) := by
  obtain ⟨A, K1, K2, K3, K4, K5, K6⟩ := K
  have e : A.slots.size = cs.length := K3.trans hlen
  have hat : ∀ (i : Nat) (hi : i < cs.length), A.slots[i]? = some (.int cs[i]) := fun i hi => by rw [K5 i (by omega)]; simp [List.getD_eq_getElem?_getD, hi]
  have hcv : ∀ (i : Nat) (hi : i < cs.length), cv A i = cs[i] := fun i hi => by unfold cv; rw [hat i hi]
  have hty : Typed .char A := fun i v hv => by
    have hi : i < A.slots.size := (Array.getElem?_eq_some_iff.mp hv).1
    have q := K5 i hi
    rw [hv] at q
    rw [Option.some.inj q]
    exact K6 i hi
  refine Back.mono (back hZ hw wi E V C K1 hty S hz (by omega) (by omega) (fun i hi => by rw [hcv i (by omega)]; exact hall _ (List.getElem_mem _)) hfr hlo) (fun P a hp => ⟨hp.1, hp.2.1, hp.2.2.1, by rw [e]; exact hp.2.2.2⟩) (fun P a v B hp hq => ?_)
  obtain ⟨L, ⟨q1, q2, q3, q4, q5, q6, q7, ⟨V', v1, v2, v3, v4, v5⟩, q9⟩, hl, hc, hs⟩ := hq
  refine ⟨L, ⟨q1, q2, q3, q4, q5, q6, q7, ⟨V'.cls, v3, V', v1, rfl, by rw [v4, e, hlen], K4, fun i hi => ?_, fun i hi => ?_⟩, q9⟩, hl, hc, by rw [hs, e]⟩
  · have hi' : i < cs.length := by omega
    rw [v5 i (by omega), hcv i hi']; simp [List.getD_eq_getElem?_getD, hi']
  · have hi' : i < cs.length := by omega
    simp only [List.getD_eq_getElem?_getD, List.getElem?_map, List.getElem?_eq_getElem hi', Option.map_some, Option.getD_some]
    exact fits_lo8 _
end StrChars.Road
namespace StrChars.Road
open Jvm Sem ClassFile Op Lib Jvm.Stand Jvm.Free Jvm.Free.XT
/-- WHAT COMES BACK, in the writer's own shape -/
def QV (Z : State) (x : Addr) (N : Int32) (bs : List Int32) (h : Heap) (n0 : Nat) (v : Option Value) (h' : Heap) (L : List Loc) : Prop := v = none ∧ RoadKit.Fr n0 L ∧ RoadKit.Keep h h' [x] ∧ RoadKit.Exa Z h' x ST ∧ RoadKit.Fld Z h' x ST "coder" "B" (.int 0) ∧
  ∃ (t : Addr) (kb : ClassId), n0 ≤ t ∧ h.size ≤ t ∧ ¬ t = x ∧ RoadKit.Fld Z h' x ST "value" "[B" (.ref t) ∧ RoadKit.Arv Z h' t kb .byte N (bs.map Value.int) (.int 0)
/-- **new String(chars) AT A CALL, FOR THE WRITER**: a char[] of n known ints, each 0 to 255 -/
theorem backV {p : Program} {l : Launch} {e : Env} {R : Room} {s : State} {args : Array Value} {below : List Frame} {len W : Nat} {Z : State} {a0 : Array Value} {h : Heap} (hZ : Z.Warmed39 s.vm) (hw : ∀ d ∈ words, d.before a0 Z = true) {kI : Nat} (wi : (Jvm.Cond.instantiable ST kI).before a0 Z = true)
    {x b : Addr} {kC : ClassId} {cs bs : List Int32} {d v0 c0 : Value} {z N : Int32} {n n0 : Nat} (hx0 : n0 ≤ x) (hh0 : n0 ≤ h.size) (E : RoadKit.Exa Z h x ST) (V : RoadKit.Fld Z h x ST "value" "[B" v0) (C : RoadKit.Fld Z h x ST "coder" "B" c0) (K : RoadKit.Arv Z h b kC .char N (cs.map Value.int) d) (S : RoadKit.Sta Z h ST "COMPACT_STRINGS" "Z" (.int z)) (hz : ¬ z = 0)
    (hn : cs.length = n) (hN : N = Int32.ofNat n) (l0 : 0 < n) (l2 : n ≤ 4000) (hp : ∀ c ∈ cs, ¬ c < 0 ∧ ¬ (255 : Int32) < c) (hb : bs = cs.map (fun c => c.toInt8.toInt32)) (hfr : 4 ≤ R.frames) (hlo : W + 65 ≤ R.locals) :
    Back l R p e below s args (⟨"java/lang/String", "<init>", "([C)V"⟩ : MethodName) len W (fun P a => a = #[.ref x, .ref b] ∧ P.U.heap = h ∧ P.cells + 1 ≤ R.cells ∧ P.slots + n ≤ R.slots)
      (fun P _ v B => ∃ L, QV Z x N bs h n0 v B.U.heap L ∧ B.locs = P.locs ++ L ∧ B.cells = P.cells + 1 ∧ B.slots = P.slots + n) := by
  subst hn hN hb
  refine Back.mono (backArv hZ hw wi E V C K S hz (n32 (by omega)) l0 (by omega) (fun c hc => (hp c hc).2) hfr hlo) (fun P a hp => hp) (fun P a v B hp hq => ?_)
  obtain ⟨L, ⟨q1, q2, q3, q4, q5, q6, q7, ⟨kb, v1, v2⟩, q9⟩, hl, hc, hs⟩ := hq
  exact ⟨L, ⟨q1, fun y hy => by rw [q2 y hy]; exact hx0, q3, q5, q7, h.size, kb, hh0, Nat.le_refl _, Nat.ne_of_gt E.lt, q6, by rw [List.map_map]; exact v2⟩, hl, hc, hs⟩
end StrChars.Road
namespace StrChars
open Jvm Sem ClassFile Op Lib Jvm.Stand Jvm.Free.XT Jvm.Free.ALB Jvm.Free.JM Jvm.Free
open Jvm.Lib.Cold (StaticIs)
def hi8 (x : Int32) : Int32 := lo8 (x >>> ((8 : Int32) &&& 31))
end StrChars
namespace StrChars.Road
open Jvm Sem ClassFile Op Lib Jvm.Stand Jvm.Free Jvm.Free.XT
open Jvm.Lib.Cold (StaticIs)
/-- the bytes of the chars cs, low before high -/
def wideBytes : List Int32 → List Value
  | [] => []
  | c :: cs => .int (lo8 c) :: .int (hi8 c) :: wideBytes cs
/-- an array of N2 bytes vs codes the chars cs by the coder cd -/
def CodA (cs : List Int32) (cd N2 : Int32) (vs : List Value) : Prop := (cd = 0 ∧ N2 = Int32.ofNat cs.length ∧ vs = (cs.map fun c => Value.int (lo8 c)) ∧ ∀ c ∈ cs, ¬ 255 < c) ∨ (cd = 1 ∧ N2 = Int32.ofNat (2 * cs.length) ∧ vs = wideBytes cs ∧ ∃ c ∈ cs, 255 < c)
end StrChars.Road
namespace StrChars.Road
open Jvm Sem ClassFile Op Lib Jvm.Stand Jvm.Free Jvm.Free.XT
open Jvm.Lib.Cold (StaticIs)
/-- what backV says of its String, as the contracts of this text ask it: cs's low bytes, coder 0 -/
theorem codOf {cs : List Int32} {n : Nat} (hn : cs.length = n) (hb : ∀ c ∈ cs, ¬ 255 < c) : CodA cs 0 (Int32.ofNat n) ((cs.map lo8).map Value.int) := Or.inl ⟨rfl, by rw [hn], by simp [List.map_map, Function.comp_def], hb⟩
end StrChars.Road
end Jvm.Pilot.@@N@@
namespace Jvm.Pilot.@@N@@
open Jvm Jvm.ClassFile Sem Op Lib Jvm.Free Jvm.Stand Jvm.LawKit Jvm.RoadKit Bundle Jvm.Pilot.@@N@@.Jvm.D
section OwnKit
variable {p : Program} {l : Launch} {e : Env} {R : Room} {s : State} {m : MethodId} {args : Array Value} {below : List Frame} {meth : Method} {c : Code} {T T' : State} {locs : List Loc} {cells slots : Nat} {Z : State} {a0 : Array Value} {h h' : Heap} {EL : List (String × Nat)} {n0 k0 : Nat} {ws ws' sf : List Addr} {own : String} {vm0 vm1 : Vm} {Q : Outcome → State → Prop} {a b x : Addr} {v : Value} {sl : Nat}
/-- the run goes on from t to an end that Q takes -/
def Go (p : Program) (e : Env) (below : List Frame) (Q : Outcome → State → Prop) (t : State) : Prop := ∃ s₂ o, Steps p.tables e below t s₂ ∧ s₂.status = .running ∧ Ended s₂ below o ∧ Q o s₂
theorem Go.of {t t' : State} (k : ∀ z, Steps p.tables e below t' z → Steps p.tables e below t z) (g : Go p e below Q t') : Go p e below Q t := by
  obtain ⟨a, o, st, r⟩ := g
  exact ⟨a, o, k _ st, r⟩
theorem Go.on {t t' : State} (st : Steps p.tables e below t t') (g : Go p e below Q t') : Go p e below Q t := by
  obtain ⟨a, o, st', r⟩ := g
  exact ⟨a, o, st.trans st', r⟩
/-- where a walk stands: the tables at hand, the places written, all hidden -/
def Wk (p : Program) (l : Launch) (e : Env) (R : Room) (s : State) (m : MethodId) (args : Array Value) (below : List Frame) (meth : Method) (c : Code) (Z : State) (EL : List (String × Nat)) (n0 : Nat) (ws : List Addr) (own : String) (sf : List Addr) (T : State) (cells slots : Nat) (h : Heap) : Prop :=
  ∃ (vm0 : Vm) (locs : List Loc) (k0 : Nat), Stand p l e R (s.setVm vm0) m args below meth c T locs cells slots ∧ T.heap = h ∧ s.Since vm0 k0 ∧ k0 ≤ h.size ∧ Z.Warmed39 vm0 ∧ vm0.findClass own = some m.cls ∧ CHr Z EL s.vm s.heap vm0 h ∧ Fr n0 locs ∧ Keep s.heap h ws ∧ Old Z n0 h ∧ ∀ x ∈ sf, Safe Z EL vm0 h x ∧ x < h.size
abbrev Wkk (p : Program) (l : Launch) (e : Env) (R : Room) (s : State) (m : MethodId) (args : Array Value) (below : List Frame) (meth : Method) (c : Code) (Z : State) (EL : List (String × Nat)) (n0 : Nat) (ws : List Addr) (own : String) (sf : List Addr) (cells slots : Nat) (h : Heap) (T : State) : Prop := Wk p l e R s m args below meth c Z EL n0 ws own sf T cells slots h
theorem wk_wr (X : Stand p l e R (s.setVm vm0) m args below meth c T' (locs ++ [⟨a, sl⟩]) cells slots) (e' : T'.heap = h') (W : Wr h h' a sl v) (hS : s.Since vm0 k0) (hk : k0 ≤ h.size) (hZ : Z.Warmed39 vm0) (hown : vm0.findClass own = some m.cls) (hC : CHr Z EL s.vm s.heap vm0 h) (N : Fr n0 locs) (K : Keep s.heap h ws) (O : Old Z n0 h)
    (F : ∀ x ∈ sf, Safe Z EL vm0 h x ∧ x < h.size) (S : Safe Z EL vm0 h a) (ga : n0 ≤ a) (gw : a ∈ ws ∨ s.heap.size ≤ a) : Wk p l e R s m args below meth c Z EL n0 ws own sf T' cells slots h' :=
  ⟨vm0, _, k0, X, e', hS, by rw [Wr.size W]; exact hk, hZ, hown, hC.trans (CHr.wr W S hC.1), Fr.snoc X N ga, K.wr W gw, O.wr W ga, fun y hy => ⟨Safe.wr W S hC.1 (F y hy).1, by rw [Wr.size W]; exact (F y hy).2⟩⟩
theorem wk_ext (X : Stand p l e R (s.setVm vm0) m args below meth c T' locs cells slots) (e' : T'.heap = h') (E : Ext h h') (hS : s.Since vm0 k0) (hk : k0 ≤ h.size) (hZ : Z.Warmed39 vm0) (hown : vm0.findClass own = some m.cls) (hC : CHr Z EL s.vm s.heap vm0 h) (N : Fr n0 locs) (K : Keep s.heap h ws) (O : Old Z n0 h)
    (F : ∀ x ∈ sf, Safe Z EL vm0 h x ∧ x < h.size) : Wk p l e R s m args below meth c Z EL n0 ws own sf T' cells slots h' :=
  ⟨vm0, locs, k0, X, e', hS, Nat.le_trans hk E.1, hZ, hown, hC.trans (CHr.ext E hC.1), N, K.ext E, O.ext E, fun y hy => ⟨Safe.ext E hC.1 (F y hy).1, Nat.lt_of_lt_of_le (F y hy).2 E.1⟩⟩
theorem wk_new (X : Stand p l e R (s.setVm vm0) m args below meth c T' locs cells slots) (e' : T'.heap = h') (E : Ext h h') (hlt : h.size < h'.size) (hS : s.Since vm0 k0) (hk : k0 ≤ h.size) (hZ : Z.Warmed39 vm0) (hown : vm0.findClass own = some m.cls) (hC : CHr Z EL s.vm s.heap vm0 h) (N : Fr n0 locs) (K : Keep s.heap h ws) (O : Old Z n0 h)
    (F : ∀ x ∈ sf, Safe Z EL vm0 h x ∧ x < h.size) : Wk p l e R s m args below meth c Z EL n0 ws own (h.size :: sf) T' cells slots h' :=
  ⟨vm0, locs, k0, X, e', hS, Nat.le_trans hk E.1, hZ, hown, hC.trans (CHr.ext E hC.1), N, K.ext E, O.ext E, fun y hy => by
    rcases List.mem_cons.mp hy with rfl | hy
    · exact ⟨Safe.ext E hC.1 (Safe.new (Nat.le_refl _)), hlt⟩
    · exact ⟨Safe.ext E hC.1 (F y hy).1, Nat.lt_of_lt_of_le (F y hy).2 E.1⟩⟩
theorem Wk.here (W : Wk p l e R s m args below meth c Z EL n0 ws own sf T cells slots h) : At T m c below := by
  obtain ⟨_, _, _, X, _⟩ := W
  exact X.here
theorem Wk.n0le (W : Wk p l e R s m args below meth c Z EL n0 ws own sf T cells slots h) : n0 ≤ h.size := by
  obtain ⟨_, _, _, _, _, _, _, _, _, _, _, _, O, _⟩ := W
  exact O.1 ▸ O.2.1
theorem Wk.s0le (W : Wk p l e R s m args below meth c Z EL n0 ws own sf T cells slots h) : s.heap.size ≤ h.size := by
  obtain ⟨_, _, _, _, _, _, _, _, _, _, _, K, _, _⟩ := W
  exact K.1
theorem Wk.old (W : Wk p l e R s m args below meth c Z EL n0 ws own sf T cells slots h) : Old Z n0 h := by
  obtain ⟨_, _, _, _, _, _, _, _, _, _, _, _, O, _⟩ := W
  exact O
theorem Wk.more (W : Wk p l e R s m args below meth c Z EL n0 ws own sf T cells slots h) {cells' slots' : Nat} (hc : cells ≤ cells') (hs : slots ≤ slots') : Wk p l e R s m args below meth c Z EL n0 ws own sf T cells' slots' h := by
  obtain ⟨vm0, locs, k0, X, r⟩ := W
  exact ⟨vm0, locs, k0, X.more hc hs, r⟩
theorem Wk.sub {sf' : List Addr} (W : Wk p l e R s m args below meth c Z EL n0 ws own sf T cells slots h) (hs : ∀ x ∈ sf', x ∈ sf) : Wk p l e R s m args below meth c Z EL n0 ws own sf' T cells slots h := by
  obtain ⟨vm0, locs, k0, X, eT, hS, hk, hZ, hown, hC, N, K, O, F⟩ := W
  exact ⟨vm0, locs, k0, X, eT, hS, hk, hZ, hown, hC, N, K, O, fun y hy => F y (hs y hy)⟩
/-! single steps -/
theorem Wk.getF (W : Wk p l e R s m args below meth c Z EL n0 ws own sf T cells slots h) (hx : p.tables.exec = Jvm.exec) {R0 O n d host : String} {index : Nat} (w : (Cond.fieldLink own index R0 n d).before a0 Z = true ∨ (Cond.fieldLinkNest own index R0 n d host).before a0 Z = true) (via : Via Z R0 O n d)
    (F : Fld Z h a O n d v) {g : JFrame} (hg : g.method = m) {rest : List Value} (hs : g.stack = .ref a :: rest) (hd : decode c.code g.pc = .ok (.getfield index, 3))
    (k : ∀ T', Wk p l e R s m args below meth c Z EL n0 ws own sf T' cells slots h → Go p e below Q (T'.setTop { g with pc := g.pc + 3, stack := v :: rest })) : Go p e below Q (T.setTop g) := by
  obtain ⟨vm0, locs, k0, X, eT, hS, hk, hZ, hown, r⟩ := W
  obtain ⟨T', X', e', st⟩ := RoadKit.getF X hx hZ hown w via eT F hg hs hd
  exact Go.of st (k T' ⟨vm0, locs, k0, X', e', hS, hk, hZ, hown, r⟩)
theorem Wk.getS (W : Wk p l e R s m args below meth c Z EL n0 ws own sf T cells slots h) (hx : p.tables.exec = Jvm.exec) {R0 O n d host : String} {index : Nat} (w : (Cond.fieldLink own index R0 n d).before a0 Z = true ∨ (Cond.fieldLinkNest own index R0 n d host).before a0 Z = true) (via : Via Z R0 O n d)
    (F : Sta Z Z.heap O n d v) {g : JFrame} (hg : g.method = m) (hd : decode c.code g.pc = .ok (.getstatic index, 3))
    (k : ∀ T', Wk p l e R s m args below meth c Z EL n0 ws own sf T' cells slots h → Go p e below Q (T'.setTop { g with pc := g.pc + 3, stack := v :: g.stack })) : Go p e below Q (T.setTop g) := by
  have F' := F.ext W.old.2
  obtain ⟨vm0, locs, k0, X, eT, hS, hk, hZ, hown, r⟩ := W
  obtain ⟨T', X', e', st⟩ := RoadKit.getS2 X hx hZ hown w via eT F' hg hd
  exact Go.of st (k T' ⟨vm0, locs, k0, X', e', hS, hk, hZ, hown, r⟩)
theorem Wk.castY (W : Wk p l e R s m args below meth c Z EL n0 ws own sf T cells slots h) (hx : p.tables.exec = Jvm.exec) {K : String} {index : Nat} (w : (Cond.classLink own index K).before a0 Z = true) (F : Ins Z h a K true) {g : JFrame} (hg : g.method = m) {rest : List Value} (hs : g.stack = .ref a :: rest) (hd : decode c.code g.pc = .ok (.checkcast index, 3))
    (k : ∀ T', Wk p l e R s m args below meth c Z EL n0 ws own sf T' cells slots h → Go p e below Q (T'.setTop { g with pc := g.pc + 3 })) : Go p e below Q (T.setTop g) := by
  obtain ⟨vm0, locs, k0, X, eT, hS, hk, hZ, hown, r⟩ := W
  obtain ⟨T', X', e', st⟩ := RoadKit.castY X hx hZ hown w eT F hg hs hd
  exact Go.of st (k T' ⟨vm0, locs, k0, X', e', hS, hk, hZ, hown, r⟩)
theorem Wk.instY (W : Wk p l e R s m args below meth c Z EL n0 ws own sf T cells slots h) (hx : p.tables.exec = Jvm.exec) {K : String} {index : Nat} (w : (Cond.classLink own index K).before a0 Z = true) (F : Ins Z h a K true) {g : JFrame} (hg : g.method = m) {rest : List Value} (hs : g.stack = .ref a :: rest) (hd : decode c.code g.pc = .ok (.instanceof index, 3))
    (k : ∀ T', Wk p l e R s m args below meth c Z EL n0 ws own sf T' cells slots h → Go p e below Q (T'.setTop { g with pc := g.pc + 3, stack := .int 1 :: rest })) : Go p e below Q (T.setTop g) := by
  obtain ⟨vm0, locs, k0, X, eT, hS, hk, hZ, hown, r⟩ := W
  obtain ⟨T', X', e', st⟩ := RoadKit.instY X hx hZ hown w eT F hg hs hd
  exact Go.of st (k T' ⟨vm0, locs, k0, X', e', hS, hk, hZ, hown, r⟩)
theorem Wk.instNo (W : Wk p l e R s m args below meth c Z EL n0 ws own sf T cells slots h) (hx : p.tables.exec = Jvm.exec) {K C : String} {index : Nat} (w : (Cond.classLink own index K).before a0 Z = true) (E : Exa Z h a C) (F : ∃ c t, Z.vm.findClass C = some c ∧ Z.vm.findClass K = some t ∧ Z.vm.assignable c t = false) {g : JFrame} (hg : g.method = m) {rest : List Value} (hs : g.stack = .ref a :: rest) (hd : decode c.code g.pc = .ok (.instanceof index, 3))
    (k : ∀ T', Wk p l e R s m args below meth c Z EL n0 ws own sf T' cells slots h → Go p e below Q (T'.setTop { g with pc := g.pc + 3, stack := .int 0 :: rest })) : Go p e below Q (T.setTop g) := by
  obtain ⟨vm0, locs, k0, X, eT, hS, hk, hZ, hown, r⟩ := W
  obtain ⟨T', X', e', st⟩ := RoadKit.instNo X hx hZ hown w eT E F hg hs hd
  exact Go.of st (k T' ⟨vm0, locs, k0, X', e', hS, hk, hZ, hown, r⟩)
theorem Wk.instNull (W : Wk p l e R s m args below meth c Z EL n0 ws own sf T cells slots h) (hx : p.tables.exec = Jvm.exec) {index : Nat} {g : JFrame} (hg : g.method = m) {rest : List Value} (hs : g.stack = .null :: rest) (hd : decode c.code g.pc = .ok (.instanceof index, 3))
    (k : Go p e below Q (T.setTop { g with pc := g.pc + 3, stack := .int 0 :: rest })) : Go p e below Q (T.setTop g) := by
  obtain ⟨vm0, locs, k0, X, eT, hS, hk, hZ, hown, r⟩ := W
  exact Go.of (X.instanceofNull hx hg hs hd) k
theorem Wk.initO (W : Wk p l e R s m args below meth c Z EL n0 ws own sf T cells slots h) (hx : p.tables.exec = Jvm.exec) {idx : Nat} (w1 : (Cond.methodLink own idx Lib.objectInit).before a0 Z = true) (w2 : (Cond.instanceMethod Lib.objectInit).before a0 Z = true)
    (w3 : (Cond.code Lib.objectInit ⟨#[0xb1]⟩ 1 none).before a0 Z = true) {g : JFrame} (hg : g.method = m) (hsize : g.locals.size = c.maxLocals) {rest : List Value} (hs : g.stack = .ref a :: rest) (hd : decode c.code g.pc = .ok (.invokespecial idx, 3))
    (hf : 1 ≤ R.frames) {Wd : Nat} (hW : 2 * g.monitorRoom + (rest.map fun v => v.category).sum ≤ Wd) (hl : Wd + 12 ≤ R.locals)
    (k : ∀ T', Wk p l e R s m args below meth c Z EL n0 ws own sf T' cells slots h → Go p e below Q (T'.setTop { g with pc := g.pc + 3, stack := rest })) : Go p e below Q (T.setTop g) := by
  obtain ⟨vm0, locs, k0, X, eT, hS, hk, hZ, hown, r⟩ := W
  obtain ⟨T', X', e', st⟩ := RoadKit.initO X hx hZ hown w1 w2 w3 eT hg hsize hs hd hf hW hl
  exact Go.of st (k T' ⟨vm0, locs, k0, X', e', hS, hk, hZ, hown, r⟩)
theorem Wk.newO (W : Wk p l e R s m args below meth c Z EL n0 ws own sf T cells slots h) (hx : p.tables.exec = Jvm.exec) {C : String} {index n : Nat} (w : (Cond.classLink own index C).before a0 Z = true) (wi : (Cond.instantiable C n).before a0 Z = true) (wz : (Cond.initialized C).before a0 Z = true)
    {g : JFrame} (hg : g.method = m) (hd : decode c.code g.pc = .ok (.new index, 3)) (hc : cells + 1 ≤ R.cells) (hl : slots + n ≤ R.slots)
    (k : ∀ T' h' b, b = h.size → n0 ≤ b ∧ s.heap.size ≤ b → Wk p l e R s m args below meth c Z EL n0 ws own (b :: sf) T' (cells + 1) (slots + n) h' → Keep h h' [] → Exa Z h' b C → (∀ {O nm d : String} {ty : FieldType}, Laid Z a0 C O nm d → parseFieldDescriptor d = some ty → Fld Z h' b O nm d (defaultValue ty)) →
      Go p e below Q (T'.setTop { g with pc := g.pc + 3, stack := .ref b :: g.stack })) : Go p e below Q (T.setTop g) := by
  have hle := W.n0le
  have hle' := W.s0le
  obtain ⟨vm0, locs, k0, X, eT, hS, hk, hZ, hown, hC, N, K, O, F⟩ := W
  obtain ⟨T', h', X', e', E, A, D, -, st⟩ := RoadKit.newO X hx hZ hown w wi wz eT hg hd hc hl
  exact Go.of st (k T' h' h.size rfl ⟨hle, hle'⟩ (wk_new X' e' E A.lt hS hk hZ hown hC N K O F) ((Keep.refl h []).ext E) A D)
theorem Wk.newP (W : Wk p l e R s m args below meth c Z EL n0 ws own sf T cells slots h) (hx : p.tables.exec = Jvm.exec) {aty : ArrayType} (w : (Cond.arrayClass (newarray.typeOf aty)).before a0 Z = true)
    {g : JFrame} (hg : g.method = m) (hd : decode c.code g.pc = .ok (.newarray aty, 2)) {n : Int32} {rest : List Value} (hs : g.stack = .int n :: rest)
    (hn : ¬ n < 0) {cap : Nat} (hcap : n.toNatClampNeg ≤ cap) (hb : cap * 8 ≤ 536870912) (hc : cells + 1 ≤ R.cells) (hl : slots + cap ≤ R.slots)
    (k : ∀ T' h' b kc, b = h.size → n0 ≤ b ∧ s.heap.size ≤ b → Wk p l e R s m args below meth c Z EL n0 ws own (b :: sf) T' (cells + 1) (slots + cap) h' → Keep h h' [] → Arv Z h' b kc (newarray.typeOf aty) n (List.replicate cap (defaultValue (newarray.typeOf aty))) (defaultValue (newarray.typeOf aty)) →
      Go p e below Q (T'.setTop { g with pc := g.pc + 2, stack := .ref b :: rest })) : Go p e below Q (T.setTop g) := by
  have hle := W.n0le
  have hle' := W.s0le
  obtain ⟨vm0, locs, k0, X, eT, hS, hk, hZ, hown, hC, N, K, O, F⟩ := W
  obtain ⟨T', h', kc, X', e', E, A, st⟩ := RoadKit.newP X hx hZ w eT hg hd hs hn hcap hb hc hl
  exact Go.of st (k T' h' h.size kc rfl ⟨hle, hle'⟩ (wk_new X' e' E A.lt hS hk hZ hown hC N K O F) ((Keep.refl h []).ext E) ((Arv.new A hn).pad (pad_rep [] _ cap)))
theorem Wk.putF (W : Wk p l e R s m args below meth c Z EL n0 ws own sf T cells slots h) (hx : p.tables.exec = Jvm.exec) {R0 O n d host C : String} {index kk : Nat} {ty : FieldType} (w : (Cond.fieldLink own index R0 n d).before a0 Z = true ∨ (Cond.fieldLinkNest own index R0 n d host).before a0 Z = true) (via : Via Z R0 O n d)
    {old : Value} (F : Fld Z h a O n d old) (E : Exa Z h a C) (L : (Cond.lays C O n d).before a0 Z = true ∨ ((Cond.laysFinal C O n d).before a0 Z = true ∧ own = O ∧ meth.name = "<init>")) (wi : (Cond.instantiable C kk).before a0 Z = true)
    (hty : parseFieldDescriptor d = some ty) (hn : narrow ty v = v) (hf : fits ty v = true) (ga : n0 ≤ a) (gw : a ∈ ws ∨ s.heap.size ≤ a) (sa : a ∈ sf ∨ (C ≠ "java/lang/String" ∧ C ≠ "[B")) {g : JFrame} (hg : g.method = m) {rest : List Value} (hs : g.stack = v :: .ref a :: rest) (hd : decode c.code g.pc = .ok (.putfield index, 3))
    (k : ∀ T' h', Wk p l e R s m args below meth c Z EL n0 ws own sf T' cells slots h' → Wr h h' a (RoadKit.slotOf Z O n d) v → Go p e below Q (T'.setTop { g with pc := g.pc + 3, stack := rest })) : Go p e below Q (T.setTop g) := by
  obtain ⟨vm0, locs, k0, X, eT, hS, hk, hZ, hown, hC, N, K, Ol, Fs⟩ := W
  have S : Safe Z EL vm0 h a := by
    rcases sa with q | ⟨q1, q2⟩
    · exact (Fs a q).1
    · exact Safe.exa hZ.alike E q1 q2
  obtain ⟨T', h', X', e', W', st⟩ := RoadKit.putF X hx hZ hown w via eT F E L wi hty hn hf hg hs hd
  exact Go.of st (k T' h' (wk_wr X' e' W' hS hk hZ hown hC N K Ol Fs S ga gw) W')
theorem Wk.stC (W : Wk p l e R s m args below meth c Z EL n0 ws own sf T cells slots h) (hx : p.tables.exec = Jvm.exec) {kc : ClassId} {z j y : Int32} {vs : List Value} {dv : Value} (V : Arv Z h a kc .char z vs dv) (hj : ¬ j < 0 ∧ j < z) (i : Nat) (hji : j.toNatClampNeg = i) (hi : i < vs.length) (ga : n0 ≤ a) (gw : a ∈ ws ∨ s.heap.size ≤ a)
    {g : JFrame} (hg : g.method = m) {rest : List Value} (hs : g.stack = .int y :: .int j :: .ref a :: rest) (hd : decode c.code g.pc = .ok (.castore, 1))
    (k : ∀ T' h', Wk p l e R s m args below meth c Z EL n0 ws own sf T' cells slots h' → Keep h h' [a] → Arv Z h' a kc .char z (vs.set i (.int (nar .char y))) dv → Go p e below Q (T'.setTop { g with pc := g.pc + 1, stack := rest })) : Go p e below Q (T.setTop g) := by
  obtain ⟨vm0, locs, k0, X, eT, hS, hk, hZ, hown, hC, N, K, Ol, Fs⟩ := W
  obtain ⟨cl, A, q1, S1, q3, H, G⟩ := V
  obtain ⟨T', h', X', e', W', st⟩ := RoadKit.stC X hx hZ eT A (j := j) (inb_of S1 hj) hg hs hd
  exact Go.of st (k T' h' (wk_wr X' e' W' hS hk hZ hown hC N K Ol Fs (Safe.arr hZ.alike A (by decide)) ga gw) (Keep.of_wr W') (Arv.set A q1 S1 q3 H G (fits_nar_char _) W' i hji hi))
theorem Wk.stB (W : Wk p l e R s m args below meth c Z EL n0 ws own sf T cells slots h) (hx : p.tables.exec = Jvm.exec) {kc : ClassId} {z j y : Int32} {vs : List Value} {dv : Value} (V : Arv Z h a kc .byte z vs dv) (hj : ¬ j < 0 ∧ j < z) (i : Nat) (hji : j.toNatClampNeg = i) (hi : i < vs.length) (ga : n0 ≤ a) (gw : a ∈ ws ∨ s.heap.size ≤ a) (sa : a ∈ sf)
    {g : JFrame} (hg : g.method = m) {rest : List Value} (hs : g.stack = .int y :: .int j :: .ref a :: rest) (hd : decode c.code g.pc = .ok (.bastore, 1))
    (k : ∀ T' h', Wk p l e R s m args below meth c Z EL n0 ws own sf T' cells slots h' → Keep h h' [a] → Arv Z h' a kc .byte z (vs.set i (.int (nar .byte y))) dv → Go p e below Q (T'.setTop { g with pc := g.pc + 1, stack := rest })) : Go p e below Q (T.setTop g) := by
  obtain ⟨vm0, locs, k0, X, eT, hS, hk, hZ, hown, hC, N, K, Ol, Fs⟩ := W
  obtain ⟨cl, A, q1, S1, q3, H, G⟩ := V
  obtain ⟨T', h', X', e', W', st⟩ := RoadKit.stB X hx hZ eT A (j := j) (inb_of S1 hj) hg hs hd
  exact Go.of st (k T' h' (wk_wr X' e' W' hS hk hZ hown hC N K Ol Fs (Fs a sa).1 ga gw) (Keep.of_wr W') (Arv.set A q1 S1 q3 H G (fits_nar_byte _) W' i hji hi))
theorem Wk.caload (W : Wk p l e R s m args below meth c Z EL n0 ws own sf T cells slots h) (hx : p.tables.exec = Jvm.exec) {kc : ClassId} {z j : Int32} {vs : List Value} {dv : Value} (V : Arv Z h a kc .char z vs dv) (hj : ¬ j < 0 ∧ j < z) (hv : vs.getD j.toNatClampNeg dv = v)
    {g : JFrame} (hg : g.method = m) {rest : List Value} (hs : g.stack = .int j :: .ref a :: rest) (hd : decode c.code g.pc = .ok (.caload, 1)) (k : Go p e below Q (T.setTop { g with pc := g.pc + 1, stack := v :: rest })) : Go p e below Q (T.setTop g) := by
  obtain ⟨vm0, locs, k0, X, eT, hS, hk, hZ, hown, r⟩ := W
  obtain ⟨cl, A, q1, S1, q3, H, G⟩ := V
  exact Go.of (fun t q => X.caload hx (by rw [eT]; exact A.1) (State.isArrayOf_alike hZ.alike A.2.1) A.2.2 (inb_of S1 hj) (H.at (inb_of S1 hj) hv) hg hs hd t q) k
theorem Wk.baload (W : Wk p l e R s m args below meth c Z EL n0 ws own sf T cells slots h) (hx : p.tables.exec = Jvm.exec) {kc : ClassId} {z j : Int32} {vs : List Value} {dv : Value} (V : Arv Z h a kc .byte z vs dv) (hj : ¬ j < 0 ∧ j < z) (hv : vs.getD j.toNatClampNeg dv = v)
    {g : JFrame} (hg : g.method = m) {rest : List Value} (hs : g.stack = .int j :: .ref a :: rest) (hd : decode c.code g.pc = .ok (.baload, 1)) (k : Go p e below Q (T.setTop { g with pc := g.pc + 1, stack := v :: rest })) : Go p e below Q (T.setTop g) := by
  obtain ⟨vm0, locs, k0, X, eT, hS, hk, hZ, hown, r⟩ := W
  obtain ⟨cl, A, q1, S1, q3, H, G⟩ := V
  exact Go.of (fun t q => X.baloadBytes hx (by rw [eT]; exact A.1) (State.isArrayOf_alike hZ.alike A.2.1) A.2.2 (inb_of S1 hj) (H.at (inb_of S1 hj) hv) hg hs hd t q) k
theorem Wk.alen (W : Wk p l e R s m args below meth c Z EL n0 ws own sf T cells slots h) (hx : p.tables.exec = Jvm.exec) {kc : ClassId} {z : Int32} {ty : FieldType} {vs : List Value} {dv : Value} (V : Arv Z h a kc ty z vs dv)
    {g : JFrame} (hg : g.method = m) {rest : List Value} (hs : g.stack = .ref a :: rest) (hd : decode c.code g.pc = .ok (.arraylength, 1)) (k : Go p e below Q (T.setTop { g with pc := g.pc + 1, stack := .int z :: rest })) : Go p e below Q (T.setTop g) := by
  obtain ⟨vm0, locs, k0, X, eT, hS, hk, hZ, hown, r⟩ := W
  obtain ⟨cl, A, q1, S1, q3, H, G⟩ := V
  exact Go.of (fun t q => X.arraylength hx (by rw [eT]; exact A.1) (State.isArrayOf_alike hZ.alike A.2.1) hg hs hd t (by rw [len_of S1 q3]; exact q)) k
theorem Wk.ldcI (W : Wk p l e R s m args below meth c Z EL n0 ws own sf T cells slots h) (hx : p.tables.exec = Jvm.exec) {index : Nat} {z : Int32} (w : (Cond.constant own index z).before a0 Z = true)
    {g : JFrame} (hg : g.method = m) (hd : decode c.code g.pc = .ok (.ldc index, 2)) (k : Go p e below Q (T.setTop { g with pc := g.pc + 2, stack := .int z :: g.stack })) : Go p e below Q (T.setTop g) := by
  obtain ⟨vm0, locs, k0, X, eT, hS, hk, hZ, hown, r⟩ := W
  exact Go.of (fun t q => X.ldcInt hx hown (mvT (s := s.setVm vm0) hZ w) hg hd t q) k
theorem Wk.ldcJ (W : Wk p l e R s m args below meth c Z EL n0 ws own sf T cells slots h) (hx : p.tables.exec = Jvm.exec) {index : Nat} {z : Int64} (w : (Cond.constantLong own index z).before a0 Z = true)
    {g : JFrame} (hg : g.method = m) (hd : decode c.code g.pc = .ok (.ldc2_w index, 3)) (k : Go p e below Q (T.setTop { g with pc := g.pc + 3, stack := .long z :: g.stack })) : Go p e below Q (T.setTop g) := by
  obtain ⟨vm0, locs, k0, X, eT, hS, hk, hZ, hown, r⟩ := W
  exact Go.of (fun t q => X.ldc2Long hx hown (mvT (s := s.setVm vm0) hZ w) hg hd t q) k
/-! String constants -/
theorem wk_tab {k1 : Nat} (X : Stand p l e R (s.setVm vm1) m args below meth c T' locs cells slots) (e' : T'.heap = h') (E : Keep h h' ws') (gws : ∀ x ∈ ws', n0 ≤ x ∧ (x ∈ ws ∨ s.heap.size ≤ x)) (hS : s.Since vm1 k1) (hk : k1 ≤ h'.size) (hZ : Z.Warmed39 vm1) (hown : vm1.findClass own = some m.cls) (A : CHr Z EL vm0 h vm1 h') (hC : CHr Z EL s.vm s.heap vm0 h) (N : Fr n0 locs) (K : Keep s.heap h ws) (O : Old Z n0 h)
    (F : ∀ x ∈ sf, Safe Z EL vm0 h x ∧ x < h.size) : Wk p l e R s m args below meth c Z EL n0 ws own sf T' cells slots h' :=
  ⟨vm1, locs, k1, X, e', hS, hk, hZ, hown, hC.trans A, N, K.trans E fun y hy => (gws y hy).2, O.keep E fun y hy => (gws y hy).1, fun y hy => ⟨CHr.safe A (F y hy).2 (F y hy).1, Nat.lt_of_lt_of_le (F y hy).2 E.1⟩⟩
theorem Wk.ldcO (W : Wk p l e R s m args below meth c Z EL n0 ws own sf T cells slots h) (hx : p.tables.exec = Jvm.exec) (hEL : EW Z a0 EL) {text : String} {index : Nat} (w : (Cond.stringLink own index text).before a0 Z = true) (wS : ∀ a ∈ Bundle.stringAtoms, a.before a0 Z = true)
    {g : JFrame} (hg : g.method = m) (hd : decode c.code g.pc = .ok (.ldc index, 2)) {n : Nat} (hn : 4 * text.toList.length ≤ n) (hbig : n ≤ 536870912) (hc : cells + 2 ≤ R.cells) (hl : slots + (n + 4) ≤ R.slots)
    (k : ∀ T' h' b, Wk p l e R s m args below meth c Z EL n0 ws own sf T' (cells + 2) (slots + (n + 4)) h' → Keep h h' [] → Go p e below Q (T'.setTop { g with pc := g.pc + 2, stack := .ref b :: g.stack })) : Go p e below Q (T.setTop g) := by
  obtain ⟨vm0, locs, k0, X, eT, hS, hk, hZ, hown, hC, N, K, Ol, Fs⟩ := W
  obtain ⟨b, T', h', k1, X', e', E, hS', hk', hZ', hown', A, -, st⟩ := ldcOH X hx hZ hown w wS eT hS hk hEL hC.1 hg hd hn hbig hc hl
  have K1 : Keep h h' [] := (Keep.refl h []).ext E
  exact Go.of st (k T' h' b (wk_tab X' e' K1 all0 hS' hk' hZ' hown' A hC N K Ol Fs) K1)
theorem Wk.ldcC (W : Wk p l e R s m args below meth c Z EL n0 ws own sf T cells slots h) (hx : p.tables.exec = Jvm.exec) (hEL : EW Z a0 EL) {text : String} {index : Nat} (hmem : (own, index) ∈ EL) (w : (Cond.stringLink own index text).before a0 Z = true) (wS : ∀ a ∈ Bundle.stringAtoms, a.before a0 Z = true)
    (vs : List Value) (z : Int32) (ht : (∀ c ∈ text.toList, c.toNat < 256) ∧ text.toList.map (fun c => Value.int (Jvm.Lit.byteI c.toNat.toUInt16)) = vs) (hz : ¬ z < 0) (hl : z.toNatClampNeg = vs.length)
    {g : JFrame} (hg : g.method = m) (hd : decode c.code g.pc = .ok (.ldc index, 2)) {n : Nat} (hn : 4 * text.toList.length ≤ n) (hbig : n ≤ 536870912) (hc : cells + 2 ≤ R.cells) (hsl : slots + (n + 4) ≤ R.slots)
    (k : ∀ T' h' b t kb, Wk p l e R s m args below meth c Z EL n0 ws own sf T' (cells + 2) (slots + (n + 4)) h' → Keep h h' [] → Exa Z h' b "java/lang/String" → Fld Z h' b "java/lang/String" "value" "[B" (.ref t) → Fld Z h' b "java/lang/String" "coder" "B" (.int 0) → Arv Z h' t kb .byte z vs (.int 0) → (∀ x ∈ sf, x ≠ b ∧ x ≠ t) → Go p e below Q (T'.setTop { g with pc := g.pc + 2, stack := .ref b :: g.stack })) : Go p e below Q (T.setTop g) := by
  obtain ⟨vm0, locs, k0, X, eT, hS, hk, hZ, hown, hC, N, K, Ol, Fs⟩ := W
  obtain ⟨b, T', h', k1, t, kb, X', e', E, hS', hk', hZ', hown', E1, F1, F2, A1, -, -, A, -, hne, st⟩ := ldcCH X hx hZ hown w wS eT hS hk hEL hmem hC.1 ht hz hl hg hd hn hbig hc hsl
  have K1 : Keep h h' [] := (Keep.refl h []).ext E
  exact Go.of st (k T' h' b t kb (wk_tab X' e' K1 all0 hS' hk' hZ' hown' A hC N K Ol Fs) K1 E1 F2 F1 A1 (fun x hx => hne x (CHr.safe A (Fs x hx).2 (Fs x hx).1)))
/-! contracts -/
def Met (l : Launch) (Z : State) (EL : List (String × Nat)) (n0 : Nat) (y : MethodName) (bytes : ByteArray) (maxL : Nat) (ret : Option FieldType) (wl : List Cond) (rm : Room) (as' : Array Value) (h : Heap) (ws sf : List Addr) (Qv : Option Value → Heap → (Addr → Prop) → Prop) : Prop :=
  MetFree l y (head1 (Cond.code y bytes maxL ret :: wl) rm) (fun a U => a = as' ∧ Z.Warmed39 U.vm ∧ U.heap = h ∧ CHv Z EL U.vm h ∧ ∀ x ∈ sf, Safe Z EL U.vm h x ∧ x < h.size) (fun _ _ _ _ _ => True)
    (fun _ U o U' => ∃ v L, o = .returned v ∧ (Qv v U'.heap (fun x => Safe Z EL U'.vm U'.heap x ∧ x < U'.heap.size) ∧ Fr n0 L ∧ Keep h U'.heap ws) ∧ CHr Z EL U.vm U.heap U'.vm U'.heap ∧ ReturnedEndW U o U' L rm.cells rm.slots)
def Fend (Z : State) (EL : List (String × Nat)) (n0 : Nat) (s : State) (h : Heap) (ws : List Addr) (Qv : Option Value → Heap → (Addr → Prop) → Prop) (rm : Room) (o : Outcome) (t : State) : Prop :=
  ∃ v L, o = .returned v ∧ (Qv v t.heap (fun x => Safe Z EL t.vm t.heap x ∧ x < t.heap.size) ∧ Fr n0 L ∧ Keep h t.heap ws) ∧ CHr Z EL s.vm s.heap t.vm t.heap ∧ ReturnedEndW s o t L rm.cells rm.slots
variable {y : MethodName} {bytes : ByteArray} {maxL : Nat} {ret : Option FieldType} {wl : List Cond} {rm : Room} {as' : Array Value} {Qv : Option Value → Heap → (Addr → Prop) → Prop}
theorem Met.of (hy : plainFor y = true) (O : Old Z n0 h) (body : ∀ (p : Program) (e : Env) (s : State) (m : MethodId) (below : List Frame) (meth : Method) (c : Code) (T : State), p.tables.exec = Jvm.exec → c.code = bytes → c.maxLocals = maxL → meth.sig.returnType = ret → meth.locks = false → meth.name = y.name → s.heap = h →
      Wk p l e rm s m as' below meth c Z EL n0 ws y.cls sf T 0 0 h → Go p e below (Fend Z EL n0 s h ws Qv rm) (T.setTop (entryFrame m as' maxL))) : Met l Z EL n0 y bytes maxL ret wl rm as' h ws sf Qv := by
  refine MetFree.of_bodySF hy hisR ?_
  intro p e s m args below meth c s₁ Bd hml0 hP hK
  obtain ⟨rfl, hZ, hh, hC, hF⟩ := hP
  subst hh
  have e0 : s₁.heap = s.heap := by rw [Bd.state]; rfl
  have hown := findClass_of_methodNamed Bd.named
  have X0 : Stand p l e rm s m args below meth c s₁ [] 0 0 := Stand.of_body Bd
  obtain ⟨s₂, o, st, r1, r2, q⟩ := body p e s m below meth c s₁ Bd.exec Bd.bytes hml0 Bd.returns Bd.notSynchronized (name_of_methodNamed Bd.named Bd.method).1 rfl ⟨s.vm, [], 0, X0, e0, (State.WarmedH.refl s).since 0, Nat.zero_le _, hZ, hown, CHr.refl hC, Fr.nil n0, Keep.refl _ _, O, hF⟩
  exact ⟨s₂, o, st, r1, r2, q⟩
theorem Wk.fin {g : JFrame} (W : Wk p l e rm s m args below meth c Z EL n0 ws own sf T cells slots h') (hEL : EW Z a0 EL) (hs : s.heap = h) (hlk : meth.locks = false) (hc : cells ≤ rm.cells) (hl : slots ≤ rm.slots) {w : Option Value} (hv : meth.sig.returnType = none → w = none) (hq : ∀ S : Addr → Prop, (∀ x ∈ sf, S x) → Qv w h' S)
    (k : ∀ (vm0 : Vm) (locs : List Loc) (fs : List Frame), Stand p l e rm (s.setVm vm0) m args below meth c T locs cells slots → (∀ (f : JFrame) (acts : List Action), f.method = m → f.locked = none → f.entered = [] → (doReturn e (T.setTop f) acts w).1 = T.setFrames fs) → Steps p.tables e below (T.setTop g) (T.setFrames fs)) : Go p e below (Fend Z EL n0 s h ws Qv rm) (T.setTop g) := by
  obtain ⟨vm0, locs, k0, X, eT, hS, hk, hZ, hown, hC, N, K, Ol, Fs⟩ := W
  subst hs eT
  obtain ⟨fs, hr, hrun, hended, q1, q2, q3, q4⟩ := X.leaveW hS hk hv hlk
  refine ⟨T.setFrames fs, .returned w, k vm0 locs fs X hr, hrun, hended, w, locs, rfl, ⟨hq _ (fun x hx => (show Safe Z EL T.vm T.heap x ∧ x < T.heap.size from ⟨CHr.safe (CHv.at X hZ hEL hC.1) (Fs x hx).2 (Fs x hx).1, (Fs x hx).2⟩)), N, K⟩, (show CHr Z EL s.vm s.heap T.vm T.heap from hC.trans (CHv.at X hZ hEL hC.1)), q1, q2, q3, q4.mono hc hl⟩
theorem Wk.retG (W : Wk p l e rm s m args below meth c Z EL n0 ws own sf T cells slots h') (hx : p.tables.exec = Jvm.exec) (hEL : EW Z a0 EL) (hs : s.heap = h) (hlk : meth.locks = false) (hc : cells ≤ rm.cells) (hl : slots ≤ rm.slots) {pc : Nat} {Ls : Array Slot} {w : Value} {t : FieldType} {i : Instr} {rest : List Value} (hret : meth.sig.returnType = some t) (hn : narrow t w = w)
    (hi : (i = .ireturn ∧ (t = .int ∨ t = .boolean ∨ t = .byte ∨ t = .char ∨ t = .short) ∧ ∃ z, w = .int z) ∨ (i = .lreturn ∧ t = .long ∧ ∃ z, w = .long z) ∨ (i = .dreturn ∧ t = .double ∧ ∃ z, w = .double z) ∨ (i = .freturn ∧ t = .float ∧ ∃ z, w = .float z) ∨ (i = .areturn ∧ t.isReference = true ∧ w.isRef = true))
    (hd : decode c.code pc = .ok (i, 1)) (hq : ∀ S : Addr → Prop, (∀ x ∈ sf, S x) → Qv (some w) h' S) : Go p e below (Fend Z EL n0 s h ws Qv rm) (T.setTop (mkF m pc Ls (w :: rest))) :=
  W.fin hEL hs hlk hc hl (w := some w) (fun q => by rw [hret] at q; cases q) hq (fun vm0 locs fs X hr => RoadKit.retOut X hx hret hn hi hd hr)
theorem Wk.retI (W : Wk p l e rm s m args below meth c Z EL n0 ws own sf T cells slots h') (hx : p.tables.exec = Jvm.exec) (hEL : EW Z a0 EL) (hs : s.heap = h) (hlk : meth.locks = false) (hc : cells ≤ rm.cells) (hl : slots ≤ rm.slots) {pc : Nat} {Ls : Array Slot} {w : Int32} {t : FieldType} {rest : List Value} (hret : meth.sig.returnType = some t) (ht : t = .int ∨ t = .boolean ∨ t = .byte ∨ t = .char ∨ t = .short) (hn : narrow t (.int w) = .int w)
    (hd : decode c.code pc = .ok (.ireturn, 1)) (hq : ∀ S : Addr → Prop, (∀ x ∈ sf, S x) → Qv (some (.int w)) h' S) : Go p e below (Fend Z EL n0 s h ws Qv rm) (T.setTop (mkF m pc Ls (.int w :: rest))) :=
  W.retG hx hEL hs hlk hc hl hret hn (Or.inl ⟨rfl, ht, w, rfl⟩) hd hq
theorem Wk.retA (W : Wk p l e rm s m args below meth c Z EL n0 ws own sf T cells slots h') (hx : p.tables.exec = Jvm.exec) (hEL : EW Z a0 EL) (hs : s.heap = h) (hlk : meth.locks = false) (hc : cells ≤ rm.cells) (hl : slots ≤ rm.slots) {pc : Nat} {Ls : Array Slot} {w : Value} {t : FieldType} {rest : List Value} (hret : meth.sig.returnType = some t) (ht : t.isReference = true) (hw : w.isRef = true)
    (hd : decode c.code pc = .ok (.areturn, 1)) (hq : ∀ S : Addr → Prop, (∀ x ∈ sf, S x) → Qv (some w) h' S) : Go p e below (Fend Z EL n0 s h ws Qv rm) (T.setTop (mkF m pc Ls (w :: rest))) :=
  W.retG hx hEL hs hlk hc hl hret (by cases t <;> cases w <;> first | rfl | cases ht | cases hw) (Or.inr (Or.inr (Or.inr (Or.inr ⟨rfl, ht, hw⟩)))) hd hq
theorem Wk.retL (W : Wk p l e rm s m args below meth c Z EL n0 ws own sf T cells slots h') (hx : p.tables.exec = Jvm.exec) (hEL : EW Z a0 EL) (hs : s.heap = h) (hlk : meth.locks = false) (hc : cells ≤ rm.cells) (hl : slots ≤ rm.slots) {pc : Nat} {Ls : Array Slot} {w : Int64} {rest : List Value} (hret : meth.sig.returnType = some .long)
    (hd : decode c.code pc = .ok (.lreturn, 1)) (hq : ∀ S : Addr → Prop, (∀ x ∈ sf, S x) → Qv (some (.long w)) h' S) : Go p e below (Fend Z EL n0 s h ws Qv rm) (T.setTop (mkF m pc Ls (.long w :: rest))) :=
  W.retG hx hEL hs hlk hc hl hret rfl (Or.inr (Or.inl ⟨rfl, rfl, w, rfl⟩)) hd hq
theorem Wk.retV (W : Wk p l e rm s m args below meth c Z EL n0 ws own sf T cells slots h') (hx : p.tables.exec = Jvm.exec) (hEL : EW Z a0 EL) (hs : s.heap = h) (hlk : meth.locks = false) (hc : cells ≤ rm.cells) (hl : slots ≤ rm.slots) {pc : Nat} {Ls : Array Slot} (hret : meth.sig.returnType = none)
    (hd : decode c.code pc = .ok (.return_, 1)) (hq : ∀ S : Addr → Prop, (∀ x ∈ sf, S x) → Qv none h' S) : Go p e below (Fend Z EL n0 s h ws Qv rm) (T.setTop (mkF m pc Ls [])) :=
  W.fin hEL hs hlk hc hl (w := none) (fun _ => rfl) hq (fun vm0 locs fs X hr => X.returnOut hx hret hd hr)
/-! calls of what has a contract -/
/-- Wk with the tables named -/
def WkAt (p : Program) (l : Launch) (e : Env) (R : Room) (s : State) (m : MethodId) (args : Array Value) (below : List Frame) (meth : Method) (c : Code) (Z : State) (EL : List (String × Nat)) (n0 : Nat) (ws : List Addr) (own : String) (sf : List Addr) (T : State) (cells slots : Nat) (h : Heap) (vm0 : Vm) : Prop :=
  ∃ (locs : List Loc) (k0 : Nat), Stand p l e R (s.setVm vm0) m args below meth c T locs cells slots ∧ T.heap = h ∧ s.Since vm0 k0 ∧ k0 ≤ h.size ∧ Z.Warmed39 vm0 ∧ vm0.findClass own = some m.cls ∧ CHr Z EL s.vm s.heap vm0 h ∧ Fr n0 locs ∧ Keep s.heap h ws ∧ Old Z n0 h ∧ ∀ x ∈ sf, Safe Z EL vm0 h x ∧ x < h.size
theorem wk_tabAt {k1 : Nat} (X : Stand p l e R (s.setVm vm1) m args below meth c T' locs cells slots) (e' : T'.heap = h') (E : Keep h h' ws') (gws : ∀ x ∈ ws', n0 ≤ x ∧ (x ∈ ws ∨ s.heap.size ≤ x)) (hS : s.Since vm1 k1) (hk : k1 ≤ h'.size) (hZ : Z.Warmed39 vm1) (hown : vm1.findClass own = some m.cls) (A : CHr Z EL vm0 h vm1 h') (hC : CHr Z EL s.vm s.heap vm0 h) (N : Fr n0 locs) (K : Keep s.heap h ws) (O : Old Z n0 h)
    (F : ∀ x ∈ sf, Safe Z EL vm0 h x ∧ x < h.size) : WkAt p l e R s m args below meth c Z EL n0 ws own sf T' cells slots h' vm1 :=
  ⟨locs, k1, X, e', hS, hk, hZ, hown, hC.trans A, N, K.trans E fun y hy => (gws y hy).2, O.keep E fun y hy => (gws y hy).1, fun y hy => ⟨CHr.safe A (F y hy).2 (F y hy).1, Nat.lt_of_lt_of_le (F y hy).2 E.1⟩⟩
theorem wk_more {sfx : List Addr} (W : WkAt p l e R s m args below meth c Z EL n0 ws own sf T cells slots h vm0) (hx : ∀ x ∈ sfx, Safe Z EL vm0 h x ∧ x < h.size) : Wk p l e R s m args below meth c Z EL n0 ws own (sfx ++ sf) T cells slots h := by
  obtain ⟨locs, k0, X, eT, hS, hk, hZ, hown, hC, N, K, O, F⟩ := W
  exact ⟨vm0, locs, k0, X, eT, hS, hk, hZ, hown, hC, N, K, O, fun y hy => (List.mem_append.mp hy).elim (hx y) (F y)⟩
theorem wk_call {U : State} {L : List Loc} {rcells rslots : Nat} (X : Stand p l e R (s.setVm vm0) m args below meth c T locs cells slots) (X' : Stand p l e R ((s.setVm vm0).setVm U.vm) m args below meth c U (locs ++ L) (cells + rcells) (slots + rslots)) (hS' : (s.setVm vm0).Since U.vm U.heap.size) (hle : T.heap.size ≤ U.heap.size) (eT : T.heap = h) (N' : Fr n0 L) (K' : Keep h U.heap ws') (A : CHr Z EL vm0 h U.vm U.heap) (gws : ∀ x ∈ ws', n0 ≤ x ∧ (x ∈ ws ∨ s.heap.size ≤ x))
    (hS : s.Since vm0 k0) (hk : k0 ≤ h.size) (hZ : Z.Warmed39 vm0) (hown : vm0.findClass own = some m.cls) (hC : CHr Z EL s.vm s.heap vm0 h) (N : Fr n0 locs) (K : Keep s.heap h ws) (O : Old Z n0 h) (F : ∀ x ∈ sf, Safe Z EL vm0 h x ∧ x < h.size) : WkAt p l e R s m args below meth c Z EL n0 ws own sf U (cells + rcells) (slots + rslots) U.heap U.vm :=
  wk_tabAt (T' := U) (h' := U.heap) (vm1 := U.vm) (locs := locs ++ L) X' rfl K' gws (hS.trans hS' (Nat.le_trans hk (eT ▸ hle))) (Nat.le_refl _) (State.Warmed39.trans (t := s.setVm vm0) hZ hS'.1) ((hS'.1.alike.findClass _ _).trans hown) A hC (N.app N') K O F
theorem Met.pay {sf' : List Addr} {len Wd : Nat} (M : Met l Z EL n0 y bytes maxL ret [] rm as' h ws' sf' Qv) (hZ : Z.Warmed39 vm0) (wc : (Cond.code y bytes maxL ret).before a0 Z = true) (wz : (Cond.initialized y.cls).before a0 Z = true) (hf : rm.frames + 1 ≤ R.frames) (hl : Wd + (maxL + 11) + rm.locals ≤ R.locals) (hEL : EW Z a0 EL) (H : CHv Z EL vm0 h) (HS : ∀ x ∈ sf', Safe Z EL vm0 h x ∧ x < h.size) :
    BackS l R p e below (s.setVm vm0) args y len Wd (fun A a => a = as' ∧ A.U.heap = h ∧ A.cells + rm.cells ≤ R.cells ∧ A.slots + rm.slots ≤ R.slots)
      (fun A _ v B => ∃ L, (Qv v B.U.heap (fun x => Safe Z EL B.U.vm B.U.heap x ∧ x < B.U.heap.size) ∧ Fr n0 L ∧ Keep h B.U.heap ws') ∧ B.locs = A.locs ++ L ∧ B.cells = A.cells + rm.cells ∧ B.slots = A.slots + rm.slots ∧ CHr Z EL vm0 h B.U.vm B.U.heap) := by
  refine BackS.of_freeW (bytes := bytes) (maxL := maxL) (ret := ret) (E := fun _ first o t L k n => k = rm.cells ∧ n = rm.slots ∧ (∃ v, o = .returned v ∧ (Qv v t.heap (fun x => Safe Z EL t.vm t.heap x ∧ x < t.heap.size) ∧ Fr n0 L ∧ Keep h t.heap ws')) ∧ CHr Z EL first.vm first.heap t.vm t.heap) M hf hl ?_ ?_ (fun _ _ _ _ _ _ _ _ _ => trivial) ?_ ?_
  · intro m meth c A a Y hp
    have hU : Z.Warmed39 A.U.vm := wtrans (s := s.setVm vm0) hZ Y.warmed
    exact ⟨by show (Cond.and _ .tt).before a A.U = true; rw [Cond.before_and, mv hU wc]; rfl, mv hU wc, mv hU wz, hp.2.2.1, hp.2.2.2⟩
  · intro m meth c A a g mk Y hp
    have C0 := CHv.at Y hZ hEL H
    exact ⟨hp.1, wtrans (s := s.setVm vm0) hZ Y.warmed, hp.2.1, C0.1, fun x hx => ⟨C0.safe (HS x hx).2 (HS x hx).1, (HS x hx).2⟩⟩
  · rintro _ _ _ _ ⟨v, L, h1, h2, h3, h4⟩
    exact ⟨L, _, _, h4, rfl, rfl, ⟨v, h1, h2⟩, h3⟩
  · rintro m meth c A a g mk v t L k n Y hp _ _ ⟨e1, e2, ⟨v', e3, e4⟩, e5⟩
    cases e3; subst e1 e2
    refine ⟨L, e4, rfl, rfl, rfl, (CHv.at Y hZ hEL H).trans ?_⟩
    rw [← hp.2.1]; exact e5
theorem Wk.callS (W : Wk p l e R s m args below meth c Z EL n0 ws own sf T cells slots h) (hx : p.tables.exec = Jvm.exec) (hEL : EW Z a0 EL) {index : Nat} (w1 : (Cond.methodLink own index y).before a0 Z = true) (w2 : (Cond.static y).before a0 Z = true) (w3 : (Cond.initialized y.cls).before a0 Z = true) (w4 : (Cond.code y bytes maxL ret).before a0 Z = true)
    (hy : y.cls ≠ "java/lang/invoke/MethodHandle" ∧ y.cls ≠ "java/lang/invoke/VarHandle") {argsL rest : List Value} {sf' : List Addr} (M : Met l Z EL n0 y bytes maxL ret [] rm argsL.toArray h ws' sf' Qv) (hsf : ∀ x ∈ sf', x ∈ sf) (hf : rm.frames + 1 ≤ R.frames) {Wd : Nat} (hl : Wd + (maxL + 11) + rm.locals ≤ R.locals) (hc : cells + rm.cells ≤ R.cells) (hsl : slots + rm.slots ≤ R.slots)
    (gws : ∀ x ∈ ws', n0 ≤ x ∧ (x ∈ ws ∨ s.heap.size ≤ x)) {g : JFrame} (hg : g.method = m) (hsize : g.locals.size = c.maxLocals) (hlen : ∀ sig, parseMethodDescriptor y.desc = some sig → argsL.length = sig.parameters.length) (hstack : g.stack = argsL.reverse ++ rest) (hW : 2 * g.monitorRoom + (rest.map fun v => v.category).sum ≤ Wd)
    (hd : decode c.code g.pc = .ok (.invokestatic index, 3)) (k : ∀ T' h' v (S : Addr → Prop), (∀ sfx : List Addr, (∀ x ∈ sfx, S x) → Wk p l e R s m args below meth c Z EL n0 ws own (sfx ++ sf) T' (cells + rm.cells) (slots + rm.slots) h') → Keep h h' ws' → Qv v h' S → Go p e below Q (T'.setTop { g with pc := g.pc + 3, stack := v.toList ++ rest })) : Go p e below Q (T.setTop g) := by
  obtain ⟨vm0, locs, k0, X, eT, hS, hk, hZ, hown, hC, N, K, Ol, Fs⟩ := W
  obtain ⟨v, vm₁, ⟨U, Lb, kb, nb⟩, hw, X', hS', hle, ⟨L, ⟨q, N', K'⟩, e1, e2, e3, A⟩, st⟩ := callSS X hx hown (mvT (s := s.setVm vm0) hZ w1) (mvT (s := s.setVm vm0) hZ w2) (mvT (s := s.setVm vm0) hZ w3) (mvT (s := s.setVm vm0) hZ w4) hy (Met.pay (s := s) (Wd := Wd) M hZ w4 w3 hf hl hEL hC.1 (fun x hx => Fs x (hsf x hx))) hg hsize hlen hstack hW hd (fun _ _ => ⟨rfl, eT, hc, hsl⟩)
  dsimp only [Pt.U, Pt.locs, Pt.cells, Pt.slots] at X' hS' hle q K' e1 e2 e3 A st
  subst e1 e2 e3
  exact Go.on st (k U U.heap v _ (fun sfx hx => wk_more (wk_call X X' hS' hle eT N' K' A gws hS hk hZ hown hC N K Ol Fs) hx) K' q)
theorem Wk.callP (W : Wk p l e R s m args below meth c Z EL n0 ws own sf T cells slots h) (hx : p.tables.exec = Jvm.exec) (hEL : EW Z a0 EL) {index : Nat} (hy1 : y.name = "<init>") (w1 : (Cond.methodLink own index y).before a0 Z = true) (w2 : (Cond.instanceMethod y).before a0 Z = true) (w3 : (Cond.initialized y.cls).before a0 Z = true) (w4 : (Cond.code y bytes maxL none).before a0 Z = true)
    (hy : y.cls ≠ "java/lang/invoke/MethodHandle" ∧ y.cls ≠ "java/lang/invoke/VarHandle") {argsL rest : List Value} {sf' : List Addr} (M : Met l Z EL n0 y bytes maxL none [] rm (.ref a :: argsL).toArray h ws' sf' Qv) (hsf : ∀ x ∈ sf', x ∈ sf) (hf : rm.frames + 1 ≤ R.frames) {Wd : Nat} (hl : Wd + (maxL + 11) + rm.locals ≤ R.locals) (hc : cells + rm.cells ≤ R.cells) (hsl : slots + rm.slots ≤ R.slots)
    (gws : ∀ x ∈ ws', n0 ≤ x ∧ (x ∈ ws ∨ s.heap.size ≤ x)) {g : JFrame} (hg : g.method = m) (hsize : g.locals.size = c.maxLocals) (hlen : ∀ sig, parseMethodDescriptor y.desc = some sig → argsL.length = sig.parameters.length) (hstack : g.stack = argsL.reverse ++ .ref a :: rest) (hW : 2 * g.monitorRoom + (rest.map fun v => v.category).sum ≤ Wd)
    (hd : decode c.code g.pc = .ok (.invokespecial index, 3)) (k : ∀ T' h' v (S : Addr → Prop), (∀ sfx : List Addr, (∀ x ∈ sfx, S x) → Wk p l e R s m args below meth c Z EL n0 ws own (sfx ++ sf) T' (cells + rm.cells) (slots + rm.slots) h') → Keep h h' ws' → Qv v h' S → Go p e below Q (T'.setTop { g with pc := g.pc + 3, stack := v.toList ++ rest })) : Go p e below Q (T.setTop g) := by
  obtain ⟨vm0, locs, k0, X, eT, hS, hk, hZ, hown, hC, N, K, Ol, Fs⟩ := W
  obtain ⟨v, vm₁, ⟨U, Lb, kb, nb⟩, hw, X', hS', hle, ⟨L, ⟨q, N', K'⟩, e1, e2, e3, A⟩, st⟩ := X.specialBackS hx hy1 hown (mvT (s := s.setVm vm0) hZ w1) (mvT (s := s.setVm vm0) hZ w2) (mvT (s := s.setVm vm0) hZ w4) hy (Met.pay (s := s) (Wd := Wd) M hZ w4 w3 hf hl hEL hC.1 (fun x hx => Fs x (hsf x hx))) hg hsize (Steps.refl _) hlen hstack hW hd (fun _ _ => ⟨rfl, eT, hc, hsl⟩)
  dsimp only [Pt.U, Pt.locs, Pt.cells, Pt.slots] at X' hS' hle q K' e1 e2 e3 A st
  subst e1 e2 e3
  exact Go.on st (k U U.heap v _ (fun sfx hx => wk_more (wk_call X X' hS' hle eT N' K' A gws hS hk hZ hown hC N K Ol Fs) hx) K' q)
theorem Wk.callV (W : Wk p l e R s m args below meth c Z EL n0 ws own sf T cells slots h) (hx : p.tables.exec = Jvm.exec) (hEL : EW Z a0 EL) {index : Nat} {C : String} (w1 : (Cond.methodLink own index y).before a0 Z = true) (w2 : (Cond.declares y).before a0 Z = true) (w5 : (Cond.selects C y y).before a0 Z = true) (w6 : (Cond.instanceMethod y).before a0 Z = true) (w3 : (Cond.initialized y.cls).before a0 Z = true) (w4 : (Cond.code y bytes maxL ret).before a0 Z = true)
    (hy : y.cls ≠ "java/lang/invoke/MethodHandle" ∧ y.cls ≠ "java/lang/invoke/VarHandle") (Ea : Exa Z h a C) {argsL rest : List Value} {sf' : List Addr} (M : Met l Z EL n0 y bytes maxL ret [] rm (.ref a :: argsL).toArray h ws' sf' Qv) (hsf : ∀ x ∈ sf', x ∈ sf) (hf : rm.frames + 1 ≤ R.frames) {Wd : Nat} (hl : Wd + (maxL + 11) + rm.locals ≤ R.locals) (hc : cells + rm.cells ≤ R.cells) (hsl : slots + rm.slots ≤ R.slots)
    (gws : ∀ x ∈ ws', n0 ≤ x ∧ (x ∈ ws ∨ s.heap.size ≤ x)) {g : JFrame} (hg : g.method = m) (hsize : g.locals.size = c.maxLocals) (hlen : ∀ sig, parseMethodDescriptor y.desc = some sig → argsL.length = sig.parameters.length) (hstack : g.stack = argsL.reverse ++ .ref a :: rest) (hW : 2 * g.monitorRoom + (rest.map fun v => v.category).sum ≤ Wd)
    (hd : decode c.code g.pc = .ok (.invokevirtual index, 3)) (k : ∀ T' h' v (S : Addr → Prop), (∀ sfx : List Addr, (∀ x ∈ sfx, S x) → Wk p l e R s m args below meth c Z EL n0 ws own (sfx ++ sf) T' (cells + rm.cells) (slots + rm.slots) h') → Keep h h' ws' → Qv v h' S → Go p e below Q (T'.setTop { g with pc := g.pc + 3, stack := v.toList ++ rest })) : Go p e below Q (T.setTop g) := by
  obtain ⟨vm0, locs, k0, X, eT, hS, hk, hZ, hown, hC, N, K, Ol, Fs⟩ := W
  obtain ⟨cB, kB, qa, qb, qc⟩ := isOf (s := s.setVm vm0) hZ eT Ea
  obtain ⟨v, vm₁, ⟨U, Lb, kb, nb⟩, hw, X', hS', hle, ⟨L, ⟨q, N', K'⟩, e1, e2, e3, A⟩, st⟩ := X.virtualBackS hx (z := y) hown (mvT (s := s.setVm vm0) hZ w1) (mvT (s := s.setVm vm0) hZ w2) (notFace_of_selects (args := #[]) (mvT (s := s.setVm vm0) hZ w5)) (mvT (s := s.setVm vm0) hZ w5) (mvT (s := s.setVm vm0) hZ w6) hy (Met.pay (s := s) (Wd := Wd) M hZ w4 w3 hf hl hEL hC.1 (fun x hx => Fs x (hsf x hx))) qa qc hg hsize (Steps.refl _) hlen hstack hW hd (fun _ _ => ⟨rfl, eT, hc, hsl⟩)
  dsimp only [Pt.U, Pt.locs, Pt.cells, Pt.slots] at X' hS' hle q K' e1 e2 e3 A st
  subst e1 e2 e3
  exact Go.on st (k U U.heap v _ (fun sfx hx => wk_more (wk_call X X' hS' hle eT N' K' A gws hS hk hZ hown hC N K Ol Fs) hx) K' q)
/-! calls: a private method by invokevirtual; a method that lands elsewhere; super's -/
theorem privBackS (X : Stand p l e R s m args below meth c T locs cells slots) (hexec : p.tables.exec = Jvm.exec) {own C : String} {index : Nat} {y : MethodName}
    (hown : s.vm.findClass own = some m.cls) (hlink : (Cond.methodLink own index y).before args s = true) (hcode : (Cond.code y bytes maxL ret).before args s = true)
    (hsel : (Cond.selects C y y).before args s = true) (hinst : (Cond.instanceMethod y).before args s = true)
    (hy : y.cls ≠ "java/lang/invoke/MethodHandle" ∧ y.cls ≠ "java/lang/invoke/VarHandle")
    {W : Nat} {Pre : Pt → Array Value → Prop} {Post : Pt → Array Value → Option Value → Pt → Prop} (hK : BackS l R p e below s args y 3 W Pre Post)
    {b : Addr} {cB : ClassId} (hcB : s.vm.findClass C = some cB) (hrecv : IsOf cB T b)
    {g : JFrame} (hg : g.method = m) (hsize : g.locals.size = c.maxLocals) {s₀ : State} (hcome : Steps p.tables e below s₀ (T.setTop g)) {argsL rest : List Value}
    (hlen : ∀ sig, parseMethodDescriptor y.desc = some sig → argsL.length = sig.parameters.length) (hstack : g.stack = argsL.reverse ++ .ref b :: rest) (hW : 2 * g.monitorRoom + (rest.map fun v => v.category).sum ≤ W)
    (hdg : decode c.code g.pc = .ok (.invokevirtual index, 3)) (hpre : ∀ vm₁, s.WarmedH vm₁ → Pre ⟨T.setVm vm₁, locs, cells, slots⟩ (.ref b :: argsL).toArray) :
    ∃ (v : Option Value) (vm₁ : Vm) (B : Pt), s.WarmedH vm₁ ∧ Stand p l e R (s.setVm B.U.vm) m args below meth c B.U B.locs B.cells B.slots ∧ s.Since B.U.vm B.U.heap.size ∧ T.heap.size ≤ B.U.heap.size ∧ Post ⟨T.setVm vm₁, locs, cells, slots⟩ (.ref b :: argsL).toArray v B ∧
      Steps p.tables e below s₀ (B.U.setTop { g with pc := g.pc + 3, stack := v.toList ++ rest }) := by
  obtain ⟨cellB, hcellT, hclsB, hstatB⟩ := hrecv
  obtain ⟨mk, methM, hnamed, hmethM, hstM, habM⟩ := Cond.instanceMethod_spec hinst
  obtain ⟨methM', cM, hmethM', -, -, -, -, -, -, hsigM⟩ := Cond.code_spec hnamed hcode
  cases hmethM.symm.trans hmethM'
  obtain ⟨c2, r2, m2, q1, q2, q3, q4, kP, hkP, hkPi⟩ := Cond.selects_spec hsel
  cases hcB.symm.trans q1
  cases (State.methodFound?_of_named hnamed hy).symm.trans q2
  have hselP : selectMethod e.platform s.vm cellB.cls mk = .method mk := by
    have q5 := hnamed.symm.trans q3
    cases q5
    rw [Launch.admits_selectMethod X.admits, hclsB]; exact q4
  cases hnamed.symm.trans q3
  obtain ⟨vm₁, X₁, hstep₁⟩ := X.invokevirtual hexec hown hlink hnamed hmethM hstM hkP hkPi hy (a := b) (cell := cellB) hcellT
    (fun z h => by rw [h] at hstatB; cases hstatB) hselP hmethM habM hkP hkPi (g := g) hg (argsL := argsL) (rest := rest) (hlen _ hsigM) hstack hdg
  obtain ⟨v, B, X', hS, hgr, hpost, hsteps⟩ := hK m meth c ⟨T.setVm vm₁, locs, cells, slots⟩ { g with stack := rest } (.invokevirtual index) mk (.ref b :: argsL).toArray X₁ hg hsize hdg hW (X₁.named hnamed) (hpre vm₁ X₁.warmed)
  exact ⟨v, vm₁, B, X₁.warmed, X', hS, hgr, hpost, (hcome.trans (hstep₁ _ fun acts => by rw [doInvoke_state]; exact Steps.refl _)).trans hsteps⟩
theorem same_of {C : String} {u : MethodName} (w2 : (Cond.instanceMethod y).before a0 Z = true) (w6 : (Cond.selects C u u).before a0 Z = true) (hu : u.cls = y.cls) (hy : y.cls ≠ "java/lang/invoke/MethodHandle" ∧ y.cls ≠ "java/lang/invoke/VarHandle") : (Cond.sameMethod y.cls y.cls y.name y.desc).before a0 Z = true := by
  obtain ⟨mk, methM, hnamed, hmethM, hstM, habM⟩ := Cond.instanceMethod_spec w2
  obtain ⟨c2, r2, m2, q1, q2, q3, q4, kP, hkP, hkPi⟩ := Cond.selects_spec w6
  have hf := State.methodFound?_of_named hnamed hy
  have hc := findClass_of_methodNamed hnamed
  have hc2 := findClass_of_methodNamed q3
  rw [hu, hc] at hc2
  have e1 : mk.cls = m2.cls := Option.some.inj hc2
  rw [← e1] at hkP
  have hn' : Z.methodNamed? ⟨y.cls, y.name, y.desc⟩ = some mk := hnamed
  simp [Cond.before, Cond.holds, Cond.value, hc, hf, hn', hkP, hkPi]
theorem Wk.callW (W : Wk p l e R s m args below meth c Z EL n0 ws own sf T cells slots h) (hx : p.tables.exec = Jvm.exec) (hEL : EW Z a0 EL) {index : Nat} {C : String} (w1 : (Cond.methodLink own index y).before a0 Z = true) (w5 : (Cond.selects C y y).before a0 Z = true) (w6 : (Cond.instanceMethod y).before a0 Z = true) (w3 : (Cond.initialized y.cls).before a0 Z = true) (w4 : (Cond.code y bytes maxL ret).before a0 Z = true)
    (hy : y.cls ≠ "java/lang/invoke/MethodHandle" ∧ y.cls ≠ "java/lang/invoke/VarHandle") (Ea : Exa Z h a C) {argsL rest : List Value} {sf' : List Addr} (M : Met l Z EL n0 y bytes maxL ret [] rm (.ref a :: argsL).toArray h ws' sf' Qv) (hsf : ∀ x ∈ sf', x ∈ sf) (hf : rm.frames + 1 ≤ R.frames) {Wd : Nat} (hl : Wd + (maxL + 11) + rm.locals ≤ R.locals) (hc : cells + rm.cells ≤ R.cells) (hsl : slots + rm.slots ≤ R.slots)
    (gws : ∀ x ∈ ws', n0 ≤ x ∧ (x ∈ ws ∨ s.heap.size ≤ x)) {g : JFrame} (hg : g.method = m) (hsize : g.locals.size = c.maxLocals) (hlen : ∀ sig, parseMethodDescriptor y.desc = some sig → argsL.length = sig.parameters.length) (hstack : g.stack = argsL.reverse ++ .ref a :: rest) (hW : 2 * g.monitorRoom + (rest.map fun v => v.category).sum ≤ Wd)
    (hd : decode c.code g.pc = .ok (.invokevirtual index, 3)) (k : ∀ T' h' v (S : Addr → Prop), (∀ sfx : List Addr, (∀ x ∈ sfx, S x) → Wk p l e R s m args below meth c Z EL n0 ws own (sfx ++ sf) T' (cells + rm.cells) (slots + rm.slots) h') → Keep h h' ws' → Qv v h' S → Go p e below Q (T'.setTop { g with pc := g.pc + 3, stack := v.toList ++ rest })) : Go p e below Q (T.setTop g) := by
  obtain ⟨vm0, locs, k0, X, eT, hS, hk, hZ, hown, hC, N, K, Ol, Fs⟩ := W
  obtain ⟨cB, kB, qa, qb, qc⟩ := isOf (s := s.setVm vm0) hZ eT Ea
  obtain ⟨v, vm₁, ⟨U, Lb, kb, nb⟩, hw, X', hS', hle, ⟨L, ⟨q, N', K'⟩, e1, e2, e3, A⟩, st⟩ := privBackS X hx hown (mvT (s := s.setVm vm0) hZ w1) (mvT (s := s.setVm vm0) hZ w4) (mvT (s := s.setVm vm0) hZ w5) (mvT (s := s.setVm vm0) hZ w6) hy (Met.pay (s := s) (Wd := Wd) M hZ w4 w3 hf hl hEL hC.1 (fun x hx => Fs x (hsf x hx))) qa qc hg hsize (Steps.refl _) hlen hstack hW hd (fun _ _ => ⟨rfl, eT, hc, hsl⟩)
  dsimp only [Pt.U, Pt.locs, Pt.cells, Pt.slots] at X' hS' hle q K' e1 e2 e3 A st
  subst e1 e2 e3
  exact Go.on st (k U U.heap v _ (fun sfx hx => wk_more (wk_call X X' hS' hle eT N' K' A gws hS hk hZ hown hC N K Ol Fs) hx) K' q)
theorem notFace_by {C : String} {u y : MethodName} (w : (Cond.selects C u u).before args s = true) (hu : u.cls = y.cls) : NotFace s y := fun r0 hn => by
  obtain ⟨c2, r2, m2, q1, q2, q3, q4, kP, hkP, hkPi⟩ := Cond.selects_spec w
  have h1 := findClass_of_methodNamed q3
  have h2 := findClass_of_methodNamed hn
  rw [hu, h2] at h1
  have e1 : r0.cls = m2.cls := Option.some.inj h1
  exact ⟨kP, by rw [e1]; exact hkP, hkPi⟩
theorem Wk.callL (W : Wk p l e R s m args below meth c Z EL n0 ws own sf T cells slots h) (hx : p.tables.exec = Jvm.exec) (hEL : EW Z a0 EL) {index : Nat} {C : String} {yn : MethodName} (w1 : (Cond.methodLink own index yn).before a0 Z = true) (w2 : (Cond.declares yn).before a0 Z = true) (w5 : (Cond.selects C yn y).before a0 Z = true) (w6 : (Cond.instanceMethod y).before a0 Z = true) (w3 : (Cond.initialized y.cls).before a0 Z = true) (w4 : (Cond.code y bytes maxL ret).before a0 Z = true)
    {u : MethodName} (w7 : (Cond.selects C u u).before a0 Z = true) (hu : u.cls = yn.cls) (hy : yn.cls ≠ "java/lang/invoke/MethodHandle" ∧ yn.cls ≠ "java/lang/invoke/VarHandle") (Ea : Exa Z h a C) {argsL rest : List Value} {sf' : List Addr} (M : Met l Z EL n0 y bytes maxL ret [] rm (.ref a :: argsL).toArray h ws' sf' Qv) (hsf : ∀ x ∈ sf', x ∈ sf) (hf : rm.frames + 1 ≤ R.frames) {Wd : Nat} (hl : Wd + (maxL + 11) + rm.locals ≤ R.locals) (hc : cells + rm.cells ≤ R.cells) (hsl : slots + rm.slots ≤ R.slots)
    (gws : ∀ x ∈ ws', n0 ≤ x ∧ (x ∈ ws ∨ s.heap.size ≤ x)) {g : JFrame} (hg : g.method = m) (hsize : g.locals.size = c.maxLocals) (hlen : ∀ sig, parseMethodDescriptor yn.desc = some sig → argsL.length = sig.parameters.length) (hstack : g.stack = argsL.reverse ++ .ref a :: rest) (hW : 2 * g.monitorRoom + (rest.map fun v => v.category).sum ≤ Wd)
    (hd : decode c.code g.pc = .ok (.invokevirtual index, 3)) (k : ∀ T' h' v (S : Addr → Prop), (∀ sfx : List Addr, (∀ x ∈ sfx, S x) → Wk p l e R s m args below meth c Z EL n0 ws own (sfx ++ sf) T' (cells + rm.cells) (slots + rm.slots) h') → Keep h h' ws' → Qv v h' S → Go p e below Q (T'.setTop { g with pc := g.pc + 3, stack := v.toList ++ rest })) : Go p e below Q (T.setTop g) := by
  obtain ⟨vm0, locs, k0, X, eT, hS, hk, hZ, hown, hC, N, K, Ol, Fs⟩ := W
  obtain ⟨cB, kB, qa, qb, qc⟩ := isOf (s := s.setVm vm0) hZ eT Ea
  obtain ⟨v, vm₁, ⟨U, Lb, kb, nb⟩, hw, X', hS', hle, ⟨L, ⟨q, N', K'⟩, e1, e2, e3, A⟩, st⟩ := X.virtualBackS hx (z := y) hown (mvT (s := s.setVm vm0) hZ w1) (mvT (s := s.setVm vm0) hZ w2) (notFace_by (args := #[]) (mvT (s := s.setVm vm0) hZ w7) hu) (mvT (s := s.setVm vm0) hZ w5) (mvT (s := s.setVm vm0) hZ w6) hy (Met.pay (s := s) (Wd := Wd) M hZ w4 w3 hf hl hEL hC.1 (fun x hx => Fs x (hsf x hx))) qa qc hg hsize (Steps.refl _) hlen hstack hW hd (fun _ _ => ⟨rfl, eT, hc, hsl⟩)
  dsimp only [Pt.U, Pt.locs, Pt.cells, Pt.slots] at X' hS' hle q K' e1 e2 e3 A st
  subst e1 e2 e3
  exact Go.on st (k U U.heap v _ (fun sfx hx => wk_more (wk_call X X' hS' hle eT N' K' A gws hS hk hZ hown hC N K Ol Fs) hx) K' q)
theorem Wk.callU (W : Wk p l e R s m args below meth c Z EL n0 ws own sf T cells slots h) (hx : p.tables.exec = Jvm.exec) (hEL : EW Z a0 EL) {index : Nat} {C : String} (w1 : (Cond.methodLink own index y).before a0 Z = true) {u : MethodName} (w2 : (Cond.superclass own y.cls).before a0 Z = true) (w5 : (Cond.selects C u u).before a0 Z = true) (hu : u.cls = y.cls) (hn : y.name ≠ "<init>") (w6 : (Cond.instanceMethod y).before a0 Z = true) (w3 : (Cond.initialized y.cls).before a0 Z = true) (w4 : (Cond.code y bytes maxL ret).before a0 Z = true)
    (hy : y.cls ≠ "java/lang/invoke/MethodHandle" ∧ y.cls ≠ "java/lang/invoke/VarHandle") (Ea : Exa Z h a C) {argsL rest : List Value} {sf' : List Addr} (M : Met l Z EL n0 y bytes maxL ret [] rm (.ref a :: argsL).toArray h ws' sf' Qv) (hsf : ∀ x ∈ sf', x ∈ sf) (hf : rm.frames + 1 ≤ R.frames) {Wd : Nat} (hl : Wd + (maxL + 11) + rm.locals ≤ R.locals) (hc : cells + rm.cells ≤ R.cells) (hsl : slots + rm.slots ≤ R.slots)
    (gws : ∀ x ∈ ws', n0 ≤ x ∧ (x ∈ ws ∨ s.heap.size ≤ x)) {g : JFrame} (hg : g.method = m) (hsize : g.locals.size = c.maxLocals) (hlen : ∀ sig, parseMethodDescriptor y.desc = some sig → argsL.length = sig.parameters.length) (hstack : g.stack = argsL.reverse ++ .ref a :: rest) (hW : 2 * g.monitorRoom + (rest.map fun v => v.category).sum ≤ Wd)
    (hd : decode c.code g.pc = .ok (.invokespecial index, 3)) (k : ∀ T' h' v (S : Addr → Prop), (∀ sfx : List Addr, (∀ x ∈ sfx, S x) → Wk p l e R s m args below meth c Z EL n0 ws own (sfx ++ sf) T' (cells + rm.cells) (slots + rm.slots) h') → Keep h h' ws' → Qv v h' S → Go p e below Q (T'.setTop { g with pc := g.pc + 3, stack := v.toList ++ rest })) : Go p e below Q (T.setTop g) := by
  obtain ⟨vm0, locs, k0, X, eT, hS, hk, hZ, hown, hC, N, K, Ol, Fs⟩ := W
  obtain ⟨v, vm₁, ⟨U, Lb, kb, nb⟩, hw, X', hS', hle, ⟨L, ⟨q, N', K'⟩, e1, e2, e3, A⟩, st⟩ := superBackS (s := s.setVm vm0) X hx hZ hown w1 (same_of w6 w5 hu hy) w6 w2 hn (Met.pay (s := s) (Wd := Wd) M hZ w4 w3 hf hl hEL hC.1 (fun x hx => Fs x (hsf x hx))) eT (Ins.self Ea) hg hsize w4 hlen hstack hW hd (fun _ _ => ⟨rfl, eT, hc, hsl⟩)
  dsimp only [Pt.U, Pt.locs, Pt.cells, Pt.slots] at X' hS' hle q K' e1 e2 e3 A st
  subst e1 e2 e3
  exact Go.on st (k U U.heap v _ (fun sfx hx => wk_more (wk_call X X' hS' hle eT N' K' A gws hS hk hZ hown hC N K Ol Fs) hx) K' q)
/-! calls that a law of the JDK pays -/
theorem wk_keep (X : Stand p l e R (s.setVm vm0) m args below meth c T' locs cells slots) (e' : T'.heap = h') (E : Keep h h' ws') (gws : ∀ x ∈ ws', n0 ≤ x ∧ (x ∈ ws ∨ s.heap.size ≤ x)) (sws : ∀ x ∈ ws', x ∈ sf) (hS : s.Since vm0 k0) (hk : k0 ≤ h.size) (hZ : Z.Warmed39 vm0) (hown : vm0.findClass own = some m.cls) (hC : CHr Z EL s.vm s.heap vm0 h) (N : Fr n0 locs) (K : Keep s.heap h ws) (O : Old Z n0 h)
    (F : ∀ x ∈ sf, Safe Z EL vm0 h x ∧ x < h.size) : Wk p l e R s m args below meth c Z EL n0 ws own sf T' cells slots h' :=
  wk_tab X e' E gws hS (Nat.le_trans hk E.1) hZ hown (CHr.keep E (fun y hy => (F y (sws y hy)).1) hC.1) hC N K O F
variable {Q1 : Option Value → Heap → List Loc → Prop} {kk nn : Nat} {Qp : Option Value → Heap → Prop}
theorem Wk.specB (W : Wk p l e R s m args below meth c Z EL n0 ws own sf T cells slots h) (hx : p.tables.exec = Jvm.exec) {index : Nat} (hy1 : y.name = "<init>") (w1 : (Cond.methodLink own index y).before a0 Z = true) (w2 : (Cond.instanceMethod y).before a0 Z = true) (w4 : (Cond.code y bytes maxL none).before a0 Z = true)
    (hy : y.cls ≠ "java/lang/invoke/MethodHandle" ∧ y.cls ≠ "java/lang/invoke/VarHandle") {argsL rest : List Value} {Wd : Nat} (hK : ∀ s' : State, Z.Warmed39 s'.vm → Back l R p e below s' args y 3 Wd (fun A as => as = (.ref a :: argsL).toArray ∧ A.U.heap = h ∧ A.cells + kk ≤ R.cells ∧ A.slots + nn ≤ R.slots) (fun A _ v B => ∃ L, Q1 v B.U.heap L ∧ B.locs = A.locs ++ L ∧ B.cells = A.cells + kk ∧ B.slots = A.slots + nn))
    (hq : ∀ v h' L, Q1 v h' L → Fr n0 L ∧ Keep h h' ws' ∧ Qp v h') (hc : cells + kk ≤ R.cells) (hsl : slots + nn ≤ R.slots)
    (gws : ∀ x ∈ ws', n0 ≤ x ∧ (x ∈ ws ∨ s.heap.size ≤ x)) (sws : ∀ x ∈ ws', x ∈ sf) {g : JFrame} (hg : g.method = m) (hsize : g.locals.size = c.maxLocals) (hlen : ∀ sig, parseMethodDescriptor y.desc = some sig → argsL.length = sig.parameters.length) (hstack : g.stack = argsL.reverse ++ .ref a :: rest) (hW : 2 * g.monitorRoom + (rest.map fun v => v.category).sum ≤ Wd)
    (hd : decode c.code g.pc = .ok (.invokespecial index, 3)) (k : ∀ T' h' v, Wk p l e R s m args below meth c Z EL n0 ws own sf T' (cells + kk) (slots + nn) h' → Keep h h' ws' → Qp v h' → Go p e below Q (T'.setTop { g with pc := g.pc + 3, stack := v.toList ++ rest })) : Go p e below Q (T.setTop g) := by
  obtain ⟨vm0, locs, k0, X, eT, hS, hk, hZ, hown, hC, N, K, Ol, Fs⟩ := W
  obtain ⟨v, vm₁, ⟨U, Lb, kb, nb⟩, hw, X', ⟨L, q, e1, e2, e3⟩, st⟩ := X.specialBack hx hy1 hown (mvT (s := s.setVm vm0) hZ w1) (mvT (s := s.setVm vm0) hZ w2) (mvT (s := s.setVm vm0) hZ w4) hy (hK (s.setVm vm0) hZ) hg hsize (Steps.refl _) hlen hstack hW hd (fun _ _ => ⟨rfl, eT, hc, hsl⟩)
  dsimp only [Pt.U, Pt.locs, Pt.cells, Pt.slots] at X' q e1 e2 e3 st
  subst e1 e2 e3
  obtain ⟨N', K', q'⟩ := hq _ _ _ q
  exact Go.on st (k U U.heap v (wk_keep X' rfl K' gws sws hS hk hZ hown hC (N.app N') K Ol Fs) K' q')
theorem Wk.virtB (W : Wk p l e R s m args below meth c Z EL n0 ws own sf T cells slots h) (hx : p.tables.exec = Jvm.exec) {index : Nat} {C : String} (w1 : (Cond.methodLink own index y).before a0 Z = true) (w2 : (Cond.declares y).before a0 Z = true) (w5 : (Cond.selects C y y).before a0 Z = true) (w6 : (Cond.instanceMethod y).before a0 Z = true)
    (hy : y.cls ≠ "java/lang/invoke/MethodHandle" ∧ y.cls ≠ "java/lang/invoke/VarHandle") (Ea : Exa Z h a C) {argsL rest : List Value} {Wd : Nat} (hK : ∀ s' : State, Z.Warmed39 s'.vm → Back l R p e below s' args y 3 Wd (fun A as => as = (.ref a :: argsL).toArray ∧ A.U.heap = h ∧ A.cells + kk ≤ R.cells ∧ A.slots + nn ≤ R.slots) (fun A _ v B => ∃ L, Q1 v B.U.heap L ∧ B.locs = A.locs ++ L ∧ B.cells = A.cells + kk ∧ B.slots = A.slots + nn))
    (hq : ∀ v h' L, Q1 v h' L → Fr n0 L ∧ Keep h h' ws' ∧ Qp v h') (hc : cells + kk ≤ R.cells) (hsl : slots + nn ≤ R.slots)
    (gws : ∀ x ∈ ws', n0 ≤ x ∧ (x ∈ ws ∨ s.heap.size ≤ x)) (sws : ∀ x ∈ ws', x ∈ sf) {g : JFrame} (hg : g.method = m) (hsize : g.locals.size = c.maxLocals) (hlen : ∀ sig, parseMethodDescriptor y.desc = some sig → argsL.length = sig.parameters.length) (hstack : g.stack = argsL.reverse ++ .ref a :: rest) (hW : 2 * g.monitorRoom + (rest.map fun v => v.category).sum ≤ Wd)
    (hd : decode c.code g.pc = .ok (.invokevirtual index, 3)) (k : ∀ T' h' v, Wk p l e R s m args below meth c Z EL n0 ws own sf T' (cells + kk) (slots + nn) h' → Keep h h' ws' → Qp v h' → Go p e below Q (T'.setTop { g with pc := g.pc + 3, stack := v.toList ++ rest })) : Go p e below Q (T.setTop g) := by
  obtain ⟨vm0, locs, k0, X, eT, hS, hk, hZ, hown, hC, N, K, Ol, Fs⟩ := W
  obtain ⟨cB, kB, qa, qb, qc⟩ := isOf (s := s.setVm vm0) hZ eT Ea
  obtain ⟨v, vm₁, ⟨U, Lb, kb, nb⟩, hw, X', ⟨L, q, e1, e2, e3⟩, st⟩ := X.virtualBack hx (z := y) hown (mvT (s := s.setVm vm0) hZ w1) (mvT (s := s.setVm vm0) hZ w2) (notFace_of_selects (args := #[]) (mvT (s := s.setVm vm0) hZ w5)) (mvT (s := s.setVm vm0) hZ w5) (mvT (s := s.setVm vm0) hZ w6) hy (hK (s.setVm vm0) hZ) qa qc hg hsize (Steps.refl _) hlen hstack hW hd (fun _ _ => ⟨rfl, eT, hc, hsl⟩)
  dsimp only [Pt.U, Pt.locs, Pt.cells, Pt.slots] at X' q e1 e2 e3 st
  subst e1 e2 e3
  obtain ⟨N', K', q'⟩ := hq _ _ _ q
  exact Go.on st (k U U.heap v (wk_keep X' rfl K' gws sws hS hk hZ hown hC (N.app N') K Ol Fs) K' q')
theorem Wk.cp (W : Wk p l e R s m args below meth c Z EL n0 ws own sf T cells slots h) (hx : p.tables.exec = Jvm.exec) {index : Nat} (w1 : (Cond.methodLink own index Jvm.Stand.acN).before a0 Z = true) (w2 : (Cond.native Jvm.Stand.acN).before a0 Z = true) (w3 : (Cond.static Jvm.Stand.acN).before a0 Z = true) (w4 : (Cond.initialized "java/lang/System").before a0 Z = true)
    {k1 k2 : ClassId} {ty : FieldType} {z z' sp dp nn : Int32} {vs vd us : List Value} {dv dd : Value} (A : Arv Z h a k1 ty z vs dv) (B : Arv Z h b k2 ty z' vd dd) (hty : refKind ty = false) (h1 : ¬ sp < 0) (h2 : ¬ dp < 0) (h3 : ¬ nn < 0) (h4 : sp.toNatClampNeg + nn.toNatClampNeg ≤ z.toNatClampNeg) (h5 : dp.toNatClampNeg + nn.toNatClampNeg ≤ z'.toNatClampNeg)
    (hus : us = (List.range nn.toNatClampNeg).map fun i => vs.getD (sp.toNatClampNeg + i) dv) (hl : dp.toNatClampNeg + nn.toNatClampNeg ≤ vd.length) (ga : n0 ≤ b) (gw : b ∈ ws ∨ s.heap.size ≤ b) (sb : b ∈ sf)
    {g : JFrame} (hg : g.method = m) (hsize : g.locals.size = c.maxLocals) {rest : List Value} (hs : g.stack = .int nn :: .int dp :: .ref b :: .int sp :: .ref a :: rest) (hd : decode c.code g.pc = .ok (.invokestatic index, 3))
    (hf : 1 ≤ R.frames) {Wd : Nat} (hW : 2 * g.monitorRoom + (rest.map fun v => v.category).sum ≤ Wd) (hlo : Wd + (nativeFrameWords "java/lang/System" "arraycopy" 5 + 11) ≤ R.locals)
    (k : ∀ T' h', Wk p l e R s m args below meth c Z EL n0 ws own sf T' cells slots h' → Keep h h' [b] → Arv Z h' b k2 ty z' (vd.take dp.toNatClampNeg ++ us ++ vd.drop (dp.toNatClampNeg + nn.toNatClampNeg)) dd → Go p e below Q (T'.setTop { g with pc := g.pc + 3, stack := rest })) : Go p e below Q (T.setTop g) := by
  obtain ⟨vm0, locs, k0, X, eT, hS, hk, hZ, hown, hC, N, K, Ol, Fs⟩ := W
  obtain ⟨T', h', L, X', e', N', K', A', st⟩ := RoadKit.cpA X hx hZ hown w1 w2 w3 w4 eT A B (Or.inl ⟨rfl, hty⟩) h1 h2 h3 h4 h5 hus hl N ga hg hsize hs hd hf hW hlo
  exact Go.of st (k T' h' (wk_keep X' e' K' (allS ⟨ga, gw⟩ all0) (allS sb all0) hS hk hZ hown hC N' K Ol Fs) K' A')
theorem Wk.aaload (W : Wk p l e R s m args below meth c Z EL n0 ws own sf T cells slots h) (hx : p.tables.exec = Jvm.exec) {kc : ClassId} {ty : FieldType} {z j : Int32} {vs : List Value} {dv : Value} (V : Arv Z h a kc ty z vs dv) (hty : ty.isReference = true) (hj : ¬ j < 0 ∧ j < z) (hv : vs.getD j.toNatClampNeg dv = v)
    {g : JFrame} (hg : g.method = m) {rest : List Value} (hs : g.stack = .int j :: .ref a :: rest) (hd : decode c.code g.pc = .ok (.aaload, 1)) (k : Go p e below Q (T.setTop { g with pc := g.pc + 1, stack := v :: rest })) : Go p e below Q (T.setTop g) := by
  obtain ⟨vm0, locs, k0, X, eT, hS, hk, hZ, hown, r⟩ := W
  obtain ⟨cl, A, q1, S1, q3, H, G⟩ := V
  exact Go.of (fun t q => X.aaload hx (by rw [eT]; exact A.1) (State.isArrayOf_alike hZ.alike A.2.1) hty A.2.2 (inb_of S1 hj) (H.at (inb_of S1 hj) hv) hg hs hd t q) k
theorem Wk.cloneV (W : Wk p l e R s m args below meth c Z EL n0 ws own sf T cells slots h) (hx : p.tables.exec = Jvm.exec) {ad : String} {index : Nat} (w1 : (Cond.methodLink own index ⟨ad, "clone", "()Ljava/lang/Object;"⟩).before a0 Z = true) (w2 : (Cond.sameMethod ad "java/lang/Object" "clone" "()Ljava/lang/Object;").before a0 Z = true) (w3 : (Cond.native ⟨"java/lang/Object", "clone", "()Ljava/lang/Object;"⟩).before a0 Z = true)
    (w4 : (Cond.instanceMethod ⟨"java/lang/Object", "clone", "()Ljava/lang/Object;"⟩).before a0 Z = true) (w5 : (Cond.selects ad ⟨ad, "clone", "()Ljava/lang/Object;"⟩ ⟨"java/lang/Object", "clone", "()Ljava/lang/Object;"⟩).before a0 Z = true) (w6 : (Cond.castable ad "java/lang/Cloneable").before a0 Z = true)
    {kc : ClassId} {ty : FieldType} {z : Int32} {vs : List Value} {dv : Value} (V : Arv Z h a kc ty z vs dv) (E : Exa Z h a ad) (F : ∀ cl : Cell, Arr Z h a cl ty → FitC Z cl) {g : JFrame} (hg : g.method = m) (hsize : g.locals.size = c.maxLocals) {rest : List Value} (hs : g.stack = .ref a :: rest) (hd : decode c.code g.pc = .ok (.invokevirtual index, 3))
    (hf : 1 ≤ R.frames) {Wd cap : Nat} (hW : 2 * g.monitorRoom + (rest.map fun v => v.category).sum ≤ Wd) (hl : Wd + 14 ≤ R.locals) (hcap : z.toNatClampNeg ≤ cap) (hc : cells + 1 ≤ R.cells) (hsl : slots + cap ≤ R.slots)
    (k : ∀ T' h' b, b = h.size → n0 ≤ b ∧ s.heap.size ≤ b → Wk p l e R s m args below meth c Z EL n0 ws own (b :: sf) T' (cells + 1) (slots + cap) h' → Keep h h' [] → Arv Z h' b kc ty z vs dv → Exa Z h' b ad → Go p e below Q (T'.setTop { g with pc := g.pc + 3, stack := .ref b :: rest })) : Go p e below Q (T.setTop g) := by
  have hle := W.n0le
  have hle' := W.s0le
  obtain ⟨vm0, locs, k0, X, eT, hS, hk, hZ, hown, hC, N, K, O, Fs⟩ := W
  obtain ⟨cl, A, q1, S1, q3, H, G⟩ := V
  obtain ⟨T', h', X', e', Ex, A', E', st⟩ := RoadKit.cloneA X hx hZ hown w1 w2 w3 w4 w5 w6 eT A E (F cl A) hg hsize hs hd hf hW hl (by rw [S1]; exact hcap) hc hsl
  exact Go.of st (k T' h' h.size rfl ⟨hle, hle'⟩ (wk_new X' e' Ex A'.lt hS hk hZ hown hC N K O Fs) ((Keep.refl h []).ext Ex) ⟨cloneOf cl, A', q1, S1, q3, H, G⟩ E')
theorem ne_of_born {h h1 : Heap} (hb : h.size ≤ b) (hlt : a < h1.size) (hle : h1.size ≤ h.size) : a ≠ b := Nat.ne_of_lt (Nat.lt_of_lt_of_le hlt (Nat.le_trans hle hb))
theorem nin1 (q : a ≠ b) : a ∉ [b] := ninS q nin0
theorem all1 {P : Addr → Prop} (q : P a) : ∀ x ∈ [a], P x := allS q all0
theorem all0i {P : Int32 → Prop} : ∀ x ∈ ([] : List Int32), P x := fun _ q => nomatch q
theorem allSi {P : Int32 → Prop} {y : Int32} {L : List Int32} (q : P y) (r : ∀ x ∈ L, P x) : ∀ x ∈ y :: L, P x := fun x z => (List.mem_cons.mp z).elim (fun u => u ▸ q) (r x)
theorem fin256 {P : Int32 → Prop} (t : ∀ k : Fin 256, P (Int32.ofNat k.val)) {q : Int32} (hq : ¬ q < 0 ∧ ¬ (255 : Int32) < q) : P q := by
  have h0 : ¬ q.toInt < 0 := fun z => hq.1 (by rw [Int32.lt_iff_toInt_lt]; exact z)
  have h1 : ¬ 255 < q.toInt := fun z => hq.2 (by rw [Int32.lt_iff_toInt_lt]; exact z)
  have e : q = Int32.ofNat q.toInt.toNat := by
    apply Int32.toInt_inj.mp
    rw [Int32.toInt_ofNat_of_lt (by omega)]
    omega
  rw [e]
  exact t ⟨q.toInt.toNat, by omega⟩
theorem and255 (x : Int32) : ¬ (x &&& (255 : Int32)) < 0 ∧ ¬ (255 : Int32) < (x &&& (255 : Int32)) := by
  have t : ∀ k : Fin 256, ¬ (Int32.ofNat k.val) < 0 ∧ ¬ (255 : Int32) < (Int32.ofNat k.val) := by decide +kernel
  have h : (x &&& 255).toBitVec.toNat < 256 := by
    simp only [Int32.toBitVec_and, BitVec.toNat_and]
    exact Nat.lt_succ_of_le Nat.and_le_right
  have e : (x &&& 255) = Int32.ofNat (x &&& 255).toBitVec.toNat := by
    apply Int32.toBitVec_inj.mp
    show _ = BitVec.ofNat 32 _
    rw [BitVec.ofNat_toNat]; simp
  rw [e]
  exact t ⟨_, h⟩
theorem snd255 {cs : List Int32} (h : ∀ c ∈ cs, ¬ c < 0 ∧ ¬ (255 : Int32) < c) : ∀ c ∈ cs, ¬ (255 : Int32) < c := fun c hc => (h c hc).2
theorem irr32 (x : Int32) : ¬ x < x := by rw [Int32.lt_iff_toInt_lt]; exact Int.lt_irrefl _
theorem char_id {q : Int32} (hq : ¬ q < 0 ∧ ¬ (255 : Int32) < q) : q.toUInt32.toUInt16.toUInt32.toInt32 = q := fin256 (P := fun q => q.toUInt32.toUInt16.toUInt32.toInt32 = q) (by decide +kernel) hq
theorem char255 (x : Int32) : ∃ q : Int32, (x &&& (255 : Int32)).toUInt32.toUInt16.toUInt32.toInt32 = q ∧ (¬ q < 0 ∧ ¬ (255 : Int32) < q) ∧ q = x &&& (255 : Int32) := ⟨x &&& 255, char_id (and255 x), and255 x, rfl⟩
theorem nar_char {q : Int32} (hq : ¬ q < 0 ∧ ¬ (255 : Int32) < q) : nar .char q = q := fin256 (P := fun q => nar .char q = q) (by decide +kernel) hq
theorem and1 (x : Int32) : (x &&& (1 : Int32)) = (0 : Int32) ∨ (x &&& (1 : Int32)) = (1 : Int32) := by
  have t : ∀ k : Fin 2, (Int32.ofNat k.val) = (0 : Int32) ∨ (Int32.ofNat k.val) = (1 : Int32) := by decide +kernel
  have h : (x &&& 1).toBitVec.toNat < 2 := by
    simp only [Int32.toBitVec_and, BitVec.toNat_and]
    exact Nat.lt_succ_of_le Nat.and_le_right
  have e : (x &&& 1) = Int32.ofNat (x &&& 1).toBitVec.toNat := by
    apply Int32.toBitVec_inj.mp
    show _ = BitVec.ofNat 32 _
    rw [BitVec.ofNat_toNat]; simp
  rw [e]
  exact t ⟨_, h⟩
theorem and3 (x : Int32) : (x &&& (3 : Int32)) = (0 : Int32) ∨ (x &&& (3 : Int32)) = (1 : Int32) ∨ (x &&& (3 : Int32)) = (2 : Int32) ∨ (x &&& (3 : Int32)) = (3 : Int32) := by
  have t : ∀ k : Fin 4, (Int32.ofNat k.val) = (0 : Int32) ∨ (Int32.ofNat k.val) = (1 : Int32) ∨ (Int32.ofNat k.val) = (2 : Int32) ∨ (Int32.ofNat k.val) = (3 : Int32) := by decide +kernel
  have h : (x &&& 3).toBitVec.toNat < 4 := by
    simp only [Int32.toBitVec_and, BitVec.toNat_and]
    exact Nat.lt_succ_of_le Nat.and_le_right
  have e : (x &&& 3) = Int32.ofNat (x &&& 3).toBitVec.toNat := by
    apply Int32.toBitVec_inj.mp
    show _ = BitVec.ofNat 32 _
    rw [BitVec.ofNat_toNat]; simp
  rw [e]
  exact t ⟨_, h⟩
theorem and7 (x : Int32) : (x &&& (7 : Int32)) = (0 : Int32) ∨ (x &&& (7 : Int32)) = (1 : Int32) ∨ (x &&& (7 : Int32)) = (2 : Int32) ∨ (x &&& (7 : Int32)) = (3 : Int32) ∨ (x &&& (7 : Int32)) = (4 : Int32) ∨ (x &&& (7 : Int32)) = (5 : Int32) ∨ (x &&& (7 : Int32)) = (6 : Int32) ∨ (x &&& (7 : Int32)) = (7 : Int32) := by
  have t : ∀ k : Fin 8, (Int32.ofNat k.val) = (0 : Int32) ∨ (Int32.ofNat k.val) = (1 : Int32) ∨ (Int32.ofNat k.val) = (2 : Int32) ∨ (Int32.ofNat k.val) = (3 : Int32) ∨ (Int32.ofNat k.val) = (4 : Int32) ∨ (Int32.ofNat k.val) = (5 : Int32) ∨ (Int32.ofNat k.val) = (6 : Int32) ∨ (Int32.ofNat k.val) = (7 : Int32) := by decide +kernel
  have h : (x &&& 7).toBitVec.toNat < 8 := by
    simp only [Int32.toBitVec_and, BitVec.toNat_and]
    exact Nat.lt_succ_of_le Nat.and_le_right
  have e : (x &&& 7) = Int32.ofNat (x &&& 7).toBitVec.toNat := by
    apply Int32.toBitVec_inj.mp
    show _ = BitVec.ofNat 32 _
    rw [BitVec.ofNat_toNat]; simp
  rw [e]
  exact t ⟨_, h⟩
theorem and3_cap (x : Int32) : ¬ (x &&& (3 : Int32)) < 0 ∧ (x &&& (3 : Int32)).toNatClampNeg ≤ 3 := by
  rcases and3 x with e | e | e | e <;> rw [e] <;> decide
theorem nar_byte (x : Int32) : nar .byte (x.toInt8.toInt32) = x.toInt8.toInt32 := by
  show x.toInt8.toInt32.toInt8.toInt32 = x.toInt8.toInt32
  simp
theorem ne_tys {c1 c2 : Cell} {t1 t2 : FieldType} (F : Arr Z h a c1 t1) (G : Arr Z h b c2 t2) (hn : t1 ≠ t2) : a ≠ b := fun q => by
  subst q
  cases F.1.symm.trans G.1
  obtain ⟨-, k1, e1, p1, r1⟩ := F.2.1
  obtain ⟨-, k2, e2, p2, r2⟩ := G.2.1
  cases e1.symm.trans e2
  cases r1.symm.trans r2
  exact hn rfl
end OwnKit
end Jvm.Pilot.@@N@@
namespace Jvm.Pilot.@@N@@
open Jvm Jvm.ClassFile Sem Op Lib Jvm.Free Jvm.Stand Jvm.LawKit Jvm.RoadKit Bundle Jvm.Pilot.@@N@@.Jvm.D
section OwnStr
variable {p : Program} {l : Launch} {e : Env} {R : Room} {s : State} {m : MethodId} {args : Array Value} {below : List Frame} {meth : Method} {c : Code} {T T' : State} {locs : List Loc} {cells slots : Nat} {Z : State} {a0 : Array Value} {h h' : Heap} {EL : List (String × Nat)} {n0 k0 : Nat} {ws ws' sf : List Addr} {own : String} {Q : Outcome → State → Prop} {a b x : Addr} {v : Value} {sl : Nat}
variable {y : MethodName} {bytes : ByteArray} {maxL : Nat} {zc : Int32} {cs ds : List Int32} {kC : ClassId} {N : Int32} {d : Value} {n : Nat} {v0 c0 : Value} {index : Nat} {Wd : Nat} {g : JFrame} {rest : List Value}
/-- a String at x that spells cs -/
def Str (Z : State) (h : Heap) (x : Addr) (cs : List Int32) : Prop := ∃ (t : Addr) (kb : ClassId) (cd N2 : Int32) (vs : List Value), Exa Z h x "java/lang/String" ∧ Fld Z h x "java/lang/String" "value" "[B" (.ref t) ∧ Fld Z h x "java/lang/String" "coder" "B" (.int cd) ∧ Arv Z h t kb .byte N2 vs (.int 0) ∧ StrChars.Road.CodA cs cd N2 vs ∧ (∀ c ∈ cs, ¬ c < 0 ∧ ¬ (65535 : Int32) < c) ∧ cs.length ≤ 4000
theorem Str.exa (S : Str Z h x cs) : Exa Z h x "java/lang/String" := by
  obtain ⟨_, _, _, _, _, E, _⟩ := S
  exact E
theorem Str.keep0 (S : Str Z h x cs) (K : Keep h h' []) : Str Z h' x cs := by
  obtain ⟨t, kb, cd, N2, vs, E, V, C, A, r⟩ := S
  exact ⟨t, kb, cd, N2, vs, E.keep K, V.keep K nin0, C.keep K nin0, A.keep K nin0, r⟩
theorem Str.ext (S : Str Z h x cs) (E : Ext h h') : Str Z h' x cs := S.keep0 ((Keep.refl h []).ext E)
/-- carried over a step that may have written the one object b, no String of hers and no array -/
theorem Str.keepE {C : String} {kI : Nat} (S : Str Z h x cs) (K : Keep h h' [b]) (Eb : Exa Z h b C) (wi : (Cond.instantiable C kI).before a0 Z = true) (hne : x ≠ b) : Str Z h' x cs := by
  obtain ⟨t, kb, cd, N2, vs, E, V, D, A, r⟩ := S
  have ht : t ≠ b := by
    obtain ⟨cl, A1, -⟩ := A
    exact (ne_arr Eb wi A1).symm
  exact ⟨t, kb, cd, N2, vs, E.keep K, V.keep K (nin1 hne), D.keep K (nin1 hne), A.keep K (nin1 ht), r⟩
theorem Str.keepC {C : String} {kI : Nat} (S : Str Z h x cs) (K : Keep h h' [b]) (Eb : Exa Z h b C) (wi : (Cond.instantiable C kI).before a0 Z = true) (hC : "java/lang/String" ≠ C) : Str Z h' x cs := S.keepE K Eb wi (ne_exa S.exa Eb hC)
/-- carried over a step that may have written one array of another kind than byte -/
theorem Str.keepA {kc : ClassId} {ty : FieldType} {z : Int32} {vs : List Value} {dv : Value} (S : Str Z h x cs) (K : Keep h h' [b]) (V : Arv Z h b kc ty z vs dv) (wi : (Cond.instantiable "java/lang/String" 4).before a0 Z = true) (ht : ∀ t : Addr, t < h.size → ∀ (kb : ClassId) (N2 : Int32) (us : List Value), Arv Z h t kb .byte N2 us (.int 0) → t ≠ b) : Str Z h' x cs := by
  obtain ⟨t, kb, cd, N2, us, E, V1, D, A, r⟩ := S
  have hx : x ≠ b := by
    obtain ⟨cl, A1, -⟩ := V
    exact ne_arr E wi A1
  have ht := ht t A.lt kb N2 us A
  exact ⟨t, kb, cd, N2, us, E.keep K, V1.keep K (nin1 hx), D.keep K (nin1 hx), A.keep K (nin1 ht), r⟩
theorem Str.keepT {kc : ClassId} {ty : FieldType} {z : Int32} {vs : List Value} {dv : Value} (S : Str Z h x cs) (K : Keep h h' [b]) (V : Arv Z h b kc ty z vs dv) (wi : (Cond.instantiable "java/lang/String" 4).before a0 Z = true) (ht : FieldType.byte ≠ ty) : Str Z h' x cs :=
  S.keepA K V wi fun t _ kb N2 us A => by
    obtain ⟨c1, A1, -⟩ := A
    obtain ⟨c2, A2, -⟩ := V
    exact ne_tys A1 A2 ht
theorem Str.open_ (S : Str Z h x cs) (hlat : ∀ c ∈ cs, ¬ (255 : Int32) < c) : ∃ (t : Addr) (kb : ClassId), Exa Z h x "java/lang/String" ∧ Fld Z h x "java/lang/String" "value" "[B" (.ref t) ∧ Fld Z h x "java/lang/String" "coder" "B" (.int 0) ∧ Arv Z h t kb .byte (Int32.ofNat cs.length) (cs.map fun c => Value.int (StrChars.lo8 c)) (.int 0) := by
  obtain ⟨t, kb, cd, N2, vs, E, V, C, A, hc, -, -⟩ := S
  rcases hc with ⟨rfl, rfl, rfl, -⟩ | ⟨-, -, -, c, hc, hw⟩
  · exact ⟨t, kb, E, V, C, A⟩
  · exact absurd hw (hlat c hc)
theorem up255 (h : ∀ c ∈ cs, ¬ c < 0 ∧ ¬ (255 : Int32) < c) : ∀ c ∈ cs, ¬ c < 0 ∧ ¬ (65535 : Int32) < c := fun c hc => ⟨(h c hc).1, fun q => (h c hc).2 (by rw [Int32.lt_iff_toInt_lt] at q ⊢; have e1 : (65535 : Int32).toInt = 65535 := rfl; have e2 : (255 : Int32).toInt = 255 := rfl; omega)⟩
theorem pdChars : parseMethodDescriptor "([C)V" = some ⟨[.array .char], none⟩ := by decide +kernel
theorem Wk.newStr (W : Wk p l e R s m args below meth c Z EL n0 ws own sf T cells slots h) (hx : p.tables.exec = Jvm.exec) (hws : ∀ d ∈ StrChars.Road.words, d.before a0 Z = true) (wi : (Cond.instantiable "java/lang/String" 4).before a0 Z = true) (SC : Sta Z Z.heap "java/lang/String" "COMPACT_STRINGS" "Z" (.int zc)) (hz : ¬ zc = 0)
    (w1 : (Cond.methodLink own index ⟨"java/lang/String", "<init>", "([C)V"⟩).before a0 Z = true) (w2 : (Cond.instanceMethod ⟨"java/lang/String", "<init>", "([C)V"⟩).before a0 Z = true) (w4 : (Cond.code ⟨"java/lang/String", "<init>", "([C)V"⟩ bytes maxL none).before a0 Z = true)
    (Ex : Exa Z h x "java/lang/String") (V : Fld Z h x "java/lang/String" "value" "[B" v0) (C : Fld Z h x "java/lang/String" "coder" "B" c0) (A : Arv Z h b kC .char N (cs.map Value.int) d) (hn : cs.length = n) (hN : N = Int32.ofNat n) (l0 : 0 < n) (l2 : n ≤ 4000) (hp : ∀ c ∈ cs, ¬ c < 0 ∧ ¬ (255 : Int32) < c) (gx : n0 ≤ x) (gw : x ∈ ws ∨ s.heap.size ≤ x) (sx : x ∈ sf)
    (hfr : 4 ≤ R.frames) (hlo : Wd + 65 ≤ R.locals) (hc : cells + 1 ≤ R.cells) (hsl : slots + n ≤ R.slots) (hg : g.method = m) (hsize : g.locals.size = c.maxLocals) (hstack : g.stack = .ref b :: .ref x :: rest) (hW : 2 * g.monitorRoom + (rest.map fun v => v.category).sum ≤ Wd) (hd : decode c.code g.pc = .ok (.invokespecial index, 3))
    (k : ∀ T' h', Wk p l e R s m args below meth c Z EL n0 ws own sf T' (cells + 1) (slots + n) h' → Keep h h' [x] → Str Z h' x cs → Go p e below Q (T'.setTop { g with pc := g.pc + 3, stack := rest })) : Go p e below Q (T.setTop g) := by
  have hle := W.n0le
  have hO := W.old
  refine W.specB hx (y := ⟨"java/lang/String", "<init>", "([C)V"⟩) rfl w1 w2 w4 (by decide) (kk := 1) (nn := n) (ws' := [x]) (a := x) (Qp := fun v h' => v = none ∧ Str Z h' x cs) (Q1 := fun v h' L => StrChars.Road.QV Z x N (cs.map fun c => c.toInt8.toInt32) h n0 v h' L) (argsL := [.ref b]) (rest := rest) (Wd := Wd)
    (fun s' hZ' => StrChars.Road.backV (W := Wd) hZ' hws wi gx hle Ex V C A (SC.ext hO.2) hz hn hN l0 l2 hp rfl hfr hlo) (fun v h' L q => ?_) hc hsl (all1 ⟨gx, gw⟩) (all1 sx) hg hsize (lenOf pdChars rfl) hstack hW hd (fun T' h' v W' K' q => ?_)
  · obtain ⟨rfl, q1, q2, q3, q4, t, kb, -, -, -, q5, q6⟩ := q
    refine ⟨q1, q2, rfl, t, kb, 0, N, _, q3, q5, q4, q6, ?_, up255 hp, by omega⟩
    subst hN
    exact StrChars.Road.codOf hn (fun c hc => (hp c hc).2)
  · obtain ⟨rfl, S⟩ := q
    exact k T' h' W' K' S
end OwnStr
end Jvm.Pilot.@@N@@
namespace Jvm.Pilot.@@N@@
open Jvm Jvm.ClassFile Sem Op Lib Jvm.Free Jvm.Stand Jvm.LawKit Jvm.RoadKit Bundle Jvm.Pilot.@@N@@.Jvm.D
section OwnArr
variable {p : Program} {l : Launch} {e : Env} {R : Room} {s : State} {m : MethodId} {args : Array Value} {below : List Frame} {meth : Method} {c : Code} {T T' : State} {locs : List Loc} {cells slots : Nat} {Z : State} {a0 : Array Value} {h h' : Heap} {EL : List (String × Nat)} {n0 k0 : Nat} {ws ws' sf : List Addr} {own : String} {vm0 vm1 : Vm} {Q : Outcome → State → Prop} {a b x : Addr} {v : Value} {sl : Nat}
variable {y : MethodName} {bytes : ByteArray} {maxL : Nat} {ret : Option FieldType} {wl : List Cond} {rm : Room} {as' : Array Value} {Qv : Option Value → Heap → (Addr → Prop) → Prop}
theorem Wk.newR (W : Wk p l e R s m args below meth c Z EL n0 ws own sf T cells slots h) (hx : p.tables.exec = Jvm.exec) {C ad : String} {index : Nat} (w1 : (Cond.classLink own index C).before a0 Z = true) (w2 : (Cond.arrayOver (.object C)).before a0 Z = true) (had : "[" ++ (FieldType.object C).toString = ad)
    {g : JFrame} (hg : g.method = m) (hd : decode c.code g.pc = .ok (.anewarray index, 3)) {n : Int32} {rest : List Value} (hs : g.stack = .int n :: rest)
    (hn : ¬ n < 0) {cap : Nat} (hcap : n.toNatClampNeg ≤ cap) (hb : cap * 8 ≤ 536870912) (hc : cells + 1 ≤ R.cells) (hl : slots + cap ≤ R.slots)
    (k : ∀ T' h' b kc, b = h.size → n0 ≤ b ∧ s.heap.size ≤ b → Wk p l e R s m args below meth c Z EL n0 ws own (b :: sf) T' (cells + 1) (slots + cap) h' → Keep h h' [] → Arv Z h' b kc (.object C) n (List.replicate cap .null) .null → Exa Z h' b ad → Ovr Z kc C →
      Go p e below Q (T'.setTop { g with pc := g.pc + 3, stack := .ref b :: rest })) : Go p e below Q (T.setTop g) := by
  have hle := W.n0le
  have hle' := W.s0le
  obtain ⟨vm0, locs, k0, X, eT, hS, hk, hZ, hown, hC, N, K, O, F⟩ := W
  obtain ⟨T', h', kc, X', e', E, A, Ea, Ov, st⟩ := RoadKit.newRE X hx hZ hown w1 w2 eT hg hd hs hn hcap hb hc hl had
  have V0 : Arv Z h' h.size kc (.object C) n [] .null := Arv.new A hn
  exact Go.of st (k T' h' h.size kc rfl ⟨hle, hle'⟩ (wk_new X' e' E A.lt hS hk hZ hown hC N K O F) ((Keep.refl h []).ext E) (V0.pad (pad_rep [] _ cap)) Ea Ov)
theorem Sto.ofArv {kc : ClassId} {z : Int32} {vs : List Value} {dv : Value} {C : String} {y : Addr} (V : Arv Z h a kc (.object C) z vs dv) (Ov : Ovr Z kc C) (I : Ins Z h y C true) : Sto Z h a (.ref y) := by
  obtain ⟨cl, A, q, -⟩ := V
  exact Sto.ofV A q Ov I
theorem stoL0 : StoL Z h a [] := trivial
theorem stoLS {v : Value} {r : List Value} (q : Sto Z h a v) (t : StoL Z h a r) : StoL Z h a (v :: r) := And.intro q t
theorem Wk.stR (W : Wk p l e R s m args below meth c Z EL n0 ws own sf T cells slots h) (hx : p.tables.exec = Jvm.exec) {kc : ClassId} {z j : Int32} {vs : List Value} {dv : Value} {C : String} {u : Addr} (V : Arv Z h a kc (.object C) z vs dv) (Ov : Ovr Z kc C) (I : Ins Z h u C true) (hj : ¬ j < 0 ∧ j < z) (i : Nat) (hji : j.toNatClampNeg = i) (hi : i < vs.length) (ga : n0 ≤ a) (gw : a ∈ ws ∨ s.heap.size ≤ a)
    {g : JFrame} (hg : g.method = m) {rest : List Value} (hs : g.stack = .ref u :: .int j :: .ref a :: rest) (hd : decode c.code g.pc = .ok (.aastore, 1))
    (k : ∀ T' h', Wk p l e R s m args below meth c Z EL n0 ws own sf T' cells slots h' → Keep h h' [a] → Arv Z h' a kc (.object C) z (vs.set i (.ref u)) dv → Go p e below Q (T'.setTop { g with pc := g.pc + 1, stack := rest })) : Go p e below Q (T.setTop g) := by
  obtain ⟨vm0, locs, k0, X, eT, hS, hk, hZ, hown, hC, N, K, Ol, Fs⟩ := W
  obtain ⟨cl, A, q1, S1, q3, H, G⟩ := V
  obtain ⟨T', h', X', e', W', st⟩ := RoadKit.stR X hx hZ eT A (j := j) (v := .ref u) (inb_of S1 hj) rfl (Sto.ofV A q1 Ov I) hg hs hd
  exact Go.of st (k T' h' (wk_wr X' e' W' hS hk hZ hown hC N K Ol Fs (Safe.arr hZ.alike A (by simp)) ga gw) (Keep.of_wr W') (Arv.set A q1 S1 q3 H G rfl W' i hji hi))
theorem Wk.cpR (W : Wk p l e R s m args below meth c Z EL n0 ws own sf T cells slots h) (hx : p.tables.exec = Jvm.exec) {index : Nat} (w1 : (Cond.methodLink own index Jvm.Stand.acN).before a0 Z = true) (w2 : (Cond.native Jvm.Stand.acN).before a0 Z = true) (w3 : (Cond.static Jvm.Stand.acN).before a0 Z = true) (w4 : (Cond.initialized "java/lang/System").before a0 Z = true)
    {k1 k2 : ClassId} {C : String} {z z' sp dp nn : Int32} {vs vd us : List Value} {dv dd : Value} (A : Arv Z h a k1 (.object C) z vs dv) (B : Arv Z h b k2 (.object C) z' vd dd) (SL : StoL Z h b us) (h1 : ¬ sp < 0) (h2 : ¬ dp < 0) (h3 : ¬ nn < 0) (h4 : sp.toNatClampNeg + nn.toNatClampNeg ≤ z.toNatClampNeg) (h5 : dp.toNatClampNeg + nn.toNatClampNeg ≤ z'.toNatClampNeg)
    (hus : us = (List.range nn.toNatClampNeg).map fun i => vs.getD (sp.toNatClampNeg + i) dv) (hl : dp.toNatClampNeg + nn.toNatClampNeg ≤ vd.length) (ga : n0 ≤ b) (gw : b ∈ ws ∨ s.heap.size ≤ b) (sb : b ∈ sf)
    {g : JFrame} (hg : g.method = m) (hsize : g.locals.size = c.maxLocals) {rest : List Value} (hs : g.stack = .int nn :: .int dp :: .ref b :: .int sp :: .ref a :: rest) (hd : decode c.code g.pc = .ok (.invokestatic index, 3))
    (hf : 1 ≤ R.frames) {Wd : Nat} (hW : 2 * g.monitorRoom + (rest.map fun v => v.category).sum ≤ Wd) (hlo : Wd + (nativeFrameWords "java/lang/System" "arraycopy" 5 + 11) ≤ R.locals)
    (k : ∀ T' h', Wk p l e R s m args below meth c Z EL n0 ws own sf T' cells slots h' → Keep h h' [b] → Arv Z h' b k2 (.object C) z' (vd.take dp.toNatClampNeg ++ us ++ vd.drop (dp.toNatClampNeg + nn.toNatClampNeg)) dd → Go p e below Q (T'.setTop { g with pc := g.pc + 3, stack := rest })) : Go p e below Q (T.setTop g) := by
  obtain ⟨vm0, locs, k0, X, eT, hS, hk, hZ, hown, hC, N, K, Ol, Fs⟩ := W
  obtain ⟨T', h', L, X', e', N', K', A', st⟩ := RoadKit.cpA X hx hZ hown w1 w2 w3 w4 eT A B (Or.inr ⟨rfl, rfl, SL⟩) h1 h2 h3 h4 h5 hus hl N ga hg hsize hs hd hf hW hlo
  exact Go.of st (k T' h' (wk_keep X' e' K' (allS ⟨ga, gw⟩ all0) (allS sb all0) hS hk hZ hown hC N' K Ol Fs) K' A')
theorem Wk.ldcM (W : Wk p l e R s m args below meth c Z EL n0 ws own sf T cells slots h) (hx : p.tables.exec = Jvm.exec) {C : String} {index : Nat} {mir : Addr} (w : (Cond.classLink own index C).before a0 Z = true) (hm : (Term.mirror C).eval a0 Z none [] Z = some (.ref mir)) {g : JFrame} (hg : g.method = m) (hd : decode c.code g.pc = .ok (.ldc index, 2))
    (k : ∀ T', Wk p l e R s m args below meth c Z EL n0 ws own sf T' cells slots h → Go p e below Q (T'.setTop { g with pc := g.pc + 2, stack := .ref mir :: g.stack })) : Go p e below Q (T.setTop g) := by
  obtain ⟨vm0, locs, k0, X, eT, hS, hk, hZ, hown, r⟩ := W
  obtain ⟨vm', X', st⟩ := X.ldcMirror hx hown (mvT (s := s.setVm vm0) hZ w) (Jvm.Free.ULB.mirror_move (U' := s.setVm vm0) hZ.alike hm) hg hd
  exact Go.of st (k _ ⟨vm0, locs, k0, X', eT, hS, hk, hZ, hown, r⟩)
theorem Wk.getCl (W : Wk p l e R s m args below meth c Z EL n0 ws own sf T cells slots h) (hx : p.tables.exec = Jvm.exec) {C : String} {index : Nat} {mir : Addr} (w1 : (Cond.methodLink own index ⟨"java/lang/Object", "getClass", "()Ljava/lang/Class;"⟩).before a0 Z = true) (w3 : (Cond.native ⟨"java/lang/Object", "getClass", "()Ljava/lang/Class;"⟩).before a0 Z = true) (w4 : (Cond.instanceMethod ⟨"java/lang/Object", "getClass", "()Ljava/lang/Class;"⟩).before a0 Z = true)
    (w5 : (Cond.selects C ⟨"java/lang/Object", "getClass", "()Ljava/lang/Class;"⟩ ⟨"java/lang/Object", "getClass", "()Ljava/lang/Class;"⟩).before a0 Z = true) (E : Exa Z h a C) (hm : (Term.mirror C).eval a0 Z none [] Z = some (.ref mir))
    {g : JFrame} (hg : g.method = m) (hsize : g.locals.size = c.maxLocals) {rest : List Value} (hs : g.stack = .ref a :: rest) (hd : decode c.code g.pc = .ok (.invokevirtual index, 3))
    (hf : 1 ≤ R.frames) {Wd : Nat} (hW : 2 * g.monitorRoom + (rest.map fun v => v.category).sum ≤ Wd) (hl : Wd + 14 ≤ R.locals)
    (k : ∀ T', Wk p l e R s m args below meth c Z EL n0 ws own sf T' cells slots h → Go p e below Q (T'.setTop { g with pc := g.pc + 3, stack := .ref mir :: rest })) : Go p e below Q (T.setTop g) := by
  obtain ⟨vm0, locs, k0, X, eT, hS, hk, hZ, hown, r⟩ := W
  obtain ⟨cell, kk, q1, q2, q3, q4, -⟩ := E
  have w2 : (Cond.sameMethod "java/lang/Object" "java/lang/Object" "getClass" "()Ljava/lang/Class;").before a0 Z = true := same_of (y := ⟨"java/lang/Object", "getClass", "()Ljava/lang/Class;"⟩) w4 w5 rfl ⟨by decide, by decide⟩
  obtain ⟨vm', X', st⟩ := X.getClass hx hown (mvT (s := s.setVm vm0) hZ w1) (mvT (s := s.setVm vm0) hZ w2) (mvT (s := s.setVm vm0) hZ w3) (mvT (s := s.setVm vm0) hZ w4) (mvT (s := s.setVm vm0) hZ w5) (by rw [eT]; exact q1) (fun k q => by rw [q] at q4; cases q4) ((hZ.alike.findClass _ _).trans q2) (Jvm.Free.ULB.mirror_move (U' := s.setVm vm0) hZ.alike hm) hg hsize hs hd hf (by omega)
  exact Go.of st (k _ ⟨vm0, locs, k0, X', eT, hS, hk, hZ, hown, r⟩)
theorem Wk.tswIn (W : Wk p l e R s m args below meth c Z EL n0 ws own sf T cells slots h) (hx : p.tables.exec = Jvm.exec) {g : JFrame} (hg : g.method = m) {j : Int32} {rest : List Value} (hs : g.stack = .int j :: rest) {default low high : Int} {offsets : Array Int} {len : Nat} (hd : decode c.code g.pc = .ok (.tableswitch default low high offsets, len))
    (hin : ¬ (j.toInt < low ∨ j.toInt > high)) {off : Int} (hoffs : offsets[(j.toInt - low).toNat]? = some off) (hoff : 0 ≤ (g.pc : Int) + off) {pc' : Nat} (hpc : ((g.pc : Int) + off).toNat = pc') (k : Go p e below Q (T.setTop { g with pc := pc', stack := rest })) : Go p e below Q (T.setTop g) := by
  obtain ⟨vm0, locs, k0, X, eT, hS, hk, hZ, hown, r⟩ := W
  subst hpc
  exact Go.of (fun t q => X.tableswitchIn hx hg hs hd hin hoffs hoff t q) k
theorem Wk.tswOut (W : Wk p l e R s m args below meth c Z EL n0 ws own sf T cells slots h) (hx : p.tables.exec = Jvm.exec) {g : JFrame} (hg : g.method = m) {j : Int32} {rest : List Value} (hs : g.stack = .int j :: rest) {default low high : Int} {offsets : Array Int} {len : Nat} (hd : decode c.code g.pc = .ok (.tableswitch default low high offsets, len))
    (hout : j.toInt < low ∨ j.toInt > high) (hoff : 0 ≤ (g.pc : Int) + default) {pc' : Nat} (hpc : ((g.pc : Int) + default).toNat = pc') (k : Go p e below Q (T.setTop { g with pc := pc', stack := rest })) : Go p e below Q (T.setTop g) := by
  obtain ⟨vm0, locs, k0, X, eT, hS, hk, hZ, hown, r⟩ := W
  subst hpc
  exact Go.of (fun t q => X.tableswitchOut hx hg hs hd hout hoff t q) k
theorem Wk.callN (W : Wk p l e R s m args below meth c Z EL n0 ws own sf T cells slots h) (hx : p.tables.exec = Jvm.exec) (hEL : EW Z a0 EL) {index : Nat} {host : String} (hy1 : y.name = "<init>") (w1 : (Cond.methodLinkNest own index y host).before a0 Z = true) (w2 : (Cond.instanceMethod y).before a0 Z = true) (w3 : (Cond.initialized y.cls).before a0 Z = true) (w4 : (Cond.code y bytes maxL none).before a0 Z = true)
    (hy : y.cls ≠ "java/lang/invoke/MethodHandle" ∧ y.cls ≠ "java/lang/invoke/VarHandle") {argsL rest : List Value} {sf' : List Addr} (M : Met l Z EL n0 y bytes maxL none [] rm (.ref a :: argsL).toArray h ws' sf' Qv) (hsf : ∀ x ∈ sf', x ∈ sf) (hf : rm.frames + 1 ≤ R.frames) {Wd : Nat} (hl : Wd + (maxL + 11) + rm.locals ≤ R.locals) (hc : cells + rm.cells ≤ R.cells) (hsl : slots + rm.slots ≤ R.slots)
    (gws : ∀ x ∈ ws', n0 ≤ x ∧ (x ∈ ws ∨ s.heap.size ≤ x)) {g : JFrame} (hg : g.method = m) (hsize : g.locals.size = c.maxLocals) (hlen : ∀ sig, parseMethodDescriptor y.desc = some sig → argsL.length = sig.parameters.length) (hstack : g.stack = argsL.reverse ++ .ref a :: rest) (hW : 2 * g.monitorRoom + (rest.map fun v => v.category).sum ≤ Wd)
    (hd : decode c.code g.pc = .ok (.invokespecial index, 3)) (k : ∀ T' h' v (S : Addr → Prop), (∀ sfx : List Addr, (∀ x ∈ sfx, S x) → Wk p l e R s m args below meth c Z EL n0 ws own (sfx ++ sf) T' (cells + rm.cells) (slots + rm.slots) h') → Keep h h' ws' → Qv v h' S → Go p e below Q (T'.setTop { g with pc := g.pc + 3, stack := v.toList ++ rest })) : Go p e below Q (T.setTop g) := by
  obtain ⟨vm0, locs, k0, X, eT, hS, hk, hZ, hown, hC, N, K, Ol, Fs⟩ := W
  obtain ⟨v, vm₁, ⟨U, Lb, kb, nb⟩, hw, X', hS', hle, ⟨L, ⟨q, N', K'⟩, e1, e2, e3, A⟩, st⟩ := X.specialBackNestS hx hy1 hown (Cond.methodLinkNest_wide hZ w1 :) (mvT (s := s.setVm vm0) hZ w2) (mvT (s := s.setVm vm0) hZ w4) hy (Met.pay (s := s) (Wd := Wd) M hZ w4 w3 hf hl hEL hC.1 (fun x hx => Fs x (hsf x hx))) hg hsize (Steps.refl _) hlen hstack hW hd (fun _ _ => ⟨rfl, eT, hc, hsl⟩)
  dsimp only [Pt.U, Pt.locs, Pt.cells, Pt.slots] at X' hS' hle q K' e1 e2 e3 A st
  subst e1 e2 e3
  exact Go.on st (k U U.heap v _ (fun sfx hx => wk_more (wk_call X X' hS' hle eT N' K' A gws hS hk hZ hown hC N K Ol Fs) hx) K' q)
theorem Wk.callI (W : Wk p l e R s m args below meth c Z EL n0 ws own sf T cells slots h) (hx : p.tables.exec = Jvm.exec) (hEL : EW Z a0 EL) {index count : Nat} {C : String} {xi : MethodName} (w1 : (Cond.methodLink own index xi).before a0 Z = true) (w2 : (Cond.declares xi).before a0 Z = true) (w7 : (Cond.interfaceMethod xi.cls xi.cls xi.name xi.desc).before a0 Z = true) (hk7 : ((Cond.interfaceMethod xi.cls xi.cls xi.name xi.desc).onTables && (Cond.interfaceMethod xi.cls xi.cls xi.name xi.desc).keepsFace) = true) (w5 : (Cond.selects C xi y).before a0 Z = true) (w8 : (Cond.publicMethod y).before a0 Z = true) (w9 : (Cond.unhidden C xi.name xi.desc).before a0 Z = true) (w10 : (Cond.castable C xi.cls).before a0 Z = true) (w6 : (Cond.instanceMethod y).before a0 Z = true) (w3 : (Cond.initialized y.cls).before a0 Z = true) (w4 : (Cond.code y bytes maxL ret).before a0 Z = true)
    (hy : xi.cls ≠ "java/lang/invoke/MethodHandle" ∧ xi.cls ≠ "java/lang/invoke/VarHandle") (Ea : Exa Z h a C) {argsL rest : List Value} {sf' : List Addr} (M : Met l Z EL n0 y bytes maxL ret [] rm (.ref a :: argsL).toArray h ws' sf' Qv) (hsf : ∀ x ∈ sf', x ∈ sf) (hf : rm.frames + 1 ≤ R.frames) {Wd : Nat} (hl : Wd + (maxL + 11) + rm.locals ≤ R.locals) (hc : cells + rm.cells ≤ R.cells) (hsl : slots + rm.slots ≤ R.slots)
    (gws : ∀ x ∈ ws', n0 ≤ x ∧ (x ∈ ws ∨ s.heap.size ≤ x)) {g : JFrame} (hg : g.method = m) (hsize : g.locals.size = c.maxLocals) (hlen : ∀ sig, parseMethodDescriptor xi.desc = some sig → argsL.length = sig.parameters.length) (hstack : g.stack = argsL.reverse ++ .ref a :: rest) (hW : 2 * g.monitorRoom + (rest.map fun v => v.category).sum ≤ Wd)
    (hd : decode c.code g.pc = .ok (.invokeinterface index count, 5)) (k : ∀ T' h' v (S : Addr → Prop), (∀ sfx : List Addr, (∀ x ∈ sfx, S x) → Wk p l e R s m args below meth c Z EL n0 ws own (sfx ++ sf) T' (cells + rm.cells) (slots + rm.slots) h') → Keep h h' ws' → Qv v h' S → Go p e below Q (T'.setTop { g with pc := g.pc + 5, stack := v.toList ++ rest })) : Go p e below Q (T.setTop g) := by
  obtain ⟨vm0, locs, k0, X, eT, hS, hk, hZ, hown, hC, N, K, Ol, Fs⟩ := W
  obtain ⟨cB, kB, qa, qb, qc⟩ := isOf (s := s.setVm vm0) hZ eT Ea
  obtain ⟨v, vm₁, ⟨U, Lb, kb, nb⟩, hw, X', hS', hle, ⟨L, ⟨q, N', K'⟩, e1, e2, e3, A⟩, st⟩ := X.interfaceBackS hx hown (mvT (s := s.setVm vm0) hZ w1) (mvT (s := s.setVm vm0) hZ w2) (mvT (s := s.setVm vm0) hZ w7 hk7) (mvT (s := s.setVm vm0) hZ w5) (mvT (s := s.setVm vm0) hZ w6) (mvT (s := s.setVm vm0) hZ w8) (mvT (s := s.setVm vm0) hZ w9) (mvT (s := s.setVm vm0) hZ w10) hy (Met.pay (s := s) (Wd := Wd) M hZ w4 w3 hf hl hEL hC.1 (fun x hx => Fs x (hsf x hx))) qa qb qc hg hsize (Steps.refl _) hlen hstack hW hd (fun _ _ => ⟨rfl, eT, hc, hsl⟩)
  dsimp only [Pt.U, Pt.locs, Pt.cells, Pt.slots] at X' hS' hle q K' e1 e2 e3 A st
  subst e1 e2 e3
  exact Go.on st (k U U.heap v _ (fun sfx hx => wk_more (wk_call X X' hS' hle eT N' K' A gws hS hk hZ hown hC N K Ol Fs) hx) K' q)
theorem ns_root {a0 : Array Value} {O K : String} {n : Nat} (w : (Cond.noSuperclass O).before a0 Z = true) (wk : (Cond.instantiable K n).before a0 Z = true) (hn : O ≠ K) : NS Z O K := by
  obtain ⟨c, k, h1, h2, h3, -, -⟩ := Cond.noSuperclass_spec w
  obtain ⟨t, kt, g1, -⟩ := Cond.instantiable_spec wk
  have ne := ids_ne h1 g1 hn
  refine ⟨c, t, h1, g1, fun fuel => ?_⟩
  cases fuel with
  | zero => rfl
  | succ f => simp [Vm.isSubclassAux, ne, h2, h3]
theorem ns_no {a0 : Array Value} {C S K : String} {n : Nat} (w : (Cond.superclass C S).before a0 Z = true) (wk : (Cond.instantiable K n).before a0 Z = true) (q : NS Z C K) (hn : C ≠ K) : ∃ c t, Z.vm.findClass C = some c ∧ Z.vm.findClass K = some t ∧ Z.vm.assignable c t = false := by
  obtain ⟨c, t, h0, g0, n3⟩ := q
  obtain ⟨p, k, kp, h1, h2, h3, h4, h5, -, h7⟩ := Cond.superclass_spec h0 w
  obtain ⟨t', kt, g1, g2, g3, g4, -⟩ := Cond.instantiable_spec wk
  cases g0.symm.trans g1
  have g7 : kt.isInterface = false := by
    cases hq : kt.isInterface with
    | false => rfl
    | true => rw [hq] at g4; cases g4
  have ne := ids_ne h0 g0 hn
  refine ⟨c, t, h0, g0, ?_⟩
  show Z.vm.assignableAux (255 + 1) c t = false
  simp [Vm.assignableAux, ne, h2, g2, h5, g3, g7, Vm.isSubclass, n3]
end OwnArr
end Jvm.Pilot.@@N@@
namespace Jvm.Pilot.@@N@@
open Jvm Jvm.ClassFile Sem Op Lib Jvm.Free Jvm.Stand Jvm.LawKit Jvm.RoadKit Bundle Jvm.Pilot.@@N@@.Jvm.D
open Jvm.Free.XT (cmpL)
abbrev EL0 : List (String × Nat) := []
set_option maxRecDepth 65536 in
theorem sa_in : ∀ d ∈ Bundle.stringAtoms, d ∈ tables_1 := by decide +kernel
set_option maxRecDepth 65536 in
theorem ws_in : ∀ d ∈ StrChars.Road.words, d ∈ tables_1 := by decide +kernel
theorem eq_eval {s : State} {args : Array Value} {a b : Term} {v : Value} (h : (Cond.eq a b).value args s none s [] = some true) (hb : b.eval args s none [] s = some v) : a.eval args s none [] s = some v := by
  cases ha : a.eval args s none [] s with
  | none => simp [Cond.value, ha, hb] at h
  | some w => cases w <;> cases v <;> simp [Cond.value, ha, hb] at h <;> simp [h]
theorem arvStart {s : State} {args : Array Value} {t : Term} {ty : FieldType} {a : Addr} {z : Int32} {vs : List Value} {dv : Value} (hf : Fit s) (ev : t.eval args s none [] s = some (.ref a)) (ha : (Cond.arrayOf t ty).value args s none s [] = some true) (hl : (Cond.eq (.length t) (.int z)).value args s none s [] = some true) (hz : ¬ z < 0) (hn : z.toNatClampNeg = vs.length) (H : ∀ c, s.arrayAt? a = some c → HasL c 0 vs) :
    ∃ k, Arv s s.heap a k ty z vs dv ∧ ∀ cl, Arr s s.heap a cl ty → FitC s cl := by
  obtain ⟨c, A⟩ := Arr.start ev ha
  have hA : s.arrayAt? a = some c := Arr.fin (Vm.Alike.refl _) A
  by_cases hs : c.slots.size < 2 ^ 31
  · have e := len_f ev hA hs
    have e2 := gotT (Cond.eq_ints e (Term.int_eval z)) hl
    exact ⟨c.cls, Arv.start hf A hs e2 hz hn (H c hA), fun cl A' => FitC.start hf A'⟩
  · simp [Cond.value, Term.eval, ev, hA, hs] at hl
theorem fitOld {Z : State} {h : Heap} {a : Addr} {k : ClassId} {ty : FieldType} {z : Int32} {vs : List Value} {dv : Value} (V0 : Arv Z Z.heap a k ty z vs dv) (E : Ext Z.heap h) (hF : ∀ cl, Arr Z Z.heap a cl ty → FitC Z cl) : ∀ cl, Arr Z h a cl ty → FitC Z cl := fun cl A => by
  obtain ⟨c, A0, -⟩ := V0
  cases (E.2 _ _ A0.1).symm.trans A.1
  exact hF _ A0
theorem pn0 : plainName "java/lang/Record" = true := by first | (simp [plainName, overriddenIn]; done) | decide +kernel
theorem pn1 : plainName "java/lang/StringLatin1" = true := by first | (simp [plainName, overriddenIn]; done) | decide +kernel
theorem pn2 : plainName "java/lang/String" = true := by first | (simp [plainName, overriddenIn]; done) | decide +kernel
theorem pn3 : plainName "org/portcullis/acl/Sid" = true := by first | (simp [plainName, overriddenIn]; done) | decide +kernel
theorem pn4 : plainName "org/portcullis/acl/AccessControlEntry" = true := by first | (simp [plainName, overriddenIn]; done) | decide +kernel
theorem pn5 : plainName "org/portcullis/acl/ObjectIdentity" = true := by first | (simp [plainName, overriddenIn]; done) | decide +kernel
theorem pn6 : plainName "java/util/AbstractCollection" = true := by first | (simp [plainName, overriddenIn]; done) | decide +kernel
theorem pn7 : plainName "java/util/ImmutableCollections$AbstractImmutableCollection" = true := by first | (simp [plainName, overriddenIn]; done) | decide +kernel
theorem pn8 : plainName "java/util/ImmutableCollections$AbstractImmutableList" = true := by first | (simp [plainName, overriddenIn]; done) | decide +kernel
theorem pn9 : plainName "java/util/AbstractList" = true := by first | (simp [plainName, overriddenIn]; done) | decide +kernel
theorem pn10 : plainName "java/util/ArrayList" = true := by first | (simp [plainName, overriddenIn]; done) | decide +kernel
theorem pn11 : plainName "java/util/List" = true := by first | (simp [plainName, overriddenIn]; done) | decide +kernel
theorem pn12 : plainName "java/util/Objects" = true := by first | (simp [plainName, overriddenIn]; done) | decide +kernel
theorem pn13 : plainName "java/util/Arrays" = true := by first | (simp [plainName, overriddenIn]; done) | decide +kernel
theorem pn14 : plainName "java/util/ImmutableCollections$List12" = true := by first | (simp [plainName, overriddenIn]; done) | decide +kernel
theorem pn15 : plainName "java/util/ImmutableCollections" = true := by first | (simp [plainName, overriddenIn]; done) | decide +kernel
theorem pn16 : plainName "org/portcullis/acl/Outcome" = true := by first | (simp [plainName, overriddenIn]; done) | decide +kernel
theorem pn17 : plainName "java/util/ImmutableCollections$ListN" = true := by first | (simp [plainName, overriddenIn]; done) | decide +kernel
theorem pn18 : plainName "org/portcullis/acl/OutcomeGetDecisionPinLaw" = true := by first | (simp [plainName, overriddenIn]; done) | decide +kernel
theorem pd0 : parseMethodDescriptor "(C)Z" = some ⟨[.char], (some .boolean)⟩ := by decide +kernel
theorem pd1 : parseMethodDescriptor "(C)[B" = some ⟨[.char], (some (.array .byte))⟩ := by decide +kernel
theorem pd2 : parseMethodDescriptor "([BB)V" = some ⟨[(.array .byte), .byte], none⟩ := by decide +kernel
theorem pd3 : parseMethodDescriptor "()V" = some ⟨[], none⟩ := by decide +kernel
theorem pd4 : parseMethodDescriptor "(II)I" = some ⟨[.int, .int], (some .int)⟩ := by decide +kernel
theorem pd5 : parseMethodDescriptor "(I)[Ljava/lang/Object;" = some ⟨[.int], (some (.array (.object "java/lang/Object")))⟩ := by decide +kernel
theorem pd6 : parseMethodDescriptor "()[Ljava/lang/Object;" = some ⟨[], (some (.array (.object "java/lang/Object")))⟩ := by decide +kernel
theorem pd7 : parseMethodDescriptor "(Ljava/lang/Object;[Ljava/lang/Object;I)V" = some ⟨[(.object "java/lang/Object"), (.array (.object "java/lang/Object")), .int], none⟩ := by decide +kernel
theorem pd8 : parseMethodDescriptor "([Ljava/lang/Object;ILjava/lang/Class;)[Ljava/lang/Object;" = some ⟨[(.array (.object "java/lang/Object")), .int, (.object "java/lang/Class")], (some (.array (.object "java/lang/Object")))⟩ := by decide +kernel
theorem pd9 : parseMethodDescriptor "([Ljava/lang/Object;I)[Ljava/lang/Object;" = some ⟨[(.array (.object "java/lang/Object")), .int], (some (.array (.object "java/lang/Object")))⟩ := by decide +kernel
theorem pd10 : parseMethodDescriptor "(Ljava/lang/Object;)Ljava/lang/Object;" = some ⟨[(.object "java/lang/Object")], (some (.object "java/lang/Object"))⟩ := by decide +kernel
theorem pd11 : parseMethodDescriptor "(Ljava/lang/Object;)V" = some ⟨[(.object "java/lang/Object")], none⟩ := by decide +kernel
theorem pd12 : parseMethodDescriptor "()Z" = some ⟨[], (some .boolean)⟩ := by decide +kernel
theorem pd13 : parseMethodDescriptor "([Ljava/lang/Object;)Ljava/util/List;" = some ⟨[(.array (.object "java/lang/Object"))], (some (.object "java/util/List"))⟩ := by decide +kernel
theorem pd14 : parseMethodDescriptor "(Ljava/util/Collection;)Ljava/util/List;" = some ⟨[(.object "java/util/Collection")], (some (.object "java/util/List"))⟩ := by decide +kernel
theorem pd15 : parseMethodDescriptor "(Ljava/lang/Object;Ljava/lang/Object;)V" = some ⟨[(.object "java/lang/Object"), (.object "java/lang/Object")], none⟩ := by decide +kernel
theorem pd16 : parseMethodDescriptor "([Ljava/lang/Object;Z)V" = some ⟨[(.array (.object "java/lang/Object")), .boolean], none⟩ := by decide +kernel
theorem pd17 : parseMethodDescriptor "()Ljava/util/List;" = some ⟨[], (some (.object "java/util/List"))⟩ := by decide +kernel
theorem pd18 : parseMethodDescriptor "(Ljava/lang/String;Z)V" = some ⟨[(.object "java/lang/String"), .boolean], none⟩ := by decide +kernel
theorem pd19 : parseMethodDescriptor "(C)Ljava/lang/String;" = some ⟨[.char], (some (.object "java/lang/String"))⟩ := by decide +kernel
theorem pd20 : parseMethodDescriptor "(Ljava/util/Collection;Lorg/portcullis/acl/AccessControlEntry;)V" = some ⟨[(.object "java/util/Collection"), (.object "org/portcullis/acl/AccessControlEntry")], none⟩ := by decide +kernel
theorem pd21 : parseMethodDescriptor "()Lorg/portcullis/acl/Decision;" = some ⟨[], (some (.object "org/portcullis/acl/Decision"))⟩ := by decide +kernel
theorem pd22 : parseMethodDescriptor "(Ljava/lang/String;Ljava/lang/String;)V" = some ⟨[(.object "java/lang/String"), (.object "java/lang/String")], none⟩ := by decide +kernel
theorem pd23 : parseMethodDescriptor "(Ljava/lang/Object;)Z" = some ⟨[(.object "java/lang/Object")], (some .boolean)⟩ := by decide +kernel
theorem pd24 : parseMethodDescriptor "(ILorg/portcullis/acl/Sid;IZ)V" = some ⟨[.int, (.object "org/portcullis/acl/Sid"), .int, .boolean], none⟩ := by decide +kernel
theorem mI {α : Type} {l : List α} {a : α} (i : Nat) (h : l[i]? = some a) : a ∈ l := List.mem_of_getElem? h
abbrev vi (x : Int32) : Slot := .val (.int x)
abbrev vr (a : Addr) : Slot := .val (.ref a)
abbrev vN : Slot := .val .null
abbrev U0 : Slot := .unset
abbrev S0 : Slot := .second
theorem gof {p : Program} {e : Env} {below : List Frame} {Q : Outcome → State → Prop} {t : State} (T : State) (m : MethodId) (pc : Nat) (L : Array Slot) (S : List Value) (k : ∀ z, Steps p.tables e below (T.setTop (mkF m pc L S)) z → Steps p.tables e below t z) (g : Go p e below Q (T.setTop (mkF m pc L S))) : Go p e below Q t := Go.of k g
theorem d1000_0 : decode jdk_30_method_1_code 0 = .ok (.aload_n 0, 1) := by decide +kernel
theorem d1000_1 : decode jdk_30_method_1_code 1 = .ok (.invokespecial 1, 3) := by decide +kernel
theorem d1000_4 : decode jdk_30_method_1_code 4 = .ok (.return_, 1) := by decide +kernel
theorem ef10 (m : MethodId) (x0 : Addr)  : entryFrame m #[(.ref x0)] 1 = mkF m 0 #[vr x0] [] := by first | (simp [entryFrame, mkF, argsToLocals, Value.category]; done) | rfl | rfl
set_option maxRecDepth 65536 in
set_option maxHeartbeats 40000000 in
theorem rm10 (l : Launch) (Z : State) (a0 : Array Value) (hw : ∀ d ∈ tables_1, d.before a0 Z = true) (hEL : EW Z a0 EL0) (zc : Int32) (SC : Sta Z Z.heap "java/lang/String" "COMPACT_STRINGS" "Z" (.int zc)) (hzc : ¬ zc = 0) (fm : Value) (SF : Sta Z Z.heap "jdk/internal/util/Preconditions" "SIOOBE_FORMATTER" "Ljava/util/function/BiFunction;" fm) (rfm : fm.isRef = true) (x1 : Addr) (h0 : Heap) {n0 : Nat} (O0 : Old Z n0 h0)  :
    Met l Z EL0 n0 (⟨"java/lang/Record", "<init>", "()V"⟩ : MethodName) jdk_30_method_1_code 1 none [] ({ frames := 1, cells := 0, slots := 0, locals := 12 } : Room) #[(.ref x1)] h0 [] [] (fun v h' S => v = none ∧ h0 = h') := by
  refine Met.of (plainFor_of_name pn0) O0 ?_
  intro p e s m below meth c T0 hx hby hml hret hlk hnm hs W0
  have W0 : Wk p l e _ s m _ below meth c Z EL0 n0 [] "java/lang/Record" [] T0 0 0 h0 := W0
  have hSA := fun d hd => hw d (sa_in d hd)
  have hws := fun d hd => hw d (ws_in d hd)
  refine Go.of (fun _ kk => castTop (ef10 m x1) kk) ?_
  refine gof T0 m 1 #[vr x1] [(.ref x1)] (fun _ kk => XS.aloadN W0.here hx rfl (hb hby d1000_0) rfl rfl kk) ?_
  refine W0.initO hx (hw _ (mI 41 rfl)) (hw _ (mI 15 rfl)) (hw _ (mI 16 rfl)) rfl (by rw [hml]; rfl) rfl (hb hby d1000_1) (by decide +kernel) (Wd := 0) (by show 2 * 0 + _ ≤ _; exact Nat.le_of_eq rfl) (by decide +kernel) (fun T1 W1 => ?_)
  show Go p e below _ (T1.setTop (mkF m 4 #[vr x1] []))
  exact W1.retV hx hEL hs hlk (by decide +kernel) (by decide +kernel) hret (hb hby d1000_4) (fun S hS => ⟨rfl, rfl⟩)
theorem d1001_0 : decode jdk_43_method_3_code 0 = .ok (.iload_n 0, 1) := by decide +kernel
theorem d1001_1 : decode jdk_43_method_3_code 1 = .ok (.sipush 255, 3) := by decide +kernel
theorem d1001_4 : decode jdk_43_method_3_code 4 = .ok (.if_icmp .gt 7, 3) := by decide +kernel
theorem d1001_7 : decode jdk_43_method_3_code 7 = .ok (.iconst 1, 1) := by decide +kernel
theorem d1001_8 : decode jdk_43_method_3_code 8 = .ok (.goto 4, 3) := by decide +kernel
theorem d1001_12 : decode jdk_43_method_3_code 12 = .ok (.ireturn, 1) := by decide +kernel
theorem ef24 (m : MethodId) (x0 : Int32)  : entryFrame m #[(.int x0)] 1 = mkF m 0 #[vi x0] [] := by first | (simp [entryFrame, mkF, argsToLocals, Value.category]; done) | rfl | rfl
set_option maxRecDepth 65536 in
set_option maxHeartbeats 40000000 in
theorem rm24 (l : Launch) (Z : State) (a0 : Array Value) (hw : ∀ d ∈ tables_1, d.before a0 Z = true) (hEL : EW Z a0 EL0) (zc : Int32) (SC : Sta Z Z.heap "java/lang/String" "COMPACT_STRINGS" "Z" (.int zc)) (hzc : ¬ zc = 0) (fm : Value) (SF : Sta Z Z.heap "jdk/internal/util/Preconditions" "SIOOBE_FORMATTER" "Ljava/util/function/BiFunction;" fm) (rfm : fm.isRef = true) (q1 : Int32) (h0 : Heap) {n0 : Nat} (O0 : Old Z n0 h0) (cq1 : ¬ q1 < 0 ∧ ¬ (255 : Int32) < q1) :
    Met l Z EL0 n0 (⟨"java/lang/StringLatin1", "canEncode", "(C)Z"⟩ : MethodName) jdk_43_method_3_code 1 (some .boolean) [] ({ frames := 0, cells := 0, slots := 0, locals := 0 } : Room) #[(.int q1)] h0 [] [] (fun v h' S => v = some (.int 1) ∧ h0 = h') := by
  refine Met.of (plainFor_of_name pn1) O0 ?_
  intro p e s m below meth c T0 hx hby hml hret hlk hnm hs W0
  have W0 : Wk p l e _ s m _ below meth c Z EL0 n0 [] "java/lang/StringLatin1" [] T0 0 0 h0 := W0
  have hSA := fun d hd => hw d (sa_in d hd)
  have hws := fun d hd => hw d (ws_in d hd)
  refine Go.of (fun _ kk => castTop (ef24 m q1) kk) ?_
  refine gof T0 m 12 #[vi q1] [(.int 1)] (fun _ kk => XS.iloadN W0.here hx rfl (hb hby d1001_0) rfl (XS.sipush W0.here hx rfl (hb hby d1001_1) (XS.icmpNo W0.here hx rfl (hb hby d1001_4) rfl (XT.ii_gt_f cq1.2) (XS.iconst W0.here hx rfl (hb hby d1001_7) (XS.goto W0.here hx rfl (pc0 := 8) (pc' := 12) rfl (hb hby d1001_8) (by decide +kernel) (by decide +kernel) kk))))) ?_
  exact W0.retI hx hEL hs hlk (by decide +kernel) (by decide +kernel) hret (by simp) rfl (hb hby d1001_12) (fun S hS => ⟨rfl, rfl⟩)
theorem d1002_0 : decode jdk_43_method_46_code 0 = .ok (.iconst 1, 1) := by decide +kernel
theorem d1002_1 : decode jdk_43_method_46_code 1 = .ok (.newarray .byte, 2) := by decide +kernel
theorem d1002_3 : decode jdk_43_method_46_code 3 = .ok (.dup, 1) := by decide +kernel
theorem d1002_4 : decode jdk_43_method_46_code 4 = .ok (.iconst 0, 1) := by decide +kernel
theorem d1002_5 : decode jdk_43_method_46_code 5 = .ok (.iload_n 0, 1) := by decide +kernel
theorem d1002_6 : decode jdk_43_method_46_code 6 = .ok (.i2b, 1) := by decide +kernel
theorem d1002_7 : decode jdk_43_method_46_code 7 = .ok (.bastore, 1) := by decide +kernel
theorem d1002_8 : decode jdk_43_method_46_code 8 = .ok (.areturn, 1) := by decide +kernel
theorem ef25 (m : MethodId) (x0 : Int32)  : entryFrame m #[(.int x0)] 1 = mkF m 0 #[vi x0] [] := by first | (simp [entryFrame, mkF, argsToLocals, Value.category]; done) | rfl | rfl
set_option maxRecDepth 65536 in
set_option maxHeartbeats 40000000 in
theorem rm25 (l : Launch) (Z : State) (a0 : Array Value) (hw : ∀ d ∈ tables_1, d.before a0 Z = true) (hEL : EW Z a0 EL0) (zc : Int32) (SC : Sta Z Z.heap "java/lang/String" "COMPACT_STRINGS" "Z" (.int zc)) (hzc : ¬ zc = 0) (fm : Value) (SF : Sta Z Z.heap "jdk/internal/util/Preconditions" "SIOOBE_FORMATTER" "Ljava/util/function/BiFunction;" fm) (rfm : fm.isRef = true) (q1 : Int32) (h0 : Heap) {n0 : Nat} (O0 : Old Z n0 h0)  :
    Met l Z EL0 n0 (⟨"java/lang/StringLatin1", "toBytes", "(C)[B"⟩ : MethodName) jdk_43_method_46_code 1 (some (.array .byte)) [] ({ frames := 0, cells := 1, slots := 1, locals := 0 } : Room) #[(.int q1)] h0 [] [] (fun v h' S => ∃ (r : Addr) (kc : ClassId), v = some (.ref r) ∧ h0.size ≤ r ∧ Arv Z h' r kc .byte (1 : Int32) [(.int (q1.toInt8.toInt32))] (.int (0 : Int32))) := by
  refine Met.of (plainFor_of_name pn1) O0 ?_
  intro p e s m below meth c T0 hx hby hml hret hlk hnm hs W0
  have W0 : Wk p l e _ s m _ below meth c Z EL0 n0 [] "java/lang/StringLatin1" [] T0 0 0 h0 := W0
  have hSA := fun d hd => hw d (sa_in d hd)
  have hws := fun d hd => hw d (ws_in d hd)
  refine Go.of (fun _ kk => castTop (ef25 m q1) kk) ?_
  refine gof T0 m 1 #[vi q1] [(.int 1)] (fun _ kk => XS.iconst W0.here hx rfl (hb hby d1002_0) kk) ?_
  refine W0.newP hx (hw _ (mI 22 rfl)) rfl (hb hby d1002_1) rfl (by decide +kernel) (cap := 1) (by decide +kernel) (by decide +kernel) (by decide +kernel) (by decide +kernel) (fun T1 h1 b1 c1 eb1 gb1 W1 K1 A1 => ?_)
  have V1 : Arv Z h1 b1 c1 .byte (1 : Int32) [(.int (0 : Int32))] (.int (0 : Int32)) := A1
  refine gof T1 m 7 #[vi q1] [(.int (q1.toInt8.toInt32)), (.int 0), (.ref b1), (.ref b1)] (fun _ kk => XS.dup W1.here hx rfl (hb hby d1002_3) rfl rfl (XS.iconst W1.here hx rfl (hb hby d1002_4) (XS.iloadN W1.here hx rfl (hb hby d1002_5) rfl (XS.i2b W1.here hx rfl (hb hby d1002_6) rfl kk)))) ?_
  refine W1.stB hx V1 ⟨by decide, by decide⟩ 0 rfl (Nat.le_of_ble_eq_true rfl) gb1.1 (Or.inr gb1.2) (mI 0 rfl) rfl rfl (hb hby d1002_7) (fun T2 h2 W2 K2 A2 => ?_)
  have V2 : Arv Z h2 b1 c1 .byte (1 : Int32) [(.int (q1.toInt8.toInt32))] (.int (0 : Int32)) := (by rw [(nar_byte _)] at A2; exact A2)
  show Go p e below _ (T2.setTop (mkF m 8 #[vi q1] [(.ref b1)]))
  exact W2.retA hx hEL hs hlk (by decide +kernel) (by decide +kernel) hret rfl rfl (hb hby d1002_8) (fun S hS => ⟨b1, c1, rfl, hs ▸ gb1.2, V2⟩)
theorem d1003_0 : decode jdk_42_method_151_code 0 = .ok (.aload_n 0, 1) := by decide +kernel
theorem d1003_1 : decode jdk_42_method_151_code 1 = .ok (.invokespecial 1, 3) := by decide +kernel
theorem d1003_4 : decode jdk_42_method_151_code 4 = .ok (.aload_n 0, 1) := by decide +kernel
theorem d1003_5 : decode jdk_42_method_151_code 5 = .ok (.aload_n 1, 1) := by decide +kernel
theorem d1003_6 : decode jdk_42_method_151_code 6 = .ok (.putfield 9, 3) := by decide +kernel
theorem d1003_9 : decode jdk_42_method_151_code 9 = .ok (.aload_n 0, 1) := by decide +kernel
theorem d1003_10 : decode jdk_42_method_151_code 10 = .ok (.iload_n 2, 1) := by decide +kernel
theorem d1003_11 : decode jdk_42_method_151_code 11 = .ok (.putfield 15, 3) := by decide +kernel
theorem d1003_14 : decode jdk_42_method_151_code 14 = .ok (.return_, 1) := by decide +kernel
theorem ef26 (m : MethodId) (x0 : Addr) (x1 : Addr) (x2 : Int32)  : entryFrame m #[(.ref x0), (.ref x1), (.int x2)] 3 = mkF m 0 #[vr x0, vr x1, vi x2] [] := by first | (simp [entryFrame, mkF, argsToLocals, Value.category]; done) | rfl | rfl
set_option maxRecDepth 65536 in
set_option maxHeartbeats 40000000 in
theorem rm26 (l : Launch) (Z : State) (a0 : Array Value) (hw : ∀ d ∈ tables_1, d.before a0 Z = true) (hEL : EW Z a0 EL0) (zc : Int32) (SC : Sta Z Z.heap "java/lang/String" "COMPACT_STRINGS" "Z" (.int zc)) (hzc : ¬ zc = 0) (fm : Value) (SF : Sta Z Z.heap "jdk/internal/util/Preconditions" "SIOOBE_FORMATTER" "Ljava/util/function/BiFunction;" fm) (rfm : fm.isRef = true) (x1 : Addr) (x2 : Addr) (z3 : Int32) (h0 : Heap) {n0 : Nat} (O0 : Old Z n0 h0) (E1 : Exa Z h0 x1 "java/lang/String") (F1 : Fld Z h0 x1 "java/lang/String" "value" "[B" .null) (F2 : Fld Z h0 x1 "java/lang/String" "coder" "B" (.int (0 : Int32))) (g1 : n0 ≤ x1) (hn3 : narrow .byte (.int z3) = .int z3) (hf3 : fits .byte (.int z3) = true) :
    Met l Z EL0 n0 (⟨"java/lang/String", "<init>", "([BB)V"⟩ : MethodName) jdk_42_method_151_code 3 none [] ({ frames := 1, cells := 0, slots := 0, locals := 12 } : Room) #[(.ref x1), (.ref x2), (.int z3)] h0 [x1] [x1] (fun v h' S => v = none ∧ Fld Z h' x1 "java/lang/String" "value" "[B" (.ref x2) ∧ Fld Z h' x1 "java/lang/String" "coder" "B" (.int z3)) := by
  refine Met.of (plainFor_of_name pn2) O0 ?_
  intro p e s m below meth c T0 hx hby hml hret hlk hnm hs W0
  have W0 : Wk p l e _ s m _ below meth c Z EL0 n0 [x1] "java/lang/String" [x1] T0 0 0 h0 := W0
  have hSA := fun d hd => hw d (sa_in d hd)
  have hws := fun d hd => hw d (ws_in d hd)
  refine Go.of (fun _ kk => castTop (ef26 m x1 x2 z3) kk) ?_
  refine gof T0 m 1 #[vr x1, vr x2, vi z3] [(.ref x1)] (fun _ kk => XS.aloadN W0.here hx rfl (hb hby d1003_0) rfl rfl kk) ?_
  refine W0.initO hx (hw _ (mI 14 rfl)) (hw _ (mI 15 rfl)) (hw _ (mI 16 rfl)) rfl (by rw [hml]; rfl) rfl (hb hby d1003_1) (by decide +kernel) (Wd := 0) (by show 2 * 0 + _ ≤ _; exact Nat.le_of_eq rfl) (by decide +kernel) (fun T1 W1 => ?_)
  refine gof T1 m 6 #[vr x1, vr x2, vi z3] [(.ref x2), (.ref x1)] (fun _ kk => XS.aloadN W1.here hx rfl (hb hby d1003_4) rfl rfl (XS.aloadN W1.here hx rfl (hb hby d1003_5) rfl rfl kk)) ?_
  refine W1.putF hx (host := "") (Or.inl (hw _ (mI 31 rfl))) Via.refl F1 E1 (Or.inr ⟨(hw _ (mI 32 rfl)), rfl, hnm⟩) (hw _ (mI 5 rfl)) (ty := (.array .byte)) (by decide +kernel) rfl rfl g1 (Or.inl (mI 0 rfl)) (Or.inl (mI 0 rfl)) rfl rfl (hb hby d1003_6) (fun T2 h2 W2 w2 => ?_)
  have K2 := Keep.of_wr w2
  have k3 := F2.other w2 (Or.inr (slot_ne (Or.inr (hw _ (mI 30 rfl))) (Or.inr (hw _ (mI 32 rfl))) (by decide +kernel) (t := .byte) (t' := (.array .byte)) (by decide +kernel) (by decide +kernel)))
  have k4 := F1.same w2
  refine gof T2 m 11 #[vr x1, vr x2, vi z3] [(.int z3), (.ref x1)] (fun _ kk => XS.aloadN W2.here hx rfl (hb hby d1003_9) rfl rfl (XS.iloadN W2.here hx rfl (hb hby d1003_10) rfl kk)) ?_
  have k5 := (E1.keep K2)
  refine W2.putF hx (host := "") (Or.inl (hw _ (mI 29 rfl))) Via.refl k3 k5 (Or.inr ⟨(hw _ (mI 30 rfl)), rfl, hnm⟩) (hw _ (mI 5 rfl)) (ty := .byte) (by decide +kernel) hn3 hf3 g1 (Or.inl (mI 0 rfl)) (Or.inl (mI 0 rfl)) rfl rfl (hb hby d1003_11) (fun T6 h6 W6 w6 => ?_)
  have K6 := Keep.of_wr w6
  have k7 := k4.other w6 (Or.inr (slot_ne (Or.inr (hw _ (mI 32 rfl))) (Or.inr (hw _ (mI 30 rfl))) (by decide +kernel) (t := (.array .byte)) (t' := .byte) (by decide +kernel) (by decide +kernel)))
  have k8 := k3.same w6
  show Go p e below _ (T6.setTop (mkF m 14 #[vr x1, vr x2, vi z3] []))
  exact W6.retV hx hEL hs hlk (by decide +kernel) (by decide +kernel) hret (hb hby d1003_14) (fun S hS => ⟨rfl, k7, k8⟩)
theorem d1004_0 : decode jdk_42_method_139_code 0 = .ok (.getstatic 38, 3) := by decide +kernel
theorem d1004_3 : decode jdk_42_method_139_code 3 = .ok (.ifCond .eq 23, 3) := by decide +kernel
theorem d1004_6 : decode jdk_42_method_139_code 6 = .ok (.iload_n 0, 1) := by decide +kernel
theorem d1004_7 : decode jdk_42_method_139_code 7 = .ok (.invokestatic 1015, 3) := by decide +kernel
theorem d1004_10 : decode jdk_42_method_139_code 10 = .ok (.ifCond .eq 16, 3) := by decide +kernel
theorem d1004_13 : decode jdk_42_method_139_code 13 = .ok (.new 10, 3) := by decide +kernel
theorem d1004_16 : decode jdk_42_method_139_code 16 = .ok (.dup, 1) := by decide +kernel
theorem d1004_17 : decode jdk_42_method_139_code 17 = .ok (.iload_n 0, 1) := by decide +kernel
theorem d1004_18 : decode jdk_42_method_139_code 18 = .ok (.invokestatic 1018, 3) := by decide +kernel
theorem d1004_21 : decode jdk_42_method_139_code 21 = .ok (.iconst 0, 1) := by decide +kernel
theorem d1004_22 : decode jdk_42_method_139_code 22 = .ok (.invokespecial 209, 3) := by decide +kernel
theorem d1004_25 : decode jdk_42_method_139_code 25 = .ok (.areturn, 1) := by decide +kernel
theorem ef27 (m : MethodId) (x0 : Int32)  : entryFrame m #[(.int x0)] 1 = mkF m 0 #[vi x0] [] := by first | (simp [entryFrame, mkF, argsToLocals, Value.category]; done) | rfl | rfl
set_option maxRecDepth 65536 in
set_option maxHeartbeats 40000000 in
theorem rm27 (l : Launch) (Z : State) (a0 : Array Value) (hw : ∀ d ∈ tables_1, d.before a0 Z = true) (hEL : EW Z a0 EL0) (zc : Int32) (SC : Sta Z Z.heap "java/lang/String" "COMPACT_STRINGS" "Z" (.int zc)) (hzc : ¬ zc = 0) (fm : Value) (SF : Sta Z Z.heap "jdk/internal/util/Preconditions" "SIOOBE_FORMATTER" "Ljava/util/function/BiFunction;" fm) (rfm : fm.isRef = true) (q1 : Int32) (h0 : Heap) {n0 : Nat} (O0 : Old Z n0 h0) (cq1 : ¬ q1 < 0 ∧ ¬ (255 : Int32) < q1) :
    Met l Z EL0 n0 (⟨"java/lang/String", "valueOf", "(C)Ljava/lang/String;"⟩ : MethodName) jdk_42_method_139_code 1 (some (.object "java/lang/String")) [] ({ frames := 2, cells := 2, slots := 5, locals := 27 } : Room) #[(.int q1)] h0 [] [] (fun v h' S => ∃ r : Addr, v = some (.ref r) ∧ h0.size ≤ r ∧ Str Z h' r [q1]) := by
  refine Met.of (plainFor_of_name pn2) O0 ?_
  intro p e s m below meth c T0 hx hby hml hret hlk hnm hs W0
  have W0 : Wk p l e _ s m _ below meth c Z EL0 n0 [] "java/lang/String" [] T0 0 0 h0 := W0
  have hSA := fun d hd => hw d (sa_in d hd)
  have hws := fun d hd => hw d (ws_in d hd)
  refine Go.of (fun _ kk => castTop (ef27 m q1) kk) ?_
  show Go p e below _ (T0.setTop (mkF m 0 #[vi q1] []))
  refine W0.getS hx (host := "") (Or.inl (hw _ (mI 17 rfl))) Via.refl SC rfl (hb hby d1004_0) (fun T1 W1 => ?_)
  refine gof T1 m 7 #[vi q1] [(.int q1)] (fun _ kk => XS.ifNo W1.here hx rfl (hb hby d1004_3) rfl (XT.i0_eq_f hzc) (XS.iloadN W1.here hx rfl (hb hby d1004_6) rfl kk)) ?_
  refine W1.callS hx hEL (hw _ (mI 49 rfl)) (hw _ (mI 50 rfl)) (hw _ (mI 51 rfl)) (hw _ (mI 52 rfl)) (by decide +kernel) (argsL := [(.int q1)]) (rest := []) (rm24 l Z a0 hw hEL zc SC hzc fm SF rfm q1 h0 W1.old cq1) all0 (by decide +kernel) (Wd := 0) (by decide +kernel) (by decide +kernel) (by decide +kernel) all0 rfl (by rw [hml]; rfl) (lenOf pd0 rfl) rfl (by show 2 * 0 + _ ≤ _; exact Nat.le_of_eq rfl) (hb hby d1004_7) (fun T2 h2 v2 P2 Ws2 K2 q2 => ?_)
  have W2 := Ws2 [] all0
  obtain ⟨rfl, rfl⟩ := q2
  refine gof T2 m 13 #[vi q1] [] (fun _ kk => XS.ifNo W2.here hx rfl (hb hby d1004_10) rfl (XT.i0_eq_f (by decide +kernel)) kk) ?_
  refine W2.newO hx (hw _ (mI 53 rfl)) (hw _ (mI 5 rfl)) (hw _ (mI 6 rfl)) rfl (hb hby d1004_13) (by decide +kernel) (by decide +kernel) (fun T3 h3 b3 eb3 gb3 W3 K3 E3 D3 => ?_)
  have k4 : Fld Z h3 b3 "java/lang/String" "coder" "B" (.int (0 : Int32)) := D3 (Or.inr (hw _ (mI 30 rfl))) (ty := .byte) (by decide +kernel)
  have k5 : Fld Z h3 b3 "java/lang/String" "value" "[B" .null := D3 (Or.inr (hw _ (mI 32 rfl))) (ty := (.array .byte)) (by decide +kernel)
  refine gof T3 m 18 #[vi q1] [(.int q1), (.ref b3), (.ref b3)] (fun _ kk => XS.dup W3.here hx rfl (hb hby d1004_16) rfl rfl (XS.iloadN W3.here hx rfl (hb hby d1004_17) rfl kk)) ?_
  refine W3.callS hx hEL (hw _ (mI 54 rfl)) (hw _ (mI 55 rfl)) (hw _ (mI 51 rfl)) (hw _ (mI 56 rfl)) (by decide +kernel) (argsL := [(.int q1)]) (rest := [(.ref b3), (.ref b3)]) (rm25 l Z a0 hw hEL zc SC hzc fm SF rfm q1 h3 W3.old ) all0 (by decide +kernel) (Wd := 2) (by decide +kernel) (by decide +kernel) (by decide +kernel) all0 rfl (by rw [hml]; rfl) (lenOf pd1 rfl) rfl (by show 2 * 0 + _ ≤ _; exact Nat.le_of_eq rfl) (hb hby d1004_18) (fun T6 h6 v6 P6 Ws6 K6 q6 => ?_)
  have W6 := Ws6 [] all0
  obtain ⟨r6, kc6, rfl, lr6, A6⟩ := q6
  have gr6 : n0 ≤ r6 ∧ s.heap.size ≤ r6 := ⟨Nat.le_trans W3.n0le lr6, Nat.le_trans W3.s0le lr6⟩
  refine gof T6 m 22 #[vi q1] [(.int 0), (.ref r6), (.ref b3), (.ref b3)] (fun _ kk => XS.iconst W6.here hx rfl (hb hby d1004_21) kk) ?_
  have k8 := (E3.keep K6)
  have k9 := (k5.keep K6 nin0)
  have k10 := (k4.keep K6 nin0)
  refine W6.callP hx hEL rfl (hw _ (mI 57 rfl)) (hw _ (mI 58 rfl)) (hw _ (mI 6 rfl)) (hw _ (mI 59 rfl)) (by decide +kernel) (a := b3) (argsL := [(.ref r6), (.int (0 : Int32))]) (rest := [(.ref b3)]) (rm26 l Z a0 hw hEL zc SC hzc fm SF rfm b3 r6 (0 : Int32) h6 W6.old k8 k9 k10 gb3.1 rfl rfl) (allS (mI 0 rfl) all0) (by decide +kernel) (Wd := 1) (by decide +kernel) (by decide +kernel) (by decide +kernel) (allS ⟨gb3.1, (Or.inr gb3.2)⟩ all0) rfl (by rw [hml]; rfl) (lenOf pd2 rfl) rfl (by show 2 * 0 + _ ≤ _; exact Nat.le_of_eq rfl) (hb hby d1004_22) (fun T7 h7 v7 P7 Ws7 K7 q7 => ?_)
  have W7 := Ws7 [] all0
  obtain ⟨rfl, Fv7, Fc7⟩ := q7
  show Go p e below _ (T7.setTop (mkF m 25 #[vi q1] [(.ref b3)]))
  have k11 := (k8.keep K7)
  have k12 := (A6.keep K7 (ninS (ne_of_born lr6 E3.lt (Nat.le_refl _)).symm nin0))
  exact W7.retA hx hEL hs hlk (by decide +kernel) (by decide +kernel) hret rfl rfl (hb hby d1004_25) (fun S hS => ⟨b3, rfl, hs ▸ gb3.2, ⟨r6, kc6, _, _, _, k11, Fv7, Fc7, k12, StrChars.Road.codOf (cs := [q1]) (n := 1) rfl (allSi cq1.2 all0i), up255 (allSi cq1 all0i), Nat.le_of_ble_eq_true rfl⟩⟩)
theorem d1005_0 : decode prog_13_method_1_code 0 = .ok (.aload_n 0, 1) := by decide +kernel
theorem d1005_1 : decode prog_13_method_1_code 1 = .ok (.invokespecial 1, 3) := by decide +kernel
theorem d1005_4 : decode prog_13_method_1_code 4 = .ok (.aload_n 1, 1) := by decide +kernel
theorem d1005_5 : decode prog_13_method_1_code 5 = .ok (.ifnonnull 13, 3) := by decide +kernel
theorem d1005_18 : decode prog_13_method_1_code 18 = .ok (.aload_n 0, 1) := by decide +kernel
theorem d1005_19 : decode prog_13_method_1_code 19 = .ok (.aload_n 1, 1) := by decide +kernel
theorem d1005_20 : decode prog_13_method_1_code 20 = .ok (.putfield 14, 3) := by decide +kernel
theorem d1005_23 : decode prog_13_method_1_code 23 = .ok (.aload_n 0, 1) := by decide +kernel
theorem d1005_24 : decode prog_13_method_1_code 24 = .ok (.iload_n 2, 1) := by decide +kernel
theorem d1005_25 : decode prog_13_method_1_code 25 = .ok (.putfield 20, 3) := by decide +kernel
theorem d1005_28 : decode prog_13_method_1_code 28 = .ok (.return_, 1) := by decide +kernel
theorem ef11 (m : MethodId) (x0 : Addr) (x1 : Addr) (x2 : Int32)  : entryFrame m #[(.ref x0), (.ref x1), (.int x2)] 3 = mkF m 0 #[vr x0, vr x1, vi x2] [] := by first | (simp [entryFrame, mkF, argsToLocals, Value.category]; done) | rfl | rfl
set_option maxRecDepth 65536 in
set_option maxHeartbeats 40000000 in
theorem rm11 (l : Launch) (Z : State) (a0 : Array Value) (hw : ∀ d ∈ tables_1, d.before a0 Z = true) (hEL : EW Z a0 EL0) (zc : Int32) (SC : Sta Z Z.heap "java/lang/String" "COMPACT_STRINGS" "Z" (.int zc)) (hzc : ¬ zc = 0) (fm : Value) (SF : Sta Z Z.heap "jdk/internal/util/Preconditions" "SIOOBE_FORMATTER" "Ljava/util/function/BiFunction;" fm) (rfm : fm.isRef = true) (oo : Addr) (sn : Addr) (pz : Int32) (h0 : Heap) {n0 : Nat} (O0 : Old Z n0 h0) (Eo : Exa Z h0 oo "org/portcullis/acl/Sid") (Fna : Fld Z h0 oo "org/portcullis/acl/Sid" "name" "Ljava/lang/String;" .null) (Fpr : Fld Z h0 oo "org/portcullis/acl/Sid" "principal" "Z" (.int (0 : Int32))) (go : n0 ≤ oo) (hnz : narrow .boolean (.int pz) = .int pz) (hfz : fits .boolean (.int pz) = true) :
    Met l Z EL0 n0 (⟨"org/portcullis/acl/Sid", "<init>", "(Ljava/lang/String;Z)V"⟩ : MethodName) prog_13_method_1_code 3 none [] ({ frames := 2, cells := 0, slots := 0, locals := 24 } : Room) #[(.ref oo), (.ref sn), (.int pz)] h0 [oo] [] (fun v h' S => v = none) := by
  refine Met.of (plainFor_of_name pn3) O0 ?_
  intro p e s m below meth c T0 hx hby hml hret hlk hnm hs W0
  have W0 : Wk p l e _ s m _ below meth c Z EL0 n0 [oo] "org/portcullis/acl/Sid" [] T0 0 0 h0 := W0
  have hSA := fun d hd => hw d (sa_in d hd)
  have hws := fun d hd => hw d (ws_in d hd)
  refine Go.of (fun _ kk => castTop (ef11 m oo sn pz) kk) ?_
  refine gof T0 m 1 #[vr oo, vr sn, vi pz] [(.ref oo)] (fun _ kk => XS.aloadN W0.here hx rfl (hb hby d1005_0) rfl rfl kk) ?_
  refine W0.callP hx hEL rfl (hw _ (mI 36 rfl)) (hw _ (mI 37 rfl)) (hw _ (mI 39 rfl)) (hw _ (mI 40 rfl)) (by decide +kernel) (a := oo) (argsL := []) (rest := []) (rm10 l Z a0 hw hEL zc SC hzc fm SF rfm oo h0 W0.old ) all0 (by decide +kernel) (Wd := 0) (by decide +kernel) (by decide +kernel) (by decide +kernel) all0 rfl (by rw [hml]; rfl) (lenOf pd3 rfl) rfl (by show 2 * 0 + _ ≤ _; exact Nat.le_of_eq rfl) (hb hby d1005_1) (fun T1 h1 v1 P1 Ws1 K1 q1 => ?_)
  have W1 := Ws1 [] all0
  obtain ⟨rfl, rfl⟩ := q1
  refine gof T1 m 20 #[vr oo, vr sn, vi pz] [(.ref sn), (.ref oo)] (fun _ kk => XS.aloadN W1.here hx rfl (hb hby d1005_4) rfl rfl (XS.ifnonnullYes W1.here hx rfl (pc0 := 5) (pc' := 18) rfl (hb hby d1005_5) rfl (by decide +kernel) (by decide +kernel) (XS.aloadN W1.here hx rfl (hb hby d1005_18) rfl rfl (XS.aloadN W1.here hx rfl (hb hby d1005_19) rfl rfl kk)))) ?_
  refine W1.putF hx (host := "") (Or.inl (hw _ (mI 42 rfl))) Via.refl Fna Eo (Or.inr ⟨(hw _ (mI 43 rfl)), rfl, hnm⟩) (hw _ (mI 2 rfl)) (ty := (.object "java/lang/String")) (by decide +kernel) rfl rfl go (Or.inl (mI 0 rfl)) (Or.inr ⟨by decide, by decide⟩) rfl rfl (hb hby d1005_20) (fun T2 h2 W2 w2 => ?_)
  have K2 := Keep.of_wr w2
  have k3 := Fpr.other w2 (Or.inr (slot_ne (Or.inr (hw _ (mI 45 rfl))) (Or.inr (hw _ (mI 43 rfl))) (by decide +kernel) (t := .boolean) (t' := (.object "java/lang/String")) (by decide +kernel) (by decide +kernel)))
  have k4 := Fna.same w2
  refine gof T2 m 25 #[vr oo, vr sn, vi pz] [(.int pz), (.ref oo)] (fun _ kk => XS.aloadN W2.here hx rfl (hb hby d1005_23) rfl rfl (XS.iloadN W2.here hx rfl (hb hby d1005_24) rfl kk)) ?_
  have k5 := (Eo.keep K2)
  refine W2.putF hx (host := "") (Or.inl (hw _ (mI 44 rfl))) Via.refl k3 k5 (Or.inr ⟨(hw _ (mI 45 rfl)), rfl, hnm⟩) (hw _ (mI 2 rfl)) (ty := .boolean) (by decide +kernel) hnz hfz go (Or.inl (mI 0 rfl)) (Or.inr ⟨by decide, by decide⟩) rfl rfl (hb hby d1005_25) (fun T6 h6 W6 w6 => ?_)
  have K6 := Keep.of_wr w6
  have k7 := k4.other w6 (Or.inr (slot_ne (Or.inr (hw _ (mI 43 rfl))) (Or.inr (hw _ (mI 45 rfl))) (by decide +kernel) (t := (.object "java/lang/String")) (t' := .boolean) (by decide +kernel) (by decide +kernel)))
  have k8 := k3.same w6
  show Go p e below _ (T6.setTop (mkF m 28 #[vr oo, vr sn, vi pz] []))
  exact W6.retV hx hEL hs hlk (by decide +kernel) (by decide +kernel) hret (hb hby d1005_28) (fun S hS => rfl)
theorem d1006_0 : decode prog_1_method_1_code 0 = .ok (.aload_n 0, 1) := by decide +kernel
theorem d1006_1 : decode prog_1_method_1_code 1 = .ok (.invokespecial 1, 3) := by decide +kernel
theorem d1006_4 : decode prog_1_method_1_code 4 = .ok (.aload_n 2, 1) := by decide +kernel
theorem d1006_5 : decode prog_1_method_1_code 5 = .ok (.ifnonnull 13, 3) := by decide +kernel
theorem d1006_18 : decode prog_1_method_1_code 18 = .ok (.aload_n 0, 1) := by decide +kernel
theorem d1006_19 : decode prog_1_method_1_code 19 = .ok (.iload_n 1, 1) := by decide +kernel
theorem d1006_20 : decode prog_1_method_1_code 20 = .ok (.putfield 14, 3) := by decide +kernel
theorem d1006_23 : decode prog_1_method_1_code 23 = .ok (.aload_n 0, 1) := by decide +kernel
theorem d1006_24 : decode prog_1_method_1_code 24 = .ok (.aload_n 2, 1) := by decide +kernel
theorem d1006_25 : decode prog_1_method_1_code 25 = .ok (.putfield 20, 3) := by decide +kernel
theorem d1006_28 : decode prog_1_method_1_code 28 = .ok (.aload_n 0, 1) := by decide +kernel
theorem d1006_29 : decode prog_1_method_1_code 29 = .ok (.iload_n 3, 1) := by decide +kernel
theorem d1006_30 : decode prog_1_method_1_code 30 = .ok (.putfield 24, 3) := by decide +kernel
theorem d1006_33 : decode prog_1_method_1_code 33 = .ok (.aload_n 0, 1) := by decide +kernel
theorem d1006_34 : decode prog_1_method_1_code 34 = .ok (.iload 4, 2) := by decide +kernel
theorem d1006_36 : decode prog_1_method_1_code 36 = .ok (.putfield 27, 3) := by decide +kernel
theorem d1006_39 : decode prog_1_method_1_code 39 = .ok (.return_, 1) := by decide +kernel
theorem ef12 (m : MethodId) (x0 : Addr) (x1 : Int32) (x2 : Addr) (x3 : Int32) (x4 : Int32)  : entryFrame m #[(.ref x0), (.int x1), (.ref x2), (.int x3), (.int x4)] 5 = mkF m 0 #[vr x0, vi x1, vr x2, vi x3, vi x4] [] := by first | (simp [entryFrame, mkF, argsToLocals, Value.category]; done) | rfl | rfl
set_option maxRecDepth 65536 in
set_option maxHeartbeats 40000000 in
theorem rm12 (l : Launch) (Z : State) (a0 : Array Value) (hw : ∀ d ∈ tables_1, d.before a0 Z = true) (hEL : EW Z a0 EL0) (zc : Int32) (SC : Sta Z Z.heap "java/lang/String" "COMPACT_STRINGS" "Z" (.int zc)) (hzc : ¬ zc = 0) (fm : Value) (SF : Sta Z Z.heap "jdk/internal/util/Preconditions" "SIOOBE_FORMATTER" "Ljava/util/function/BiFunction;" fm) (rfm : fm.isRef = true) (oo : Addr) (sn : Addr) (io : Int32) (im : Int32) (h0 : Heap) {n0 : Nat} (O0 : Old Z n0 h0) (Eo : Exa Z h0 oo "org/portcullis/acl/AccessControlEntry") (Foa : Fld Z h0 oo "org/portcullis/acl/AccessControlEntry" "order" "I" (.int (0 : Int32))) (Fsa : Fld Z h0 oo "org/portcullis/acl/AccessControlEntry" "sid" "Lorg/portcullis/acl/Sid;" .null) (Fma : Fld Z h0 oo "org/portcullis/acl/AccessControlEntry" "mask" "I" (.int (0 : Int32))) (Fga : Fld Z h0 oo "org/portcullis/acl/AccessControlEntry" "granting" "Z" (.int (0 : Int32))) (go : n0 ≤ oo) :
    Met l Z EL0 n0 (⟨"org/portcullis/acl/AccessControlEntry", "<init>", "(ILorg/portcullis/acl/Sid;IZ)V"⟩ : MethodName) prog_1_method_1_code 5 none [] ({ frames := 2, cells := 0, slots := 0, locals := 24 } : Room) #[(.ref oo), (.int io), (.ref sn), (.int im), (.int (0 : Int32))] h0 [oo] [] (fun v h' S => v = none ∧ Fld Z h' oo "org/portcullis/acl/AccessControlEntry" "granting" "Z" (.int (0 : Int32))) := by
  refine Met.of (plainFor_of_name pn4) O0 ?_
  intro p e s m below meth c T0 hx hby hml hret hlk hnm hs W0
  have W0 : Wk p l e _ s m _ below meth c Z EL0 n0 [oo] "org/portcullis/acl/AccessControlEntry" [] T0 0 0 h0 := W0
  have hSA := fun d hd => hw d (sa_in d hd)
  have hws := fun d hd => hw d (ws_in d hd)
  refine Go.of (fun _ kk => castTop (ef12 m oo io sn im (0 : Int32)) kk) ?_
  refine gof T0 m 1 #[vr oo, vi io, vr sn, vi im, vi 0] [(.ref oo)] (fun _ kk => XS.aloadN W0.here hx rfl (hb hby d1006_0) rfl rfl kk) ?_
  refine W0.callP hx hEL rfl (hw _ (mI 139 rfl)) (hw _ (mI 37 rfl)) (hw _ (mI 39 rfl)) (hw _ (mI 40 rfl)) (by decide +kernel) (a := oo) (argsL := []) (rest := []) (rm10 l Z a0 hw hEL zc SC hzc fm SF rfm oo h0 W0.old ) all0 (by decide +kernel) (Wd := 0) (by decide +kernel) (by decide +kernel) (by decide +kernel) all0 rfl (by rw [hml]; rfl) (lenOf pd3 rfl) rfl (by show 2 * 0 + _ ≤ _; exact Nat.le_of_eq rfl) (hb hby d1006_1) (fun T1 h1 v1 P1 Ws1 K1 q1 => ?_)
  have W1 := Ws1 [] all0
  obtain ⟨rfl, rfl⟩ := q1
  refine gof T1 m 20 #[vr oo, vi io, vr sn, vi im, vi 0] [(.int io), (.ref oo)] (fun _ kk => XS.aloadN W1.here hx rfl (hb hby d1006_4) rfl rfl (XS.ifnonnullYes W1.here hx rfl (pc0 := 5) (pc' := 18) rfl (hb hby d1006_5) rfl (by decide +kernel) (by decide +kernel) (XS.aloadN W1.here hx rfl (hb hby d1006_18) rfl rfl (XS.iloadN W1.here hx rfl (hb hby d1006_19) rfl kk)))) ?_
  refine W1.putF hx (host := "") (Or.inl (hw _ (mI 140 rfl))) Via.refl Foa Eo (Or.inr ⟨(hw _ (mI 141 rfl)), rfl, hnm⟩) (hw _ (mI 134 rfl)) (ty := .int) (by decide +kernel) rfl rfl go (Or.inl (mI 0 rfl)) (Or.inr ⟨by decide, by decide⟩) rfl rfl (hb hby d1006_20) (fun T2 h2 W2 w2 => ?_)
  have K2 := Keep.of_wr w2
  have k3 := Fsa.other w2 (Or.inr (slot_ne (Or.inr (hw _ (mI 143 rfl))) (Or.inr (hw _ (mI 141 rfl))) (by decide +kernel) (t := (.object "org/portcullis/acl/Sid")) (t' := .int) (by decide +kernel) (by decide +kernel)))
  have k4 := Fma.other w2 (Or.inr (slot_ne (Or.inr (hw _ (mI 145 rfl))) (Or.inr (hw _ (mI 141 rfl))) (by decide +kernel) (t := .int) (t' := .int) (by decide +kernel) (by decide +kernel)))
  have k5 := Fga.other w2 (Or.inr (slot_ne (Or.inr (hw _ (mI 147 rfl))) (Or.inr (hw _ (mI 141 rfl))) (by decide +kernel) (t := .boolean) (t' := .int) (by decide +kernel) (by decide +kernel)))
  have k6 := Foa.same w2
  refine gof T2 m 25 #[vr oo, vi io, vr sn, vi im, vi 0] [(.ref sn), (.ref oo)] (fun _ kk => XS.aloadN W2.here hx rfl (hb hby d1006_23) rfl rfl (XS.aloadN W2.here hx rfl (hb hby d1006_24) rfl rfl kk)) ?_
  have k7 := (Eo.keep K2)
  refine W2.putF hx (host := "") (Or.inl (hw _ (mI 142 rfl))) Via.refl k3 k7 (Or.inr ⟨(hw _ (mI 143 rfl)), rfl, hnm⟩) (hw _ (mI 134 rfl)) (ty := (.object "org/portcullis/acl/Sid")) (by decide +kernel) rfl rfl go (Or.inl (mI 0 rfl)) (Or.inr ⟨by decide, by decide⟩) rfl rfl (hb hby d1006_25) (fun T8 h8 W8 w8 => ?_)
  have K8 := Keep.of_wr w8
  have k9 := k6.other w8 (Or.inr (slot_ne (Or.inr (hw _ (mI 141 rfl))) (Or.inr (hw _ (mI 143 rfl))) (by decide +kernel) (t := .int) (t' := (.object "org/portcullis/acl/Sid")) (by decide +kernel) (by decide +kernel)))
  have k10 := k4.other w8 (Or.inr (slot_ne (Or.inr (hw _ (mI 145 rfl))) (Or.inr (hw _ (mI 143 rfl))) (by decide +kernel) (t := .int) (t' := (.object "org/portcullis/acl/Sid")) (by decide +kernel) (by decide +kernel)))
  have k11 := k5.other w8 (Or.inr (slot_ne (Or.inr (hw _ (mI 147 rfl))) (Or.inr (hw _ (mI 143 rfl))) (by decide +kernel) (t := .boolean) (t' := (.object "org/portcullis/acl/Sid")) (by decide +kernel) (by decide +kernel)))
  have k12 := k3.same w8
  refine gof T8 m 30 #[vr oo, vi io, vr sn, vi im, vi 0] [(.int im), (.ref oo)] (fun _ kk => XS.aloadN W8.here hx rfl (hb hby d1006_28) rfl rfl (XS.iloadN W8.here hx rfl (hb hby d1006_29) rfl kk)) ?_
  have k13 := (k7.keep K8)
  refine W8.putF hx (host := "") (Or.inl (hw _ (mI 144 rfl))) Via.refl k10 k13 (Or.inr ⟨(hw _ (mI 145 rfl)), rfl, hnm⟩) (hw _ (mI 134 rfl)) (ty := .int) (by decide +kernel) rfl rfl go (Or.inl (mI 0 rfl)) (Or.inr ⟨by decide, by decide⟩) rfl rfl (hb hby d1006_30) (fun T14 h14 W14 w14 => ?_)
  have K14 := Keep.of_wr w14
  have k15 := k9.other w14 (Or.inr (slot_ne (Or.inr (hw _ (mI 141 rfl))) (Or.inr (hw _ (mI 145 rfl))) (by decide +kernel) (t := .int) (t' := .int) (by decide +kernel) (by decide +kernel)))
  have k16 := k12.other w14 (Or.inr (slot_ne (Or.inr (hw _ (mI 143 rfl))) (Or.inr (hw _ (mI 145 rfl))) (by decide +kernel) (t := (.object "org/portcullis/acl/Sid")) (t' := .int) (by decide +kernel) (by decide +kernel)))
  have k17 := k11.other w14 (Or.inr (slot_ne (Or.inr (hw _ (mI 147 rfl))) (Or.inr (hw _ (mI 145 rfl))) (by decide +kernel) (t := .boolean) (t' := .int) (by decide +kernel) (by decide +kernel)))
  have k18 := k10.same w14
  refine gof T14 m 36 #[vr oo, vi io, vr sn, vi im, vi 0] [(.int 0), (.ref oo)] (fun _ kk => XS.aloadN W14.here hx rfl (hb hby d1006_33) rfl rfl (XS.iload W14.here hx rfl (hb hby d1006_34) rfl kk)) ?_
  have k19 := (k13.keep K14)
  refine W14.putF hx (host := "") (Or.inl (hw _ (mI 146 rfl))) Via.refl k17 k19 (Or.inr ⟨(hw _ (mI 147 rfl)), rfl, hnm⟩) (hw _ (mI 134 rfl)) (ty := .boolean) (by decide +kernel) rfl rfl go (Or.inl (mI 0 rfl)) (Or.inr ⟨by decide, by decide⟩) rfl rfl (hb hby d1006_36) (fun T20 h20 W20 w20 => ?_)
  have K20 := Keep.of_wr w20
  have k21 := k15.other w20 (Or.inr (slot_ne (Or.inr (hw _ (mI 141 rfl))) (Or.inr (hw _ (mI 147 rfl))) (by decide +kernel) (t := .int) (t' := .boolean) (by decide +kernel) (by decide +kernel)))
  have k22 := k16.other w20 (Or.inr (slot_ne (Or.inr (hw _ (mI 143 rfl))) (Or.inr (hw _ (mI 147 rfl))) (by decide +kernel) (t := (.object "org/portcullis/acl/Sid")) (t' := .boolean) (by decide +kernel) (by decide +kernel)))
  have k23 := k18.other w20 (Or.inr (slot_ne (Or.inr (hw _ (mI 145 rfl))) (Or.inr (hw _ (mI 147 rfl))) (by decide +kernel) (t := .int) (t' := .boolean) (by decide +kernel) (by decide +kernel)))
  have k24 := k17.same w20
  show Go p e below _ (T20.setTop (mkF m 39 #[vr oo, vi io, vr sn, vi im, vi 0] []))
  exact W20.retV hx hEL hs hlk (by decide +kernel) (by decide +kernel) hret (hb hby d1006_39) (fun S hS => ⟨rfl, k24⟩)
theorem ef13 (m : MethodId) (x0 : Addr) (x1 : Int32) (x2 : Addr) (x3 : Int32) (x4 : Int32)  : entryFrame m #[(.ref x0), (.int x1), (.ref x2), (.int x3), (.int x4)] 5 = mkF m 0 #[vr x0, vi x1, vr x2, vi x3, vi x4] [] := by first | (simp [entryFrame, mkF, argsToLocals, Value.category]; done) | rfl | rfl
set_option maxRecDepth 65536 in
set_option maxHeartbeats 40000000 in
theorem rm13 (l : Launch) (Z : State) (a0 : Array Value) (hw : ∀ d ∈ tables_1, d.before a0 Z = true) (hEL : EW Z a0 EL0) (zc : Int32) (SC : Sta Z Z.heap "java/lang/String" "COMPACT_STRINGS" "Z" (.int zc)) (hzc : ¬ zc = 0) (fm : Value) (SF : Sta Z Z.heap "jdk/internal/util/Preconditions" "SIOOBE_FORMATTER" "Ljava/util/function/BiFunction;" fm) (rfm : fm.isRef = true) (oo : Addr) (sn : Addr) (io : Int32) (im : Int32) (h0 : Heap) {n0 : Nat} (O0 : Old Z n0 h0) (Eo : Exa Z h0 oo "org/portcullis/acl/AccessControlEntry") (Foa : Fld Z h0 oo "org/portcullis/acl/AccessControlEntry" "order" "I" (.int (0 : Int32))) (Fsa : Fld Z h0 oo "org/portcullis/acl/AccessControlEntry" "sid" "Lorg/portcullis/acl/Sid;" .null) (Fma : Fld Z h0 oo "org/portcullis/acl/AccessControlEntry" "mask" "I" (.int (0 : Int32))) (Fga : Fld Z h0 oo "org/portcullis/acl/AccessControlEntry" "granting" "Z" (.int (0 : Int32))) (go : n0 ≤ oo) :
    Met l Z EL0 n0 (⟨"org/portcullis/acl/AccessControlEntry", "<init>", "(ILorg/portcullis/acl/Sid;IZ)V"⟩ : MethodName) prog_1_method_1_code 5 none [] ({ frames := 2, cells := 0, slots := 0, locals := 24 } : Room) #[(.ref oo), (.int io), (.ref sn), (.int im), (.int (1 : Int32))] h0 [oo] [] (fun v h' S => v = none ∧ Fld Z h' oo "org/portcullis/acl/AccessControlEntry" "granting" "Z" (.int (1 : Int32))) := by
  refine Met.of (plainFor_of_name pn4) O0 ?_
  intro p e s m below meth c T0 hx hby hml hret hlk hnm hs W0
  have W0 : Wk p l e _ s m _ below meth c Z EL0 n0 [oo] "org/portcullis/acl/AccessControlEntry" [] T0 0 0 h0 := W0
  have hSA := fun d hd => hw d (sa_in d hd)
  have hws := fun d hd => hw d (ws_in d hd)
  refine Go.of (fun _ kk => castTop (ef13 m oo io sn im (1 : Int32)) kk) ?_
  refine gof T0 m 1 #[vr oo, vi io, vr sn, vi im, vi 1] [(.ref oo)] (fun _ kk => XS.aloadN W0.here hx rfl (hb hby d1006_0) rfl rfl kk) ?_
  refine W0.callP hx hEL rfl (hw _ (mI 139 rfl)) (hw _ (mI 37 rfl)) (hw _ (mI 39 rfl)) (hw _ (mI 40 rfl)) (by decide +kernel) (a := oo) (argsL := []) (rest := []) (rm10 l Z a0 hw hEL zc SC hzc fm SF rfm oo h0 W0.old ) all0 (by decide +kernel) (Wd := 0) (by decide +kernel) (by decide +kernel) (by decide +kernel) all0 rfl (by rw [hml]; rfl) (lenOf pd3 rfl) rfl (by show 2 * 0 + _ ≤ _; exact Nat.le_of_eq rfl) (hb hby d1006_1) (fun T1 h1 v1 P1 Ws1 K1 q1 => ?_)
  have W1 := Ws1 [] all0
  obtain ⟨rfl, rfl⟩ := q1
  refine gof T1 m 20 #[vr oo, vi io, vr sn, vi im, vi 1] [(.int io), (.ref oo)] (fun _ kk => XS.aloadN W1.here hx rfl (hb hby d1006_4) rfl rfl (XS.ifnonnullYes W1.here hx rfl (pc0 := 5) (pc' := 18) rfl (hb hby d1006_5) rfl (by decide +kernel) (by decide +kernel) (XS.aloadN W1.here hx rfl (hb hby d1006_18) rfl rfl (XS.iloadN W1.here hx rfl (hb hby d1006_19) rfl kk)))) ?_
  refine W1.putF hx (host := "") (Or.inl (hw _ (mI 140 rfl))) Via.refl Foa Eo (Or.inr ⟨(hw _ (mI 141 rfl)), rfl, hnm⟩) (hw _ (mI 134 rfl)) (ty := .int) (by decide +kernel) rfl rfl go (Or.inl (mI 0 rfl)) (Or.inr ⟨by decide, by decide⟩) rfl rfl (hb hby d1006_20) (fun T2 h2 W2 w2 => ?_)
  have K2 := Keep.of_wr w2
  have k3 := Fsa.other w2 (Or.inr (slot_ne (Or.inr (hw _ (mI 143 rfl))) (Or.inr (hw _ (mI 141 rfl))) (by decide +kernel) (t := (.object "org/portcullis/acl/Sid")) (t' := .int) (by decide +kernel) (by decide +kernel)))
  have k4 := Fma.other w2 (Or.inr (slot_ne (Or.inr (hw _ (mI 145 rfl))) (Or.inr (hw _ (mI 141 rfl))) (by decide +kernel) (t := .int) (t' := .int) (by decide +kernel) (by decide +kernel)))
  have k5 := Fga.other w2 (Or.inr (slot_ne (Or.inr (hw _ (mI 147 rfl))) (Or.inr (hw _ (mI 141 rfl))) (by decide +kernel) (t := .boolean) (t' := .int) (by decide +kernel) (by decide +kernel)))
  have k6 := Foa.same w2
  refine gof T2 m 25 #[vr oo, vi io, vr sn, vi im, vi 1] [(.ref sn), (.ref oo)] (fun _ kk => XS.aloadN W2.here hx rfl (hb hby d1006_23) rfl rfl (XS.aloadN W2.here hx rfl (hb hby d1006_24) rfl rfl kk)) ?_
  have k7 := (Eo.keep K2)
  refine W2.putF hx (host := "") (Or.inl (hw _ (mI 142 rfl))) Via.refl k3 k7 (Or.inr ⟨(hw _ (mI 143 rfl)), rfl, hnm⟩) (hw _ (mI 134 rfl)) (ty := (.object "org/portcullis/acl/Sid")) (by decide +kernel) rfl rfl go (Or.inl (mI 0 rfl)) (Or.inr ⟨by decide, by decide⟩) rfl rfl (hb hby d1006_25) (fun T8 h8 W8 w8 => ?_)
  have K8 := Keep.of_wr w8
  have k9 := k6.other w8 (Or.inr (slot_ne (Or.inr (hw _ (mI 141 rfl))) (Or.inr (hw _ (mI 143 rfl))) (by decide +kernel) (t := .int) (t' := (.object "org/portcullis/acl/Sid")) (by decide +kernel) (by decide +kernel)))
  have k10 := k4.other w8 (Or.inr (slot_ne (Or.inr (hw _ (mI 145 rfl))) (Or.inr (hw _ (mI 143 rfl))) (by decide +kernel) (t := .int) (t' := (.object "org/portcullis/acl/Sid")) (by decide +kernel) (by decide +kernel)))
  have k11 := k5.other w8 (Or.inr (slot_ne (Or.inr (hw _ (mI 147 rfl))) (Or.inr (hw _ (mI 143 rfl))) (by decide +kernel) (t := .boolean) (t' := (.object "org/portcullis/acl/Sid")) (by decide +kernel) (by decide +kernel)))
  have k12 := k3.same w8
  refine gof T8 m 30 #[vr oo, vi io, vr sn, vi im, vi 1] [(.int im), (.ref oo)] (fun _ kk => XS.aloadN W8.here hx rfl (hb hby d1006_28) rfl rfl (XS.iloadN W8.here hx rfl (hb hby d1006_29) rfl kk)) ?_
  have k13 := (k7.keep K8)
  refine W8.putF hx (host := "") (Or.inl (hw _ (mI 144 rfl))) Via.refl k10 k13 (Or.inr ⟨(hw _ (mI 145 rfl)), rfl, hnm⟩) (hw _ (mI 134 rfl)) (ty := .int) (by decide +kernel) rfl rfl go (Or.inl (mI 0 rfl)) (Or.inr ⟨by decide, by decide⟩) rfl rfl (hb hby d1006_30) (fun T14 h14 W14 w14 => ?_)
  have K14 := Keep.of_wr w14
  have k15 := k9.other w14 (Or.inr (slot_ne (Or.inr (hw _ (mI 141 rfl))) (Or.inr (hw _ (mI 145 rfl))) (by decide +kernel) (t := .int) (t' := .int) (by decide +kernel) (by decide +kernel)))
  have k16 := k12.other w14 (Or.inr (slot_ne (Or.inr (hw _ (mI 143 rfl))) (Or.inr (hw _ (mI 145 rfl))) (by decide +kernel) (t := (.object "org/portcullis/acl/Sid")) (t' := .int) (by decide +kernel) (by decide +kernel)))
  have k17 := k11.other w14 (Or.inr (slot_ne (Or.inr (hw _ (mI 147 rfl))) (Or.inr (hw _ (mI 145 rfl))) (by decide +kernel) (t := .boolean) (t' := .int) (by decide +kernel) (by decide +kernel)))
  have k18 := k10.same w14
  refine gof T14 m 36 #[vr oo, vi io, vr sn, vi im, vi 1] [(.int 1), (.ref oo)] (fun _ kk => XS.aloadN W14.here hx rfl (hb hby d1006_33) rfl rfl (XS.iload W14.here hx rfl (hb hby d1006_34) rfl kk)) ?_
  have k19 := (k13.keep K14)
  refine W14.putF hx (host := "") (Or.inl (hw _ (mI 146 rfl))) Via.refl k17 k19 (Or.inr ⟨(hw _ (mI 147 rfl)), rfl, hnm⟩) (hw _ (mI 134 rfl)) (ty := .boolean) (by decide +kernel) rfl rfl go (Or.inl (mI 0 rfl)) (Or.inr ⟨by decide, by decide⟩) rfl rfl (hb hby d1006_36) (fun T20 h20 W20 w20 => ?_)
  have K20 := Keep.of_wr w20
  have k21 := k15.other w20 (Or.inr (slot_ne (Or.inr (hw _ (mI 141 rfl))) (Or.inr (hw _ (mI 147 rfl))) (by decide +kernel) (t := .int) (t' := .boolean) (by decide +kernel) (by decide +kernel)))
  have k22 := k16.other w20 (Or.inr (slot_ne (Or.inr (hw _ (mI 143 rfl))) (Or.inr (hw _ (mI 147 rfl))) (by decide +kernel) (t := (.object "org/portcullis/acl/Sid")) (t' := .boolean) (by decide +kernel) (by decide +kernel)))
  have k23 := k18.other w20 (Or.inr (slot_ne (Or.inr (hw _ (mI 145 rfl))) (Or.inr (hw _ (mI 147 rfl))) (by decide +kernel) (t := .int) (t' := .boolean) (by decide +kernel) (by decide +kernel)))
  have k24 := k17.same w20
  show Go p e below _ (T20.setTop (mkF m 39 #[vr oo, vi io, vr sn, vi im, vi 1] []))
  exact W20.retV hx hEL hs hlk (by decide +kernel) (by decide +kernel) hret (hb hby d1006_39) (fun S hS => ⟨rfl, k24⟩)
theorem d1007_0 : decode prog_9_method_1_code 0 = .ok (.aload_n 0, 1) := by decide +kernel
theorem d1007_1 : decode prog_9_method_1_code 1 = .ok (.invokespecial 1, 3) := by decide +kernel
theorem d1007_4 : decode prog_9_method_1_code 4 = .ok (.aload_n 1, 1) := by decide +kernel
theorem d1007_5 : decode prog_9_method_1_code 5 = .ok (.ifnull 7, 3) := by decide +kernel
theorem d1007_8 : decode prog_9_method_1_code 8 = .ok (.aload_n 2, 1) := by decide +kernel
theorem d1007_9 : decode prog_9_method_1_code 9 = .ok (.ifnonnull 13, 3) := by decide +kernel
theorem d1007_22 : decode prog_9_method_1_code 22 = .ok (.aload_n 0, 1) := by decide +kernel
theorem d1007_23 : decode prog_9_method_1_code 23 = .ok (.aload_n 1, 1) := by decide +kernel
theorem d1007_24 : decode prog_9_method_1_code 24 = .ok (.putfield 14, 3) := by decide +kernel
theorem d1007_27 : decode prog_9_method_1_code 27 = .ok (.aload_n 0, 1) := by decide +kernel
theorem d1007_28 : decode prog_9_method_1_code 28 = .ok (.aload_n 2, 1) := by decide +kernel
theorem d1007_29 : decode prog_9_method_1_code 29 = .ok (.putfield 20, 3) := by decide +kernel
theorem d1007_32 : decode prog_9_method_1_code 32 = .ok (.return_, 1) := by decide +kernel
theorem ef14 (m : MethodId) (x0 : Addr) (x1 : Addr) (x2 : Addr)  : entryFrame m #[(.ref x0), (.ref x1), (.ref x2)] 3 = mkF m 0 #[vr x0, vr x1, vr x2] [] := by first | (simp [entryFrame, mkF, argsToLocals, Value.category]; done) | rfl | rfl
set_option maxRecDepth 65536 in
set_option maxHeartbeats 40000000 in
theorem rm14 (l : Launch) (Z : State) (a0 : Array Value) (hw : ∀ d ∈ tables_1, d.before a0 Z = true) (hEL : EW Z a0 EL0) (zc : Int32) (SC : Sta Z Z.heap "java/lang/String" "COMPACT_STRINGS" "Z" (.int zc)) (hzc : ¬ zc = 0) (fm : Value) (SF : Sta Z Z.heap "jdk/internal/util/Preconditions" "SIOOBE_FORMATTER" "Ljava/util/function/BiFunction;" fm) (rfm : fm.isRef = true) (oo : Addr) (sn : Addr) (sm : Addr) (h0 : Heap) {n0 : Nat} (O0 : Old Z n0 h0) (Eo : Exa Z h0 oo "org/portcullis/acl/ObjectIdentity") (Fta : Fld Z h0 oo "org/portcullis/acl/ObjectIdentity" "type" "Ljava/lang/String;" .null) (Fia : Fld Z h0 oo "org/portcullis/acl/ObjectIdentity" "id" "Ljava/lang/String;" .null) (go : n0 ≤ oo) :
    Met l Z EL0 n0 (⟨"org/portcullis/acl/ObjectIdentity", "<init>", "(Ljava/lang/String;Ljava/lang/String;)V"⟩ : MethodName) prog_9_method_1_code 3 none [] ({ frames := 2, cells := 0, slots := 0, locals := 24 } : Room) #[(.ref oo), (.ref sn), (.ref sm)] h0 [oo] [] (fun v h' S => v = none) := by
  refine Met.of (plainFor_of_name pn5) O0 ?_
  intro p e s m below meth c T0 hx hby hml hret hlk hnm hs W0
  have W0 : Wk p l e _ s m _ below meth c Z EL0 n0 [oo] "org/portcullis/acl/ObjectIdentity" [] T0 0 0 h0 := W0
  have hSA := fun d hd => hw d (sa_in d hd)
  have hws := fun d hd => hw d (ws_in d hd)
  refine Go.of (fun _ kk => castTop (ef14 m oo sn sm) kk) ?_
  refine gof T0 m 1 #[vr oo, vr sn, vr sm] [(.ref oo)] (fun _ kk => XS.aloadN W0.here hx rfl (hb hby d1007_0) rfl rfl kk) ?_
  refine W0.callP hx hEL rfl (hw _ (mI 157 rfl)) (hw _ (mI 37 rfl)) (hw _ (mI 39 rfl)) (hw _ (mI 40 rfl)) (by decide +kernel) (a := oo) (argsL := []) (rest := []) (rm10 l Z a0 hw hEL zc SC hzc fm SF rfm oo h0 W0.old ) all0 (by decide +kernel) (Wd := 0) (by decide +kernel) (by decide +kernel) (by decide +kernel) all0 rfl (by rw [hml]; rfl) (lenOf pd3 rfl) rfl (by show 2 * 0 + _ ≤ _; exact Nat.le_of_eq rfl) (hb hby d1007_1) (fun T1 h1 v1 P1 Ws1 K1 q1 => ?_)
  have W1 := Ws1 [] all0
  obtain ⟨rfl, rfl⟩ := q1
  refine gof T1 m 24 #[vr oo, vr sn, vr sm] [(.ref sn), (.ref oo)] (fun _ kk => XS.aloadN W1.here hx rfl (hb hby d1007_4) rfl rfl (XS.ifnullNo W1.here hx rfl (hb hby d1007_5) rfl (XS.aloadN W1.here hx rfl (hb hby d1007_8) rfl rfl (XS.ifnonnullYes W1.here hx rfl (pc0 := 9) (pc' := 22) rfl (hb hby d1007_9) rfl (by decide +kernel) (by decide +kernel) (XS.aloadN W1.here hx rfl (hb hby d1007_22) rfl rfl (XS.aloadN W1.here hx rfl (hb hby d1007_23) rfl rfl kk)))))) ?_
  refine W1.putF hx (host := "") (Or.inl (hw _ (mI 158 rfl))) Via.refl Fta Eo (Or.inr ⟨(hw _ (mI 159 rfl)), rfl, hnm⟩) (hw _ (mI 149 rfl)) (ty := (.object "java/lang/String")) (by decide +kernel) rfl rfl go (Or.inl (mI 0 rfl)) (Or.inr ⟨by decide, by decide⟩) rfl rfl (hb hby d1007_24) (fun T2 h2 W2 w2 => ?_)
  have K2 := Keep.of_wr w2
  have k3 := Fia.other w2 (Or.inr (slot_ne (Or.inr (hw _ (mI 161 rfl))) (Or.inr (hw _ (mI 159 rfl))) (by decide +kernel) (t := (.object "java/lang/String")) (t' := (.object "java/lang/String")) (by decide +kernel) (by decide +kernel)))
  have k4 := Fta.same w2
  refine gof T2 m 29 #[vr oo, vr sn, vr sm] [(.ref sm), (.ref oo)] (fun _ kk => XS.aloadN W2.here hx rfl (hb hby d1007_27) rfl rfl (XS.aloadN W2.here hx rfl (hb hby d1007_28) rfl rfl kk)) ?_
  have k5 := (Eo.keep K2)
  refine W2.putF hx (host := "") (Or.inl (hw _ (mI 160 rfl))) Via.refl k3 k5 (Or.inr ⟨(hw _ (mI 161 rfl)), rfl, hnm⟩) (hw _ (mI 149 rfl)) (ty := (.object "java/lang/String")) (by decide +kernel) rfl rfl go (Or.inl (mI 0 rfl)) (Or.inr ⟨by decide, by decide⟩) rfl rfl (hb hby d1007_29) (fun T6 h6 W6 w6 => ?_)
  have K6 := Keep.of_wr w6
  have k7 := k4.other w6 (Or.inr (slot_ne (Or.inr (hw _ (mI 159 rfl))) (Or.inr (hw _ (mI 161 rfl))) (by decide +kernel) (t := (.object "java/lang/String")) (t' := (.object "java/lang/String")) (by decide +kernel) (by decide +kernel)))
  have k8 := k3.same w6
  show Go p e below _ (T6.setTop (mkF m 32 #[vr oo, vr sn, vr sm] []))
  exact W6.retV hx hEL hs hlk (by decide +kernel) (by decide +kernel) hret (hb hby d1007_32) (fun S hS => rfl)
theorem d1008_0 : decode jdk_22_method_1_code 0 = .ok (.aload_n 0, 1) := by decide +kernel
theorem d1008_1 : decode jdk_22_method_1_code 1 = .ok (.invokespecial 1, 3) := by decide +kernel
theorem d1008_4 : decode jdk_22_method_1_code 4 = .ok (.return_, 1) := by decide +kernel
theorem ef15 (m : MethodId) (x0 : Addr)  : entryFrame m #[(.ref x0)] 1 = mkF m 0 #[vr x0] [] := by first | (simp [entryFrame, mkF, argsToLocals, Value.category]; done) | rfl | rfl
set_option maxRecDepth 65536 in
set_option maxHeartbeats 40000000 in
theorem rm15 (l : Launch) (Z : State) (a0 : Array Value) (hw : ∀ d ∈ tables_1, d.before a0 Z = true) (hEL : EW Z a0 EL0) (zc : Int32) (SC : Sta Z Z.heap "java/lang/String" "COMPACT_STRINGS" "Z" (.int zc)) (hzc : ¬ zc = 0) (fm : Value) (SF : Sta Z Z.heap "jdk/internal/util/Preconditions" "SIOOBE_FORMATTER" "Ljava/util/function/BiFunction;" fm) (rfm : fm.isRef = true) (oo : Addr) (h0 : Heap) {n0 : Nat} (O0 : Old Z n0 h0)  :
    Met l Z EL0 n0 (⟨"java/util/AbstractCollection", "<init>", "()V"⟩ : MethodName) jdk_22_method_1_code 1 none [] ({ frames := 1, cells := 0, slots := 0, locals := 12 } : Room) #[(.ref oo)] h0 [] [] (fun v h' S => v = none ∧ h0 = h') := by
  refine Met.of (plainFor_of_name pn6) O0 ?_
  intro p e s m below meth c T0 hx hby hml hret hlk hnm hs W0
  have W0 : Wk p l e _ s m _ below meth c Z EL0 n0 [] "java/util/AbstractCollection" [] T0 0 0 h0 := W0
  have hSA := fun d hd => hw d (sa_in d hd)
  have hws := fun d hd => hw d (ws_in d hd)
  refine Go.of (fun _ kk => castTop (ef15 m oo) kk) ?_
  refine gof T0 m 1 #[vr oo] [(.ref oo)] (fun _ kk => XS.aloadN W0.here hx rfl (hb hby d1008_0) rfl rfl kk) ?_
  refine W0.initO hx (hw _ (mI 78 rfl)) (hw _ (mI 15 rfl)) (hw _ (mI 16 rfl)) rfl (by rw [hml]; rfl) rfl (hb hby d1008_1) (by decide +kernel) (Wd := 0) (by show 2 * 0 + _ ≤ _; exact Nat.le_of_eq rfl) (by decide +kernel) (fun T1 W1 => ?_)
  show Go p e below _ (T1.setTop (mkF m 4 #[vr oo] []))
  exact W1.retV hx hEL hs hlk (by decide +kernel) (by decide +kernel) hret (hb hby d1008_4) (fun S hS => ⟨rfl, rfl⟩)
theorem d1009_0 : decode jdk_47_method_1_code 0 = .ok (.aload_n 0, 1) := by decide +kernel
theorem d1009_1 : decode jdk_47_method_1_code 1 = .ok (.invokespecial 1, 3) := by decide +kernel
theorem d1009_4 : decode jdk_47_method_1_code 4 = .ok (.return_, 1) := by decide +kernel
theorem ef16 (m : MethodId) (x0 : Addr)  : entryFrame m #[(.ref x0)] 1 = mkF m 0 #[vr x0] [] := by first | (simp [entryFrame, mkF, argsToLocals, Value.category]; done) | rfl | rfl
set_option maxRecDepth 65536 in
set_option maxHeartbeats 40000000 in
theorem rm16 (l : Launch) (Z : State) (a0 : Array Value) (hw : ∀ d ∈ tables_1, d.before a0 Z = true) (hEL : EW Z a0 EL0) (zc : Int32) (SC : Sta Z Z.heap "java/lang/String" "COMPACT_STRINGS" "Z" (.int zc)) (hzc : ¬ zc = 0) (fm : Value) (SF : Sta Z Z.heap "jdk/internal/util/Preconditions" "SIOOBE_FORMATTER" "Ljava/util/function/BiFunction;" fm) (rfm : fm.isRef = true) (oo : Addr) (h0 : Heap) {n0 : Nat} (O0 : Old Z n0 h0)  :
    Met l Z EL0 n0 (⟨"java/util/ImmutableCollections$AbstractImmutableCollection", "<init>", "()V"⟩ : MethodName) jdk_47_method_1_code 1 none [] ({ frames := 2, cells := 0, slots := 0, locals := 24 } : Room) #[(.ref oo)] h0 [] [] (fun v h' S => v = none ∧ h0 = h') := by
  refine Met.of (plainFor_of_name pn7) O0 ?_
  intro p e s m below meth c T0 hx hby hml hret hlk hnm hs W0
  have W0 : Wk p l e _ s m _ below meth c Z EL0 n0 [] "java/util/ImmutableCollections$AbstractImmutableCollection" [] T0 0 0 h0 := W0
  have hSA := fun d hd => hw d (sa_in d hd)
  have hws := fun d hd => hw d (ws_in d hd)
  refine Go.of (fun _ kk => castTop (ef16 m oo) kk) ?_
  refine gof T0 m 1 #[vr oo] [(.ref oo)] (fun _ kk => XS.aloadN W0.here hx rfl (hb hby d1009_0) rfl rfl kk) ?_
  refine W0.callP hx hEL rfl (hw _ (mI 243 rfl)) (hw _ (mI 73 rfl)) (hw _ (mI 76 rfl)) (hw _ (mI 77 rfl)) (by decide +kernel) (a := oo) (argsL := []) (rest := []) (rm15 l Z a0 hw hEL zc SC hzc fm SF rfm oo h0 W0.old ) all0 (by decide +kernel) (Wd := 0) (by decide +kernel) (by decide +kernel) (by decide +kernel) all0 rfl (by rw [hml]; rfl) (lenOf pd3 rfl) rfl (by show 2 * 0 + _ ≤ _; exact Nat.le_of_eq rfl) (hb hby d1009_1) (fun T1 h1 v1 P1 Ws1 K1 q1 => ?_)
  have W1 := Ws1 [] all0
  obtain ⟨rfl, rfl⟩ := q1
  show Go p e below _ (T1.setTop (mkF m 4 #[vr oo] []))
  exact W1.retV hx hEL hs hlk (by decide +kernel) (by decide +kernel) hret (hb hby d1009_4) (fun S hS => ⟨rfl, rfl⟩)
theorem d1010_0 : decode jdk_46_method_1_code 0 = .ok (.aload_n 0, 1) := by decide +kernel
theorem d1010_1 : decode jdk_46_method_1_code 1 = .ok (.invokespecial 1, 3) := by decide +kernel
theorem d1010_4 : decode jdk_46_method_1_code 4 = .ok (.return_, 1) := by decide +kernel
theorem ef17 (m : MethodId) (x0 : Addr)  : entryFrame m #[(.ref x0)] 1 = mkF m 0 #[vr x0] [] := by first | (simp [entryFrame, mkF, argsToLocals, Value.category]; done) | rfl | rfl
set_option maxRecDepth 65536 in
set_option maxHeartbeats 40000000 in
theorem rm17 (l : Launch) (Z : State) (a0 : Array Value) (hw : ∀ d ∈ tables_1, d.before a0 Z = true) (hEL : EW Z a0 EL0) (zc : Int32) (SC : Sta Z Z.heap "java/lang/String" "COMPACT_STRINGS" "Z" (.int zc)) (hzc : ¬ zc = 0) (fm : Value) (SF : Sta Z Z.heap "jdk/internal/util/Preconditions" "SIOOBE_FORMATTER" "Ljava/util/function/BiFunction;" fm) (rfm : fm.isRef = true) (oo : Addr) (h0 : Heap) {n0 : Nat} (O0 : Old Z n0 h0)  :
    Met l Z EL0 n0 (⟨"java/util/ImmutableCollections$AbstractImmutableList", "<init>", "()V"⟩ : MethodName) jdk_46_method_1_code 1 none [] ({ frames := 3, cells := 0, slots := 0, locals := 36 } : Room) #[(.ref oo)] h0 [] [] (fun v h' S => v = none ∧ h0 = h') := by
  refine Met.of (plainFor_of_name pn8) O0 ?_
  intro p e s m below meth c T0 hx hby hml hret hlk hnm hs W0
  have W0 : Wk p l e _ s m _ below meth c Z EL0 n0 [] "java/util/ImmutableCollections$AbstractImmutableList" [] T0 0 0 h0 := W0
  have hSA := fun d hd => hw d (sa_in d hd)
  have hws := fun d hd => hw d (ws_in d hd)
  refine Go.of (fun _ kk => castTop (ef17 m oo) kk) ?_
  refine gof T0 m 1 #[vr oo] [(.ref oo)] (fun _ kk => XS.aloadN W0.here hx rfl (hb hby d1010_0) rfl rfl kk) ?_
  refine W0.callP hx hEL rfl (hw _ (mI 237 rfl)) (hw _ (mI 238 rfl)) (hw _ (mI 241 rfl)) (hw _ (mI 242 rfl)) (by decide +kernel) (a := oo) (argsL := []) (rest := []) (rm16 l Z a0 hw hEL zc SC hzc fm SF rfm oo h0 W0.old ) all0 (by decide +kernel) (Wd := 0) (by decide +kernel) (by decide +kernel) (by decide +kernel) all0 rfl (by rw [hml]; rfl) (lenOf pd3 rfl) rfl (by show 2 * 0 + _ ≤ _; exact Nat.le_of_eq rfl) (hb hby d1010_1) (fun T1 h1 v1 P1 Ws1 K1 q1 => ?_)
  have W1 := Ws1 [] all0
  obtain ⟨rfl, rfl⟩ := q1
  show Go p e below _ (T1.setTop (mkF m 4 #[vr oo] []))
  exact W1.retV hx hEL hs hlk (by decide +kernel) (by decide +kernel) hret (hb hby d1010_4) (fun S hS => ⟨rfl, rfl⟩)
theorem d1011_0 : decode jdk_39_method_1_code 0 = .ok (.aload_n 0, 1) := by decide +kernel
theorem d1011_1 : decode jdk_39_method_1_code 1 = .ok (.invokespecial 1, 3) := by decide +kernel
theorem d1011_4 : decode jdk_39_method_1_code 4 = .ok (.aload_n 0, 1) := by decide +kernel
theorem d1011_5 : decode jdk_39_method_1_code 5 = .ok (.iconst 0, 1) := by decide +kernel
theorem d1011_6 : decode jdk_39_method_1_code 6 = .ok (.putfield 7, 3) := by decide +kernel
theorem d1011_9 : decode jdk_39_method_1_code 9 = .ok (.return_, 1) := by decide +kernel
theorem ef18 (m : MethodId) (x0 : Addr)  : entryFrame m #[(.ref x0)] 1 = mkF m 0 #[vr x0] [] := by first | (simp [entryFrame, mkF, argsToLocals, Value.category]; done) | rfl | rfl
set_option maxRecDepth 65536 in
set_option maxHeartbeats 40000000 in
theorem rm18 (l : Launch) (Z : State) (a0 : Array Value) (hw : ∀ d ∈ tables_1, d.before a0 Z = true) (hEL : EW Z a0 EL0) (zc : Int32) (SC : Sta Z Z.heap "java/lang/String" "COMPACT_STRINGS" "Z" (.int zc)) (hzc : ¬ zc = 0) (fm : Value) (SF : Sta Z Z.heap "jdk/internal/util/Preconditions" "SIOOBE_FORMATTER" "Ljava/util/function/BiFunction;" fm) (rfm : fm.isRef = true) (al : Addr) (h0 : Heap) {n0 : Nat} (O0 : Old Z n0 h0) (Eal : Exa Z h0 al "java/util/ArrayList") (Fma : Fld Z h0 al "java/util/AbstractList" "modCount" "I" (.int (0 : Int32))) (Fea : Fld Z h0 al "java/util/ArrayList" "elementData" "[Ljava/lang/Object;" .null) (Fsa : Fld Z h0 al "java/util/ArrayList" "size" "I" (.int (0 : Int32))) (gal : n0 ≤ al) :
    Met l Z EL0 n0 (⟨"java/util/AbstractList", "<init>", "()V"⟩ : MethodName) jdk_39_method_1_code 1 none [] ({ frames := 2, cells := 0, slots := 0, locals := 24 } : Room) #[(.ref al)] h0 [al] [] (fun v h' S => v = none ∧ Fld Z h' al "java/util/ArrayList" "elementData" "[Ljava/lang/Object;" .null ∧ Fld Z h' al "java/util/ArrayList" "size" "I" (.int (0 : Int32)) ∧ Fld Z h' al "java/util/AbstractList" "modCount" "I" (.int (0 : Int32))) := by
  refine Met.of (plainFor_of_name pn9) O0 ?_
  intro p e s m below meth c T0 hx hby hml hret hlk hnm hs W0
  have W0 : Wk p l e _ s m _ below meth c Z EL0 n0 [al] "java/util/AbstractList" [] T0 0 0 h0 := W0
  have hSA := fun d hd => hw d (sa_in d hd)
  have hws := fun d hd => hw d (ws_in d hd)
  refine Go.of (fun _ kk => castTop (ef18 m al) kk) ?_
  refine gof T0 m 1 #[vr al] [(.ref al)] (fun _ kk => XS.aloadN W0.here hx rfl (hb hby d1011_0) rfl rfl kk) ?_
  refine W0.callP hx hEL rfl (hw _ (mI 72 rfl)) (hw _ (mI 73 rfl)) (hw _ (mI 76 rfl)) (hw _ (mI 77 rfl)) (by decide +kernel) (a := al) (argsL := []) (rest := []) (rm15 l Z a0 hw hEL zc SC hzc fm SF rfm al h0 W0.old ) all0 (by decide +kernel) (Wd := 0) (by decide +kernel) (by decide +kernel) (by decide +kernel) all0 rfl (by rw [hml]; rfl) (lenOf pd3 rfl) rfl (by show 2 * 0 + _ ≤ _; exact Nat.le_of_eq rfl) (hb hby d1011_1) (fun T1 h1 v1 P1 Ws1 K1 q1 => ?_)
  have W1 := Ws1 [] all0
  obtain ⟨rfl, rfl⟩ := q1
  refine gof T1 m 6 #[vr al] [(.int 0), (.ref al)] (fun _ kk => XS.aloadN W1.here hx rfl (hb hby d1011_4) rfl rfl (XS.iconst W1.here hx rfl (hb hby d1011_5) kk)) ?_
  refine W1.putF hx (host := "") (Or.inl (hw _ (mI 79 rfl))) Via.refl Fma Eal (Or.inl (hw _ (mI 80 rfl))) (hw _ (mI 61 rfl)) (ty := .int) (by decide +kernel) rfl rfl gal (Or.inl (mI 0 rfl)) (Or.inr ⟨by decide, by decide⟩) rfl rfl (hb hby d1011_6) (fun T2 h2 W2 w2 => ?_)
  have K2 := Keep.of_wr w2
  have k3 := Fea.other w2 (Or.inr (slot_ne (Or.inl (hw _ (mI 83 rfl))) (Or.inl (hw _ (mI 80 rfl))) (by decide +kernel) (t := (.array (.object "java/lang/Object"))) (t' := .int) (by decide +kernel) (by decide +kernel)))
  have k4 := Fsa.other w2 (Or.inr (slot_ne (Or.inl (hw _ (mI 115 rfl))) (Or.inl (hw _ (mI 80 rfl))) (by decide +kernel) (t := .int) (t' := .int) (by decide +kernel) (by decide +kernel)))
  have k5 := Fma.same w2
  show Go p e below _ (T2.setTop (mkF m 9 #[vr al] []))
  exact W2.retV hx hEL hs hlk (by decide +kernel) (by decide +kernel) hret (hb hby d1011_9) (fun S hS => ⟨rfl, k3, k4, k5⟩)
theorem d1012_0 : decode jdk_38_method_2_code 0 = .ok (.aload_n 0, 1) := by decide +kernel
theorem d1012_1 : decode jdk_38_method_2_code 1 = .ok (.invokespecial 1, 3) := by decide +kernel
theorem d1012_4 : decode jdk_38_method_2_code 4 = .ok (.aload_n 0, 1) := by decide +kernel
theorem d1012_5 : decode jdk_38_method_2_code 5 = .ok (.getstatic 39, 3) := by decide +kernel
theorem d1012_8 : decode jdk_38_method_2_code 8 = .ok (.putfield 9, 3) := by decide +kernel
theorem d1012_11 : decode jdk_38_method_2_code 11 = .ok (.return_, 1) := by decide +kernel
theorem ef19 (m : MethodId) (x0 : Addr)  : entryFrame m #[(.ref x0)] 1 = mkF m 0 #[vr x0] [] := by first | (simp [entryFrame, mkF, argsToLocals, Value.category]; done) | rfl | rfl
set_option maxRecDepth 65536 in
set_option maxHeartbeats 40000000 in
theorem rm19 (l : Launch) (Z : State) (a0 : Array Value) (hw : ∀ d ∈ tables_1, d.before a0 Z = true) (hEL : EW Z a0 EL0) (zc : Int32) (SC : Sta Z Z.heap "java/lang/String" "COMPACT_STRINGS" "Z" (.int zc)) (hzc : ¬ zc = 0) (fm : Value) (SF : Sta Z Z.heap "jdk/internal/util/Preconditions" "SIOOBE_FORMATTER" "Ljava/util/function/BiFunction;" fm) (rfm : fm.isRef = true) (al : Addr) (dfl : Addr) (el : Addr) (em : Addr) (mir : Addr) (gr : Addr) (de : Addr) (kdf : ClassId) (h0 : Heap) {n0 : Nat} (O0 : Old Z n0 h0) (OD : Arv Z Z.heap dfl kdf (.object "java/lang/Object") (0 : Int32) [] .null) (OS : Sta Z Z.heap "java/util/ArrayList" "DEFAULTCAPACITY_EMPTY_ELEMENTDATA" "[Ljava/lang/Object;" (.ref dfl)) (OL : Sta Z Z.heap "java/util/ImmutableCollections" "EMPTY_LIST" "Ljava/util/ImmutableCollections$ListN;" (.ref el)) (OM : Sta Z Z.heap "java/util/ImmutableCollections" "EMPTY" "Ljava/lang/Object;" (.ref em)) (OI : (Term.mirror "[Ljava/lang/Object;").eval a0 Z none [] Z = some (.ref mir)) (OG : Sta Z Z.heap "org/portcullis/acl/Decision" "GRANTED" "Lorg/portcullis/acl/Decision;" (.ref gr)) (OE : Sta Z Z.heap "org/portcullis/acl/Decision" "DENIED" "Lorg/portcullis/acl/Decision;" (.ref de)) (Eal : Exa Z h0 al "java/util/ArrayList") (Fma : Fld Z h0 al "java/util/AbstractList" "modCount" "I" (.int (0 : Int32))) (Fea : Fld Z h0 al "java/util/ArrayList" "elementData" "[Ljava/lang/Object;" .null) (Fsa : Fld Z h0 al "java/util/ArrayList" "size" "I" (.int (0 : Int32))) (gal : n0 ≤ al) :
    Met l Z EL0 n0 (⟨"java/util/ArrayList", "<init>", "()V"⟩ : MethodName) jdk_38_method_2_code 1 none [] ({ frames := 3, cells := 0, slots := 0, locals := 36 } : Room) #[(.ref al)] h0 [al] [] (fun v h' S => v = none ∧ Fld Z h' al "java/util/ArrayList" "elementData" "[Ljava/lang/Object;" (.ref dfl) ∧ Fld Z h' al "java/util/ArrayList" "size" "I" (.int (0 : Int32)) ∧ Fld Z h' al "java/util/AbstractList" "modCount" "I" (.int (0 : Int32))) := by
  refine Met.of (plainFor_of_name pn10) O0 ?_
  intro p e s m below meth c T0 hx hby hml hret hlk hnm hs W0
  have W0 : Wk p l e _ s m _ below meth c Z EL0 n0 [al] "java/util/ArrayList" [] T0 0 0 h0 := W0
  have hSA := fun d hd => hw d (sa_in d hd)
  have hws := fun d hd => hw d (ws_in d hd)
  refine Go.of (fun _ kk => castTop (ef19 m al) kk) ?_
  refine gof T0 m 1 #[vr al] [(.ref al)] (fun _ kk => XS.aloadN W0.here hx rfl (hb hby d1012_0) rfl rfl kk) ?_
  refine W0.callP hx hEL rfl (hw _ (mI 66 rfl)) (hw _ (mI 67 rfl)) (hw _ (mI 70 rfl)) (hw _ (mI 71 rfl)) (by decide +kernel) (a := al) (argsL := []) (rest := []) (rm18 l Z a0 hw hEL zc SC hzc fm SF rfm al h0 W0.old Eal Fma Fea Fsa gal) all0 (by decide +kernel) (Wd := 0) (by decide +kernel) (by decide +kernel) (by decide +kernel) (allS ⟨gal, (Or.inl (mI 0 rfl))⟩ all0) rfl (by rw [hml]; rfl) (lenOf pd3 rfl) rfl (by show 2 * 0 + _ ≤ _; exact Nat.le_of_eq rfl) (hb hby d1012_1) (fun T1 h1 v1 P1 Ws1 K1 q1 => ?_)
  have W1 := Ws1 [] all0
  obtain ⟨rfl, Fe1, Fs1, Fm1⟩ := q1
  refine gof T1 m 5 #[vr al] [(.ref al)] (fun _ kk => XS.aloadN W1.here hx rfl (hb hby d1012_4) rfl rfl kk) ?_
  refine W1.getS hx (host := "") (Or.inl (hw _ (mI 81 rfl))) Via.refl OS rfl (hb hby d1012_5) (fun T2 W2 => ?_)
  show Go p e below _ (T2.setTop (mkF m 8 #[vr al] [(.ref dfl), (.ref al)]))
  have k3 := (Eal.keep K1)
  refine W2.putF hx (host := "") (Or.inl (hw _ (mI 82 rfl))) Via.refl Fe1 k3 (Or.inl (hw _ (mI 83 rfl))) (hw _ (mI 61 rfl)) (ty := (.array (.object "java/lang/Object"))) (by decide +kernel) rfl rfl gal (Or.inl (mI 0 rfl)) (Or.inr ⟨by decide, by decide⟩) rfl rfl (hb hby d1012_8) (fun T4 h4 W4 w4 => ?_)
  have K4 := Keep.of_wr w4
  have k5 := Fs1.other w4 (Or.inr (slot_ne (Or.inl (hw _ (mI 115 rfl))) (Or.inl (hw _ (mI 83 rfl))) (by decide +kernel) (t := .int) (t' := (.array (.object "java/lang/Object"))) (by decide +kernel) (by decide +kernel)))
  have k6 := Fm1.other w4 (Or.inr (slot_ne (Or.inl (hw _ (mI 80 rfl))) (Or.inl (hw _ (mI 83 rfl))) (by decide +kernel) (t := .int) (t' := (.array (.object "java/lang/Object"))) (by decide +kernel) (by decide +kernel)))
  have k7 := Fe1.same w4
  show Go p e below _ (T4.setTop (mkF m 11 #[vr al] []))
  exact W4.retV hx hEL hs hlk (by decide +kernel) (by decide +kernel) hret (hb hby d1012_11) (fun S hS => ⟨rfl, k7, k5, k6⟩)
theorem d1013_0 : decode jdk_29_method_65_code 0 = .ok (.iload_n 0, 1) := by decide +kernel
theorem d1013_1 : decode jdk_29_method_65_code 1 = .ok (.iload_n 1, 1) := by decide +kernel
theorem d1013_2 : decode jdk_29_method_65_code 2 = .ok (.if_icmp .lt 7, 3) := by decide +kernel
theorem d1013_5 : decode jdk_29_method_65_code 5 = .ok (.iload_n 0, 1) := by decide +kernel
theorem d1013_6 : decode jdk_29_method_65_code 6 = .ok (.goto 4, 3) := by decide +kernel
theorem d1013_10 : decode jdk_29_method_65_code 10 = .ok (.ireturn, 1) := by decide +kernel
theorem ef30 (m : MethodId) (x0 : Int32) (x1 : Int32)  : entryFrame m #[(.int x0), (.int x1)] 2 = mkF m 0 #[vi x0, vi x1] [] := by first | (simp [entryFrame, mkF, argsToLocals, Value.category]; done) | rfl | rfl
set_option maxRecDepth 65536 in
set_option maxHeartbeats 40000000 in
theorem rm30 (l : Launch) (Z : State) (a0 : Array Value) (hw : ∀ d ∈ tables_1, d.before a0 Z = true) (hEL : EW Z a0 EL0) (zc : Int32) (SC : Sta Z Z.heap "java/lang/String" "COMPACT_STRINGS" "Z" (.int zc)) (hzc : ¬ zc = 0) (fm : Value) (SF : Sta Z Z.heap "jdk/internal/util/Preconditions" "SIOOBE_FORMATTER" "Ljava/util/function/BiFunction;" fm) (rfm : fm.isRef = true)  (h0 : Heap) {n0 : Nat} (O0 : Old Z n0 h0)  :
    Met l Z EL0 n0 (⟨"java/lang/Math", "max", "(II)I"⟩ : MethodName) jdk_29_method_65_code 2 (some .int) [] ({ frames := 0, cells := 0, slots := 0, locals := 0 } : Room) #[(.int (10 : Int32)), (.int (1 : Int32))] h0 [] [] (fun v h' S => v = some (.int (10 : Int32)) ∧ h0 = h') := by
  refine Met.of (Jvm.Free.JP.mathPlain rfl (by decide +kernel)) O0 ?_
  intro p e s m below meth c T0 hx hby hml hret hlk hnm hs W0
  have W0 : Wk p l e _ s m _ below meth c Z EL0 n0 [] "java/lang/Math" [] T0 0 0 h0 := W0
  have hSA := fun d hd => hw d (sa_in d hd)
  have hws := fun d hd => hw d (ws_in d hd)
  refine Go.of (fun _ kk => castTop (ef30 m (10 : Int32) (1 : Int32)) kk) ?_
  refine gof T0 m 10 #[vi 10, vi 1] [(.int 10)] (fun _ kk => XS.iloadN W0.here hx rfl (hb hby d1013_0) rfl (XS.iloadN W0.here hx rfl (hb hby d1013_1) rfl (XS.icmpNo W0.here hx rfl (hb hby d1013_2) rfl (XT.ii_lt_f (by decide +kernel)) (XS.iloadN W0.here hx rfl (hb hby d1013_5) rfl (XS.goto W0.here hx rfl (pc0 := 6) (pc' := 10) rfl (hb hby d1013_6) (by decide +kernel) (by decide +kernel) kk))))) ?_
  exact W0.retI hx hEL hs hlk (by decide +kernel) (by decide +kernel) hret (by simp) rfl (hb hby d1013_10) (fun S hS => ⟨rfl, rfl⟩)
theorem d1014_0 : decode jdk_29_method_69_code 0 = .ok (.iload_n 0, 1) := by decide +kernel
theorem d1014_1 : decode jdk_29_method_69_code 1 = .ok (.iload_n 1, 1) := by decide +kernel
theorem d1014_2 : decode jdk_29_method_69_code 2 = .ok (.if_icmp .gt 7, 3) := by decide +kernel
theorem d1014_9 : decode jdk_29_method_69_code 9 = .ok (.iload_n 1, 1) := by decide +kernel
theorem d1014_10 : decode jdk_29_method_69_code 10 = .ok (.ireturn, 1) := by decide +kernel
theorem ef31 (m : MethodId) (x0 : Int32) (x1 : Int32)  : entryFrame m #[(.int x0), (.int x1)] 2 = mkF m 0 #[vi x0, vi x1] [] := by first | (simp [entryFrame, mkF, argsToLocals, Value.category]; done) | rfl | rfl
set_option maxRecDepth 65536 in
set_option maxHeartbeats 40000000 in
theorem rm31 (l : Launch) (Z : State) (a0 : Array Value) (hw : ∀ d ∈ tables_1, d.before a0 Z = true) (hEL : EW Z a0 EL0) (zc : Int32) (SC : Sta Z Z.heap "java/lang/String" "COMPACT_STRINGS" "Z" (.int zc)) (hzc : ¬ zc = 0) (fm : Value) (SF : Sta Z Z.heap "jdk/internal/util/Preconditions" "SIOOBE_FORMATTER" "Ljava/util/function/BiFunction;" fm) (rfm : fm.isRef = true)  (h0 : Heap) {n0 : Nat} (O0 : Old Z n0 h0)  :
    Met l Z EL0 n0 (⟨"java/lang/Math", "min", "(II)I"⟩ : MethodName) jdk_29_method_69_code 2 (some .int) [] ({ frames := 0, cells := 0, slots := 0, locals := 0 } : Room) #[(.int (10 : Int32)), (.int (1 : Int32))] h0 [] [] (fun v h' S => v = some (.int (1 : Int32)) ∧ h0 = h') := by
  refine Met.of (Jvm.Free.JP.mathPlain rfl (by decide +kernel)) O0 ?_
  intro p e s m below meth c T0 hx hby hml hret hlk hnm hs W0
  have W0 : Wk p l e _ s m _ below meth c Z EL0 n0 [] "java/lang/Math" [] T0 0 0 h0 := W0
  have hSA := fun d hd => hw d (sa_in d hd)
  have hws := fun d hd => hw d (ws_in d hd)
  refine Go.of (fun _ kk => castTop (ef31 m (10 : Int32) (1 : Int32)) kk) ?_
  refine gof T0 m 10 #[vi 10, vi 1] [(.int 1)] (fun _ kk => XS.iloadN W0.here hx rfl (hb hby d1014_0) rfl (XS.iloadN W0.here hx rfl (hb hby d1014_1) rfl (XS.icmpYes W0.here hx rfl (pc0 := 2) (pc' := 9) rfl (hb hby d1014_2) rfl (XT.ii_gt_t (by decide +kernel)) (by decide +kernel) (by decide +kernel) (XS.iloadN W0.here hx rfl (hb hby d1014_9) rfl kk)))) ?_
  exact W0.retI hx hEL hs hlk (by decide +kernel) (by decide +kernel) hret (by simp) rfl (hb hby d1014_10) (fun S hS => ⟨rfl, rfl⟩)
theorem ef32 (m : MethodId) (x0 : Int32) (x1 : Int32)  : entryFrame m #[(.int x0), (.int x1)] 2 = mkF m 0 #[vi x0, vi x1] [] := by first | (simp [entryFrame, mkF, argsToLocals, Value.category]; done) | rfl | rfl
set_option maxRecDepth 65536 in
set_option maxHeartbeats 40000000 in
theorem rm32 (l : Launch) (Z : State) (a0 : Array Value) (hw : ∀ d ∈ tables_1, d.before a0 Z = true) (hEL : EW Z a0 EL0) (zc : Int32) (SC : Sta Z Z.heap "java/lang/String" "COMPACT_STRINGS" "Z" (.int zc)) (hzc : ¬ zc = 0) (fm : Value) (SF : Sta Z Z.heap "jdk/internal/util/Preconditions" "SIOOBE_FORMATTER" "Ljava/util/function/BiFunction;" fm) (rfm : fm.isRef = true)  (h0 : Heap) {n0 : Nat} (O0 : Old Z n0 h0)  :
    Met l Z EL0 n0 (⟨"java/lang/Math", "min", "(II)I"⟩ : MethodName) jdk_29_method_69_code 2 (some .int) [] ({ frames := 0, cells := 0, slots := 0, locals := 0 } : Room) #[(.int (10 : Int32)), (.int (2 : Int32))] h0 [] [] (fun v h' S => v = some (.int (2 : Int32)) ∧ h0 = h') := by
  refine Met.of (Jvm.Free.JP.mathPlain rfl (by decide +kernel)) O0 ?_
  intro p e s m below meth c T0 hx hby hml hret hlk hnm hs W0
  have W0 : Wk p l e _ s m _ below meth c Z EL0 n0 [] "java/lang/Math" [] T0 0 0 h0 := W0
  have hSA := fun d hd => hw d (sa_in d hd)
  have hws := fun d hd => hw d (ws_in d hd)
  refine Go.of (fun _ kk => castTop (ef32 m (10 : Int32) (2 : Int32)) kk) ?_
  refine gof T0 m 10 #[vi 10, vi 2] [(.int 2)] (fun _ kk => XS.iloadN W0.here hx rfl (hb hby d1014_0) rfl (XS.iloadN W0.here hx rfl (hb hby d1014_1) rfl (XS.icmpYes W0.here hx rfl (pc0 := 2) (pc' := 9) rfl (hb hby d1014_2) rfl (XT.ii_gt_t (by decide +kernel)) (by decide +kernel) (by decide +kernel) (XS.iloadN W0.here hx rfl (hb hby d1014_9) rfl kk)))) ?_
  exact W0.retI hx hEL hs hlk (by decide +kernel) (by decide +kernel) hret (by simp) rfl (hb hby d1014_10) (fun S hS => ⟨rfl, rfl⟩)
theorem ef33 (m : MethodId) (x0 : Int32) (x1 : Int32)  : entryFrame m #[(.int x0), (.int x1)] 2 = mkF m 0 #[vi x0, vi x1] [] := by first | (simp [entryFrame, mkF, argsToLocals, Value.category]; done) | rfl | rfl
set_option maxRecDepth 65536 in
set_option maxHeartbeats 40000000 in
theorem rm33 (l : Launch) (Z : State) (a0 : Array Value) (hw : ∀ d ∈ tables_1, d.before a0 Z = true) (hEL : EW Z a0 EL0) (zc : Int32) (SC : Sta Z Z.heap "java/lang/String" "COMPACT_STRINGS" "Z" (.int zc)) (hzc : ¬ zc = 0) (fm : Value) (SF : Sta Z Z.heap "jdk/internal/util/Preconditions" "SIOOBE_FORMATTER" "Ljava/util/function/BiFunction;" fm) (rfm : fm.isRef = true)  (h0 : Heap) {n0 : Nat} (O0 : Old Z n0 h0)  :
    Met l Z EL0 n0 (⟨"java/lang/Math", "min", "(II)I"⟩ : MethodName) jdk_29_method_69_code 2 (some .int) [] ({ frames := 0, cells := 0, slots := 0, locals := 0 } : Room) #[(.int (10 : Int32)), (.int (3 : Int32))] h0 [] [] (fun v h' S => v = some (.int (3 : Int32)) ∧ h0 = h') := by
  refine Met.of (Jvm.Free.JP.mathPlain rfl (by decide +kernel)) O0 ?_
  intro p e s m below meth c T0 hx hby hml hret hlk hnm hs W0
  have W0 : Wk p l e _ s m _ below meth c Z EL0 n0 [] "java/lang/Math" [] T0 0 0 h0 := W0
  have hSA := fun d hd => hw d (sa_in d hd)
  have hws := fun d hd => hw d (ws_in d hd)
  refine Go.of (fun _ kk => castTop (ef33 m (10 : Int32) (3 : Int32)) kk) ?_
  refine gof T0 m 10 #[vi 10, vi 3] [(.int 3)] (fun _ kk => XS.iloadN W0.here hx rfl (hb hby d1014_0) rfl (XS.iloadN W0.here hx rfl (hb hby d1014_1) rfl (XS.icmpYes W0.here hx rfl (pc0 := 2) (pc' := 9) rfl (hb hby d1014_2) rfl (XT.ii_gt_t (by decide +kernel)) (by decide +kernel) (by decide +kernel) (XS.iloadN W0.here hx rfl (hb hby d1014_9) rfl kk)))) ?_
  exact W0.retI hx hEL hs hlk (by decide +kernel) (by decide +kernel) hret (by simp) rfl (hb hby d1014_10) (fun S hS => ⟨rfl, rfl⟩)
theorem d1015_0 : decode jdk_38_method_6_code 0 = .ok (.aload_n 0, 1) := by decide +kernel
theorem d1015_1 : decode jdk_38_method_6_code 1 = .ok (.getfield 9, 3) := by decide +kernel
theorem d1015_4 : decode jdk_38_method_6_code 4 = .ok (.arraylength, 1) := by decide +kernel
theorem d1015_5 : decode jdk_38_method_6_code 5 = .ok (.istore_n 2, 1) := by decide +kernel
theorem d1015_6 : decode jdk_38_method_6_code 6 = .ok (.iload_n 2, 1) := by decide +kernel
theorem d1015_7 : decode jdk_38_method_6_code 7 = .ok (.ifCond .gt 13, 3) := by decide +kernel
theorem d1015_10 : decode jdk_38_method_6_code 10 = .ok (.aload_n 0, 1) := by decide +kernel
theorem d1015_11 : decode jdk_38_method_6_code 11 = .ok (.getfield 9, 3) := by decide +kernel
theorem d1015_14 : decode jdk_38_method_6_code 14 = .ok (.getstatic 39, 3) := by decide +kernel
theorem d1015_17 : decode jdk_38_method_6_code 17 = .ok (.if_acmp .eq 28, 3) := by decide +kernel
theorem d1015_45 : decode jdk_38_method_6_code 45 = .ok (.aload_n 0, 1) := by decide +kernel
theorem d1015_46 : decode jdk_38_method_6_code 46 = .ok (.bipush 10, 2) := by decide +kernel
theorem d1015_48 : decode jdk_38_method_6_code 48 = .ok (.iload_n 1, 1) := by decide +kernel
theorem d1015_49 : decode jdk_38_method_6_code 49 = .ok (.invokestatic 79, 3) := by decide +kernel
theorem d1015_52 : decode jdk_38_method_6_code 52 = .ok (.anewarray 7, 3) := by decide +kernel
theorem d1015_55 : decode jdk_38_method_6_code 55 = .ok (.dup_x1, 1) := by decide +kernel
theorem d1015_56 : decode jdk_38_method_6_code 56 = .ok (.putfield 9, 3) := by decide +kernel
theorem d1015_59 : decode jdk_38_method_6_code 59 = .ok (.areturn, 1) := by decide +kernel
theorem ef34 (m : MethodId) (x0 : Addr) (x1 : Int32)  : entryFrame m #[(.ref x0), (.int x1)] 4 = mkF m 0 #[vr x0, vi x1, U0, U0] [] := by first | (simp [entryFrame, mkF, argsToLocals, Value.category]; done) | rfl | rfl
set_option maxRecDepth 65536 in
set_option maxHeartbeats 40000000 in
theorem rm34 (l : Launch) (Z : State) (a0 : Array Value) (hw : ∀ d ∈ tables_1, d.before a0 Z = true) (hEL : EW Z a0 EL0) (zc : Int32) (SC : Sta Z Z.heap "java/lang/String" "COMPACT_STRINGS" "Z" (.int zc)) (hzc : ¬ zc = 0) (fm : Value) (SF : Sta Z Z.heap "jdk/internal/util/Preconditions" "SIOOBE_FORMATTER" "Ljava/util/function/BiFunction;" fm) (rfm : fm.isRef = true) (al : Addr) (mc : Int32) (dfl : Addr) (el : Addr) (em : Addr) (mir : Addr) (gr : Addr) (de : Addr) (kdf : ClassId) (h0 : Heap) {n0 : Nat} (O0 : Old Z n0 h0) (OD : Arv Z Z.heap dfl kdf (.object "java/lang/Object") (0 : Int32) [] .null) (OS : Sta Z Z.heap "java/util/ArrayList" "DEFAULTCAPACITY_EMPTY_ELEMENTDATA" "[Ljava/lang/Object;" (.ref dfl)) (OL : Sta Z Z.heap "java/util/ImmutableCollections" "EMPTY_LIST" "Ljava/util/ImmutableCollections$ListN;" (.ref el)) (OM : Sta Z Z.heap "java/util/ImmutableCollections" "EMPTY" "Ljava/lang/Object;" (.ref em)) (OI : (Term.mirror "[Ljava/lang/Object;").eval a0 Z none [] Z = some (.ref mir)) (OG : Sta Z Z.heap "org/portcullis/acl/Decision" "GRANTED" "Lorg/portcullis/acl/Decision;" (.ref gr)) (OE : Sta Z Z.heap "org/portcullis/acl/Decision" "DENIED" "Lorg/portcullis/acl/Decision;" (.ref de)) (Eal : Exa Z h0 al "java/util/ArrayList") (Fea : Fld Z h0 al "java/util/ArrayList" "elementData" "[Ljava/lang/Object;" (.ref dfl)) (Fsa : Fld Z h0 al "java/util/ArrayList" "size" "I" (.int (0 : Int32))) (Fma : Fld Z h0 al "java/util/AbstractList" "modCount" "I" (.int mc)) (gal : n0 ≤ al) :
    Met l Z EL0 n0 (⟨"java/util/ArrayList", "grow", "(I)[Ljava/lang/Object;"⟩ : MethodName) jdk_38_method_6_code 4 (some (.array (.object "java/lang/Object"))) [] ({ frames := 1, cells := 1, slots := 10, locals := 14 } : Room) #[(.ref al), (.int (1 : Int32))] h0 [al] [] (fun v h' S => ∃ (t : Addr) (kc : ClassId), v = some (.ref t) ∧ h0.size ≤ t ∧ Fld Z h' al "java/util/ArrayList" "elementData" "[Ljava/lang/Object;" (.ref t) ∧ Fld Z h' al "java/util/ArrayList" "size" "I" (.int (0 : Int32)) ∧ Fld Z h' al "java/util/AbstractList" "modCount" "I" (.int mc) ∧ Arv Z h' t kc (.object "java/lang/Object") (10 : Int32) [.null, .null, .null, .null, .null, .null, .null, .null, .null, .null] .null ∧ Ovr Z kc "java/lang/Object" ∧ Exa Z h' t "[Ljava/lang/Object;") := by
  refine Met.of (plainFor_of_name pn10) O0 ?_
  intro p e s m below meth c T0 hx hby hml hret hlk hnm hs W0
  have W0 : Wk p l e _ s m _ below meth c Z EL0 n0 [al] "java/util/ArrayList" [] T0 0 0 h0 := W0
  have hSA := fun d hd => hw d (sa_in d hd)
  have hws := fun d hd => hw d (ws_in d hd)
  refine Go.of (fun _ kk => castTop (ef34 m al (1 : Int32)) kk) ?_
  refine gof T0 m 1 #[vr al, vi 1, U0, U0] [(.ref al)] (fun _ kk => XS.aloadN W0.here hx rfl (hb hby d1015_0) rfl rfl kk) ?_
  refine W0.getF hx (host := "") (Or.inl (hw _ (mI 82 rfl))) Via.refl Fea rfl rfl (hb hby d1015_1) (fun T1 W1 => ?_)
  show Go p e below _ (T1.setTop (mkF m 4 #[vr al, vi 1, U0, U0] [(.ref dfl)]))
  have k2 := OD.ext W1.old.2
  refine W1.alen hx k2 rfl rfl (hb hby d1015_4) ?_
  refine gof T1 m 11 #[vr al, vi 1, vi 0, U0] [(.ref al)] (fun _ kk => XS.istoreN W1.here hx rfl (hb hby d1015_5) rfl (l' := #[.val (.ref al), .val (.int 1), .val (.int 0), .unset]) rfl (XS.iloadN W1.here hx rfl (hb hby d1015_6) rfl (XS.ifNo W1.here hx rfl (hb hby d1015_7) rfl (XT.i0_gt_f (by decide +kernel)) (XS.aloadN W1.here hx rfl (hb hby d1015_10) rfl rfl kk)))) ?_
  refine W1.getF hx (host := "") (Or.inl (hw _ (mI 82 rfl))) Via.refl Fea rfl rfl (hb hby d1015_11) (fun T3 W3 => ?_)
  show Go p e below _ (T3.setTop (mkF m 14 #[vr al, vi 1, vi 0, U0] [(.ref dfl)]))
  refine W3.getS hx (host := "") (Or.inl (hw _ (mI 81 rfl))) Via.refl OS rfl (hb hby d1015_14) (fun T4 W4 => ?_)
  refine gof T4 m 49 #[vr al, vi 1, vi 0, U0] [(.int 1), (.int 10), (.ref al)] (fun _ kk => XT.acmpYes (g := (mkF m 17 #[vr al, vi 1, vi 0, U0] [(.ref dfl), (.ref dfl)])) W4.here hx rfl (pc0 := 17) (pc' := 45) rfl (hb hby d1015_17) (x := (.ref dfl)) (y := (.ref dfl)) (rest := []) rfl rfl rfl (XT.aa_eq_t (x := (.ref dfl)) (y := (.ref dfl)) rfl) (by decide) (by decide) (XS.aloadN W4.here hx rfl (hb hby d1015_45) rfl rfl (XS.bipush W4.here hx rfl (hb hby d1015_46) (XS.iloadN W4.here hx rfl (hb hby d1015_48) rfl kk)))) ?_
  refine W4.callS hx hEL (hw _ (mI 184 rfl)) (hw _ (mI 185 rfl)) (hw _ (mI 186 rfl)) (hw _ (mI 187 rfl)) (by decide +kernel) (argsL := [(.int (10 : Int32)), (.int (1 : Int32))]) (rest := [(.ref al)]) (rm30 l Z a0 hw hEL zc SC hzc fm SF rfm  h0 W4.old ) all0 (by decide +kernel) (Wd := 1) (by decide +kernel) (by decide +kernel) (by decide +kernel) all0 rfl (by rw [hml]; rfl) (lenOf pd4 rfl) rfl (by show 2 * 0 + _ ≤ _; exact Nat.le_of_eq rfl) (hb hby d1015_49) (fun T5 h5 v5 P5 Ws5 K5 q5 => ?_)
  have W5 := Ws5 [] all0
  obtain ⟨rfl, rfl⟩ := q5
  show Go p e below _ (T5.setTop (mkF m 52 #[vr al, vi 1, vi 0, U0] [(.int 10), (.ref al)]))
  refine W5.newR hx (hw _ (mI 188 rfl)) (hw _ (mI 189 rfl)) (ad := "[Ljava/lang/Object;") (by decide +kernel) rfl (hb hby d1015_52) rfl (by decide +kernel) (cap := 10) (by decide +kernel) (by decide +kernel) (by decide +kernel) (by decide +kernel) (fun T6 h6 b6 c6 eb6 gb6 W6 K6 A6 E6 Ov6 => ?_)
  have V6 : Arv Z h6 b6 c6 (.object "java/lang/Object") (10 : Int32) [.null, .null, .null, .null, .null, .null, .null, .null, .null, .null] .null := A6
  refine gof T6 m 56 #[vr al, vi 1, vi 0, U0] [(.ref b6), (.ref al), (.ref b6)] (fun _ kk => XT.dupX1 W6.here hx rfl (hb hby d1015_55) rfl rfl rfl kk) ?_
  have k7 := (Fea.keep K6 nin0)
  have k8 := (Eal.keep K6)
  refine W6.putF hx (host := "") (Or.inl (hw _ (mI 82 rfl))) Via.refl k7 k8 (Or.inl (hw _ (mI 83 rfl))) (hw _ (mI 61 rfl)) (ty := (.array (.object "java/lang/Object"))) (by decide +kernel) rfl rfl gal (Or.inl (mI 0 rfl)) (Or.inr ⟨by decide, by decide⟩) rfl rfl (hb hby d1015_56) (fun T9 h9 W9 w9 => ?_)
  have k10 := (Fsa.keep K6 nin0)
  have k11 := (Fma.keep K6 nin0)
  have K9 := Keep.of_wr w9
  have k12 := k10.other w9 (Or.inr (slot_ne (Or.inl (hw _ (mI 115 rfl))) (Or.inl (hw _ (mI 83 rfl))) (by decide +kernel) (t := .int) (t' := (.array (.object "java/lang/Object"))) (by decide +kernel) (by decide +kernel)))
  have k13 := k11.other w9 (Or.inr (slot_ne (Or.inl (hw _ (mI 80 rfl))) (Or.inl (hw _ (mI 83 rfl))) (by decide +kernel) (t := .int) (t' := (.array (.object "java/lang/Object"))) (by decide +kernel) (by decide +kernel)))
  have k14 := k7.same w9
  show Go p e below _ (T9.setTop (mkF m 59 #[vr al, vi 1, vi 0, U0] [(.ref b6)]))
  have k15 := (V6.keep K9 (ninS (ne_of_born (Nat.le_of_eq eb6.symm) Eal.lt (Nat.le_refl _)).symm nin0))
  have k16 := (E6.keep K9)
  exact W9.retA hx hEL hs hlk (by decide +kernel) (by decide +kernel) hret rfl rfl (hb hby d1015_59) (fun S hS => ⟨b6, c6, rfl, hs ▸ gb6.2, k14, k12, k13, k15, Ov6, k16⟩)
theorem d1016_0 : decode jdk_38_method_7_code 0 = .ok (.aload_n 0, 1) := by decide +kernel
theorem d1016_1 : decode jdk_38_method_7_code 1 = .ok (.aload_n 0, 1) := by decide +kernel
theorem d1016_2 : decode jdk_38_method_7_code 2 = .ok (.getfield 48, 3) := by decide +kernel
theorem d1016_5 : decode jdk_38_method_7_code 5 = .ok (.iconst 1, 1) := by decide +kernel
theorem d1016_6 : decode jdk_38_method_7_code 6 = .ok (.iadd, 1) := by decide +kernel
theorem d1016_7 : decode jdk_38_method_7_code 7 = .ok (.invokevirtual 69, 3) := by decide +kernel
theorem d1016_10 : decode jdk_38_method_7_code 10 = .ok (.areturn, 1) := by decide +kernel
theorem ef35 (m : MethodId) (x0 : Addr)  : entryFrame m #[(.ref x0)] 1 = mkF m 0 #[vr x0] [] := by first | (simp [entryFrame, mkF, argsToLocals, Value.category]; done) | rfl | rfl
set_option maxRecDepth 65536 in
set_option maxHeartbeats 40000000 in
theorem rm35 (l : Launch) (Z : State) (a0 : Array Value) (hw : ∀ d ∈ tables_1, d.before a0 Z = true) (hEL : EW Z a0 EL0) (zc : Int32) (SC : Sta Z Z.heap "java/lang/String" "COMPACT_STRINGS" "Z" (.int zc)) (hzc : ¬ zc = 0) (fm : Value) (SF : Sta Z Z.heap "jdk/internal/util/Preconditions" "SIOOBE_FORMATTER" "Ljava/util/function/BiFunction;" fm) (rfm : fm.isRef = true) (al : Addr) (mc : Int32) (dfl : Addr) (el : Addr) (em : Addr) (mir : Addr) (gr : Addr) (de : Addr) (kdf : ClassId) (h0 : Heap) {n0 : Nat} (O0 : Old Z n0 h0) (OD : Arv Z Z.heap dfl kdf (.object "java/lang/Object") (0 : Int32) [] .null) (OS : Sta Z Z.heap "java/util/ArrayList" "DEFAULTCAPACITY_EMPTY_ELEMENTDATA" "[Ljava/lang/Object;" (.ref dfl)) (OL : Sta Z Z.heap "java/util/ImmutableCollections" "EMPTY_LIST" "Ljava/util/ImmutableCollections$ListN;" (.ref el)) (OM : Sta Z Z.heap "java/util/ImmutableCollections" "EMPTY" "Ljava/lang/Object;" (.ref em)) (OI : (Term.mirror "[Ljava/lang/Object;").eval a0 Z none [] Z = some (.ref mir)) (OG : Sta Z Z.heap "org/portcullis/acl/Decision" "GRANTED" "Lorg/portcullis/acl/Decision;" (.ref gr)) (OE : Sta Z Z.heap "org/portcullis/acl/Decision" "DENIED" "Lorg/portcullis/acl/Decision;" (.ref de)) (Eal : Exa Z h0 al "java/util/ArrayList") (Fea : Fld Z h0 al "java/util/ArrayList" "elementData" "[Ljava/lang/Object;" (.ref dfl)) (Fsa : Fld Z h0 al "java/util/ArrayList" "size" "I" (.int (0 : Int32))) (Fma : Fld Z h0 al "java/util/AbstractList" "modCount" "I" (.int mc)) (gal : n0 ≤ al) :
    Met l Z EL0 n0 (⟨"java/util/ArrayList", "grow", "()[Ljava/lang/Object;"⟩ : MethodName) jdk_38_method_7_code 1 (some (.array (.object "java/lang/Object"))) [] ({ frames := 2, cells := 1, slots := 10, locals := 29 } : Room) #[(.ref al)] h0 [al] [] (fun v h' S => ∃ (t : Addr) (kc : ClassId), v = some (.ref t) ∧ h0.size ≤ t ∧ Fld Z h' al "java/util/ArrayList" "elementData" "[Ljava/lang/Object;" (.ref t) ∧ Fld Z h' al "java/util/ArrayList" "size" "I" (.int (0 : Int32)) ∧ Fld Z h' al "java/util/AbstractList" "modCount" "I" (.int mc) ∧ Arv Z h' t kc (.object "java/lang/Object") (10 : Int32) [.null, .null, .null, .null, .null, .null, .null, .null, .null, .null] .null ∧ Ovr Z kc "java/lang/Object" ∧ Exa Z h' t "[Ljava/lang/Object;") := by
  refine Met.of (plainFor_of_name pn10) O0 ?_
  intro p e s m below meth c T0 hx hby hml hret hlk hnm hs W0
  have W0 : Wk p l e _ s m _ below meth c Z EL0 n0 [al] "java/util/ArrayList" [] T0 0 0 h0 := W0
  have hSA := fun d hd => hw d (sa_in d hd)
  have hws := fun d hd => hw d (ws_in d hd)
  refine Go.of (fun _ kk => castTop (ef35 m al) kk) ?_
  refine gof T0 m 2 #[vr al] [(.ref al), (.ref al)] (fun _ kk => XS.aloadN W0.here hx rfl (hb hby d1016_0) rfl rfl (XS.aloadN W0.here hx rfl (hb hby d1016_1) rfl rfl kk)) ?_
  refine W0.getF hx (host := "") (Or.inl (hw _ (mI 114 rfl))) Via.refl Fsa rfl rfl (hb hby d1016_2) (fun T1 W1 => ?_)
  refine gof T1 m 7 #[vr al] [(.int 1), (.ref al)] (fun _ kk => XS.iconst W1.here hx rfl (hb hby d1016_5) (XS.iadd W1.here hx rfl (hb hby d1016_6) rfl kk)) ?_
  refine W1.callW hx hEL (hw _ (mI 179 rfl)) (hw _ (mI 182 rfl)) (hw _ (mI 180 rfl)) (hw _ (mI 62 rfl)) (hw _ (mI 183 rfl)) (by decide +kernel) Eal (a := al) (argsL := [(.int (1 : Int32))]) (rest := []) (rm34 l Z a0 hw hEL zc SC hzc fm SF rfm al mc dfl el em mir gr de kdf h0 W1.old OD OS OL OM OI OG OE Eal Fea Fsa Fma gal) all0 (by decide +kernel) (Wd := 0) (by decide +kernel) (by decide +kernel) (by decide +kernel) (allS ⟨gal, (Or.inl (mI 0 rfl))⟩ all0) rfl (by rw [hml]; rfl) (lenOf pd5 rfl) rfl (by show 2 * 0 + _ ≤ _; exact Nat.le_of_eq rfl) (hb hby d1016_7) (fun T2 h2 v2 P2 Ws2 K2 q2 => ?_)
  have W2 := Ws2 [] all0
  obtain ⟨t2, kt2, rfl, lt2, Fe2, Fs2, Fm2, A2, Ov2, Ex2⟩ := q2
  have gt2 : n0 ≤ t2 ∧ s.heap.size ≤ t2 := ⟨Nat.le_trans W1.n0le lt2, Nat.le_trans W1.s0le lt2⟩
  show Go p e below _ (T2.setTop (mkF m 10 #[vr al] [(.ref t2)]))
  exact W2.retA hx hEL hs hlk (by decide +kernel) (by decide +kernel) hret rfl rfl (hb hby d1016_10) (fun S hS => ⟨t2, kt2, rfl, hs ▸ gt2.2, Fe2, Fs2, Fm2, A2, Ov2, Ex2⟩)
theorem d1017_0 : decode jdk_38_method_24_code 0 = .ok (.iload_n 3, 1) := by decide +kernel
theorem d1017_1 : decode jdk_38_method_24_code 1 = .ok (.aload_n 2, 1) := by decide +kernel
theorem d1017_2 : decode jdk_38_method_24_code 2 = .ok (.arraylength, 1) := by decide +kernel
theorem d1017_3 : decode jdk_38_method_24_code 3 = .ok (.if_icmp .ne 8, 3) := by decide +kernel
theorem d1017_6 : decode jdk_38_method_24_code 6 = .ok (.aload_n 0, 1) := by decide +kernel
theorem d1017_7 : decode jdk_38_method_24_code 7 = .ok (.invokevirtual 129, 3) := by decide +kernel
theorem d1017_10 : decode jdk_38_method_24_code 10 = .ok (.astore_n 2, 1) := by decide +kernel
theorem d1017_11 : decode jdk_38_method_24_code 11 = .ok (.aload_n 2, 1) := by decide +kernel
theorem d1017_12 : decode jdk_38_method_24_code 12 = .ok (.iload_n 3, 1) := by decide +kernel
theorem d1017_13 : decode jdk_38_method_24_code 13 = .ok (.aload_n 1, 1) := by decide +kernel
theorem d1017_14 : decode jdk_38_method_24_code 14 = .ok (.aastore, 1) := by decide +kernel
theorem d1017_15 : decode jdk_38_method_24_code 15 = .ok (.aload_n 0, 1) := by decide +kernel
theorem d1017_16 : decode jdk_38_method_24_code 16 = .ok (.iload_n 3, 1) := by decide +kernel
theorem d1017_17 : decode jdk_38_method_24_code 17 = .ok (.iconst 1, 1) := by decide +kernel
theorem d1017_18 : decode jdk_38_method_24_code 18 = .ok (.iadd, 1) := by decide +kernel
theorem d1017_19 : decode jdk_38_method_24_code 19 = .ok (.putfield 48, 3) := by decide +kernel
theorem d1017_22 : decode jdk_38_method_24_code 22 = .ok (.return_, 1) := by decide +kernel
theorem ef40 (m : MethodId) (x0 : Addr) (x1 : Addr) (x2 : Addr) (x3 : Int32)  : entryFrame m #[(.ref x0), (.ref x1), (.ref x2), (.int x3)] 4 = mkF m 0 #[vr x0, vr x1, vr x2, vi x3] [] := by first | (simp [entryFrame, mkF, argsToLocals, Value.category]; done) | rfl | rfl
set_option maxRecDepth 65536 in
set_option maxHeartbeats 40000000 in
theorem rm40 (l : Launch) (Z : State) (a0 : Array Value) (hw : ∀ d ∈ tables_1, d.before a0 Z = true) (hEL : EW Z a0 EL0) (zc : Int32) (SC : Sta Z Z.heap "java/lang/String" "COMPACT_STRINGS" "Z" (.int zc)) (hzc : ¬ zc = 0) (fm : Value) (SF : Sta Z Z.heap "jdk/internal/util/Preconditions" "SIOOBE_FORMATTER" "Ljava/util/function/BiFunction;" fm) (rfm : fm.isRef = true) (al : Addr) (ua : Addr) (mc : Int32) (dfl : Addr) (el : Addr) (em : Addr) (mir : Addr) (gr : Addr) (de : Addr) (kdf : ClassId) (h0 : Heap) {n0 : Nat} (O0 : Old Z n0 h0) (OD : Arv Z Z.heap dfl kdf (.object "java/lang/Object") (0 : Int32) [] .null) (OS : Sta Z Z.heap "java/util/ArrayList" "DEFAULTCAPACITY_EMPTY_ELEMENTDATA" "[Ljava/lang/Object;" (.ref dfl)) (OL : Sta Z Z.heap "java/util/ImmutableCollections" "EMPTY_LIST" "Ljava/util/ImmutableCollections$ListN;" (.ref el)) (OM : Sta Z Z.heap "java/util/ImmutableCollections" "EMPTY" "Ljava/lang/Object;" (.ref em)) (OI : (Term.mirror "[Ljava/lang/Object;").eval a0 Z none [] Z = some (.ref mir)) (OG : Sta Z Z.heap "org/portcullis/acl/Decision" "GRANTED" "Lorg/portcullis/acl/Decision;" (.ref gr)) (OE : Sta Z Z.heap "org/portcullis/acl/Decision" "DENIED" "Lorg/portcullis/acl/Decision;" (.ref de)) (Eal : Exa Z h0 al "java/util/ArrayList") (Fea : Fld Z h0 al "java/util/ArrayList" "elementData" "[Ljava/lang/Object;" (.ref dfl)) (Fsa : Fld Z h0 al "java/util/ArrayList" "size" "I" (.int (0 : Int32))) (Fma : Fld Z h0 al "java/util/AbstractList" "modCount" "I" (.int mc)) (Eua : Exa Z h0 ua "org/portcullis/acl/ObjectIdentity") (gal : n0 ≤ al) :
    Met l Z EL0 n0 (⟨"java/util/ArrayList", "add", "(Ljava/lang/Object;[Ljava/lang/Object;I)V"⟩ : MethodName) jdk_38_method_24_code 4 none [] ({ frames := 3, cells := 1, slots := 10, locals := 41 } : Room) #[(.ref al), (.ref ua), (.ref dfl), (.int (0 : Int32))] h0 [al] [] (fun v h' S => ∃ (t : Addr) (kc : ClassId), v = none ∧ h0.size ≤ t ∧ Fld Z h' al "java/util/ArrayList" "elementData" "[Ljava/lang/Object;" (.ref t) ∧ Fld Z h' al "java/util/ArrayList" "size" "I" (.int (1 : Int32)) ∧ Fld Z h' al "java/util/AbstractList" "modCount" "I" (.int mc) ∧ Arv Z h' t kc (.object "java/lang/Object") (10 : Int32) [(.ref ua), .null, .null, .null, .null, .null, .null, .null, .null, .null] .null ∧ Ovr Z kc "java/lang/Object" ∧ Exa Z h' t "[Ljava/lang/Object;") := by
  refine Met.of (plainFor_of_name pn10) O0 ?_
  intro p e s m below meth c T0 hx hby hml hret hlk hnm hs W0
  have W0 : Wk p l e _ s m _ below meth c Z EL0 n0 [al] "java/util/ArrayList" [] T0 0 0 h0 := W0
  have hSA := fun d hd => hw d (sa_in d hd)
  have hws := fun d hd => hw d (ws_in d hd)
  refine Go.of (fun _ kk => castTop (ef40 m al ua dfl (0 : Int32)) kk) ?_
  refine gof T0 m 2 #[vr al, vr ua, vr dfl, vi 0] [(.ref dfl), (.int 0)] (fun _ kk => XS.iloadN W0.here hx rfl (hb hby d1017_0) rfl (XS.aloadN W0.here hx rfl (hb hby d1017_1) rfl rfl kk)) ?_
  have k1 := OD.ext W0.old.2
  refine W0.alen hx k1 rfl rfl (hb hby d1017_2) ?_
  refine gof T0 m 7 #[vr al, vr ua, vr dfl, vi 0] [(.ref al)] (fun _ kk => XS.icmpNo W0.here hx rfl (hb hby d1017_3) rfl (XT.ii_ne_f (by decide +kernel)) (XS.aloadN W0.here hx rfl (hb hby d1017_6) rfl rfl kk)) ?_
  refine W0.callW hx hEL (hw _ (mI 174 rfl)) (hw _ (mI 177 rfl)) (hw _ (mI 175 rfl)) (hw _ (mI 62 rfl)) (hw _ (mI 178 rfl)) (by decide +kernel) Eal (a := al) (argsL := []) (rest := []) (rm35 l Z a0 hw hEL zc SC hzc fm SF rfm al mc dfl el em mir gr de kdf h0 W0.old OD OS OL OM OI OG OE Eal Fea Fsa Fma gal) all0 (by decide +kernel) (Wd := 0) (by decide +kernel) (by decide +kernel) (by decide +kernel) (allS ⟨gal, (Or.inl (mI 0 rfl))⟩ all0) rfl (by rw [hml]; rfl) (lenOf pd6 rfl) rfl (by show 2 * 0 + _ ≤ _; exact Nat.le_of_eq rfl) (hb hby d1017_7) (fun T2 h2 v2 P2 Ws2 K2 q2 => ?_)
  have W2 := Ws2 [] all0
  obtain ⟨t2, kt2, rfl, lt2, Fe2, Fs2, Fm2, A2, Ov2, Ex2⟩ := q2
  have gt2 : n0 ≤ t2 ∧ s.heap.size ≤ t2 := ⟨Nat.le_trans W0.n0le lt2, Nat.le_trans W0.s0le lt2⟩
  refine gof T2 m 14 #[vr al, vr ua, vr t2, vi 0] [(.ref ua), (.int 0), (.ref t2)] (fun _ kk => XS.astoreN W2.here hx rfl (hb hby d1017_10) rfl rfl (l' := #[.val (.ref al), .val (.ref ua), .val (.ref t2), .val (.int 0)]) rfl (XS.aloadN W2.here hx rfl (hb hby d1017_11) rfl rfl (XS.iloadN W2.here hx rfl (hb hby d1017_12) rfl (XS.aloadN W2.here hx rfl (hb hby d1017_13) rfl rfl kk)))) ?_
  have k3 := (Eua.keep K2)
  refine W2.stR hx A2 Ov2 (Ins.of_exa k3 (hw _ (mI 190 rfl))) ⟨by decide, by decide⟩ 0 rfl (Nat.le_of_ble_eq_true rfl) gt2.1 (Or.inr gt2.2) rfl rfl (hb hby d1017_14) (fun T4 h4 W4 K4 A4 => ?_)
  have V4 : Arv Z h4 t2 kt2 (.object "java/lang/Object") (10 : Int32) [(.ref ua), .null, .null, .null, .null, .null, .null, .null, .null, .null] .null := A4
  refine gof T4 m 19 #[vr al, vr ua, vr t2, vi 0] [(.int 1), (.ref al)] (fun _ kk => XS.aloadN W4.here hx rfl (hb hby d1017_15) rfl rfl (XS.iloadN W4.here hx rfl (hb hby d1017_16) rfl (XS.iconst W4.here hx rfl (hb hby d1017_17) (XS.iadd W4.here hx rfl (hb hby d1017_18) rfl kk)))) ?_
  have k5 := (Fs2.keep K4 (ninS (ne_of_born lt2 Eal.lt (Nat.le_refl _)) nin0))
  have k6 := ((Eal.keep K2).keep K4)
  refine W4.putF hx (host := "") (Or.inl (hw _ (mI 114 rfl))) Via.refl k5 k6 (Or.inl (hw _ (mI 115 rfl))) (hw _ (mI 61 rfl)) (ty := .int) (by decide +kernel) rfl rfl gal (Or.inl (mI 0 rfl)) (Or.inr ⟨by decide, by decide⟩) rfl rfl (hb hby d1017_19) (fun T7 h7 W7 w7 => ?_)
  have k8 := (Fe2.keep K4 (ninS (ne_of_born lt2 Eal.lt (Nat.le_refl _)) nin0))
  have k9 := (Fm2.keep K4 (ninS (ne_of_born lt2 Eal.lt (Nat.le_refl _)) nin0))
  have K7 := Keep.of_wr w7
  have k10 := k8.other w7 (Or.inr (slot_ne (Or.inl (hw _ (mI 83 rfl))) (Or.inl (hw _ (mI 115 rfl))) (by decide +kernel) (t := (.array (.object "java/lang/Object"))) (t' := .int) (by decide +kernel) (by decide +kernel)))
  have k11 := k9.other w7 (Or.inr (slot_ne (Or.inl (hw _ (mI 80 rfl))) (Or.inl (hw _ (mI 115 rfl))) (by decide +kernel) (t := .int) (t' := .int) (by decide +kernel) (by decide +kernel)))
  have k12 := k5.same w7
  show Go p e below _ (T7.setTop (mkF m 22 #[vr al, vr ua, vr t2, vi 0] []))
  have k13 := (V4.keep K7 (ninS (ne_of_born lt2 Eal.lt (Nat.le_refl _)).symm nin0))
  have k14 := ((Ex2.keep K4).keep K7)
  exact W7.retV hx hEL hs hlk (by decide +kernel) (by decide +kernel) hret (hb hby d1017_22) (fun S hS => ⟨t2, kt2, rfl, hs ▸ gt2.2, k10, k12, k11, k13, Ov2, k14⟩)
theorem d1018_0 : decode jdk_38_method_25_code 0 = .ok (.aload_n 0, 1) := by decide +kernel
theorem d1018_1 : decode jdk_38_method_25_code 1 = .ok (.dup, 1) := by decide +kernel
theorem d1018_2 : decode jdk_38_method_25_code 2 = .ok (.getfield 63, 3) := by decide +kernel
theorem d1018_5 : decode jdk_38_method_25_code 5 = .ok (.iconst 1, 1) := by decide +kernel
theorem d1018_6 : decode jdk_38_method_25_code 6 = .ok (.iadd, 1) := by decide +kernel
theorem d1018_7 : decode jdk_38_method_25_code 7 = .ok (.putfield 63, 3) := by decide +kernel
theorem d1018_10 : decode jdk_38_method_25_code 10 = .ok (.aload_n 0, 1) := by decide +kernel
theorem d1018_11 : decode jdk_38_method_25_code 11 = .ok (.aload_n 1, 1) := by decide +kernel
theorem d1018_12 : decode jdk_38_method_25_code 12 = .ok (.aload_n 0, 1) := by decide +kernel
theorem d1018_13 : decode jdk_38_method_25_code 13 = .ok (.getfield 9, 3) := by decide +kernel
theorem d1018_16 : decode jdk_38_method_25_code 16 = .ok (.aload_n 0, 1) := by decide +kernel
theorem d1018_17 : decode jdk_38_method_25_code 17 = .ok (.getfield 48, 3) := by decide +kernel
theorem d1018_20 : decode jdk_38_method_25_code 20 = .ok (.invokevirtual 131, 3) := by decide +kernel
theorem d1018_23 : decode jdk_38_method_25_code 23 = .ok (.iconst 1, 1) := by decide +kernel
theorem d1018_24 : decode jdk_38_method_25_code 24 = .ok (.ireturn, 1) := by decide +kernel
theorem ef43 (m : MethodId) (x0 : Addr) (x1 : Addr)  : entryFrame m #[(.ref x0), (.ref x1)] 2 = mkF m 0 #[vr x0, vr x1] [] := by first | (simp [entryFrame, mkF, argsToLocals, Value.category]; done) | rfl | rfl
set_option maxRecDepth 65536 in
set_option maxHeartbeats 40000000 in
theorem rm43 (l : Launch) (Z : State) (a0 : Array Value) (hw : ∀ d ∈ tables_1, d.before a0 Z = true) (hEL : EW Z a0 EL0) (zc : Int32) (SC : Sta Z Z.heap "java/lang/String" "COMPACT_STRINGS" "Z" (.int zc)) (hzc : ¬ zc = 0) (fm : Value) (SF : Sta Z Z.heap "jdk/internal/util/Preconditions" "SIOOBE_FORMATTER" "Ljava/util/function/BiFunction;" fm) (rfm : fm.isRef = true) (al : Addr) (ua : Addr) (mc : Int32) (dfl : Addr) (el : Addr) (em : Addr) (mir : Addr) (gr : Addr) (de : Addr) (kdf : ClassId) (h0 : Heap) {n0 : Nat} (O0 : Old Z n0 h0) (OD : Arv Z Z.heap dfl kdf (.object "java/lang/Object") (0 : Int32) [] .null) (OS : Sta Z Z.heap "java/util/ArrayList" "DEFAULTCAPACITY_EMPTY_ELEMENTDATA" "[Ljava/lang/Object;" (.ref dfl)) (OL : Sta Z Z.heap "java/util/ImmutableCollections" "EMPTY_LIST" "Ljava/util/ImmutableCollections$ListN;" (.ref el)) (OM : Sta Z Z.heap "java/util/ImmutableCollections" "EMPTY" "Ljava/lang/Object;" (.ref em)) (OI : (Term.mirror "[Ljava/lang/Object;").eval a0 Z none [] Z = some (.ref mir)) (OG : Sta Z Z.heap "org/portcullis/acl/Decision" "GRANTED" "Lorg/portcullis/acl/Decision;" (.ref gr)) (OE : Sta Z Z.heap "org/portcullis/acl/Decision" "DENIED" "Lorg/portcullis/acl/Decision;" (.ref de)) (Eal : Exa Z h0 al "java/util/ArrayList") (Fea : Fld Z h0 al "java/util/ArrayList" "elementData" "[Ljava/lang/Object;" (.ref dfl)) (Fsa : Fld Z h0 al "java/util/ArrayList" "size" "I" (.int (0 : Int32))) (Fma : Fld Z h0 al "java/util/AbstractList" "modCount" "I" (.int mc)) (Eua : Exa Z h0 ua "org/portcullis/acl/ObjectIdentity") (gal : n0 ≤ al) :
    Met l Z EL0 n0 (⟨"java/util/ArrayList", "add", "(Ljava/lang/Object;)Z"⟩ : MethodName) jdk_38_method_25_code 2 (some .boolean) [] ({ frames := 4, cells := 1, slots := 10, locals := 56 } : Room) #[(.ref al), (.ref ua)] h0 [al] [] (fun v h' S => ∃ (t : Addr) (kc : ClassId), v = some (.int 1) ∧ h0.size ≤ t ∧ Fld Z h' al "java/util/ArrayList" "elementData" "[Ljava/lang/Object;" (.ref t) ∧ Fld Z h' al "java/util/ArrayList" "size" "I" (.int (1 : Int32)) ∧ Fld Z h' al "java/util/AbstractList" "modCount" "I" (.int (mc + (1 : Int32))) ∧ Arv Z h' t kc (.object "java/lang/Object") (10 : Int32) [(.ref ua), .null, .null, .null, .null, .null, .null, .null, .null, .null] .null ∧ Ovr Z kc "java/lang/Object" ∧ Exa Z h' t "[Ljava/lang/Object;") := by
  refine Met.of (plainFor_of_name pn10) O0 ?_
  intro p e s m below meth c T0 hx hby hml hret hlk hnm hs W0
  have W0 : Wk p l e _ s m _ below meth c Z EL0 n0 [al] "java/util/ArrayList" [] T0 0 0 h0 := W0
  have hSA := fun d hd => hw d (sa_in d hd)
  have hws := fun d hd => hw d (ws_in d hd)
  refine Go.of (fun _ kk => castTop (ef43 m al ua) kk) ?_
  refine gof T0 m 2 #[vr al, vr ua] [(.ref al), (.ref al)] (fun _ kk => XS.aloadN W0.here hx rfl (hb hby d1018_0) rfl rfl (XS.dup W0.here hx rfl (hb hby d1018_1) rfl rfl kk)) ?_
  refine W0.getF hx (host := "") (Or.inl (hw _ (mI 167 rfl))) (Via.of (hw _ (mI 168 rfl))) Fma rfl rfl (hb hby d1018_2) (fun T1 W1 => ?_)
  refine gof T1 m 7 #[vr al, vr ua] [(.int (mc + (1 : Int32))), (.ref al)] (fun _ kk => XS.iconst W1.here hx rfl (hb hby d1018_5) (XS.iadd W1.here hx rfl (hb hby d1018_6) rfl kk)) ?_
  refine W1.putF hx (host := "") (Or.inl (hw _ (mI 167 rfl))) (Via.of (hw _ (mI 168 rfl))) Fma Eal (Or.inl (hw _ (mI 80 rfl))) (hw _ (mI 61 rfl)) (ty := .int) (by decide +kernel) rfl rfl gal (Or.inl (mI 0 rfl)) (Or.inr ⟨by decide, by decide⟩) rfl rfl (hb hby d1018_7) (fun T2 h2 W2 w2 => ?_)
  have K2 := Keep.of_wr w2
  have k3 := Fea.other w2 (Or.inr (slot_ne (Or.inl (hw _ (mI 83 rfl))) (Or.inl (hw _ (mI 80 rfl))) (by decide +kernel) (t := (.array (.object "java/lang/Object"))) (t' := .int) (by decide +kernel) (by decide +kernel)))
  have k4 := Fsa.other w2 (Or.inr (slot_ne (Or.inl (hw _ (mI 115 rfl))) (Or.inl (hw _ (mI 80 rfl))) (by decide +kernel) (t := .int) (t' := .int) (by decide +kernel) (by decide +kernel)))
  have k5 := Fma.same w2
  refine gof T2 m 13 #[vr al, vr ua] [(.ref al), (.ref ua), (.ref al)] (fun _ kk => XS.aloadN W2.here hx rfl (hb hby d1018_10) rfl rfl (XS.aloadN W2.here hx rfl (hb hby d1018_11) rfl rfl (XS.aloadN W2.here hx rfl (hb hby d1018_12) rfl rfl kk))) ?_
  refine W2.getF hx (host := "") (Or.inl (hw _ (mI 82 rfl))) Via.refl k3 rfl rfl (hb hby d1018_13) (fun T6 W6 => ?_)
  refine gof T6 m 17 #[vr al, vr ua] [(.ref al), (.ref dfl), (.ref ua), (.ref al)] (fun _ kk => XS.aloadN W6.here hx rfl (hb hby d1018_16) rfl rfl kk) ?_
  refine W6.getF hx (host := "") (Or.inl (hw _ (mI 114 rfl))) Via.refl k4 rfl rfl (hb hby d1018_17) (fun T7 W7 => ?_)
  show Go p e below _ (T7.setTop (mkF m 20 #[vr al, vr ua] [(.int 0), (.ref dfl), (.ref ua), (.ref al)]))
  have k9 := (Eal.keep K2)
  have k10 := (Eua.keep K2)
  refine W7.callW hx hEL (hw _ (mI 169 rfl)) (hw _ (mI 172 rfl)) (hw _ (mI 170 rfl)) (hw _ (mI 62 rfl)) (hw _ (mI 173 rfl)) (by decide +kernel) k9 (a := al) (argsL := [(.ref ua), (.ref dfl), (.int (0 : Int32))]) (rest := []) (rm40 l Z a0 hw hEL zc SC hzc fm SF rfm al ua (mc + (1 : Int32)) dfl el em mir gr de kdf h2 W7.old OD OS OL OM OI OG OE k9 k3 k4 k5 k10 gal) all0 (by decide +kernel) (Wd := 0) (by decide +kernel) (by decide +kernel) (by decide +kernel) (allS ⟨gal, (Or.inl (mI 0 rfl))⟩ all0) rfl (by rw [hml]; rfl) (lenOf pd7 rfl) rfl (by show 2 * 0 + _ ≤ _; exact Nat.le_of_eq rfl) (hb hby d1018_20) (fun T8 h8 v8 P8 Ws8 K8 q8 => ?_)
  have W8 := Ws8 [] all0
  obtain ⟨t8, kt8, rfl, lt8, Fe8, Fs8, Fm8, A8, Ov8, Ex8⟩ := q8
  have gt8 : n0 ≤ t8 ∧ s.heap.size ≤ t8 := ⟨Nat.le_trans W7.n0le lt8, Nat.le_trans W7.s0le lt8⟩
  refine gof T8 m 24 #[vr al, vr ua] [(.int 1)] (fun _ kk => XS.iconst W8.here hx rfl (hb hby d1018_23) kk) ?_
  exact W8.retI hx hEL hs hlk (by decide +kernel) (by decide +kernel) hret (by simp) rfl (hb hby d1018_24) (fun S hS => ⟨t8, kt8, rfl, hs ▸ gt8.2, Fe8, Fs8, Fm8, A8, Ov8, Ex8⟩)
theorem ef41 (m : MethodId) (x0 : Addr) (x1 : Addr) (x2 : Addr) (x3 : Int32)  : entryFrame m #[(.ref x0), (.ref x1), (.ref x2), (.int x3)] 4 = mkF m 0 #[vr x0, vr x1, vr x2, vi x3] [] := by first | (simp [entryFrame, mkF, argsToLocals, Value.category]; done) | rfl | rfl
set_option maxRecDepth 65536 in
set_option maxHeartbeats 40000000 in
theorem rm41 (l : Launch) (Z : State) (a0 : Array Value) (hw : ∀ d ∈ tables_1, d.before a0 Z = true) (hEL : EW Z a0 EL0) (zc : Int32) (SC : Sta Z Z.heap "java/lang/String" "COMPACT_STRINGS" "Z" (.int zc)) (hzc : ¬ zc = 0) (fm : Value) (SF : Sta Z Z.heap "jdk/internal/util/Preconditions" "SIOOBE_FORMATTER" "Ljava/util/function/BiFunction;" fm) (rfm : fm.isRef = true) (al : Addr) (tt : Addr) (kc : ClassId) (mc : Int32) (ua : Addr) (ub : Addr) (h0 : Heap) {n0 : Nat} (O0 : Old Z n0 h0) (Eal : Exa Z h0 al "java/util/ArrayList") (Fea : Fld Z h0 al "java/util/ArrayList" "elementData" "[Ljava/lang/Object;" (.ref tt)) (Fsa : Fld Z h0 al "java/util/ArrayList" "size" "I" (.int (1 : Int32))) (Fma : Fld Z h0 al "java/util/AbstractList" "modCount" "I" (.int mc)) (Att : Arv Z h0 tt kc (.object "java/lang/Object") (10 : Int32) [(.ref ua), .null, .null, .null, .null, .null, .null, .null, .null, .null] .null) (Otk : Ovr Z kc "java/lang/Object") (Eun : Exa Z h0 ub "org/portcullis/acl/ObjectIdentity") (gal : n0 ≤ al) (gtt : n0 ≤ tt) (nat : al ≠ tt) :
    Met l Z EL0 n0 (⟨"java/util/ArrayList", "add", "(Ljava/lang/Object;[Ljava/lang/Object;I)V"⟩ : MethodName) jdk_38_method_24_code 4 none [] ({ frames := 0, cells := 0, slots := 0, locals := 0 } : Room) #[(.ref al), (.ref ub), (.ref tt), (.int (1 : Int32))] h0 [al, tt] [] (fun v h' S => v = none ∧ Fld Z h' al "java/util/ArrayList" "elementData" "[Ljava/lang/Object;" (.ref tt) ∧ Fld Z h' al "java/util/ArrayList" "size" "I" (.int (2 : Int32)) ∧ Fld Z h' al "java/util/AbstractList" "modCount" "I" (.int mc) ∧ Arv Z h' tt kc (.object "java/lang/Object") (10 : Int32) [(.ref ua), (.ref ub), .null, .null, .null, .null, .null, .null, .null, .null] .null) := by
  refine Met.of (plainFor_of_name pn10) O0 ?_
  intro p e s m below meth c T0 hx hby hml hret hlk hnm hs W0
  have W0 : Wk p l e _ s m _ below meth c Z EL0 n0 [al, tt] "java/util/ArrayList" [] T0 0 0 h0 := W0
  have hSA := fun d hd => hw d (sa_in d hd)
  have hws := fun d hd => hw d (ws_in d hd)
  refine Go.of (fun _ kk => castTop (ef41 m al ub tt (1 : Int32)) kk) ?_
  refine gof T0 m 2 #[vr al, vr ub, vr tt, vi 1] [(.ref tt), (.int 1)] (fun _ kk => XS.iloadN W0.here hx rfl (hb hby d1017_0) rfl (XS.aloadN W0.here hx rfl (hb hby d1017_1) rfl rfl kk)) ?_
  refine W0.alen hx Att rfl rfl (hb hby d1017_2) ?_
  refine gof T0 m 14 #[vr al, vr ub, vr tt, vi 1] [(.ref ub), (.int 1), (.ref tt)] (fun _ kk => XS.icmpYes W0.here hx rfl (pc0 := 3) (pc' := 11) rfl (hb hby d1017_3) rfl (XT.ii_ne_t (by decide +kernel)) (by decide +kernel) (by decide +kernel) (XS.aloadN W0.here hx rfl (hb hby d1017_11) rfl rfl (XS.iloadN W0.here hx rfl (hb hby d1017_12) rfl (XS.aloadN W0.here hx rfl (hb hby d1017_13) rfl rfl kk)))) ?_
  refine W0.stR hx Att Otk (Ins.of_exa Eun (hw _ (mI 190 rfl))) ⟨by decide, by decide⟩ 1 rfl (Nat.le_of_ble_eq_true rfl) gtt (Or.inl (mI 1 rfl)) rfl rfl (hb hby d1017_14) (fun T1 h1 W1 K1 A1 => ?_)
  have V1 : Arv Z h1 tt kc (.object "java/lang/Object") (10 : Int32) [(.ref ua), (.ref ub), .null, .null, .null, .null, .null, .null, .null, .null] .null := A1
  refine gof T1 m 19 #[vr al, vr ub, vr tt, vi 1] [(.int 2), (.ref al)] (fun _ kk => XS.aloadN W1.here hx rfl (hb hby d1017_15) rfl rfl (XS.iloadN W1.here hx rfl (hb hby d1017_16) rfl (XS.iconst W1.here hx rfl (hb hby d1017_17) (XS.iadd W1.here hx rfl (hb hby d1017_18) rfl kk)))) ?_
  have k2 := (Fsa.keep K1 (ninS nat nin0))
  have k3 := (Eal.keep K1)
  refine W1.putF hx (host := "") (Or.inl (hw _ (mI 114 rfl))) Via.refl k2 k3 (Or.inl (hw _ (mI 115 rfl))) (hw _ (mI 61 rfl)) (ty := .int) (by decide +kernel) rfl rfl gal (Or.inl (mI 0 rfl)) (Or.inr ⟨by decide, by decide⟩) rfl rfl (hb hby d1017_19) (fun T4 h4 W4 w4 => ?_)
  have k5 := (Fea.keep K1 (ninS nat nin0))
  have k6 := (Fma.keep K1 (ninS nat nin0))
  have K4 := Keep.of_wr w4
  have k7 := k5.other w4 (Or.inr (slot_ne (Or.inl (hw _ (mI 83 rfl))) (Or.inl (hw _ (mI 115 rfl))) (by decide +kernel) (t := (.array (.object "java/lang/Object"))) (t' := .int) (by decide +kernel) (by decide +kernel)))
  have k8 := k6.other w4 (Or.inr (slot_ne (Or.inl (hw _ (mI 80 rfl))) (Or.inl (hw _ (mI 115 rfl))) (by decide +kernel) (t := .int) (t' := .int) (by decide +kernel) (by decide +kernel)))
  have k9 := k2.same w4
  show Go p e below _ (T4.setTop (mkF m 22 #[vr al, vr ub, vr tt, vi 1] []))
  have k10 := (V1.keep K4 (ninS (nat).symm nin0))
  exact W4.retV hx hEL hs hlk (by decide +kernel) (by decide +kernel) hret (hb hby d1017_22) (fun S hS => ⟨rfl, k7, k9, k8, k10⟩)
theorem ef44 (m : MethodId) (x0 : Addr) (x1 : Addr)  : entryFrame m #[(.ref x0), (.ref x1)] 2 = mkF m 0 #[vr x0, vr x1] [] := by first | (simp [entryFrame, mkF, argsToLocals, Value.category]; done) | rfl | rfl
set_option maxRecDepth 65536 in
set_option maxHeartbeats 40000000 in
theorem rm44 (l : Launch) (Z : State) (a0 : Array Value) (hw : ∀ d ∈ tables_1, d.before a0 Z = true) (hEL : EW Z a0 EL0) (zc : Int32) (SC : Sta Z Z.heap "java/lang/String" "COMPACT_STRINGS" "Z" (.int zc)) (hzc : ¬ zc = 0) (fm : Value) (SF : Sta Z Z.heap "jdk/internal/util/Preconditions" "SIOOBE_FORMATTER" "Ljava/util/function/BiFunction;" fm) (rfm : fm.isRef = true) (al : Addr) (tt : Addr) (kc : ClassId) (mc : Int32) (ua : Addr) (ub : Addr) (h0 : Heap) {n0 : Nat} (O0 : Old Z n0 h0) (Eal : Exa Z h0 al "java/util/ArrayList") (Fea : Fld Z h0 al "java/util/ArrayList" "elementData" "[Ljava/lang/Object;" (.ref tt)) (Fsa : Fld Z h0 al "java/util/ArrayList" "size" "I" (.int (1 : Int32))) (Fma : Fld Z h0 al "java/util/AbstractList" "modCount" "I" (.int mc)) (Att : Arv Z h0 tt kc (.object "java/lang/Object") (10 : Int32) [(.ref ua), .null, .null, .null, .null, .null, .null, .null, .null, .null] .null) (Otk : Ovr Z kc "java/lang/Object") (Eun : Exa Z h0 ub "org/portcullis/acl/ObjectIdentity") (gal : n0 ≤ al) (gtt : n0 ≤ tt) (nat : al ≠ tt) :
    Met l Z EL0 n0 (⟨"java/util/ArrayList", "add", "(Ljava/lang/Object;)Z"⟩ : MethodName) jdk_38_method_25_code 2 (some .boolean) [] ({ frames := 1, cells := 0, slots := 0, locals := 15 } : Room) #[(.ref al), (.ref ub)] h0 [al, tt] [] (fun v h' S => v = some (.int 1) ∧ Fld Z h' al "java/util/ArrayList" "elementData" "[Ljava/lang/Object;" (.ref tt) ∧ Fld Z h' al "java/util/ArrayList" "size" "I" (.int (2 : Int32)) ∧ Fld Z h' al "java/util/AbstractList" "modCount" "I" (.int (mc + (1 : Int32))) ∧ Arv Z h' tt kc (.object "java/lang/Object") (10 : Int32) [(.ref ua), (.ref ub), .null, .null, .null, .null, .null, .null, .null, .null] .null) := by
  refine Met.of (plainFor_of_name pn10) O0 ?_
  intro p e s m below meth c T0 hx hby hml hret hlk hnm hs W0
  have W0 : Wk p l e _ s m _ below meth c Z EL0 n0 [al, tt] "java/util/ArrayList" [] T0 0 0 h0 := W0
  have hSA := fun d hd => hw d (sa_in d hd)
  have hws := fun d hd => hw d (ws_in d hd)
  refine Go.of (fun _ kk => castTop (ef44 m al ub) kk) ?_
  refine gof T0 m 2 #[vr al, vr ub] [(.ref al), (.ref al)] (fun _ kk => XS.aloadN W0.here hx rfl (hb hby d1018_0) rfl rfl (XS.dup W0.here hx rfl (hb hby d1018_1) rfl rfl kk)) ?_
  refine W0.getF hx (host := "") (Or.inl (hw _ (mI 167 rfl))) (Via.of (hw _ (mI 168 rfl))) Fma rfl rfl (hb hby d1018_2) (fun T1 W1 => ?_)
  refine gof T1 m 7 #[vr al, vr ub] [(.int (mc + (1 : Int32))), (.ref al)] (fun _ kk => XS.iconst W1.here hx rfl (hb hby d1018_5) (XS.iadd W1.here hx rfl (hb hby d1018_6) rfl kk)) ?_
  refine W1.putF hx (host := "") (Or.inl (hw _ (mI 167 rfl))) (Via.of (hw _ (mI 168 rfl))) Fma Eal (Or.inl (hw _ (mI 80 rfl))) (hw _ (mI 61 rfl)) (ty := .int) (by decide +kernel) rfl rfl gal (Or.inl (mI 0 rfl)) (Or.inr ⟨by decide, by decide⟩) rfl rfl (hb hby d1018_7) (fun T2 h2 W2 w2 => ?_)
  have K2 := Keep.of_wr w2
  have k3 := Fea.other w2 (Or.inr (slot_ne (Or.inl (hw _ (mI 83 rfl))) (Or.inl (hw _ (mI 80 rfl))) (by decide +kernel) (t := (.array (.object "java/lang/Object"))) (t' := .int) (by decide +kernel) (by decide +kernel)))
  have k4 := Fsa.other w2 (Or.inr (slot_ne (Or.inl (hw _ (mI 115 rfl))) (Or.inl (hw _ (mI 80 rfl))) (by decide +kernel) (t := .int) (t' := .int) (by decide +kernel) (by decide +kernel)))
  have k5 := Fma.same w2
  refine gof T2 m 13 #[vr al, vr ub] [(.ref al), (.ref ub), (.ref al)] (fun _ kk => XS.aloadN W2.here hx rfl (hb hby d1018_10) rfl rfl (XS.aloadN W2.here hx rfl (hb hby d1018_11) rfl rfl (XS.aloadN W2.here hx rfl (hb hby d1018_12) rfl rfl kk))) ?_
  refine W2.getF hx (host := "") (Or.inl (hw _ (mI 82 rfl))) Via.refl k3 rfl rfl (hb hby d1018_13) (fun T6 W6 => ?_)
  refine gof T6 m 17 #[vr al, vr ub] [(.ref al), (.ref tt), (.ref ub), (.ref al)] (fun _ kk => XS.aloadN W6.here hx rfl (hb hby d1018_16) rfl rfl kk) ?_
  refine W6.getF hx (host := "") (Or.inl (hw _ (mI 114 rfl))) Via.refl k4 rfl rfl (hb hby d1018_17) (fun T7 W7 => ?_)
  show Go p e below _ (T7.setTop (mkF m 20 #[vr al, vr ub] [(.int 1), (.ref tt), (.ref ub), (.ref al)]))
  have k9 := (Eal.keep K2)
  have k10 := (Att.keep K2 (ninS (nat).symm nin0))
  have k11 := (Eun.keep K2)
  refine W7.callW hx hEL (hw _ (mI 169 rfl)) (hw _ (mI 172 rfl)) (hw _ (mI 170 rfl)) (hw _ (mI 62 rfl)) (hw _ (mI 173 rfl)) (by decide +kernel) k9 (a := al) (argsL := [(.ref ub), (.ref tt), (.int (1 : Int32))]) (rest := []) (rm41 l Z a0 hw hEL zc SC hzc fm SF rfm al tt kc (mc + (1 : Int32)) ua ub h2 W7.old k9 k3 k4 k5 k10 Otk k11 gal gtt nat) all0 (by decide +kernel) (Wd := 0) (by decide +kernel) (by decide +kernel) (by decide +kernel) (allS ⟨gal, (Or.inl (mI 0 rfl))⟩ (allS ⟨gtt, (Or.inl (mI 1 rfl))⟩ all0)) rfl (by rw [hml]; rfl) (lenOf pd7 rfl) rfl (by show 2 * 0 + _ ≤ _; exact Nat.le_of_eq rfl) (hb hby d1018_20) (fun T8 h8 v8 P8 Ws8 K8 q8 => ?_)
  have W8 := Ws8 [] all0
  obtain ⟨rfl, Fe8, Fs8, Fm8, A8⟩ := q8
  refine gof T8 m 24 #[vr al, vr ub] [(.int 1)] (fun _ kk => XS.iconst W8.here hx rfl (hb hby d1018_23) kk) ?_
  exact W8.retI hx hEL hs hlk (by decide +kernel) (by decide +kernel) hret (by simp) rfl (hb hby d1018_24) (fun S hS => ⟨rfl, Fe8, Fs8, Fm8, A8⟩)
theorem ef42 (m : MethodId) (x0 : Addr) (x1 : Addr) (x2 : Addr) (x3 : Int32)  : entryFrame m #[(.ref x0), (.ref x1), (.ref x2), (.int x3)] 4 = mkF m 0 #[vr x0, vr x1, vr x2, vi x3] [] := by first | (simp [entryFrame, mkF, argsToLocals, Value.category]; done) | rfl | rfl
set_option maxRecDepth 65536 in
set_option maxHeartbeats 40000000 in
theorem rm42 (l : Launch) (Z : State) (a0 : Array Value) (hw : ∀ d ∈ tables_1, d.before a0 Z = true) (hEL : EW Z a0 EL0) (zc : Int32) (SC : Sta Z Z.heap "java/lang/String" "COMPACT_STRINGS" "Z" (.int zc)) (hzc : ¬ zc = 0) (fm : Value) (SF : Sta Z Z.heap "jdk/internal/util/Preconditions" "SIOOBE_FORMATTER" "Ljava/util/function/BiFunction;" fm) (rfm : fm.isRef = true) (al : Addr) (tt : Addr) (kc : ClassId) (mc : Int32) (ua : Addr) (ub : Addr) (uc : Addr) (h0 : Heap) {n0 : Nat} (O0 : Old Z n0 h0) (Eal : Exa Z h0 al "java/util/ArrayList") (Fea : Fld Z h0 al "java/util/ArrayList" "elementData" "[Ljava/lang/Object;" (.ref tt)) (Fsa : Fld Z h0 al "java/util/ArrayList" "size" "I" (.int (2 : Int32))) (Fma : Fld Z h0 al "java/util/AbstractList" "modCount" "I" (.int mc)) (Att : Arv Z h0 tt kc (.object "java/lang/Object") (10 : Int32) [(.ref ua), (.ref ub), .null, .null, .null, .null, .null, .null, .null, .null] .null) (Otk : Ovr Z kc "java/lang/Object") (Eun : Exa Z h0 uc "org/portcullis/acl/ObjectIdentity") (gal : n0 ≤ al) (gtt : n0 ≤ tt) (nat : al ≠ tt) :
    Met l Z EL0 n0 (⟨"java/util/ArrayList", "add", "(Ljava/lang/Object;[Ljava/lang/Object;I)V"⟩ : MethodName) jdk_38_method_24_code 4 none [] ({ frames := 0, cells := 0, slots := 0, locals := 0 } : Room) #[(.ref al), (.ref uc), (.ref tt), (.int (2 : Int32))] h0 [al, tt] [] (fun v h' S => v = none ∧ Fld Z h' al "java/util/ArrayList" "elementData" "[Ljava/lang/Object;" (.ref tt) ∧ Fld Z h' al "java/util/ArrayList" "size" "I" (.int (3 : Int32)) ∧ Fld Z h' al "java/util/AbstractList" "modCount" "I" (.int mc) ∧ Arv Z h' tt kc (.object "java/lang/Object") (10 : Int32) [(.ref ua), (.ref ub), (.ref uc), .null, .null, .null, .null, .null, .null, .null] .null) := by
  refine Met.of (plainFor_of_name pn10) O0 ?_
  intro p e s m below meth c T0 hx hby hml hret hlk hnm hs W0
  have W0 : Wk p l e _ s m _ below meth c Z EL0 n0 [al, tt] "java/util/ArrayList" [] T0 0 0 h0 := W0
  have hSA := fun d hd => hw d (sa_in d hd)
  have hws := fun d hd => hw d (ws_in d hd)
  refine Go.of (fun _ kk => castTop (ef42 m al uc tt (2 : Int32)) kk) ?_
  refine gof T0 m 2 #[vr al, vr uc, vr tt, vi 2] [(.ref tt), (.int 2)] (fun _ kk => XS.iloadN W0.here hx rfl (hb hby d1017_0) rfl (XS.aloadN W0.here hx rfl (hb hby d1017_1) rfl rfl kk)) ?_
  refine W0.alen hx Att rfl rfl (hb hby d1017_2) ?_
  refine gof T0 m 14 #[vr al, vr uc, vr tt, vi 2] [(.ref uc), (.int 2), (.ref tt)] (fun _ kk => XS.icmpYes W0.here hx rfl (pc0 := 3) (pc' := 11) rfl (hb hby d1017_3) rfl (XT.ii_ne_t (by decide +kernel)) (by decide +kernel) (by decide +kernel) (XS.aloadN W0.here hx rfl (hb hby d1017_11) rfl rfl (XS.iloadN W0.here hx rfl (hb hby d1017_12) rfl (XS.aloadN W0.here hx rfl (hb hby d1017_13) rfl rfl kk)))) ?_
  refine W0.stR hx Att Otk (Ins.of_exa Eun (hw _ (mI 190 rfl))) ⟨by decide, by decide⟩ 2 rfl (Nat.le_of_ble_eq_true rfl) gtt (Or.inl (mI 1 rfl)) rfl rfl (hb hby d1017_14) (fun T1 h1 W1 K1 A1 => ?_)
  have V1 : Arv Z h1 tt kc (.object "java/lang/Object") (10 : Int32) [(.ref ua), (.ref ub), (.ref uc), .null, .null, .null, .null, .null, .null, .null] .null := A1
  refine gof T1 m 19 #[vr al, vr uc, vr tt, vi 2] [(.int 3), (.ref al)] (fun _ kk => XS.aloadN W1.here hx rfl (hb hby d1017_15) rfl rfl (XS.iloadN W1.here hx rfl (hb hby d1017_16) rfl (XS.iconst W1.here hx rfl (hb hby d1017_17) (XS.iadd W1.here hx rfl (hb hby d1017_18) rfl kk)))) ?_
  have k2 := (Fsa.keep K1 (ninS nat nin0))
  have k3 := (Eal.keep K1)
  refine W1.putF hx (host := "") (Or.inl (hw _ (mI 114 rfl))) Via.refl k2 k3 (Or.inl (hw _ (mI 115 rfl))) (hw _ (mI 61 rfl)) (ty := .int) (by decide +kernel) rfl rfl gal (Or.inl (mI 0 rfl)) (Or.inr ⟨by decide, by decide⟩) rfl rfl (hb hby d1017_19) (fun T4 h4 W4 w4 => ?_)
  have k5 := (Fea.keep K1 (ninS nat nin0))
  have k6 := (Fma.keep K1 (ninS nat nin0))
  have K4 := Keep.of_wr w4
  have k7 := k5.other w4 (Or.inr (slot_ne (Or.inl (hw _ (mI 83 rfl))) (Or.inl (hw _ (mI 115 rfl))) (by decide +kernel) (t := (.array (.object "java/lang/Object"))) (t' := .int) (by decide +kernel) (by decide +kernel)))
  have k8 := k6.other w4 (Or.inr (slot_ne (Or.inl (hw _ (mI 80 rfl))) (Or.inl (hw _ (mI 115 rfl))) (by decide +kernel) (t := .int) (t' := .int) (by decide +kernel) (by decide +kernel)))
  have k9 := k2.same w4
  show Go p e below _ (T4.setTop (mkF m 22 #[vr al, vr uc, vr tt, vi 2] []))
  have k10 := (V1.keep K4 (ninS (nat).symm nin0))
  exact W4.retV hx hEL hs hlk (by decide +kernel) (by decide +kernel) hret (hb hby d1017_22) (fun S hS => ⟨rfl, k7, k9, k8, k10⟩)
theorem ef45 (m : MethodId) (x0 : Addr) (x1 : Addr)  : entryFrame m #[(.ref x0), (.ref x1)] 2 = mkF m 0 #[vr x0, vr x1] [] := by first | (simp [entryFrame, mkF, argsToLocals, Value.category]; done) | rfl | rfl
set_option maxRecDepth 65536 in
set_option maxHeartbeats 40000000 in
theorem rm45 (l : Launch) (Z : State) (a0 : Array Value) (hw : ∀ d ∈ tables_1, d.before a0 Z = true) (hEL : EW Z a0 EL0) (zc : Int32) (SC : Sta Z Z.heap "java/lang/String" "COMPACT_STRINGS" "Z" (.int zc)) (hzc : ¬ zc = 0) (fm : Value) (SF : Sta Z Z.heap "jdk/internal/util/Preconditions" "SIOOBE_FORMATTER" "Ljava/util/function/BiFunction;" fm) (rfm : fm.isRef = true) (al : Addr) (tt : Addr) (kc : ClassId) (mc : Int32) (ua : Addr) (ub : Addr) (uc : Addr) (h0 : Heap) {n0 : Nat} (O0 : Old Z n0 h0) (Eal : Exa Z h0 al "java/util/ArrayList") (Fea : Fld Z h0 al "java/util/ArrayList" "elementData" "[Ljava/lang/Object;" (.ref tt)) (Fsa : Fld Z h0 al "java/util/ArrayList" "size" "I" (.int (2 : Int32))) (Fma : Fld Z h0 al "java/util/AbstractList" "modCount" "I" (.int mc)) (Att : Arv Z h0 tt kc (.object "java/lang/Object") (10 : Int32) [(.ref ua), (.ref ub), .null, .null, .null, .null, .null, .null, .null, .null] .null) (Otk : Ovr Z kc "java/lang/Object") (Eun : Exa Z h0 uc "org/portcullis/acl/ObjectIdentity") (gal : n0 ≤ al) (gtt : n0 ≤ tt) (nat : al ≠ tt) :
    Met l Z EL0 n0 (⟨"java/util/ArrayList", "add", "(Ljava/lang/Object;)Z"⟩ : MethodName) jdk_38_method_25_code 2 (some .boolean) [] ({ frames := 1, cells := 0, slots := 0, locals := 15 } : Room) #[(.ref al), (.ref uc)] h0 [al, tt] [] (fun v h' S => v = some (.int 1) ∧ Fld Z h' al "java/util/ArrayList" "elementData" "[Ljava/lang/Object;" (.ref tt) ∧ Fld Z h' al "java/util/ArrayList" "size" "I" (.int (3 : Int32)) ∧ Fld Z h' al "java/util/AbstractList" "modCount" "I" (.int (mc + (1 : Int32))) ∧ Arv Z h' tt kc (.object "java/lang/Object") (10 : Int32) [(.ref ua), (.ref ub), (.ref uc), .null, .null, .null, .null, .null, .null, .null] .null) := by
  refine Met.of (plainFor_of_name pn10) O0 ?_
  intro p e s m below meth c T0 hx hby hml hret hlk hnm hs W0
  have W0 : Wk p l e _ s m _ below meth c Z EL0 n0 [al, tt] "java/util/ArrayList" [] T0 0 0 h0 := W0
  have hSA := fun d hd => hw d (sa_in d hd)
  have hws := fun d hd => hw d (ws_in d hd)
  refine Go.of (fun _ kk => castTop (ef45 m al uc) kk) ?_
  refine gof T0 m 2 #[vr al, vr uc] [(.ref al), (.ref al)] (fun _ kk => XS.aloadN W0.here hx rfl (hb hby d1018_0) rfl rfl (XS.dup W0.here hx rfl (hb hby d1018_1) rfl rfl kk)) ?_
  refine W0.getF hx (host := "") (Or.inl (hw _ (mI 167 rfl))) (Via.of (hw _ (mI 168 rfl))) Fma rfl rfl (hb hby d1018_2) (fun T1 W1 => ?_)
  refine gof T1 m 7 #[vr al, vr uc] [(.int (mc + (1 : Int32))), (.ref al)] (fun _ kk => XS.iconst W1.here hx rfl (hb hby d1018_5) (XS.iadd W1.here hx rfl (hb hby d1018_6) rfl kk)) ?_
  refine W1.putF hx (host := "") (Or.inl (hw _ (mI 167 rfl))) (Via.of (hw _ (mI 168 rfl))) Fma Eal (Or.inl (hw _ (mI 80 rfl))) (hw _ (mI 61 rfl)) (ty := .int) (by decide +kernel) rfl rfl gal (Or.inl (mI 0 rfl)) (Or.inr ⟨by decide, by decide⟩) rfl rfl (hb hby d1018_7) (fun T2 h2 W2 w2 => ?_)
  have K2 := Keep.of_wr w2
  have k3 := Fea.other w2 (Or.inr (slot_ne (Or.inl (hw _ (mI 83 rfl))) (Or.inl (hw _ (mI 80 rfl))) (by decide +kernel) (t := (.array (.object "java/lang/Object"))) (t' := .int) (by decide +kernel) (by decide +kernel)))
  have k4 := Fsa.other w2 (Or.inr (slot_ne (Or.inl (hw _ (mI 115 rfl))) (Or.inl (hw _ (mI 80 rfl))) (by decide +kernel) (t := .int) (t' := .int) (by decide +kernel) (by decide +kernel)))
  have k5 := Fma.same w2
  refine gof T2 m 13 #[vr al, vr uc] [(.ref al), (.ref uc), (.ref al)] (fun _ kk => XS.aloadN W2.here hx rfl (hb hby d1018_10) rfl rfl (XS.aloadN W2.here hx rfl (hb hby d1018_11) rfl rfl (XS.aloadN W2.here hx rfl (hb hby d1018_12) rfl rfl kk))) ?_
  refine W2.getF hx (host := "") (Or.inl (hw _ (mI 82 rfl))) Via.refl k3 rfl rfl (hb hby d1018_13) (fun T6 W6 => ?_)
  refine gof T6 m 17 #[vr al, vr uc] [(.ref al), (.ref tt), (.ref uc), (.ref al)] (fun _ kk => XS.aloadN W6.here hx rfl (hb hby d1018_16) rfl rfl kk) ?_
  refine W6.getF hx (host := "") (Or.inl (hw _ (mI 114 rfl))) Via.refl k4 rfl rfl (hb hby d1018_17) (fun T7 W7 => ?_)
  show Go p e below _ (T7.setTop (mkF m 20 #[vr al, vr uc] [(.int 2), (.ref tt), (.ref uc), (.ref al)]))
  have k9 := (Eal.keep K2)
  have k10 := (Att.keep K2 (ninS (nat).symm nin0))
  have k11 := (Eun.keep K2)
  refine W7.callW hx hEL (hw _ (mI 169 rfl)) (hw _ (mI 172 rfl)) (hw _ (mI 170 rfl)) (hw _ (mI 62 rfl)) (hw _ (mI 173 rfl)) (by decide +kernel) k9 (a := al) (argsL := [(.ref uc), (.ref tt), (.int (2 : Int32))]) (rest := []) (rm42 l Z a0 hw hEL zc SC hzc fm SF rfm al tt kc (mc + (1 : Int32)) ua ub uc h2 W7.old k9 k3 k4 k5 k10 Otk k11 gal gtt nat) all0 (by decide +kernel) (Wd := 0) (by decide +kernel) (by decide +kernel) (by decide +kernel) (allS ⟨gal, (Or.inl (mI 0 rfl))⟩ (allS ⟨gtt, (Or.inl (mI 1 rfl))⟩ all0)) rfl (by rw [hml]; rfl) (lenOf pd7 rfl) rfl (by show 2 * 0 + _ ≤ _; exact Nat.le_of_eq rfl) (hb hby d1018_20) (fun T8 h8 v8 P8 Ws8 K8 q8 => ?_)
  have W8 := Ws8 [] all0
  obtain ⟨rfl, Fe8, Fs8, Fm8, A8⟩ := q8
  refine gof T8 m 24 #[vr al, vr uc] [(.int 1)] (fun _ kk => XS.iconst W8.here hx rfl (hb hby d1018_23) kk) ?_
  exact W8.retI hx hEL hs hlk (by decide +kernel) (by decide +kernel) hret (by simp) rfl (hb hby d1018_24) (fun S hS => ⟨rfl, Fe8, Fs8, Fm8, A8⟩)
theorem d1019_0 : decode jdk_38_method_9_code 0 = .ok (.aload_n 0, 1) := by decide +kernel
theorem d1019_1 : decode jdk_38_method_9_code 1 = .ok (.getfield 48, 3) := by decide +kernel
theorem d1019_4 : decode jdk_38_method_9_code 4 = .ok (.ifCond .ne 7, 3) := by decide +kernel
theorem d1019_7 : decode jdk_38_method_9_code 7 = .ok (.iconst 1, 1) := by decide +kernel
theorem d1019_8 : decode jdk_38_method_9_code 8 = .ok (.goto 4, 3) := by decide +kernel
theorem d1019_12 : decode jdk_38_method_9_code 12 = .ok (.ireturn, 1) := by decide +kernel
theorem ef50 (m : MethodId) (x0 : Addr)  : entryFrame m #[(.ref x0)] 1 = mkF m 0 #[vr x0] [] := by first | (simp [entryFrame, mkF, argsToLocals, Value.category]; done) | rfl | rfl
set_option maxRecDepth 65536 in
set_option maxHeartbeats 40000000 in
theorem rm50 (l : Launch) (Z : State) (a0 : Array Value) (hw : ∀ d ∈ tables_1, d.before a0 Z = true) (hEL : EW Z a0 EL0) (zc : Int32) (SC : Sta Z Z.heap "java/lang/String" "COMPACT_STRINGS" "Z" (.int zc)) (hzc : ¬ zc = 0) (fm : Value) (SF : Sta Z Z.heap "jdk/internal/util/Preconditions" "SIOOBE_FORMATTER" "Ljava/util/function/BiFunction;" fm) (rfm : fm.isRef = true) (al : Addr) (h0 : Heap) {n0 : Nat} (O0 : Old Z n0 h0) (Fsa : Fld Z h0 al "java/util/ArrayList" "size" "I" (.int (0 : Int32))) :
    Met l Z EL0 n0 (⟨"java/util/ArrayList", "isEmpty", "()Z"⟩ : MethodName) jdk_38_method_9_code 1 (some .boolean) [] ({ frames := 0, cells := 0, slots := 0, locals := 0 } : Room) #[(.ref al)] h0 [] [] (fun v h' S => v = some (.int (1 : Int32)) ∧ h0 = h') := by
  refine Met.of (plainFor_of_name pn10) O0 ?_
  intro p e s m below meth c T0 hx hby hml hret hlk hnm hs W0
  have W0 : Wk p l e _ s m _ below meth c Z EL0 n0 [] "java/util/ArrayList" [] T0 0 0 h0 := W0
  have hSA := fun d hd => hw d (sa_in d hd)
  have hws := fun d hd => hw d (ws_in d hd)
  refine Go.of (fun _ kk => castTop (ef50 m al) kk) ?_
  refine gof T0 m 1 #[vr al] [(.ref al)] (fun _ kk => XS.aloadN W0.here hx rfl (hb hby d1019_0) rfl rfl kk) ?_
  refine W0.getF hx (host := "") (Or.inl (hw _ (mI 114 rfl))) Via.refl Fsa rfl rfl (hb hby d1019_1) (fun T1 W1 => ?_)
  refine gof T1 m 12 #[vr al] [(.int 1)] (fun _ kk => XS.ifNo W1.here hx rfl (hb hby d1019_4) rfl (XT.i0_ne_f (by decide +kernel)) (XS.iconst W1.here hx rfl (hb hby d1019_7) (XS.goto W1.here hx rfl (pc0 := 8) (pc' := 12) rfl (hb hby d1019_8) (by decide +kernel) (by decide +kernel) kk))) ?_
  exact W1.retI hx hEL hs hlk (by decide +kernel) (by decide +kernel) hret (by simp) rfl (hb hby d1019_12) (fun S hS => ⟨rfl, rfl⟩)
theorem d1019_11 : decode jdk_38_method_9_code 11 = .ok (.iconst 0, 1) := by decide +kernel
theorem ef51 (m : MethodId) (x0 : Addr)  : entryFrame m #[(.ref x0)] 1 = mkF m 0 #[vr x0] [] := by first | (simp [entryFrame, mkF, argsToLocals, Value.category]; done) | rfl | rfl
set_option maxRecDepth 65536 in
set_option maxHeartbeats 40000000 in
theorem rm51 (l : Launch) (Z : State) (a0 : Array Value) (hw : ∀ d ∈ tables_1, d.before a0 Z = true) (hEL : EW Z a0 EL0) (zc : Int32) (SC : Sta Z Z.heap "java/lang/String" "COMPACT_STRINGS" "Z" (.int zc)) (hzc : ¬ zc = 0) (fm : Value) (SF : Sta Z Z.heap "jdk/internal/util/Preconditions" "SIOOBE_FORMATTER" "Ljava/util/function/BiFunction;" fm) (rfm : fm.isRef = true) (al : Addr) (h0 : Heap) {n0 : Nat} (O0 : Old Z n0 h0) (Fsa : Fld Z h0 al "java/util/ArrayList" "size" "I" (.int (1 : Int32))) :
    Met l Z EL0 n0 (⟨"java/util/ArrayList", "isEmpty", "()Z"⟩ : MethodName) jdk_38_method_9_code 1 (some .boolean) [] ({ frames := 0, cells := 0, slots := 0, locals := 0 } : Room) #[(.ref al)] h0 [] [] (fun v h' S => v = some (.int (0 : Int32)) ∧ h0 = h') := by
  refine Met.of (plainFor_of_name pn10) O0 ?_
  intro p e s m below meth c T0 hx hby hml hret hlk hnm hs W0
  have W0 : Wk p l e _ s m _ below meth c Z EL0 n0 [] "java/util/ArrayList" [] T0 0 0 h0 := W0
  have hSA := fun d hd => hw d (sa_in d hd)
  have hws := fun d hd => hw d (ws_in d hd)
  refine Go.of (fun _ kk => castTop (ef51 m al) kk) ?_
  refine gof T0 m 1 #[vr al] [(.ref al)] (fun _ kk => XS.aloadN W0.here hx rfl (hb hby d1019_0) rfl rfl kk) ?_
  refine W0.getF hx (host := "") (Or.inl (hw _ (mI 114 rfl))) Via.refl Fsa rfl rfl (hb hby d1019_1) (fun T1 W1 => ?_)
  refine gof T1 m 12 #[vr al] [(.int 0)] (fun _ kk => XS.ifYes W1.here hx rfl (pc0 := 4) (pc' := 11) rfl (hb hby d1019_4) rfl (XT.i0_ne_t (by decide +kernel)) (by decide +kernel) (by decide +kernel) (XS.iconst W1.here hx rfl (hb hby d1019_11) kk)) ?_
  exact W1.retI hx hEL hs hlk (by decide +kernel) (by decide +kernel) hret (by simp) rfl (hb hby d1019_12) (fun S hS => ⟨rfl, rfl⟩)
theorem ef52 (m : MethodId) (x0 : Addr)  : entryFrame m #[(.ref x0)] 1 = mkF m 0 #[vr x0] [] := by first | (simp [entryFrame, mkF, argsToLocals, Value.category]; done) | rfl | rfl
set_option maxRecDepth 65536 in
set_option maxHeartbeats 40000000 in
theorem rm52 (l : Launch) (Z : State) (a0 : Array Value) (hw : ∀ d ∈ tables_1, d.before a0 Z = true) (hEL : EW Z a0 EL0) (zc : Int32) (SC : Sta Z Z.heap "java/lang/String" "COMPACT_STRINGS" "Z" (.int zc)) (hzc : ¬ zc = 0) (fm : Value) (SF : Sta Z Z.heap "jdk/internal/util/Preconditions" "SIOOBE_FORMATTER" "Ljava/util/function/BiFunction;" fm) (rfm : fm.isRef = true) (al : Addr) (h0 : Heap) {n0 : Nat} (O0 : Old Z n0 h0) (Fsa : Fld Z h0 al "java/util/ArrayList" "size" "I" (.int (2 : Int32))) :
    Met l Z EL0 n0 (⟨"java/util/ArrayList", "isEmpty", "()Z"⟩ : MethodName) jdk_38_method_9_code 1 (some .boolean) [] ({ frames := 0, cells := 0, slots := 0, locals := 0 } : Room) #[(.ref al)] h0 [] [] (fun v h' S => v = some (.int (0 : Int32)) ∧ h0 = h') := by
  refine Met.of (plainFor_of_name pn10) O0 ?_
  intro p e s m below meth c T0 hx hby hml hret hlk hnm hs W0
  have W0 : Wk p l e _ s m _ below meth c Z EL0 n0 [] "java/util/ArrayList" [] T0 0 0 h0 := W0
  have hSA := fun d hd => hw d (sa_in d hd)
  have hws := fun d hd => hw d (ws_in d hd)
  refine Go.of (fun _ kk => castTop (ef52 m al) kk) ?_
  refine gof T0 m 1 #[vr al] [(.ref al)] (fun _ kk => XS.aloadN W0.here hx rfl (hb hby d1019_0) rfl rfl kk) ?_
  refine W0.getF hx (host := "") (Or.inl (hw _ (mI 114 rfl))) Via.refl Fsa rfl rfl (hb hby d1019_1) (fun T1 W1 => ?_)
  refine gof T1 m 12 #[vr al] [(.int 0)] (fun _ kk => XS.ifYes W1.here hx rfl (pc0 := 4) (pc' := 11) rfl (hb hby d1019_4) rfl (XT.i0_ne_t (by decide +kernel)) (by decide +kernel) (by decide +kernel) (XS.iconst W1.here hx rfl (hb hby d1019_11) kk)) ?_
  exact W1.retI hx hEL hs hlk (by decide +kernel) (by decide +kernel) hret (by simp) rfl (hb hby d1019_12) (fun S hS => ⟨rfl, rfl⟩)
theorem ef53 (m : MethodId) (x0 : Addr)  : entryFrame m #[(.ref x0)] 1 = mkF m 0 #[vr x0] [] := by first | (simp [entryFrame, mkF, argsToLocals, Value.category]; done) | rfl | rfl
set_option maxRecDepth 65536 in
set_option maxHeartbeats 40000000 in
theorem rm53 (l : Launch) (Z : State) (a0 : Array Value) (hw : ∀ d ∈ tables_1, d.before a0 Z = true) (hEL : EW Z a0 EL0) (zc : Int32) (SC : Sta Z Z.heap "java/lang/String" "COMPACT_STRINGS" "Z" (.int zc)) (hzc : ¬ zc = 0) (fm : Value) (SF : Sta Z Z.heap "jdk/internal/util/Preconditions" "SIOOBE_FORMATTER" "Ljava/util/function/BiFunction;" fm) (rfm : fm.isRef = true) (al : Addr) (h0 : Heap) {n0 : Nat} (O0 : Old Z n0 h0) (Fsa : Fld Z h0 al "java/util/ArrayList" "size" "I" (.int (3 : Int32))) :
    Met l Z EL0 n0 (⟨"java/util/ArrayList", "isEmpty", "()Z"⟩ : MethodName) jdk_38_method_9_code 1 (some .boolean) [] ({ frames := 0, cells := 0, slots := 0, locals := 0 } : Room) #[(.ref al)] h0 [] [] (fun v h' S => v = some (.int (0 : Int32)) ∧ h0 = h') := by
  refine Met.of (plainFor_of_name pn10) O0 ?_
  intro p e s m below meth c T0 hx hby hml hret hlk hnm hs W0
  have W0 : Wk p l e _ s m _ below meth c Z EL0 n0 [] "java/util/ArrayList" [] T0 0 0 h0 := W0
  have hSA := fun d hd => hw d (sa_in d hd)
  have hws := fun d hd => hw d (ws_in d hd)
  refine Go.of (fun _ kk => castTop (ef53 m al) kk) ?_
  refine gof T0 m 1 #[vr al] [(.ref al)] (fun _ kk => XS.aloadN W0.here hx rfl (hb hby d1019_0) rfl rfl kk) ?_
  refine W0.getF hx (host := "") (Or.inl (hw _ (mI 114 rfl))) Via.refl Fsa rfl rfl (hb hby d1019_1) (fun T1 W1 => ?_)
  refine gof T1 m 12 #[vr al] [(.int 0)] (fun _ kk => XS.ifYes W1.here hx rfl (pc0 := 4) (pc' := 11) rfl (hb hby d1019_4) rfl (XT.i0_ne_t (by decide +kernel)) (by decide +kernel) (by decide +kernel) (XS.iconst W1.here hx rfl (hb hby d1019_11) kk)) ?_
  exact W1.retI hx hEL hs hlk (by decide +kernel) (by decide +kernel) hret (by simp) rfl (hb hby d1019_12) (fun S hS => ⟨rfl, rfl⟩)
theorem d1020_0 : decode jdk_40_method_36_code 0 = .ok (.getstatic 90, 3) := by decide +kernel
theorem d1020_3 : decode jdk_40_method_36_code 3 = .ok (.areturn, 1) := by decide +kernel
theorem ef54 (m : MethodId)   : entryFrame m #[] 0 = mkF m 0 #[] [] := by first | (simp [entryFrame, mkF, argsToLocals, Value.category]; done) | rfl | rfl
set_option maxRecDepth 65536 in
set_option maxHeartbeats 40000000 in
theorem rm54 (l : Launch) (Z : State) (a0 : Array Value) (hw : ∀ d ∈ tables_1, d.before a0 Z = true) (hEL : EW Z a0 EL0) (zc : Int32) (SC : Sta Z Z.heap "java/lang/String" "COMPACT_STRINGS" "Z" (.int zc)) (hzc : ¬ zc = 0) (fm : Value) (SF : Sta Z Z.heap "jdk/internal/util/Preconditions" "SIOOBE_FORMATTER" "Ljava/util/function/BiFunction;" fm) (rfm : fm.isRef = true) (dfl : Addr) (el : Addr) (em : Addr) (mir : Addr) (gr : Addr) (de : Addr) (kdf : ClassId) (h0 : Heap) {n0 : Nat} (O0 : Old Z n0 h0) (OD : Arv Z Z.heap dfl kdf (.object "java/lang/Object") (0 : Int32) [] .null) (OS : Sta Z Z.heap "java/util/ArrayList" "DEFAULTCAPACITY_EMPTY_ELEMENTDATA" "[Ljava/lang/Object;" (.ref dfl)) (OL : Sta Z Z.heap "java/util/ImmutableCollections" "EMPTY_LIST" "Ljava/util/ImmutableCollections$ListN;" (.ref el)) (OM : Sta Z Z.heap "java/util/ImmutableCollections" "EMPTY" "Ljava/lang/Object;" (.ref em)) (OI : (Term.mirror "[Ljava/lang/Object;").eval a0 Z none [] Z = some (.ref mir)) (OG : Sta Z Z.heap "org/portcullis/acl/Decision" "GRANTED" "Lorg/portcullis/acl/Decision;" (.ref gr)) (OE : Sta Z Z.heap "org/portcullis/acl/Decision" "DENIED" "Lorg/portcullis/acl/Decision;" (.ref de)) :
    Met l Z EL0 n0 (⟨"java/util/List", "of", "()Ljava/util/List;"⟩ : MethodName) jdk_40_method_36_code 0 (some (.object "java/util/List")) [] ({ frames := 0, cells := 0, slots := 0, locals := 0 } : Room) #[] h0 [] [] (fun v h' S => v = some (.ref el) ∧ h0 = h') := by
  refine Met.of (plainFor_of_name pn11) O0 ?_
  intro p e s m below meth c T0 hx hby hml hret hlk hnm hs W0
  have W0 : Wk p l e _ s m _ below meth c Z EL0 n0 [] "java/util/List" [] T0 0 0 h0 := W0
  have hSA := fun d hd => hw d (sa_in d hd)
  have hws := fun d hd => hw d (ws_in d hd)
  refine Go.of (fun _ kk => castTop (ef54 m ) kk) ?_
  show Go p e below _ (T0.setTop (mkF m 0 #[] []))
  refine W0.getS hx (host := "") (Or.inl (hw _ (mI 119 rfl))) Via.refl OL rfl (hb hby d1020_0) (fun T1 W1 => ?_)
  show Go p e below _ (T1.setTop (mkF m 3 #[] [(.ref el)]))
  exact W1.retA hx hEL hs hlk (by decide +kernel) (by decide +kernel) hret rfl rfl (hb hby d1020_3) (fun S hS => ⟨rfl, rfl⟩)
theorem d1021_0 : decode jdk_31_method_10_code 0 = .ok (.aload_n 0, 1) := by decide +kernel
theorem d1021_1 : decode jdk_31_method_10_code 1 = .ok (.ifnonnull 11, 3) := by decide +kernel
theorem d1021_12 : decode jdk_31_method_10_code 12 = .ok (.aload_n 0, 1) := by decide +kernel
theorem d1021_13 : decode jdk_31_method_10_code 13 = .ok (.areturn, 1) := by decide +kernel
theorem ef55 (m : MethodId) (x0 : Addr)  : entryFrame m #[(.ref x0)] 1 = mkF m 0 #[vr x0] [] := by first | (simp [entryFrame, mkF, argsToLocals, Value.category]; done) | rfl | rfl
set_option maxRecDepth 65536 in
set_option maxHeartbeats 40000000 in
theorem rm55 (l : Launch) (Z : State) (a0 : Array Value) (hw : ∀ d ∈ tables_1, d.before a0 Z = true) (hEL : EW Z a0 EL0) (zc : Int32) (SC : Sta Z Z.heap "java/lang/String" "COMPACT_STRINGS" "Z" (.int zc)) (hzc : ¬ zc = 0) (fm : Value) (SF : Sta Z Z.heap "jdk/internal/util/Preconditions" "SIOOBE_FORMATTER" "Ljava/util/function/BiFunction;" fm) (rfm : fm.isRef = true) (oo : Addr) (h0 : Heap) {n0 : Nat} (O0 : Old Z n0 h0)  :
    Met l Z EL0 n0 (⟨"java/util/Objects", "requireNonNull", "(Ljava/lang/Object;)Ljava/lang/Object;"⟩ : MethodName) jdk_31_method_10_code 1 (some (.object "java/lang/Object")) [] ({ frames := 0, cells := 0, slots := 0, locals := 0 } : Room) #[(.ref oo)] h0 [] [] (fun v h' S => v = some (.ref oo) ∧ h0 = h') := by
  refine Met.of (plainFor_of_name pn12) O0 ?_
  intro p e s m below meth c T0 hx hby hml hret hlk hnm hs W0
  have W0 : Wk p l e _ s m _ below meth c Z EL0 n0 [] "java/util/Objects" [] T0 0 0 h0 := W0
  have hSA := fun d hd => hw d (sa_in d hd)
  have hws := fun d hd => hw d (ws_in d hd)
  refine Go.of (fun _ kk => castTop (ef55 m oo) kk) ?_
  refine gof T0 m 13 #[vr oo] [(.ref oo)] (fun _ kk => XS.aloadN W0.here hx rfl (hb hby d1021_0) rfl rfl (XS.ifnonnullYes W0.here hx rfl (pc0 := 1) (pc' := 12) rfl (hb hby d1021_1) rfl (by decide +kernel) (by decide +kernel) (XS.aloadN W0.here hx rfl (hb hby d1021_12) rfl rfl kk))) ?_
  exact W0.retA hx hEL hs hlk (by decide +kernel) (by decide +kernel) hret rfl rfl (hb hby d1021_13) (fun S hS => ⟨rfl, rfl⟩)
theorem d1022_0 : decode jdk_65_method_120_code 0 = .ok (.aload_n 2, 1) := by decide +kernel
theorem d1022_1 : decode jdk_65_method_120_code 1 = .ok (.ldc 110, 2) := by decide +kernel
theorem d1022_3 : decode jdk_65_method_120_code 3 = .ok (.if_acmp .ne 10, 3) := by decide +kernel
theorem d1022_6 : decode jdk_65_method_120_code 6 = .ok (.iload_n 1, 1) := by decide +kernel
theorem d1022_7 : decode jdk_65_method_120_code 7 = .ok (.anewarray 2, 3) := by decide +kernel
theorem d1022_10 : decode jdk_65_method_120_code 10 = .ok (.goto 14, 3) := by decide +kernel
theorem d1022_24 : decode jdk_65_method_120_code 24 = .ok (.astore_n 3, 1) := by decide +kernel
theorem d1022_25 : decode jdk_65_method_120_code 25 = .ok (.aload_n 0, 1) := by decide +kernel
theorem d1022_26 : decode jdk_65_method_120_code 26 = .ok (.iconst 0, 1) := by decide +kernel
theorem d1022_27 : decode jdk_65_method_120_code 27 = .ok (.aload_n 3, 1) := by decide +kernel
theorem d1022_28 : decode jdk_65_method_120_code 28 = .ok (.iconst 0, 1) := by decide +kernel
theorem d1022_29 : decode jdk_65_method_120_code 29 = .ok (.aload_n 0, 1) := by decide +kernel
theorem d1022_30 : decode jdk_65_method_120_code 30 = .ok (.arraylength, 1) := by decide +kernel
theorem d1022_31 : decode jdk_65_method_120_code 31 = .ok (.iload_n 1, 1) := by decide +kernel
theorem d1022_32 : decode jdk_65_method_120_code 32 = .ok (.invokestatic 304, 3) := by decide +kernel
theorem d1022_35 : decode jdk_65_method_120_code 35 = .ok (.invokestatic 150, 3) := by decide +kernel
theorem d1022_38 : decode jdk_65_method_120_code 38 = .ok (.aload_n 3, 1) := by decide +kernel
theorem d1022_39 : decode jdk_65_method_120_code 39 = .ok (.areturn, 1) := by decide +kernel
theorem ef61 (m : MethodId) (x0 : Addr) (x1 : Int32) (x2 : Addr)  : entryFrame m #[(.ref x0), (.int x1), (.ref x2)] 4 = mkF m 0 #[vr x0, vi x1, vr x2, U0] [] := by first | (simp [entryFrame, mkF, argsToLocals, Value.category]; done) | rfl | rfl
set_option maxRecDepth 65536 in
set_option maxHeartbeats 40000000 in
theorem rm61 (l : Launch) (Z : State) (a0 : Array Value) (hw : ∀ d ∈ tables_1, d.before a0 Z = true) (hEL : EW Z a0 EL0) (zc : Int32) (SC : Sta Z Z.heap "java/lang/String" "COMPACT_STRINGS" "Z" (.int zc)) (hzc : ¬ zc = 0) (fm : Value) (SF : Sta Z Z.heap "jdk/internal/util/Preconditions" "SIOOBE_FORMATTER" "Ljava/util/function/BiFunction;" fm) (rfm : fm.isRef = true) (tt : Addr) (kc : ClassId) (ua : Addr) (dfl : Addr) (el : Addr) (em : Addr) (mir : Addr) (gr : Addr) (de : Addr) (kdf : ClassId) (h0 : Heap) {n0 : Nat} (O0 : Old Z n0 h0) (OD : Arv Z Z.heap dfl kdf (.object "java/lang/Object") (0 : Int32) [] .null) (OS : Sta Z Z.heap "java/util/ArrayList" "DEFAULTCAPACITY_EMPTY_ELEMENTDATA" "[Ljava/lang/Object;" (.ref dfl)) (OL : Sta Z Z.heap "java/util/ImmutableCollections" "EMPTY_LIST" "Ljava/util/ImmutableCollections$ListN;" (.ref el)) (OM : Sta Z Z.heap "java/util/ImmutableCollections" "EMPTY" "Ljava/lang/Object;" (.ref em)) (OI : (Term.mirror "[Ljava/lang/Object;").eval a0 Z none [] Z = some (.ref mir)) (OG : Sta Z Z.heap "org/portcullis/acl/Decision" "GRANTED" "Lorg/portcullis/acl/Decision;" (.ref gr)) (OE : Sta Z Z.heap "org/portcullis/acl/Decision" "DENIED" "Lorg/portcullis/acl/Decision;" (.ref de)) (Att : Arv Z h0 tt kc (.object "java/lang/Object") (10 : Int32) [(.ref ua), .null, .null, .null, .null, .null, .null, .null, .null, .null] .null) (Eua : Exa Z h0 ua "org/portcullis/acl/ObjectIdentity") :
    Met l Z EL0 n0 (⟨"java/util/Arrays", "copyOf", "([Ljava/lang/Object;ILjava/lang/Class;)[Ljava/lang/Object;"⟩ : MethodName) jdk_65_method_120_code 4 (some (.array (.object "java/lang/Object"))) [] ({ frames := 1, cells := 1, slots := 1, locals := 18 } : Room) #[(.ref tt), (.int (1 : Int32)), (.ref mir)] h0 [] [] (fun v h' S => ∃ (r : Addr) (kr : ClassId), v = some (.ref r) ∧ h0.size ≤ r ∧ Arv Z h' r kr (.object "java/lang/Object") (1 : Int32) [(.ref ua)] .null) := by
  refine Met.of (plainFor_of_name pn13) O0 ?_
  intro p e s m below meth c T0 hx hby hml hret hlk hnm hs W0
  have W0 : Wk p l e _ s m _ below meth c Z EL0 n0 [] "java/util/Arrays" [] T0 0 0 h0 := W0
  have hSA := fun d hd => hw d (sa_in d hd)
  have hws := fun d hd => hw d (ws_in d hd)
  refine Go.of (fun _ kk => castTop (ef61 m tt (1 : Int32) mir) kk) ?_
  refine gof T0 m 1 #[vr tt, vi 1, vr mir, U0] [(.ref mir)] (fun _ kk => XS.aloadN W0.here hx rfl (hb hby d1022_0) rfl rfl kk) ?_
  refine W0.ldcM hx (hw _ (mI 212 rfl)) OI rfl (hb hby d1022_1) (fun T1 W1 => ?_)
  refine gof T1 m 7 #[vr tt, vi 1, vr mir, U0] [(.int 1)] (fun _ kk => XT.acmpNo (g := (mkF m 3 #[vr tt, vi 1, vr mir, U0] [(.ref mir), (.ref mir)])) W1.here hx rfl (hb hby d1022_3) (x := (.ref mir)) (y := (.ref mir)) (rest := []) rfl rfl rfl (XT.aa_ne_f (x := (.ref mir)) (y := (.ref mir)) rfl) (XS.iloadN W1.here hx rfl (hb hby d1022_6) rfl kk)) ?_
  refine W1.newR hx (hw _ (mI 213 rfl)) (hw _ (mI 189 rfl)) (ad := "[Ljava/lang/Object;") (by decide +kernel) rfl (hb hby d1022_7) rfl (by decide +kernel) (cap := 1) (by decide +kernel) (by decide +kernel) (by decide +kernel) (by decide +kernel) (fun T2 h2 b2 c2 eb2 gb2 W2 K2 A2 E2 Ov2 => ?_)
  have V2 : Arv Z h2 b2 c2 (.object "java/lang/Object") (1 : Int32) [.null] .null := A2
  refine gof T2 m 30 #[vr tt, vi 1, vr mir, vr b2] [(.ref tt), (.int 0), (.ref b2), (.int 0), (.ref tt)] (fun _ kk => XS.goto W2.here hx rfl (pc0 := 10) (pc' := 24) rfl (hb hby d1022_10) (by decide +kernel) (by decide +kernel) (XS.astoreN W2.here hx rfl (hb hby d1022_24) rfl rfl (l' := #[.val (.ref tt), .val (.int 1), .val (.ref mir), .val (.ref b2)]) rfl (XS.aloadN W2.here hx rfl (hb hby d1022_25) rfl rfl (XS.iconst W2.here hx rfl (hb hby d1022_26) (XS.aloadN W2.here hx rfl (hb hby d1022_27) rfl rfl (XS.iconst W2.here hx rfl (hb hby d1022_28) (XS.aloadN W2.here hx rfl (hb hby d1022_29) rfl rfl kk))))))) ?_
  have k3 := (Att.keep K2 nin0)
  refine W2.alen hx k3 rfl rfl (hb hby d1022_30) ?_
  refine gof T2 m 32 #[vr tt, vi 1, vr mir, vr b2] [(.int 1), (.int 10), (.int 0), (.ref b2), (.int 0), (.ref tt)] (fun _ kk => XS.iloadN W2.here hx rfl (hb hby d1022_31) rfl kk) ?_
  refine W2.callS hx hEL (hw _ (mI 214 rfl)) (hw _ (mI 215 rfl)) (hw _ (mI 186 rfl)) (hw _ (mI 216 rfl)) (by decide +kernel) (argsL := [(.int (10 : Int32)), (.int (1 : Int32))]) (rest := [(.int (0 : Int32)), (.ref b2), (.int (0 : Int32)), (.ref tt)]) (rm31 l Z a0 hw hEL zc SC hzc fm SF rfm  h2 W2.old ) all0 (by decide +kernel) (Wd := 4) (by decide +kernel) (by decide +kernel) (by decide +kernel) all0 rfl (by rw [hml]; rfl) (lenOf pd4 rfl) rfl (by show 2 * 0 + _ ≤ _; exact Nat.le_of_eq rfl) (hb hby d1022_32) (fun T4 h4 v4 P4 Ws4 K4 q4 => ?_)
  have W4 := Ws4 [] all0
  obtain ⟨rfl, rfl⟩ := q4
  show Go p e below _ (T4.setTop (mkF m 35 #[vr tt, vi 1, vr mir, vr b2] [(.int 1), (.int 0), (.ref b2), (.int 0), (.ref tt)]))
  have k6 := (Eua.keep K2)
  refine W4.cpR hx (hw _ (mI 217 rfl)) (hw _ (mI 220 rfl)) (hw _ (mI 218 rfl)) (hw _ (mI 219 rfl)) (us := [(.ref ua)]) k3 V2 (stoLS (Sto.ofArv V2 Ov2 (Ins.of_exa k6 (hw _ (mI 190 rfl)))) stoL0) (by decide) (by decide) (by decide) (by decide) (by decide) rfl (Nat.le_of_ble_eq_true rfl) gb2.1 (Or.inr gb2.2) (mI 0 rfl) rfl (by rw [hml]; rfl) rfl (hb hby d1022_35) (by decide +kernel) (Wd := 0) (by show 2 * 0 + _ ≤ _; exact Nat.le_of_eq rfl) (by decide +kernel) (fun T5 h5 W5 K5 A5 => ?_)
  have V5 : Arv Z h5 b2 c2 (.object "java/lang/Object") (1 : Int32) [(.ref ua)] .null := A5
  refine gof T5 m 39 #[vr tt, vi 1, vr mir, vr b2] [(.ref b2)] (fun _ kk => XS.aloadN W5.here hx rfl (hb hby d1022_38) rfl rfl kk) ?_
  exact W5.retA hx hEL hs hlk (by decide +kernel) (by decide +kernel) hret rfl rfl (hb hby d1022_39) (fun S hS => ⟨b2, c2, rfl, hs ▸ gb2.2, V5⟩)
theorem d1023_0 : decode jdk_65_method_119_code 0 = .ok (.aload_n 0, 1) := by decide +kernel
theorem d1023_1 : decode jdk_65_method_119_code 1 = .ok (.iload_n 1, 1) := by decide +kernel
theorem d1023_2 : decode jdk_65_method_119_code 2 = .ok (.aload_n 0, 1) := by decide +kernel
theorem d1023_3 : decode jdk_65_method_119_code 3 = .ok (.invokevirtual 86, 3) := by decide +kernel
theorem d1023_6 : decode jdk_65_method_119_code 6 = .ok (.invokestatic 300, 3) := by decide +kernel
theorem d1023_9 : decode jdk_65_method_119_code 9 = .ok (.areturn, 1) := by decide +kernel
theorem ef65 (m : MethodId) (x0 : Addr) (x1 : Int32)  : entryFrame m #[(.ref x0), (.int x1)] 2 = mkF m 0 #[vr x0, vi x1] [] := by first | (simp [entryFrame, mkF, argsToLocals, Value.category]; done) | rfl | rfl
set_option maxRecDepth 65536 in
set_option maxHeartbeats 40000000 in
theorem rm65 (l : Launch) (Z : State) (a0 : Array Value) (hw : ∀ d ∈ tables_1, d.before a0 Z = true) (hEL : EW Z a0 EL0) (zc : Int32) (SC : Sta Z Z.heap "java/lang/String" "COMPACT_STRINGS" "Z" (.int zc)) (hzc : ¬ zc = 0) (fm : Value) (SF : Sta Z Z.heap "jdk/internal/util/Preconditions" "SIOOBE_FORMATTER" "Ljava/util/function/BiFunction;" fm) (rfm : fm.isRef = true) (tt : Addr) (kc : ClassId) (ua : Addr) (dfl : Addr) (el : Addr) (em : Addr) (mir : Addr) (gr : Addr) (de : Addr) (kdf : ClassId) (h0 : Heap) {n0 : Nat} (O0 : Old Z n0 h0) (OD : Arv Z Z.heap dfl kdf (.object "java/lang/Object") (0 : Int32) [] .null) (OS : Sta Z Z.heap "java/util/ArrayList" "DEFAULTCAPACITY_EMPTY_ELEMENTDATA" "[Ljava/lang/Object;" (.ref dfl)) (OL : Sta Z Z.heap "java/util/ImmutableCollections" "EMPTY_LIST" "Ljava/util/ImmutableCollections$ListN;" (.ref el)) (OM : Sta Z Z.heap "java/util/ImmutableCollections" "EMPTY" "Ljava/lang/Object;" (.ref em)) (OI : (Term.mirror "[Ljava/lang/Object;").eval a0 Z none [] Z = some (.ref mir)) (OG : Sta Z Z.heap "org/portcullis/acl/Decision" "GRANTED" "Lorg/portcullis/acl/Decision;" (.ref gr)) (OE : Sta Z Z.heap "org/portcullis/acl/Decision" "DENIED" "Lorg/portcullis/acl/Decision;" (.ref de)) (Att : Arv Z h0 tt kc (.object "java/lang/Object") (10 : Int32) [(.ref ua), .null, .null, .null, .null, .null, .null, .null, .null, .null] .null) (Ett : Exa Z h0 tt "[Ljava/lang/Object;") (Eua : Exa Z h0 ua "org/portcullis/acl/ObjectIdentity") :
    Met l Z EL0 n0 (⟨"java/util/Arrays", "copyOf", "([Ljava/lang/Object;I)[Ljava/lang/Object;"⟩ : MethodName) jdk_65_method_119_code 2 (some (.array (.object "java/lang/Object"))) [] ({ frames := 2, cells := 1, slots := 1, locals := 33 } : Room) #[(.ref tt), (.int (1 : Int32))] h0 [] [] (fun v h' S => ∃ (r : Addr) (kr : ClassId), v = some (.ref r) ∧ h0.size ≤ r ∧ Arv Z h' r kr (.object "java/lang/Object") (1 : Int32) [(.ref ua)] .null) := by
  refine Met.of (plainFor_of_name pn13) O0 ?_
  intro p e s m below meth c T0 hx hby hml hret hlk hnm hs W0
  have W0 : Wk p l e _ s m _ below meth c Z EL0 n0 [] "java/util/Arrays" [] T0 0 0 h0 := W0
  have hSA := fun d hd => hw d (sa_in d hd)
  have hws := fun d hd => hw d (ws_in d hd)
  refine Go.of (fun _ kk => castTop (ef65 m tt (1 : Int32)) kk) ?_
  refine gof T0 m 3 #[vr tt, vi 1] [(.ref tt), (.int 1), (.ref tt)] (fun _ kk => XS.aloadN W0.here hx rfl (hb hby d1023_0) rfl rfl (XS.iloadN W0.here hx rfl (hb hby d1023_1) rfl (XS.aloadN W0.here hx rfl (hb hby d1023_2) rfl rfl kk))) ?_
  refine W0.getCl hx (hw _ (mI 203 rfl)) (hw _ (mI 207 rfl)) (hw _ (mI 205 rfl)) (hw _ (mI 206 rfl)) Ett OI rfl (by rw [hml]; rfl) rfl (hb hby d1023_3) (by decide +kernel) (Wd := 2) (by show 2 * 0 + _ ≤ _; exact Nat.le_of_eq rfl) (by decide +kernel) (fun T1 W1 => ?_)
  show Go p e below _ (T1.setTop (mkF m 6 #[vr tt, vi 1] [(.ref mir), (.int 1), (.ref tt)]))
  refine W1.callS hx hEL (hw _ (mI 209 rfl)) (hw _ (mI 210 rfl)) (hw _ (mI 201 rfl)) (hw _ (mI 211 rfl)) (by decide +kernel) (argsL := [(.ref tt), (.int (1 : Int32)), (.ref mir)]) (rest := []) (rm61 l Z a0 hw hEL zc SC hzc fm SF rfm tt kc ua dfl el em mir gr de kdf h0 W1.old OD OS OL OM OI OG OE Att Eua) all0 (by decide +kernel) (Wd := 0) (by decide +kernel) (by decide +kernel) (by decide +kernel) all0 rfl (by rw [hml]; rfl) (lenOf pd8 rfl) rfl (by show 2 * 0 + _ ≤ _; exact Nat.le_of_eq rfl) (hb hby d1023_6) (fun T2 h2 v2 P2 Ws2 K2 q2 => ?_)
  have W2 := Ws2 [] all0
  obtain ⟨r2, kr2, rfl, lr2, A2⟩ := q2
  have gr2 : n0 ≤ r2 ∧ s.heap.size ≤ r2 := ⟨Nat.le_trans W1.n0le lr2, Nat.le_trans W1.s0le lr2⟩
  show Go p e below _ (T2.setTop (mkF m 9 #[vr tt, vi 1] [(.ref r2)]))
  exact W2.retA hx hEL hs hlk (by decide +kernel) (by decide +kernel) hret rfl rfl (hb hby d1023_9) (fun S hS => ⟨r2, kr2, rfl, hs ▸ gr2.2, A2⟩)
theorem d1024_0 : decode jdk_38_method_16_code 0 = .ok (.aload_n 0, 1) := by decide +kernel
theorem d1024_1 : decode jdk_38_method_16_code 1 = .ok (.getfield 9, 3) := by decide +kernel
theorem d1024_4 : decode jdk_38_method_16_code 4 = .ok (.aload_n 0, 1) := by decide +kernel
theorem d1024_5 : decode jdk_38_method_16_code 5 = .ok (.getfield 48, 3) := by decide +kernel
theorem d1024_8 : decode jdk_38_method_16_code 8 = .ok (.invokestatic 66, 3) := by decide +kernel
theorem d1024_11 : decode jdk_38_method_16_code 11 = .ok (.areturn, 1) := by decide +kernel
theorem ef69 (m : MethodId) (x0 : Addr)  : entryFrame m #[(.ref x0)] 1 = mkF m 0 #[vr x0] [] := by first | (simp [entryFrame, mkF, argsToLocals, Value.category]; done) | rfl | rfl
set_option maxRecDepth 65536 in
set_option maxHeartbeats 40000000 in
theorem rm69 (l : Launch) (Z : State) (a0 : Array Value) (hw : ∀ d ∈ tables_1, d.before a0 Z = true) (hEL : EW Z a0 EL0) (zc : Int32) (SC : Sta Z Z.heap "java/lang/String" "COMPACT_STRINGS" "Z" (.int zc)) (hzc : ¬ zc = 0) (fm : Value) (SF : Sta Z Z.heap "jdk/internal/util/Preconditions" "SIOOBE_FORMATTER" "Ljava/util/function/BiFunction;" fm) (rfm : fm.isRef = true) (al : Addr) (tt : Addr) (kc : ClassId) (ua : Addr) (dfl : Addr) (el : Addr) (em : Addr) (mir : Addr) (gr : Addr) (de : Addr) (kdf : ClassId) (h0 : Heap) {n0 : Nat} (O0 : Old Z n0 h0) (OD : Arv Z Z.heap dfl kdf (.object "java/lang/Object") (0 : Int32) [] .null) (OS : Sta Z Z.heap "java/util/ArrayList" "DEFAULTCAPACITY_EMPTY_ELEMENTDATA" "[Ljava/lang/Object;" (.ref dfl)) (OL : Sta Z Z.heap "java/util/ImmutableCollections" "EMPTY_LIST" "Ljava/util/ImmutableCollections$ListN;" (.ref el)) (OM : Sta Z Z.heap "java/util/ImmutableCollections" "EMPTY" "Ljava/lang/Object;" (.ref em)) (OI : (Term.mirror "[Ljava/lang/Object;").eval a0 Z none [] Z = some (.ref mir)) (OG : Sta Z Z.heap "org/portcullis/acl/Decision" "GRANTED" "Lorg/portcullis/acl/Decision;" (.ref gr)) (OE : Sta Z Z.heap "org/portcullis/acl/Decision" "DENIED" "Lorg/portcullis/acl/Decision;" (.ref de)) (Eal : Exa Z h0 al "java/util/ArrayList") (Fea : Fld Z h0 al "java/util/ArrayList" "elementData" "[Ljava/lang/Object;" (.ref tt)) (Fsa : Fld Z h0 al "java/util/ArrayList" "size" "I" (.int (1 : Int32))) (Att : Arv Z h0 tt kc (.object "java/lang/Object") (10 : Int32) [(.ref ua), .null, .null, .null, .null, .null, .null, .null, .null, .null] .null) (Ett : Exa Z h0 tt "[Ljava/lang/Object;") (Eua : Exa Z h0 ua "org/portcullis/acl/ObjectIdentity") :
    Met l Z EL0 n0 (⟨"java/util/ArrayList", "toArray", "()[Ljava/lang/Object;"⟩ : MethodName) jdk_38_method_16_code 1 (some (.array (.object "java/lang/Object"))) [] ({ frames := 3, cells := 1, slots := 1, locals := 46 } : Room) #[(.ref al)] h0 [] [] (fun v h' S => ∃ (r : Addr) (kr : ClassId), v = some (.ref r) ∧ h0.size ≤ r ∧ Arv Z h' r kr (.object "java/lang/Object") (1 : Int32) [(.ref ua)] .null) := by
  refine Met.of (plainFor_of_name pn10) O0 ?_
  intro p e s m below meth c T0 hx hby hml hret hlk hnm hs W0
  have W0 : Wk p l e _ s m _ below meth c Z EL0 n0 [] "java/util/ArrayList" [] T0 0 0 h0 := W0
  have hSA := fun d hd => hw d (sa_in d hd)
  have hws := fun d hd => hw d (ws_in d hd)
  refine Go.of (fun _ kk => castTop (ef69 m al) kk) ?_
  refine gof T0 m 1 #[vr al] [(.ref al)] (fun _ kk => XS.aloadN W0.here hx rfl (hb hby d1024_0) rfl rfl kk) ?_
  refine W0.getF hx (host := "") (Or.inl (hw _ (mI 82 rfl))) Via.refl Fea rfl rfl (hb hby d1024_1) (fun T1 W1 => ?_)
  refine gof T1 m 5 #[vr al] [(.ref al), (.ref tt)] (fun _ kk => XS.aloadN W1.here hx rfl (hb hby d1024_4) rfl rfl kk) ?_
  refine W1.getF hx (host := "") (Or.inl (hw _ (mI 114 rfl))) Via.refl Fsa rfl rfl (hb hby d1024_5) (fun T2 W2 => ?_)
  show Go p e below _ (T2.setTop (mkF m 8 #[vr al] [(.int 1), (.ref tt)]))
  refine W2.callS hx hEL (hw _ (mI 199 rfl)) (hw _ (mI 200 rfl)) (hw _ (mI 201 rfl)) (hw _ (mI 202 rfl)) (by decide +kernel) (argsL := [(.ref tt), (.int (1 : Int32))]) (rest := []) (rm65 l Z a0 hw hEL zc SC hzc fm SF rfm tt kc ua dfl el em mir gr de kdf h0 W2.old OD OS OL OM OI OG OE Att Ett Eua) all0 (by decide +kernel) (Wd := 0) (by decide +kernel) (by decide +kernel) (by decide +kernel) all0 rfl (by rw [hml]; rfl) (lenOf pd9 rfl) rfl (by show 2 * 0 + _ ≤ _; exact Nat.le_of_eq rfl) (hb hby d1024_8) (fun T3 h3 v3 P3 Ws3 K3 q3 => ?_)
  have W3 := Ws3 [] all0
  obtain ⟨r3, kr3, rfl, lr3, A3⟩ := q3
  have gr3 : n0 ≤ r3 ∧ s.heap.size ≤ r3 := ⟨Nat.le_trans W2.n0le lr3, Nat.le_trans W2.s0le lr3⟩
  show Go p e below _ (T3.setTop (mkF m 11 #[vr al] [(.ref r3)]))
  exact W3.retA hx hEL hs hlk (by decide +kernel) (by decide +kernel) hret rfl rfl (hb hby d1024_11) (fun S hS => ⟨r3, kr3, rfl, hs ▸ gr3.2, A3⟩)
theorem d1025_0 : decode jdk_44_method_1_code 0 = .ok (.aload_n 0, 1) := by decide +kernel
theorem d1025_1 : decode jdk_44_method_1_code 1 = .ok (.invokespecial 1, 3) := by decide +kernel
theorem d1025_4 : decode jdk_44_method_1_code 4 = .ok (.aload_n 0, 1) := by decide +kernel
theorem d1025_5 : decode jdk_44_method_1_code 5 = .ok (.aload_n 1, 1) := by decide +kernel
theorem d1025_6 : decode jdk_44_method_1_code 6 = .ok (.invokestatic 7, 3) := by decide +kernel
theorem d1025_9 : decode jdk_44_method_1_code 9 = .ok (.putfield 13, 3) := by decide +kernel
theorem d1025_12 : decode jdk_44_method_1_code 12 = .ok (.aload_n 0, 1) := by decide +kernel
theorem d1025_13 : decode jdk_44_method_1_code 13 = .ok (.getstatic 19, 3) := by decide +kernel
theorem d1025_16 : decode jdk_44_method_1_code 16 = .ok (.putfield 24, 3) := by decide +kernel
theorem d1025_19 : decode jdk_44_method_1_code 19 = .ok (.return_, 1) := by decide +kernel
theorem ef73 (m : MethodId) (x0 : Addr) (x1 : Addr)  : entryFrame m #[(.ref x0), (.ref x1)] 2 = mkF m 0 #[vr x0, vr x1] [] := by first | (simp [entryFrame, mkF, argsToLocals, Value.category]; done) | rfl | rfl
set_option maxRecDepth 65536 in
set_option maxHeartbeats 40000000 in
theorem rm73 (l : Launch) (Z : State) (a0 : Array Value) (hw : ∀ d ∈ tables_1, d.before a0 Z = true) (hEL : EW Z a0 EL0) (zc : Int32) (SC : Sta Z Z.heap "java/lang/String" "COMPACT_STRINGS" "Z" (.int zc)) (hzc : ¬ zc = 0) (fm : Value) (SF : Sta Z Z.heap "jdk/internal/util/Preconditions" "SIOOBE_FORMATTER" "Ljava/util/function/BiFunction;" fm) (rfm : fm.isRef = true) (oo : Addr) (ua : Addr) (dfl : Addr) (el : Addr) (em : Addr) (mir : Addr) (gr : Addr) (de : Addr) (kdf : ClassId) (h0 : Heap) {n0 : Nat} (O0 : Old Z n0 h0) (OD : Arv Z Z.heap dfl kdf (.object "java/lang/Object") (0 : Int32) [] .null) (OS : Sta Z Z.heap "java/util/ArrayList" "DEFAULTCAPACITY_EMPTY_ELEMENTDATA" "[Ljava/lang/Object;" (.ref dfl)) (OL : Sta Z Z.heap "java/util/ImmutableCollections" "EMPTY_LIST" "Ljava/util/ImmutableCollections$ListN;" (.ref el)) (OM : Sta Z Z.heap "java/util/ImmutableCollections" "EMPTY" "Ljava/lang/Object;" (.ref em)) (OI : (Term.mirror "[Ljava/lang/Object;").eval a0 Z none [] Z = some (.ref mir)) (OG : Sta Z Z.heap "org/portcullis/acl/Decision" "GRANTED" "Lorg/portcullis/acl/Decision;" (.ref gr)) (OE : Sta Z Z.heap "org/portcullis/acl/Decision" "DENIED" "Lorg/portcullis/acl/Decision;" (.ref de)) (Eo : Exa Z h0 oo "java/util/ImmutableCollections$List12") (Fza : Fld Z h0 oo "java/util/ImmutableCollections$List12" "e0" "Ljava/lang/Object;" .null) (Fzb : Fld Z h0 oo "java/util/ImmutableCollections$List12" "e1" "Ljava/lang/Object;" .null) (go : n0 ≤ oo) :
    Met l Z EL0 n0 (⟨"java/util/ImmutableCollections$List12", "<init>", "(Ljava/lang/Object;)V"⟩ : MethodName) jdk_44_method_1_code 2 none [] ({ frames := 4, cells := 0, slots := 0, locals := 48 } : Room) #[(.ref oo), (.ref ua)] h0 [oo] [] (fun v h' S => v = none) := by
  refine Met.of (plainFor_of_name pn14) O0 ?_
  intro p e s m below meth c T0 hx hby hml hret hlk hnm hs W0
  have W0 : Wk p l e _ s m _ below meth c Z EL0 n0 [oo] "java/util/ImmutableCollections$List12" [] T0 0 0 h0 := W0
  have hSA := fun d hd => hw d (sa_in d hd)
  have hws := fun d hd => hw d (ws_in d hd)
  refine Go.of (fun _ kk => castTop (ef73 m oo ua) kk) ?_
  refine gof T0 m 1 #[vr oo, vr ua] [(.ref oo)] (fun _ kk => XS.aloadN W0.here hx rfl (hb hby d1025_0) rfl rfl kk) ?_
  refine W0.callP hx hEL rfl (hw _ (mI 231 rfl)) (hw _ (mI 232 rfl)) (hw _ (mI 235 rfl)) (hw _ (mI 236 rfl)) (by decide +kernel) (a := oo) (argsL := []) (rest := []) (rm17 l Z a0 hw hEL zc SC hzc fm SF rfm oo h0 W0.old ) all0 (by decide +kernel) (Wd := 0) (by decide +kernel) (by decide +kernel) (by decide +kernel) all0 rfl (by rw [hml]; rfl) (lenOf pd3 rfl) rfl (by show 2 * 0 + _ ≤ _; exact Nat.le_of_eq rfl) (hb hby d1025_1) (fun T1 h1 v1 P1 Ws1 K1 q1 => ?_)
  have W1 := Ws1 [] all0
  obtain ⟨rfl, rfl⟩ := q1
  refine gof T1 m 6 #[vr oo, vr ua] [(.ref ua), (.ref oo)] (fun _ kk => XS.aloadN W1.here hx rfl (hb hby d1025_4) rfl rfl (XS.aloadN W1.here hx rfl (hb hby d1025_5) rfl rfl kk)) ?_
  refine W1.callS hx hEL (hw _ (mI 245 rfl)) (hw _ (mI 246 rfl)) (hw _ (mI 247 rfl)) (hw _ (mI 248 rfl)) (by decide +kernel) (argsL := [(.ref ua)]) (rest := [(.ref oo)]) (rm55 l Z a0 hw hEL zc SC hzc fm SF rfm ua h0 W1.old ) all0 (by decide +kernel) (Wd := 1) (by decide +kernel) (by decide +kernel) (by decide +kernel) all0 rfl (by rw [hml]; rfl) (lenOf pd10 rfl) rfl (by show 2 * 0 + _ ≤ _; exact Nat.le_of_eq rfl) (hb hby d1025_6) (fun T2 h2 v2 P2 Ws2 K2 q2 => ?_)
  have W2 := Ws2 [] all0
  obtain ⟨rfl, rfl⟩ := q2
  show Go p e below _ (T2.setTop (mkF m 9 #[vr oo, vr ua] [(.ref ua), (.ref oo)]))
  refine W2.putF hx (host := "") (Or.inl (hw _ (mI 249 rfl))) Via.refl Fza Eo (Or.inr ⟨(hw _ (mI 250 rfl)), rfl, hnm⟩) (hw _ (mI 225 rfl)) (ty := (.object "java/lang/Object")) (by decide +kernel) rfl rfl go (Or.inl (mI 0 rfl)) (Or.inr ⟨by decide, by decide⟩) rfl rfl (hb hby d1025_9) (fun T3 h3 W3 w3 => ?_)
  have K3 := Keep.of_wr w3
  have k4 := Fzb.other w3 (Or.inr (slot_ne (Or.inr (hw _ (mI 253 rfl))) (Or.inr (hw _ (mI 250 rfl))) (by decide +kernel) (t := (.object "java/lang/Object")) (t' := (.object "java/lang/Object")) (by decide +kernel) (by decide +kernel)))
  have k5 := Fza.same w3
  refine gof T3 m 13 #[vr oo, vr ua] [(.ref oo)] (fun _ kk => XS.aloadN W3.here hx rfl (hb hby d1025_12) rfl rfl kk) ?_
  refine W3.getS hx (Or.inr (hw _ (mI 251 rfl))) Via.refl OM rfl (hb hby d1025_13) (fun T6 W6 => ?_)
  show Go p e below _ (T6.setTop (mkF m 16 #[vr oo, vr ua] [(.ref em), (.ref oo)]))
  have k7 := (Eo.keep K3)
  refine W6.putF hx (host := "") (Or.inl (hw _ (mI 252 rfl))) Via.refl k4 k7 (Or.inr ⟨(hw _ (mI 253 rfl)), rfl, hnm⟩) (hw _ (mI 225 rfl)) (ty := (.object "java/lang/Object")) (by decide +kernel) rfl rfl go (Or.inl (mI 0 rfl)) (Or.inr ⟨by decide, by decide⟩) rfl rfl (hb hby d1025_16) (fun T8 h8 W8 w8 => ?_)
  have K8 := Keep.of_wr w8
  have k9 := k5.other w8 (Or.inr (slot_ne (Or.inr (hw _ (mI 250 rfl))) (Or.inr (hw _ (mI 253 rfl))) (by decide +kernel) (t := (.object "java/lang/Object")) (t' := (.object "java/lang/Object")) (by decide +kernel) (by decide +kernel)))
  have k10 := k4.same w8
  show Go p e below _ (T8.setTop (mkF m 19 #[vr oo, vr ua] []))
  exact W8.retV hx hEL hs hlk (by decide +kernel) (by decide +kernel) hret (hb hby d1025_19) (fun S hS => rfl)
theorem d1026_0 : decode jdk_40_method_47_code 0 = .ok (.aload_n 0, 1) := by decide +kernel
theorem d1026_1 : decode jdk_40_method_47_code 1 = .ok (.arraylength, 1) := by decide +kernel
theorem d1026_2 : decode jdk_40_method_47_code 2 = .ok (.tableswitch 57 0 2 #[26, 32, 43], 26) := by decide +kernel
theorem d1026_34 : decode jdk_40_method_47_code 34 = .ok (.new 96, 3) := by decide +kernel
theorem d1026_37 : decode jdk_40_method_47_code 37 = .ok (.dup, 1) := by decide +kernel
theorem d1026_38 : decode jdk_40_method_47_code 38 = .ok (.aload_n 0, 1) := by decide +kernel
theorem d1026_39 : decode jdk_40_method_47_code 39 = .ok (.iconst 0, 1) := by decide +kernel
theorem d1026_40 : decode jdk_40_method_47_code 40 = .ok (.aaload, 1) := by decide +kernel
theorem d1026_41 : decode jdk_40_method_47_code 41 = .ok (.invokespecial 98, 3) := by decide +kernel
theorem d1026_44 : decode jdk_40_method_47_code 44 = .ok (.areturn, 1) := by decide +kernel
theorem ef77 (m : MethodId) (x0 : Addr)  : entryFrame m #[(.ref x0)] 2 = mkF m 0 #[vr x0, U0] [] := by first | (simp [entryFrame, mkF, argsToLocals, Value.category]; done) | rfl | rfl
set_option maxRecDepth 65536 in
set_option maxHeartbeats 40000000 in
theorem rm77 (l : Launch) (Z : State) (a0 : Array Value) (hw : ∀ d ∈ tables_1, d.before a0 Z = true) (hEL : EW Z a0 EL0) (zc : Int32) (SC : Sta Z Z.heap "java/lang/String" "COMPACT_STRINGS" "Z" (.int zc)) (hzc : ¬ zc = 0) (fm : Value) (SF : Sta Z Z.heap "jdk/internal/util/Preconditions" "SIOOBE_FORMATTER" "Ljava/util/function/BiFunction;" fm) (rfm : fm.isRef = true) (rr : Addr) (kr : ClassId) (ua : Addr) (dfl : Addr) (el : Addr) (em : Addr) (mir : Addr) (gr : Addr) (de : Addr) (kdf : ClassId) (h0 : Heap) {n0 : Nat} (O0 : Old Z n0 h0) (OD : Arv Z Z.heap dfl kdf (.object "java/lang/Object") (0 : Int32) [] .null) (OS : Sta Z Z.heap "java/util/ArrayList" "DEFAULTCAPACITY_EMPTY_ELEMENTDATA" "[Ljava/lang/Object;" (.ref dfl)) (OL : Sta Z Z.heap "java/util/ImmutableCollections" "EMPTY_LIST" "Ljava/util/ImmutableCollections$ListN;" (.ref el)) (OM : Sta Z Z.heap "java/util/ImmutableCollections" "EMPTY" "Ljava/lang/Object;" (.ref em)) (OI : (Term.mirror "[Ljava/lang/Object;").eval a0 Z none [] Z = some (.ref mir)) (OG : Sta Z Z.heap "org/portcullis/acl/Decision" "GRANTED" "Lorg/portcullis/acl/Decision;" (.ref gr)) (OE : Sta Z Z.heap "org/portcullis/acl/Decision" "DENIED" "Lorg/portcullis/acl/Decision;" (.ref de)) (Arr : Arv Z h0 rr kr (.object "java/lang/Object") (1 : Int32) [(.ref ua)] .null) (Eua : Exa Z h0 ua "org/portcullis/acl/ObjectIdentity") :
    Met l Z EL0 n0 (⟨"java/util/List", "of", "([Ljava/lang/Object;)Ljava/util/List;"⟩ : MethodName) jdk_40_method_47_code 2 (some (.object "java/util/List")) [] ({ frames := 5, cells := 1, slots := 2, locals := 62 } : Room) #[(.ref rr)] h0 [] [] (fun v h' S => ∃ r : Addr, v = some (.ref r)) := by
  refine Met.of (plainFor_of_name pn11) O0 ?_
  intro p e s m below meth c T0 hx hby hml hret hlk hnm hs W0
  have W0 : Wk p l e _ s m _ below meth c Z EL0 n0 [] "java/util/List" [] T0 0 0 h0 := W0
  have hSA := fun d hd => hw d (sa_in d hd)
  have hws := fun d hd => hw d (ws_in d hd)
  refine Go.of (fun _ kk => castTop (ef77 m rr) kk) ?_
  refine gof T0 m 1 #[vr rr, U0] [(.ref rr)] (fun _ kk => XS.aloadN W0.here hx rfl (hb hby d1026_0) rfl rfl kk) ?_
  refine W0.alen hx Arr rfl rfl (hb hby d1026_1) ?_
  show Go p e below _ (T0.setTop (mkF m 2 #[vr rr, U0] [(.int 1)]))
  refine W0.tswIn hx rfl rfl (hb hby d1026_2) (by decide +kernel) (off := 32) (by decide +kernel) (by show (0 : Int) ≤ ((2 : Nat) : Int) + 32; decide) (pc' := 34) rfl ?_
  show Go p e below _ (T0.setTop (mkF m 34 #[vr rr, U0] []))
  refine W0.newO hx (hw _ (mI 224 rfl)) (hw _ (mI 225 rfl)) (hw _ (mI 226 rfl)) rfl (hb hby d1026_34) (by decide +kernel) (by decide +kernel) (fun T1 h1 b1 eb1 gb1 W1 K1 E1 D1 => ?_)
  have k2 : Fld Z h1 b1 "java/util/ImmutableCollections$List12" "e0" "Ljava/lang/Object;" .null := D1 (Or.inr (hw _ (mI 250 rfl))) (ty := (.object "java/lang/Object")) (by decide +kernel)
  have k3 : Fld Z h1 b1 "java/util/ImmutableCollections$List12" "e1" "Ljava/lang/Object;" .null := D1 (Or.inr (hw _ (mI 253 rfl))) (ty := (.object "java/lang/Object")) (by decide +kernel)
  refine gof T1 m 40 #[vr rr, U0] [(.int 0), (.ref rr), (.ref b1), (.ref b1)] (fun _ kk => XS.dup W1.here hx rfl (hb hby d1026_37) rfl rfl (XS.aloadN W1.here hx rfl (hb hby d1026_38) rfl rfl (XS.iconst W1.here hx rfl (hb hby d1026_39) kk))) ?_
  have k4 := (Arr.keep K1 nin0)
  refine W1.aaload hx k4 rfl ⟨by decide, by decide⟩ (v := (.ref ua)) rfl rfl rfl (hb hby d1026_40) ?_
  show Go p e below _ (T1.setTop (mkF m 41 #[vr rr, U0] [(.ref ua), (.ref b1), (.ref b1)]))
  refine W1.callP hx hEL rfl (hw _ (mI 227 rfl)) (hw _ (mI 228 rfl)) (hw _ (mI 226 rfl)) (hw _ (mI 230 rfl)) (by decide +kernel) (a := b1) (argsL := [(.ref ua)]) (rest := [(.ref b1)]) (rm73 l Z a0 hw hEL zc SC hzc fm SF rfm b1 ua dfl el em mir gr de kdf h1 W1.old OD OS OL OM OI OG OE E1 k2 k3 gb1.1) all0 (by decide +kernel) (Wd := 1) (by decide +kernel) (by decide +kernel) (by decide +kernel) (allS ⟨gb1.1, (Or.inr gb1.2)⟩ all0) rfl (by rw [hml]; rfl) (lenOf pd11 rfl) rfl (by show 2 * 0 + _ ≤ _; exact Nat.le_of_eq rfl) (hb hby d1026_41) (fun T5 h5 v5 P5 Ws5 K5 q5 => ?_)
  have W5 := Ws5 [] all0
  obtain rfl := q5
  show Go p e below _ (T5.setTop (mkF m 44 #[vr rr, U0] [(.ref b1)]))
  exact W5.retA hx hEL hs hlk (by decide +kernel) (by decide +kernel) hret rfl rfl (hb hby d1026_44) (fun S hS => ⟨b1, rfl⟩)
theorem d1027_0 : decode jdk_56_method_3_code 0 = .ok (.aload_n 0, 1) := by decide +kernel
theorem d1027_1 : decode jdk_56_method_3_code 1 = .ok (.instanceof 10, 3) := by decide +kernel
theorem d1027_4 : decode jdk_56_method_3_code 4 = .ok (.ifCond .ne 22, 3) := by decide +kernel
theorem d1027_7 : decode jdk_56_method_3_code 7 = .ok (.aload_n 0, 1) := by decide +kernel
theorem d1027_8 : decode jdk_56_method_3_code 8 = .ok (.instanceof 12, 3) := by decide +kernel
theorem d1027_11 : decode jdk_56_method_3_code 11 = .ok (.ifCond .eq 20, 3) := by decide +kernel
theorem d1027_31 : decode jdk_56_method_3_code 31 = .ok (.aload_n 0, 1) := by decide +kernel
theorem d1027_32 : decode jdk_56_method_3_code 32 = .ok (.invokeinterface 20 1, 5) := by decide +kernel
theorem d1027_37 : decode jdk_56_method_3_code 37 = .ok (.ifCond .eq 7, 3) := by decide +kernel
theorem d1027_44 : decode jdk_56_method_3_code 44 = .ok (.aload_n 0, 1) := by decide +kernel
theorem d1027_45 : decode jdk_56_method_3_code 45 = .ok (.invokeinterface 30 1, 5) := by decide +kernel
theorem d1027_50 : decode jdk_56_method_3_code 50 = .ok (.invokestatic 34, 3) := by decide +kernel
theorem d1027_53 : decode jdk_56_method_3_code 53 = .ok (.areturn, 1) := by decide +kernel
theorem ef81 (m : MethodId) (x0 : Addr)  : entryFrame m #[(.ref x0)] 2 = mkF m 0 #[vr x0, U0] [] := by first | (simp [entryFrame, mkF, argsToLocals, Value.category]; done) | rfl | rfl
set_option maxRecDepth 65536 in
set_option maxHeartbeats 40000000 in
theorem rm81 (l : Launch) (Z : State) (a0 : Array Value) (hw : ∀ d ∈ tables_1, d.before a0 Z = true) (hEL : EW Z a0 EL0) (zc : Int32) (SC : Sta Z Z.heap "java/lang/String" "COMPACT_STRINGS" "Z" (.int zc)) (hzc : ¬ zc = 0) (fm : Value) (SF : Sta Z Z.heap "jdk/internal/util/Preconditions" "SIOOBE_FORMATTER" "Ljava/util/function/BiFunction;" fm) (rfm : fm.isRef = true) (al : Addr) (tt : Addr) (kc : ClassId) (ua : Addr) (dfl : Addr) (el : Addr) (em : Addr) (mir : Addr) (gr : Addr) (de : Addr) (kdf : ClassId) (h0 : Heap) {n0 : Nat} (O0 : Old Z n0 h0) (OD : Arv Z Z.heap dfl kdf (.object "java/lang/Object") (0 : Int32) [] .null) (OS : Sta Z Z.heap "java/util/ArrayList" "DEFAULTCAPACITY_EMPTY_ELEMENTDATA" "[Ljava/lang/Object;" (.ref dfl)) (OL : Sta Z Z.heap "java/util/ImmutableCollections" "EMPTY_LIST" "Ljava/util/ImmutableCollections$ListN;" (.ref el)) (OM : Sta Z Z.heap "java/util/ImmutableCollections" "EMPTY" "Ljava/lang/Object;" (.ref em)) (OI : (Term.mirror "[Ljava/lang/Object;").eval a0 Z none [] Z = some (.ref mir)) (OG : Sta Z Z.heap "org/portcullis/acl/Decision" "GRANTED" "Lorg/portcullis/acl/Decision;" (.ref gr)) (OE : Sta Z Z.heap "org/portcullis/acl/Decision" "DENIED" "Lorg/portcullis/acl/Decision;" (.ref de)) (Eal : Exa Z h0 al "java/util/ArrayList") (Fea : Fld Z h0 al "java/util/ArrayList" "elementData" "[Ljava/lang/Object;" (.ref tt)) (Fsa : Fld Z h0 al "java/util/ArrayList" "size" "I" (.int (1 : Int32))) (Att : Arv Z h0 tt kc (.object "java/lang/Object") (10 : Int32) [(.ref ua), .null, .null, .null, .null, .null, .null, .null, .null, .null] .null) (Ett : Exa Z h0 tt "[Ljava/lang/Object;") (Eua : Exa Z h0 ua "org/portcullis/acl/ObjectIdentity") :
    Met l Z EL0 n0 (⟨"java/util/ImmutableCollections", "listCopy", "(Ljava/util/Collection;)Ljava/util/List;"⟩ : MethodName) jdk_56_method_3_code 2 (some (.object "java/util/List")) [] ({ frames := 6, cells := 2, slots := 3, locals := 75 } : Room) #[(.ref al)] h0 [] [] (fun v h' S => ∃ r : Addr, v = some (.ref r)) := by
  refine Met.of (plainFor_of_name pn15) O0 ?_
  intro p e s m below meth c T0 hx hby hml hret hlk hnm hs W0
  have W0 : Wk p l e _ s m _ below meth c Z EL0 n0 [] "java/util/ImmutableCollections" [] T0 0 0 h0 := W0
  have hSA := fun d hd => hw d (sa_in d hd)
  have hws := fun d hd => hw d (ws_in d hd)
  refine Go.of (fun _ kk => castTop (ef81 m al) kk) ?_
  refine gof T0 m 1 #[vr al, U0] [(.ref al)] (fun _ kk => XS.aloadN W0.here hx rfl (hb hby d1027_0) rfl rfl kk) ?_
  refine W0.instNo hx (hw _ (mI 99 rfl)) Eal (ns_no (hw _ (mI 100 rfl)) (hw _ (mI 225 rfl)) (NS.step (hw _ (mI 100 rfl)) (NS.step (hw _ (mI 101 rfl)) (NS.step (hw _ (mI 102 rfl)) (ns_root (hw _ (mI 103 rfl)) (hw _ (mI 225 rfl)) (by decide +kernel)) (by decide +kernel)) (by decide +kernel)) (by decide +kernel)) (by decide +kernel)) rfl rfl (hb hby d1027_1) (fun T1 W1 => ?_)
  refine gof T1 m 8 #[vr al, U0] [(.ref al)] (fun _ kk => XS.ifNo W1.here hx rfl (hb hby d1027_4) rfl (XT.i0_ne_f (by decide +kernel)) (XS.aloadN W1.here hx rfl (hb hby d1027_7) rfl rfl kk)) ?_
  refine W1.instNo hx (hw _ (mI 104 rfl)) Eal (ns_no (hw _ (mI 100 rfl)) (hw _ (mI 269 rfl)) (NS.step (hw _ (mI 100 rfl)) (NS.step (hw _ (mI 101 rfl)) (NS.step (hw _ (mI 102 rfl)) (ns_root (hw _ (mI 103 rfl)) (hw _ (mI 269 rfl)) (by decide +kernel)) (by decide +kernel)) (by decide +kernel)) (by decide +kernel)) (by decide +kernel)) rfl rfl (hb hby d1027_8) (fun T2 W2 => ?_)
  refine gof T2 m 32 #[vr al, U0] [(.ref al)] (fun _ kk => XS.ifYes W2.here hx rfl (pc0 := 11) (pc' := 31) rfl (hb hby d1027_11) rfl (XT.i0_eq_t (by decide +kernel)) (by decide +kernel) (by decide +kernel) (XS.aloadN W2.here hx rfl (hb hby d1027_31) rfl rfl kk)) ?_
  refine W2.callI hx hEL (hw _ (mI 105 rfl)) (hw _ (mI 106 rfl)) (hw _ (mI 107 rfl)) (by first | rfl | decide +kernel | simp [Cond.onTables, Cond.keepsFace, Cond.keeps, Cond.steady]) (hw _ (mI 108 rfl)) (hw _ (mI 110 rfl)) (hw _ (mI 111 rfl)) (hw _ (mI 112 rfl)) (hw _ (mI 109 rfl)) (hw _ (mI 62 rfl)) (hw _ (mI 113 rfl)) (by decide +kernel) Eal (a := al) (argsL := []) (rest := []) (rm51 l Z a0 hw hEL zc SC hzc fm SF rfm al h0 W2.old Fsa) all0 (by decide +kernel) (Wd := 0) (by decide +kernel) (by decide +kernel) (by decide +kernel) all0 rfl (by rw [hml]; rfl) (lenOf pd12 rfl) rfl (by show 2 * 0 + _ ≤ _; exact Nat.le_of_eq rfl) (hb hby d1027_32) (fun T3 h3 v3 P3 Ws3 K3 q3 => ?_)
  have W3 := Ws3 [] all0
  obtain ⟨rfl, rfl⟩ := q3
  refine gof T3 m 45 #[vr al, U0] [(.ref al)] (fun _ kk => XS.ifYes W3.here hx rfl (pc0 := 37) (pc' := 44) rfl (hb hby d1027_37) rfl (XT.i0_eq_t (by decide +kernel)) (by decide +kernel) (by decide +kernel) (XS.aloadN W3.here hx rfl (hb hby d1027_44) rfl rfl kk)) ?_
  refine W3.callI hx hEL (hw _ (mI 191 rfl)) (hw _ (mI 192 rfl)) (hw _ (mI 193 rfl)) (by first | rfl | decide +kernel | simp [Cond.onTables, Cond.keepsFace, Cond.keeps, Cond.steady]) (hw _ (mI 194 rfl)) (hw _ (mI 196 rfl)) (hw _ (mI 197 rfl)) (hw _ (mI 112 rfl)) (hw _ (mI 195 rfl)) (hw _ (mI 62 rfl)) (hw _ (mI 198 rfl)) (by decide +kernel) Eal (a := al) (argsL := []) (rest := []) (rm69 l Z a0 hw hEL zc SC hzc fm SF rfm al tt kc ua dfl el em mir gr de kdf h0 W3.old OD OS OL OM OI OG OE Eal Fea Fsa Att Ett Eua) all0 (by decide +kernel) (Wd := 0) (by decide +kernel) (by decide +kernel) (by decide +kernel) all0 rfl (by rw [hml]; rfl) (lenOf pd6 rfl) rfl (by show 2 * 0 + _ ≤ _; exact Nat.le_of_eq rfl) (hb hby d1027_45) (fun T4 h4 v4 P4 Ws4 K4 q4 => ?_)
  have W4 := Ws4 [] all0
  obtain ⟨r4, kr4, rfl, lr4, A4⟩ := q4
  have gr4 : n0 ≤ r4 ∧ s.heap.size ≤ r4 := ⟨Nat.le_trans W3.n0le lr4, Nat.le_trans W3.s0le lr4⟩
  show Go p e below _ (T4.setTop (mkF m 50 #[vr al, U0] [(.ref r4)]))
  have k6 := (Eua.keep K4)
  refine W4.callS hx hEL (hw _ (mI 221 rfl)) (hw _ (mI 222 rfl)) (hw _ (mI 93 rfl)) (hw _ (mI 223 rfl)) (by decide +kernel) (argsL := [(.ref r4)]) (rest := []) (rm77 l Z a0 hw hEL zc SC hzc fm SF rfm r4 kr4 ua dfl el em mir gr de kdf h4 W4.old OD OS OL OM OI OG OE A4 k6) all0 (by decide +kernel) (Wd := 0) (by decide +kernel) (by decide +kernel) (by decide +kernel) all0 rfl (by rw [hml]; rfl) (lenOf pd13 rfl) rfl (by show 2 * 0 + _ ≤ _; exact Nat.le_of_eq rfl) (hb hby d1027_50) (fun T5 h5 v5 P5 Ws5 K5 q5 => ?_)
  have W5 := Ws5 [] all0
  obtain ⟨r5, rfl⟩ := q5
  show Go p e below _ (T5.setTop (mkF m 53 #[vr al, U0] [(.ref r5)]))
  exact W5.retA hx hEL hs hlk (by decide +kernel) (by decide +kernel) hret rfl rfl (hb hby d1027_53) (fun S hS => ⟨r5, rfl⟩)
theorem d1028_0 : decode jdk_40_method_48_code 0 = .ok (.aload_n 0, 1) := by decide +kernel
theorem d1028_1 : decode jdk_40_method_48_code 1 = .ok (.invokestatic 112, 3) := by decide +kernel
theorem d1028_4 : decode jdk_40_method_48_code 4 = .ok (.areturn, 1) := by decide +kernel
theorem ef85 (m : MethodId) (x0 : Addr)  : entryFrame m #[(.ref x0)] 1 = mkF m 0 #[vr x0] [] := by first | (simp [entryFrame, mkF, argsToLocals, Value.category]; done) | rfl | rfl
set_option maxRecDepth 65536 in
set_option maxHeartbeats 40000000 in
theorem rm85 (l : Launch) (Z : State) (a0 : Array Value) (hw : ∀ d ∈ tables_1, d.before a0 Z = true) (hEL : EW Z a0 EL0) (zc : Int32) (SC : Sta Z Z.heap "java/lang/String" "COMPACT_STRINGS" "Z" (.int zc)) (hzc : ¬ zc = 0) (fm : Value) (SF : Sta Z Z.heap "jdk/internal/util/Preconditions" "SIOOBE_FORMATTER" "Ljava/util/function/BiFunction;" fm) (rfm : fm.isRef = true) (al : Addr) (tt : Addr) (kc : ClassId) (ua : Addr) (dfl : Addr) (el : Addr) (em : Addr) (mir : Addr) (gr : Addr) (de : Addr) (kdf : ClassId) (h0 : Heap) {n0 : Nat} (O0 : Old Z n0 h0) (OD : Arv Z Z.heap dfl kdf (.object "java/lang/Object") (0 : Int32) [] .null) (OS : Sta Z Z.heap "java/util/ArrayList" "DEFAULTCAPACITY_EMPTY_ELEMENTDATA" "[Ljava/lang/Object;" (.ref dfl)) (OL : Sta Z Z.heap "java/util/ImmutableCollections" "EMPTY_LIST" "Ljava/util/ImmutableCollections$ListN;" (.ref el)) (OM : Sta Z Z.heap "java/util/ImmutableCollections" "EMPTY" "Ljava/lang/Object;" (.ref em)) (OI : (Term.mirror "[Ljava/lang/Object;").eval a0 Z none [] Z = some (.ref mir)) (OG : Sta Z Z.heap "org/portcullis/acl/Decision" "GRANTED" "Lorg/portcullis/acl/Decision;" (.ref gr)) (OE : Sta Z Z.heap "org/portcullis/acl/Decision" "DENIED" "Lorg/portcullis/acl/Decision;" (.ref de)) (Eal : Exa Z h0 al "java/util/ArrayList") (Fea : Fld Z h0 al "java/util/ArrayList" "elementData" "[Ljava/lang/Object;" (.ref tt)) (Fsa : Fld Z h0 al "java/util/ArrayList" "size" "I" (.int (1 : Int32))) (Att : Arv Z h0 tt kc (.object "java/lang/Object") (10 : Int32) [(.ref ua), .null, .null, .null, .null, .null, .null, .null, .null, .null] .null) (Ett : Exa Z h0 tt "[Ljava/lang/Object;") (Eua : Exa Z h0 ua "org/portcullis/acl/ObjectIdentity") :
    Met l Z EL0 n0 (⟨"java/util/List", "copyOf", "(Ljava/util/Collection;)Ljava/util/List;"⟩ : MethodName) jdk_40_method_48_code 1 (some (.object "java/util/List")) [] ({ frames := 7, cells := 2, slots := 3, locals := 88 } : Room) #[(.ref al)] h0 [] [] (fun v h' S => ∃ r : Addr, v = some (.ref r)) := by
  refine Met.of (plainFor_of_name pn11) O0 ?_
  intro p e s m below meth c T0 hx hby hml hret hlk hnm hs W0
  have W0 : Wk p l e _ s m _ below meth c Z EL0 n0 [] "java/util/List" [] T0 0 0 h0 := W0
  have hSA := fun d hd => hw d (sa_in d hd)
  have hws := fun d hd => hw d (ws_in d hd)
  refine Go.of (fun _ kk => castTop (ef85 m al) kk) ?_
  refine gof T0 m 1 #[vr al] [(.ref al)] (fun _ kk => XS.aloadN W0.here hx rfl (hb hby d1028_0) rfl rfl kk) ?_
  refine W0.callS hx hEL (hw _ (mI 95 rfl)) (hw _ (mI 96 rfl)) (hw _ (mI 97 rfl)) (hw _ (mI 98 rfl)) (by decide +kernel) (argsL := [(.ref al)]) (rest := []) (rm81 l Z a0 hw hEL zc SC hzc fm SF rfm al tt kc ua dfl el em mir gr de kdf h0 W0.old OD OS OL OM OI OG OE Eal Fea Fsa Att Ett Eua) all0 (by decide +kernel) (Wd := 0) (by decide +kernel) (by decide +kernel) (by decide +kernel) all0 rfl (by rw [hml]; rfl) (lenOf pd14 rfl) rfl (by show 2 * 0 + _ ≤ _; exact Nat.le_of_eq rfl) (hb hby d1028_1) (fun T1 h1 v1 P1 Ws1 K1 q1 => ?_)
  have W1 := Ws1 [] all0
  obtain ⟨r1, rfl⟩ := q1
  show Go p e below _ (T1.setTop (mkF m 4 #[vr al] [(.ref r1)]))
  exact W1.retA hx hEL hs hlk (by decide +kernel) (by decide +kernel) hret rfl rfl (hb hby d1028_4) (fun S hS => ⟨r1, rfl⟩)
theorem d1029_0 : decode prog_10_method_1_code 0 = .ok (.aload_n 0, 1) := by decide +kernel
theorem d1029_1 : decode prog_10_method_1_code 1 = .ok (.invokespecial 1, 3) := by decide +kernel
theorem d1029_4 : decode prog_10_method_1_code 4 = .ok (.aload_n 0, 1) := by decide +kernel
theorem d1029_5 : decode prog_10_method_1_code 5 = .ok (.aload_n 1, 1) := by decide +kernel
theorem d1029_6 : decode prog_10_method_1_code 6 = .ok (.invokestatic 7, 3) := by decide +kernel
theorem d1029_9 : decode prog_10_method_1_code 9 = .ok (.putfield 13, 3) := by decide +kernel
theorem d1029_12 : decode prog_10_method_1_code 12 = .ok (.aload_n 0, 1) := by decide +kernel
theorem d1029_13 : decode prog_10_method_1_code 13 = .ok (.aload_n 2, 1) := by decide +kernel
theorem d1029_14 : decode prog_10_method_1_code 14 = .ok (.putfield 19, 3) := by decide +kernel
theorem d1029_17 : decode prog_10_method_1_code 17 = .ok (.return_, 1) := by decide +kernel
theorem ef89 (m : MethodId) (x0 : Addr) (x1 : Addr) (x2 : Value) (rx2 : x2.isRef = true) : entryFrame m #[(.ref x0), (.ref x1), x2] 3 = mkF m 0 #[vr x0, vr x1, .val x2] [] := by first | (simp [entryFrame, mkF, argsToLocals, Value.category]; done) | rfl | (rcases XT.refc rx2 with rfl | ⟨_, rfl⟩ <;> rfl)
set_option maxRecDepth 65536 in
set_option maxHeartbeats 40000000 in
theorem rm89 (l : Launch) (Z : State) (a0 : Array Value) (hw : ∀ d ∈ tables_1, d.before a0 Z = true) (hEL : EW Z a0 EL0) (zc : Int32) (SC : Sta Z Z.heap "java/lang/String" "COMPACT_STRINGS" "Z" (.int zc)) (hzc : ¬ zc = 0) (fm : Value) (SF : Sta Z Z.heap "jdk/internal/util/Preconditions" "SIOOBE_FORMATTER" "Ljava/util/function/BiFunction;" fm) (rfm : fm.isRef = true) (oo : Addr) (al : Addr) (tt : Addr) (kc : ClassId) (ua : Addr) (ev : Value) (dfl : Addr) (el : Addr) (em : Addr) (mir : Addr) (gr : Addr) (de : Addr) (kdf : ClassId) (h0 : Heap) {n0 : Nat} (O0 : Old Z n0 h0) (OD : Arv Z Z.heap dfl kdf (.object "java/lang/Object") (0 : Int32) [] .null) (OS : Sta Z Z.heap "java/util/ArrayList" "DEFAULTCAPACITY_EMPTY_ELEMENTDATA" "[Ljava/lang/Object;" (.ref dfl)) (OL : Sta Z Z.heap "java/util/ImmutableCollections" "EMPTY_LIST" "Ljava/util/ImmutableCollections$ListN;" (.ref el)) (OM : Sta Z Z.heap "java/util/ImmutableCollections" "EMPTY" "Ljava/lang/Object;" (.ref em)) (OI : (Term.mirror "[Ljava/lang/Object;").eval a0 Z none [] Z = some (.ref mir)) (OG : Sta Z Z.heap "org/portcullis/acl/Decision" "GRANTED" "Lorg/portcullis/acl/Decision;" (.ref gr)) (OE : Sta Z Z.heap "org/portcullis/acl/Decision" "DENIED" "Lorg/portcullis/acl/Decision;" (.ref de)) (rev : ev.isRef = true) (Eal : Exa Z h0 al "java/util/ArrayList") (Fea : Fld Z h0 al "java/util/ArrayList" "elementData" "[Ljava/lang/Object;" (.ref tt)) (Fsa : Fld Z h0 al "java/util/ArrayList" "size" "I" (.int (1 : Int32))) (Att : Arv Z h0 tt kc (.object "java/lang/Object") (10 : Int32) [(.ref ua), .null, .null, .null, .null, .null, .null, .null, .null, .null] .null) (Ett : Exa Z h0 tt "[Ljava/lang/Object;") (Eua : Exa Z h0 ua "org/portcullis/acl/ObjectIdentity") (Eo : Exa Z h0 oo "org/portcullis/acl/Outcome") (Fla : Fld Z h0 oo "org/portcullis/acl/Outcome" "iLevels" "Ljava/util/List;" .null) (Fya : Fld Z h0 oo "org/portcullis/acl/Outcome" "iEntry" "Lorg/portcullis/acl/AccessControlEntry;" .null) (go : n0 ≤ oo) :
    Met l Z EL0 n0 (⟨"org/portcullis/acl/Outcome", "<init>", "(Ljava/util/Collection;Lorg/portcullis/acl/AccessControlEntry;)V"⟩ : MethodName) prog_10_method_1_code 3 none [] ({ frames := 8, cells := 2, slots := 3, locals := 101 } : Room) #[(.ref oo), (.ref al), ev] h0 [oo] [] (fun v h' S => v = none ∧ Fld Z h' oo "org/portcullis/acl/Outcome" "iEntry" "Lorg/portcullis/acl/AccessControlEntry;" ev) := by
  refine Met.of (plainFor_of_name pn16) O0 ?_
  intro p e s m below meth c T0 hx hby hml hret hlk hnm hs W0
  have W0 : Wk p l e _ s m _ below meth c Z EL0 n0 [oo] "org/portcullis/acl/Outcome" [] T0 0 0 h0 := W0
  have hSA := fun d hd => hw d (sa_in d hd)
  have hws := fun d hd => hw d (ws_in d hd)
  refine Go.of (fun _ kk => castTop (ef89 m oo al ev rev) kk) ?_
  refine gof T0 m 1 #[vr oo, vr al, .val ev] [(.ref oo)] (fun _ kk => XS.aloadN W0.here hx rfl (hb hby d1029_0) rfl rfl kk) ?_
  refine W0.initO hx (hw _ (mI 90 rfl)) (hw _ (mI 15 rfl)) (hw _ (mI 16 rfl)) rfl (by rw [hml]; rfl) rfl (hb hby d1029_1) (by decide +kernel) (Wd := 0) (by show 2 * 0 + _ ≤ _; exact Nat.le_of_eq rfl) (by decide +kernel) (fun T1 W1 => ?_)
  refine gof T1 m 6 #[vr oo, vr al, .val ev] [(.ref al), (.ref oo)] (fun _ kk => XS.aloadN W1.here hx rfl (hb hby d1029_4) rfl rfl (XS.aloadN W1.here hx rfl (hb hby d1029_5) rfl rfl kk)) ?_
  refine W1.callS hx hEL (hw _ (mI 91 rfl)) (hw _ (mI 92 rfl)) (hw _ (mI 93 rfl)) (hw _ (mI 94 rfl)) (by decide +kernel) (argsL := [(.ref al)]) (rest := [(.ref oo)]) (rm85 l Z a0 hw hEL zc SC hzc fm SF rfm al tt kc ua dfl el em mir gr de kdf h0 W1.old OD OS OL OM OI OG OE Eal Fea Fsa Att Ett Eua) all0 (by decide +kernel) (Wd := 1) (by decide +kernel) (by decide +kernel) (by decide +kernel) all0 rfl (by rw [hml]; rfl) (lenOf pd14 rfl) rfl (by show 2 * 0 + _ ≤ _; exact Nat.le_of_eq rfl) (hb hby d1029_6) (fun T2 h2 v2 P2 Ws2 K2 q2 => ?_)
  have W2 := Ws2 [] all0
  obtain ⟨r2, rfl⟩ := q2
  show Go p e below _ (T2.setTop (mkF m 9 #[vr oo, vr al, .val ev] [(.ref r2), (.ref oo)]))
  have k3 := (Fla.keep K2 nin0)
  have k4 := (Eo.keep K2)
  refine W2.putF hx (host := "") (Or.inl (hw _ (mI 120 rfl))) Via.refl k3 k4 (Or.inr ⟨(hw _ (mI 121 rfl)), rfl, hnm⟩) (hw _ (mI 85 rfl)) (ty := (.object "java/util/List")) (by decide +kernel) rfl rfl go (Or.inl (mI 0 rfl)) (Or.inr ⟨by decide, by decide⟩) rfl rfl (hb hby d1029_9) (fun T5 h5 W5 w5 => ?_)
  have k6 := (Fya.keep K2 nin0)
  have K5 := Keep.of_wr w5
  have k7 := k6.other w5 (Or.inr (slot_ne (Or.inr (hw _ (mI 123 rfl))) (Or.inr (hw _ (mI 121 rfl))) (by decide +kernel) (t := (.object "org/portcullis/acl/AccessControlEntry")) (t' := (.object "java/util/List")) (by decide +kernel) (by decide +kernel)))
  have k8 := k3.same w5
  refine gof T5 m 14 #[vr oo, vr al, .val ev] [ev, (.ref oo)] (fun _ kk => XS.aloadN W5.here hx rfl (hb hby d1029_12) rfl rfl (XS.aloadN W5.here hx rfl (hb hby d1029_13) rfl rev kk)) ?_
  have k9 := (k4.keep K5)
  refine W5.putF hx (host := "") (Or.inl (hw _ (mI 122 rfl))) Via.refl k7 k9 (Or.inr ⟨(hw _ (mI 123 rfl)), rfl, hnm⟩) (hw _ (mI 85 rfl)) (ty := (.object "org/portcullis/acl/AccessControlEntry")) (by decide +kernel) (by rcases XT.refc rev with rfl | ⟨_, rfl⟩ <;> rfl) (by rcases XT.refc rev with rfl | ⟨_, rfl⟩ <;> rfl) go (Or.inl (mI 0 rfl)) (Or.inr ⟨by decide, by decide⟩) rfl rfl (hb hby d1029_14) (fun T10 h10 W10 w10 => ?_)
  have K10 := Keep.of_wr w10
  have k11 := k8.other w10 (Or.inr (slot_ne (Or.inr (hw _ (mI 121 rfl))) (Or.inr (hw _ (mI 123 rfl))) (by decide +kernel) (t := (.object "java/util/List")) (t' := (.object "org/portcullis/acl/AccessControlEntry")) (by decide +kernel) (by decide +kernel)))
  have k12 := k7.same w10
  show Go p e below _ (T10.setTop (mkF m 17 #[vr oo, vr al, .val ev] []))
  exact W10.retV hx hEL hs hlk (by decide +kernel) (by decide +kernel) hret (hb hby d1029_17) (fun S hS => ⟨rfl, k12⟩)
theorem ef62 (m : MethodId) (x0 : Addr) (x1 : Int32) (x2 : Addr)  : entryFrame m #[(.ref x0), (.int x1), (.ref x2)] 4 = mkF m 0 #[vr x0, vi x1, vr x2, U0] [] := by first | (simp [entryFrame, mkF, argsToLocals, Value.category]; done) | rfl | rfl
set_option maxRecDepth 65536 in
set_option maxHeartbeats 40000000 in
theorem rm62 (l : Launch) (Z : State) (a0 : Array Value) (hw : ∀ d ∈ tables_1, d.before a0 Z = true) (hEL : EW Z a0 EL0) (zc : Int32) (SC : Sta Z Z.heap "java/lang/String" "COMPACT_STRINGS" "Z" (.int zc)) (hzc : ¬ zc = 0) (fm : Value) (SF : Sta Z Z.heap "jdk/internal/util/Preconditions" "SIOOBE_FORMATTER" "Ljava/util/function/BiFunction;" fm) (rfm : fm.isRef = true) (tt : Addr) (kc : ClassId) (ua : Addr) (ub : Addr) (dfl : Addr) (el : Addr) (em : Addr) (mir : Addr) (gr : Addr) (de : Addr) (kdf : ClassId) (h0 : Heap) {n0 : Nat} (O0 : Old Z n0 h0) (OD : Arv Z Z.heap dfl kdf (.object "java/lang/Object") (0 : Int32) [] .null) (OS : Sta Z Z.heap "java/util/ArrayList" "DEFAULTCAPACITY_EMPTY_ELEMENTDATA" "[Ljava/lang/Object;" (.ref dfl)) (OL : Sta Z Z.heap "java/util/ImmutableCollections" "EMPTY_LIST" "Ljava/util/ImmutableCollections$ListN;" (.ref el)) (OM : Sta Z Z.heap "java/util/ImmutableCollections" "EMPTY" "Ljava/lang/Object;" (.ref em)) (OI : (Term.mirror "[Ljava/lang/Object;").eval a0 Z none [] Z = some (.ref mir)) (OG : Sta Z Z.heap "org/portcullis/acl/Decision" "GRANTED" "Lorg/portcullis/acl/Decision;" (.ref gr)) (OE : Sta Z Z.heap "org/portcullis/acl/Decision" "DENIED" "Lorg/portcullis/acl/Decision;" (.ref de)) (Att : Arv Z h0 tt kc (.object "java/lang/Object") (10 : Int32) [(.ref ua), (.ref ub), .null, .null, .null, .null, .null, .null, .null, .null] .null) (Eua : Exa Z h0 ua "org/portcullis/acl/ObjectIdentity") (Eub : Exa Z h0 ub "org/portcullis/acl/ObjectIdentity") :
    Met l Z EL0 n0 (⟨"java/util/Arrays", "copyOf", "([Ljava/lang/Object;ILjava/lang/Class;)[Ljava/lang/Object;"⟩ : MethodName) jdk_65_method_120_code 4 (some (.array (.object "java/lang/Object"))) [] ({ frames := 1, cells := 1, slots := 2, locals := 18 } : Room) #[(.ref tt), (.int (2 : Int32)), (.ref mir)] h0 [] [] (fun v h' S => ∃ (r : Addr) (kr : ClassId), v = some (.ref r) ∧ h0.size ≤ r ∧ Arv Z h' r kr (.object "java/lang/Object") (2 : Int32) [(.ref ua), (.ref ub)] .null) := by
  refine Met.of (plainFor_of_name pn13) O0 ?_
  intro p e s m below meth c T0 hx hby hml hret hlk hnm hs W0
  have W0 : Wk p l e _ s m _ below meth c Z EL0 n0 [] "java/util/Arrays" [] T0 0 0 h0 := W0
  have hSA := fun d hd => hw d (sa_in d hd)
  have hws := fun d hd => hw d (ws_in d hd)
  refine Go.of (fun _ kk => castTop (ef62 m tt (2 : Int32) mir) kk) ?_
  refine gof T0 m 1 #[vr tt, vi 2, vr mir, U0] [(.ref mir)] (fun _ kk => XS.aloadN W0.here hx rfl (hb hby d1022_0) rfl rfl kk) ?_
  refine W0.ldcM hx (hw _ (mI 212 rfl)) OI rfl (hb hby d1022_1) (fun T1 W1 => ?_)
  refine gof T1 m 7 #[vr tt, vi 2, vr mir, U0] [(.int 2)] (fun _ kk => XT.acmpNo (g := (mkF m 3 #[vr tt, vi 2, vr mir, U0] [(.ref mir), (.ref mir)])) W1.here hx rfl (hb hby d1022_3) (x := (.ref mir)) (y := (.ref mir)) (rest := []) rfl rfl rfl (XT.aa_ne_f (x := (.ref mir)) (y := (.ref mir)) rfl) (XS.iloadN W1.here hx rfl (hb hby d1022_6) rfl kk)) ?_
  refine W1.newR hx (hw _ (mI 213 rfl)) (hw _ (mI 189 rfl)) (ad := "[Ljava/lang/Object;") (by decide +kernel) rfl (hb hby d1022_7) rfl (by decide +kernel) (cap := 2) (by decide +kernel) (by decide +kernel) (by decide +kernel) (by decide +kernel) (fun T2 h2 b2 c2 eb2 gb2 W2 K2 A2 E2 Ov2 => ?_)
  have V2 : Arv Z h2 b2 c2 (.object "java/lang/Object") (2 : Int32) [.null, .null] .null := A2
  refine gof T2 m 30 #[vr tt, vi 2, vr mir, vr b2] [(.ref tt), (.int 0), (.ref b2), (.int 0), (.ref tt)] (fun _ kk => XS.goto W2.here hx rfl (pc0 := 10) (pc' := 24) rfl (hb hby d1022_10) (by decide +kernel) (by decide +kernel) (XS.astoreN W2.here hx rfl (hb hby d1022_24) rfl rfl (l' := #[.val (.ref tt), .val (.int 2), .val (.ref mir), .val (.ref b2)]) rfl (XS.aloadN W2.here hx rfl (hb hby d1022_25) rfl rfl (XS.iconst W2.here hx rfl (hb hby d1022_26) (XS.aloadN W2.here hx rfl (hb hby d1022_27) rfl rfl (XS.iconst W2.here hx rfl (hb hby d1022_28) (XS.aloadN W2.here hx rfl (hb hby d1022_29) rfl rfl kk))))))) ?_
  have k3 := (Att.keep K2 nin0)
  refine W2.alen hx k3 rfl rfl (hb hby d1022_30) ?_
  refine gof T2 m 32 #[vr tt, vi 2, vr mir, vr b2] [(.int 2), (.int 10), (.int 0), (.ref b2), (.int 0), (.ref tt)] (fun _ kk => XS.iloadN W2.here hx rfl (hb hby d1022_31) rfl kk) ?_
  refine W2.callS hx hEL (hw _ (mI 214 rfl)) (hw _ (mI 215 rfl)) (hw _ (mI 186 rfl)) (hw _ (mI 216 rfl)) (by decide +kernel) (argsL := [(.int (10 : Int32)), (.int (2 : Int32))]) (rest := [(.int (0 : Int32)), (.ref b2), (.int (0 : Int32)), (.ref tt)]) (rm32 l Z a0 hw hEL zc SC hzc fm SF rfm  h2 W2.old ) all0 (by decide +kernel) (Wd := 4) (by decide +kernel) (by decide +kernel) (by decide +kernel) all0 rfl (by rw [hml]; rfl) (lenOf pd4 rfl) rfl (by show 2 * 0 + _ ≤ _; exact Nat.le_of_eq rfl) (hb hby d1022_32) (fun T4 h4 v4 P4 Ws4 K4 q4 => ?_)
  have W4 := Ws4 [] all0
  obtain ⟨rfl, rfl⟩ := q4
  show Go p e below _ (T4.setTop (mkF m 35 #[vr tt, vi 2, vr mir, vr b2] [(.int 2), (.int 0), (.ref b2), (.int 0), (.ref tt)]))
  have k6 := (Eub.keep K2)
  have k7 := (Eua.keep K2)
  refine W4.cpR hx (hw _ (mI 217 rfl)) (hw _ (mI 220 rfl)) (hw _ (mI 218 rfl)) (hw _ (mI 219 rfl)) (us := [(.ref ua), (.ref ub)]) k3 V2 (stoLS (Sto.ofArv V2 Ov2 (Ins.of_exa k7 (hw _ (mI 190 rfl)))) (stoLS (Sto.ofArv V2 Ov2 (Ins.of_exa k6 (hw _ (mI 190 rfl)))) stoL0)) (by decide) (by decide) (by decide) (by decide) (by decide) rfl (Nat.le_of_ble_eq_true rfl) gb2.1 (Or.inr gb2.2) (mI 0 rfl) rfl (by rw [hml]; rfl) rfl (hb hby d1022_35) (by decide +kernel) (Wd := 0) (by show 2 * 0 + _ ≤ _; exact Nat.le_of_eq rfl) (by decide +kernel) (fun T5 h5 W5 K5 A5 => ?_)
  have V5 : Arv Z h5 b2 c2 (.object "java/lang/Object") (2 : Int32) [(.ref ua), (.ref ub)] .null := A5
  refine gof T5 m 39 #[vr tt, vi 2, vr mir, vr b2] [(.ref b2)] (fun _ kk => XS.aloadN W5.here hx rfl (hb hby d1022_38) rfl rfl kk) ?_
  exact W5.retA hx hEL hs hlk (by decide +kernel) (by decide +kernel) hret rfl rfl (hb hby d1022_39) (fun S hS => ⟨b2, c2, rfl, hs ▸ gb2.2, V5⟩)
theorem ef66 (m : MethodId) (x0 : Addr) (x1 : Int32)  : entryFrame m #[(.ref x0), (.int x1)] 2 = mkF m 0 #[vr x0, vi x1] [] := by first | (simp [entryFrame, mkF, argsToLocals, Value.category]; done) | rfl | rfl
set_option maxRecDepth 65536 in
set_option maxHeartbeats 40000000 in
theorem rm66 (l : Launch) (Z : State) (a0 : Array Value) (hw : ∀ d ∈ tables_1, d.before a0 Z = true) (hEL : EW Z a0 EL0) (zc : Int32) (SC : Sta Z Z.heap "java/lang/String" "COMPACT_STRINGS" "Z" (.int zc)) (hzc : ¬ zc = 0) (fm : Value) (SF : Sta Z Z.heap "jdk/internal/util/Preconditions" "SIOOBE_FORMATTER" "Ljava/util/function/BiFunction;" fm) (rfm : fm.isRef = true) (tt : Addr) (kc : ClassId) (ua : Addr) (ub : Addr) (dfl : Addr) (el : Addr) (em : Addr) (mir : Addr) (gr : Addr) (de : Addr) (kdf : ClassId) (h0 : Heap) {n0 : Nat} (O0 : Old Z n0 h0) (OD : Arv Z Z.heap dfl kdf (.object "java/lang/Object") (0 : Int32) [] .null) (OS : Sta Z Z.heap "java/util/ArrayList" "DEFAULTCAPACITY_EMPTY_ELEMENTDATA" "[Ljava/lang/Object;" (.ref dfl)) (OL : Sta Z Z.heap "java/util/ImmutableCollections" "EMPTY_LIST" "Ljava/util/ImmutableCollections$ListN;" (.ref el)) (OM : Sta Z Z.heap "java/util/ImmutableCollections" "EMPTY" "Ljava/lang/Object;" (.ref em)) (OI : (Term.mirror "[Ljava/lang/Object;").eval a0 Z none [] Z = some (.ref mir)) (OG : Sta Z Z.heap "org/portcullis/acl/Decision" "GRANTED" "Lorg/portcullis/acl/Decision;" (.ref gr)) (OE : Sta Z Z.heap "org/portcullis/acl/Decision" "DENIED" "Lorg/portcullis/acl/Decision;" (.ref de)) (Att : Arv Z h0 tt kc (.object "java/lang/Object") (10 : Int32) [(.ref ua), (.ref ub), .null, .null, .null, .null, .null, .null, .null, .null] .null) (Ett : Exa Z h0 tt "[Ljava/lang/Object;") (Eua : Exa Z h0 ua "org/portcullis/acl/ObjectIdentity") (Eub : Exa Z h0 ub "org/portcullis/acl/ObjectIdentity") :
    Met l Z EL0 n0 (⟨"java/util/Arrays", "copyOf", "([Ljava/lang/Object;I)[Ljava/lang/Object;"⟩ : MethodName) jdk_65_method_119_code 2 (some (.array (.object "java/lang/Object"))) [] ({ frames := 2, cells := 1, slots := 2, locals := 33 } : Room) #[(.ref tt), (.int (2 : Int32))] h0 [] [] (fun v h' S => ∃ (r : Addr) (kr : ClassId), v = some (.ref r) ∧ h0.size ≤ r ∧ Arv Z h' r kr (.object "java/lang/Object") (2 : Int32) [(.ref ua), (.ref ub)] .null) := by
  refine Met.of (plainFor_of_name pn13) O0 ?_
  intro p e s m below meth c T0 hx hby hml hret hlk hnm hs W0
  have W0 : Wk p l e _ s m _ below meth c Z EL0 n0 [] "java/util/Arrays" [] T0 0 0 h0 := W0
  have hSA := fun d hd => hw d (sa_in d hd)
  have hws := fun d hd => hw d (ws_in d hd)
  refine Go.of (fun _ kk => castTop (ef66 m tt (2 : Int32)) kk) ?_
  refine gof T0 m 3 #[vr tt, vi 2] [(.ref tt), (.int 2), (.ref tt)] (fun _ kk => XS.aloadN W0.here hx rfl (hb hby d1023_0) rfl rfl (XS.iloadN W0.here hx rfl (hb hby d1023_1) rfl (XS.aloadN W0.here hx rfl (hb hby d1023_2) rfl rfl kk))) ?_
  refine W0.getCl hx (hw _ (mI 203 rfl)) (hw _ (mI 207 rfl)) (hw _ (mI 205 rfl)) (hw _ (mI 206 rfl)) Ett OI rfl (by rw [hml]; rfl) rfl (hb hby d1023_3) (by decide +kernel) (Wd := 2) (by show 2 * 0 + _ ≤ _; exact Nat.le_of_eq rfl) (by decide +kernel) (fun T1 W1 => ?_)
  show Go p e below _ (T1.setTop (mkF m 6 #[vr tt, vi 2] [(.ref mir), (.int 2), (.ref tt)]))
  refine W1.callS hx hEL (hw _ (mI 209 rfl)) (hw _ (mI 210 rfl)) (hw _ (mI 201 rfl)) (hw _ (mI 211 rfl)) (by decide +kernel) (argsL := [(.ref tt), (.int (2 : Int32)), (.ref mir)]) (rest := []) (rm62 l Z a0 hw hEL zc SC hzc fm SF rfm tt kc ua ub dfl el em mir gr de kdf h0 W1.old OD OS OL OM OI OG OE Att Eua Eub) all0 (by decide +kernel) (Wd := 0) (by decide +kernel) (by decide +kernel) (by decide +kernel) all0 rfl (by rw [hml]; rfl) (lenOf pd8 rfl) rfl (by show 2 * 0 + _ ≤ _; exact Nat.le_of_eq rfl) (hb hby d1023_6) (fun T2 h2 v2 P2 Ws2 K2 q2 => ?_)
  have W2 := Ws2 [] all0
  obtain ⟨r2, kr2, rfl, lr2, A2⟩ := q2
  have gr2 : n0 ≤ r2 ∧ s.heap.size ≤ r2 := ⟨Nat.le_trans W1.n0le lr2, Nat.le_trans W1.s0le lr2⟩
  show Go p e below _ (T2.setTop (mkF m 9 #[vr tt, vi 2] [(.ref r2)]))
  exact W2.retA hx hEL hs hlk (by decide +kernel) (by decide +kernel) hret rfl rfl (hb hby d1023_9) (fun S hS => ⟨r2, kr2, rfl, hs ▸ gr2.2, A2⟩)
theorem ef70 (m : MethodId) (x0 : Addr)  : entryFrame m #[(.ref x0)] 1 = mkF m 0 #[vr x0] [] := by first | (simp [entryFrame, mkF, argsToLocals, Value.category]; done) | rfl | rfl
set_option maxRecDepth 65536 in
set_option maxHeartbeats 40000000 in
theorem rm70 (l : Launch) (Z : State) (a0 : Array Value) (hw : ∀ d ∈ tables_1, d.before a0 Z = true) (hEL : EW Z a0 EL0) (zc : Int32) (SC : Sta Z Z.heap "java/lang/String" "COMPACT_STRINGS" "Z" (.int zc)) (hzc : ¬ zc = 0) (fm : Value) (SF : Sta Z Z.heap "jdk/internal/util/Preconditions" "SIOOBE_FORMATTER" "Ljava/util/function/BiFunction;" fm) (rfm : fm.isRef = true) (al : Addr) (tt : Addr) (kc : ClassId) (ua : Addr) (ub : Addr) (dfl : Addr) (el : Addr) (em : Addr) (mir : Addr) (gr : Addr) (de : Addr) (kdf : ClassId) (h0 : Heap) {n0 : Nat} (O0 : Old Z n0 h0) (OD : Arv Z Z.heap dfl kdf (.object "java/lang/Object") (0 : Int32) [] .null) (OS : Sta Z Z.heap "java/util/ArrayList" "DEFAULTCAPACITY_EMPTY_ELEMENTDATA" "[Ljava/lang/Object;" (.ref dfl)) (OL : Sta Z Z.heap "java/util/ImmutableCollections" "EMPTY_LIST" "Ljava/util/ImmutableCollections$ListN;" (.ref el)) (OM : Sta Z Z.heap "java/util/ImmutableCollections" "EMPTY" "Ljava/lang/Object;" (.ref em)) (OI : (Term.mirror "[Ljava/lang/Object;").eval a0 Z none [] Z = some (.ref mir)) (OG : Sta Z Z.heap "org/portcullis/acl/Decision" "GRANTED" "Lorg/portcullis/acl/Decision;" (.ref gr)) (OE : Sta Z Z.heap "org/portcullis/acl/Decision" "DENIED" "Lorg/portcullis/acl/Decision;" (.ref de)) (Eal : Exa Z h0 al "java/util/ArrayList") (Fea : Fld Z h0 al "java/util/ArrayList" "elementData" "[Ljava/lang/Object;" (.ref tt)) (Fsa : Fld Z h0 al "java/util/ArrayList" "size" "I" (.int (2 : Int32))) (Att : Arv Z h0 tt kc (.object "java/lang/Object") (10 : Int32) [(.ref ua), (.ref ub), .null, .null, .null, .null, .null, .null, .null, .null] .null) (Ett : Exa Z h0 tt "[Ljava/lang/Object;") (Eua : Exa Z h0 ua "org/portcullis/acl/ObjectIdentity") (Eub : Exa Z h0 ub "org/portcullis/acl/ObjectIdentity") :
    Met l Z EL0 n0 (⟨"java/util/ArrayList", "toArray", "()[Ljava/lang/Object;"⟩ : MethodName) jdk_38_method_16_code 1 (some (.array (.object "java/lang/Object"))) [] ({ frames := 3, cells := 1, slots := 2, locals := 46 } : Room) #[(.ref al)] h0 [] [] (fun v h' S => ∃ (r : Addr) (kr : ClassId), v = some (.ref r) ∧ h0.size ≤ r ∧ Arv Z h' r kr (.object "java/lang/Object") (2 : Int32) [(.ref ua), (.ref ub)] .null) := by
  refine Met.of (plainFor_of_name pn10) O0 ?_
  intro p e s m below meth c T0 hx hby hml hret hlk hnm hs W0
  have W0 : Wk p l e _ s m _ below meth c Z EL0 n0 [] "java/util/ArrayList" [] T0 0 0 h0 := W0
  have hSA := fun d hd => hw d (sa_in d hd)
  have hws := fun d hd => hw d (ws_in d hd)
  refine Go.of (fun _ kk => castTop (ef70 m al) kk) ?_
  refine gof T0 m 1 #[vr al] [(.ref al)] (fun _ kk => XS.aloadN W0.here hx rfl (hb hby d1024_0) rfl rfl kk) ?_
  refine W0.getF hx (host := "") (Or.inl (hw _ (mI 82 rfl))) Via.refl Fea rfl rfl (hb hby d1024_1) (fun T1 W1 => ?_)
  refine gof T1 m 5 #[vr al] [(.ref al), (.ref tt)] (fun _ kk => XS.aloadN W1.here hx rfl (hb hby d1024_4) rfl rfl kk) ?_
  refine W1.getF hx (host := "") (Or.inl (hw _ (mI 114 rfl))) Via.refl Fsa rfl rfl (hb hby d1024_5) (fun T2 W2 => ?_)
  show Go p e below _ (T2.setTop (mkF m 8 #[vr al] [(.int 2), (.ref tt)]))
  refine W2.callS hx hEL (hw _ (mI 199 rfl)) (hw _ (mI 200 rfl)) (hw _ (mI 201 rfl)) (hw _ (mI 202 rfl)) (by decide +kernel) (argsL := [(.ref tt), (.int (2 : Int32))]) (rest := []) (rm66 l Z a0 hw hEL zc SC hzc fm SF rfm tt kc ua ub dfl el em mir gr de kdf h0 W2.old OD OS OL OM OI OG OE Att Ett Eua Eub) all0 (by decide +kernel) (Wd := 0) (by decide +kernel) (by decide +kernel) (by decide +kernel) all0 rfl (by rw [hml]; rfl) (lenOf pd9 rfl) rfl (by show 2 * 0 + _ ≤ _; exact Nat.le_of_eq rfl) (hb hby d1024_8) (fun T3 h3 v3 P3 Ws3 K3 q3 => ?_)
  have W3 := Ws3 [] all0
  obtain ⟨r3, kr3, rfl, lr3, A3⟩ := q3
  have gr3 : n0 ≤ r3 ∧ s.heap.size ≤ r3 := ⟨Nat.le_trans W2.n0le lr3, Nat.le_trans W2.s0le lr3⟩
  show Go p e below _ (T3.setTop (mkF m 11 #[vr al] [(.ref r3)]))
  exact W3.retA hx hEL hs hlk (by decide +kernel) (by decide +kernel) hret rfl rfl (hb hby d1024_11) (fun S hS => ⟨r3, kr3, rfl, hs ▸ gr3.2, A3⟩)
theorem d1030_0 : decode jdk_44_method_2_code 0 = .ok (.aload_n 0, 1) := by decide +kernel
theorem d1030_1 : decode jdk_44_method_2_code 1 = .ok (.invokespecial 1, 3) := by decide +kernel
theorem d1030_4 : decode jdk_44_method_2_code 4 = .ok (.aload_n 0, 1) := by decide +kernel
theorem d1030_5 : decode jdk_44_method_2_code 5 = .ok (.aload_n 1, 1) := by decide +kernel
theorem d1030_6 : decode jdk_44_method_2_code 6 = .ok (.invokestatic 7, 3) := by decide +kernel
theorem d1030_9 : decode jdk_44_method_2_code 9 = .ok (.putfield 13, 3) := by decide +kernel
theorem d1030_12 : decode jdk_44_method_2_code 12 = .ok (.aload_n 0, 1) := by decide +kernel
theorem d1030_13 : decode jdk_44_method_2_code 13 = .ok (.aload_n 2, 1) := by decide +kernel
theorem d1030_14 : decode jdk_44_method_2_code 14 = .ok (.invokestatic 7, 3) := by decide +kernel
theorem d1030_17 : decode jdk_44_method_2_code 17 = .ok (.putfield 24, 3) := by decide +kernel
theorem d1030_20 : decode jdk_44_method_2_code 20 = .ok (.return_, 1) := by decide +kernel
theorem ef74 (m : MethodId) (x0 : Addr) (x1 : Addr) (x2 : Addr)  : entryFrame m #[(.ref x0), (.ref x1), (.ref x2)] 3 = mkF m 0 #[vr x0, vr x1, vr x2] [] := by first | (simp [entryFrame, mkF, argsToLocals, Value.category]; done) | rfl | rfl
set_option maxRecDepth 65536 in
set_option maxHeartbeats 40000000 in
theorem rm74 (l : Launch) (Z : State) (a0 : Array Value) (hw : ∀ d ∈ tables_1, d.before a0 Z = true) (hEL : EW Z a0 EL0) (zc : Int32) (SC : Sta Z Z.heap "java/lang/String" "COMPACT_STRINGS" "Z" (.int zc)) (hzc : ¬ zc = 0) (fm : Value) (SF : Sta Z Z.heap "jdk/internal/util/Preconditions" "SIOOBE_FORMATTER" "Ljava/util/function/BiFunction;" fm) (rfm : fm.isRef = true) (oo : Addr) (ua : Addr) (ub : Addr) (dfl : Addr) (el : Addr) (em : Addr) (mir : Addr) (gr : Addr) (de : Addr) (kdf : ClassId) (h0 : Heap) {n0 : Nat} (O0 : Old Z n0 h0) (OD : Arv Z Z.heap dfl kdf (.object "java/lang/Object") (0 : Int32) [] .null) (OS : Sta Z Z.heap "java/util/ArrayList" "DEFAULTCAPACITY_EMPTY_ELEMENTDATA" "[Ljava/lang/Object;" (.ref dfl)) (OL : Sta Z Z.heap "java/util/ImmutableCollections" "EMPTY_LIST" "Ljava/util/ImmutableCollections$ListN;" (.ref el)) (OM : Sta Z Z.heap "java/util/ImmutableCollections" "EMPTY" "Ljava/lang/Object;" (.ref em)) (OI : (Term.mirror "[Ljava/lang/Object;").eval a0 Z none [] Z = some (.ref mir)) (OG : Sta Z Z.heap "org/portcullis/acl/Decision" "GRANTED" "Lorg/portcullis/acl/Decision;" (.ref gr)) (OE : Sta Z Z.heap "org/portcullis/acl/Decision" "DENIED" "Lorg/portcullis/acl/Decision;" (.ref de)) (Eo : Exa Z h0 oo "java/util/ImmutableCollections$List12") (Fza : Fld Z h0 oo "java/util/ImmutableCollections$List12" "e0" "Ljava/lang/Object;" .null) (Fzb : Fld Z h0 oo "java/util/ImmutableCollections$List12" "e1" "Ljava/lang/Object;" .null) (go : n0 ≤ oo) :
    Met l Z EL0 n0 (⟨"java/util/ImmutableCollections$List12", "<init>", "(Ljava/lang/Object;Ljava/lang/Object;)V"⟩ : MethodName) jdk_44_method_2_code 3 none [] ({ frames := 4, cells := 0, slots := 0, locals := 48 } : Room) #[(.ref oo), (.ref ua), (.ref ub)] h0 [oo] [] (fun v h' S => v = none) := by
  refine Met.of (plainFor_of_name pn14) O0 ?_
  intro p e s m below meth c T0 hx hby hml hret hlk hnm hs W0
  have W0 : Wk p l e _ s m _ below meth c Z EL0 n0 [oo] "java/util/ImmutableCollections$List12" [] T0 0 0 h0 := W0
  have hSA := fun d hd => hw d (sa_in d hd)
  have hws := fun d hd => hw d (ws_in d hd)
  refine Go.of (fun _ kk => castTop (ef74 m oo ua ub) kk) ?_
  refine gof T0 m 1 #[vr oo, vr ua, vr ub] [(.ref oo)] (fun _ kk => XS.aloadN W0.here hx rfl (hb hby d1030_0) rfl rfl kk) ?_
  refine W0.callP hx hEL rfl (hw _ (mI 231 rfl)) (hw _ (mI 232 rfl)) (hw _ (mI 235 rfl)) (hw _ (mI 236 rfl)) (by decide +kernel) (a := oo) (argsL := []) (rest := []) (rm17 l Z a0 hw hEL zc SC hzc fm SF rfm oo h0 W0.old ) all0 (by decide +kernel) (Wd := 0) (by decide +kernel) (by decide +kernel) (by decide +kernel) all0 rfl (by rw [hml]; rfl) (lenOf pd3 rfl) rfl (by show 2 * 0 + _ ≤ _; exact Nat.le_of_eq rfl) (hb hby d1030_1) (fun T1 h1 v1 P1 Ws1 K1 q1 => ?_)
  have W1 := Ws1 [] all0
  obtain ⟨rfl, rfl⟩ := q1
  refine gof T1 m 6 #[vr oo, vr ua, vr ub] [(.ref ua), (.ref oo)] (fun _ kk => XS.aloadN W1.here hx rfl (hb hby d1030_4) rfl rfl (XS.aloadN W1.here hx rfl (hb hby d1030_5) rfl rfl kk)) ?_
  refine W1.callS hx hEL (hw _ (mI 245 rfl)) (hw _ (mI 246 rfl)) (hw _ (mI 247 rfl)) (hw _ (mI 248 rfl)) (by decide +kernel) (argsL := [(.ref ua)]) (rest := [(.ref oo)]) (rm55 l Z a0 hw hEL zc SC hzc fm SF rfm ua h0 W1.old ) all0 (by decide +kernel) (Wd := 1) (by decide +kernel) (by decide +kernel) (by decide +kernel) all0 rfl (by rw [hml]; rfl) (lenOf pd10 rfl) rfl (by show 2 * 0 + _ ≤ _; exact Nat.le_of_eq rfl) (hb hby d1030_6) (fun T2 h2 v2 P2 Ws2 K2 q2 => ?_)
  have W2 := Ws2 [] all0
  obtain ⟨rfl, rfl⟩ := q2
  show Go p e below _ (T2.setTop (mkF m 9 #[vr oo, vr ua, vr ub] [(.ref ua), (.ref oo)]))
  refine W2.putF hx (host := "") (Or.inl (hw _ (mI 249 rfl))) Via.refl Fza Eo (Or.inr ⟨(hw _ (mI 250 rfl)), rfl, hnm⟩) (hw _ (mI 225 rfl)) (ty := (.object "java/lang/Object")) (by decide +kernel) rfl rfl go (Or.inl (mI 0 rfl)) (Or.inr ⟨by decide, by decide⟩) rfl rfl (hb hby d1030_9) (fun T3 h3 W3 w3 => ?_)
  have K3 := Keep.of_wr w3
  have k4 := Fzb.other w3 (Or.inr (slot_ne (Or.inr (hw _ (mI 253 rfl))) (Or.inr (hw _ (mI 250 rfl))) (by decide +kernel) (t := (.object "java/lang/Object")) (t' := (.object "java/lang/Object")) (by decide +kernel) (by decide +kernel)))
  have k5 := Fza.same w3
  refine gof T3 m 14 #[vr oo, vr ua, vr ub] [(.ref ub), (.ref oo)] (fun _ kk => XS.aloadN W3.here hx rfl (hb hby d1030_12) rfl rfl (XS.aloadN W3.here hx rfl (hb hby d1030_13) rfl rfl kk)) ?_
  refine W3.callS hx hEL (hw _ (mI 245 rfl)) (hw _ (mI 246 rfl)) (hw _ (mI 247 rfl)) (hw _ (mI 248 rfl)) (by decide +kernel) (argsL := [(.ref ub)]) (rest := [(.ref oo)]) (rm55 l Z a0 hw hEL zc SC hzc fm SF rfm ub h3 W3.old ) all0 (by decide +kernel) (Wd := 1) (by decide +kernel) (by decide +kernel) (by decide +kernel) all0 rfl (by rw [hml]; rfl) (lenOf pd10 rfl) rfl (by show 2 * 0 + _ ≤ _; exact Nat.le_of_eq rfl) (hb hby d1030_14) (fun T6 h6 v6 P6 Ws6 K6 q6 => ?_)
  have W6 := Ws6 [] all0
  obtain ⟨rfl, rfl⟩ := q6
  show Go p e below _ (T6.setTop (mkF m 17 #[vr oo, vr ua, vr ub] [(.ref ub), (.ref oo)]))
  have k7 := (Eo.keep K3)
  refine W6.putF hx (host := "") (Or.inl (hw _ (mI 252 rfl))) Via.refl k4 k7 (Or.inr ⟨(hw _ (mI 253 rfl)), rfl, hnm⟩) (hw _ (mI 225 rfl)) (ty := (.object "java/lang/Object")) (by decide +kernel) rfl rfl go (Or.inl (mI 0 rfl)) (Or.inr ⟨by decide, by decide⟩) rfl rfl (hb hby d1030_17) (fun T8 h8 W8 w8 => ?_)
  have K8 := Keep.of_wr w8
  have k9 := k5.other w8 (Or.inr (slot_ne (Or.inr (hw _ (mI 250 rfl))) (Or.inr (hw _ (mI 253 rfl))) (by decide +kernel) (t := (.object "java/lang/Object")) (t' := (.object "java/lang/Object")) (by decide +kernel) (by decide +kernel)))
  have k10 := k4.same w8
  show Go p e below _ (T8.setTop (mkF m 20 #[vr oo, vr ua, vr ub] []))
  exact W8.retV hx hEL hs hlk (by decide +kernel) (by decide +kernel) hret (hb hby d1030_20) (fun S hS => rfl)
theorem d1026_45 : decode jdk_40_method_47_code 45 = .ok (.new 96, 3) := by decide +kernel
theorem d1026_48 : decode jdk_40_method_47_code 48 = .ok (.dup, 1) := by decide +kernel
theorem d1026_49 : decode jdk_40_method_47_code 49 = .ok (.aload_n 0, 1) := by decide +kernel
theorem d1026_50 : decode jdk_40_method_47_code 50 = .ok (.iconst 0, 1) := by decide +kernel
theorem d1026_51 : decode jdk_40_method_47_code 51 = .ok (.aaload, 1) := by decide +kernel
theorem d1026_52 : decode jdk_40_method_47_code 52 = .ok (.aload_n 0, 1) := by decide +kernel
theorem d1026_53 : decode jdk_40_method_47_code 53 = .ok (.iconst 1, 1) := by decide +kernel
theorem d1026_54 : decode jdk_40_method_47_code 54 = .ok (.aaload, 1) := by decide +kernel
theorem d1026_55 : decode jdk_40_method_47_code 55 = .ok (.invokespecial 100, 3) := by decide +kernel
theorem d1026_58 : decode jdk_40_method_47_code 58 = .ok (.areturn, 1) := by decide +kernel
theorem ef78 (m : MethodId) (x0 : Addr)  : entryFrame m #[(.ref x0)] 2 = mkF m 0 #[vr x0, U0] [] := by first | (simp [entryFrame, mkF, argsToLocals, Value.category]; done) | rfl | rfl
set_option maxRecDepth 65536 in
set_option maxHeartbeats 40000000 in
theorem rm78 (l : Launch) (Z : State) (a0 : Array Value) (hw : ∀ d ∈ tables_1, d.before a0 Z = true) (hEL : EW Z a0 EL0) (zc : Int32) (SC : Sta Z Z.heap "java/lang/String" "COMPACT_STRINGS" "Z" (.int zc)) (hzc : ¬ zc = 0) (fm : Value) (SF : Sta Z Z.heap "jdk/internal/util/Preconditions" "SIOOBE_FORMATTER" "Ljava/util/function/BiFunction;" fm) (rfm : fm.isRef = true) (rr : Addr) (kr : ClassId) (ua : Addr) (ub : Addr) (dfl : Addr) (el : Addr) (em : Addr) (mir : Addr) (gr : Addr) (de : Addr) (kdf : ClassId) (h0 : Heap) {n0 : Nat} (O0 : Old Z n0 h0) (OD : Arv Z Z.heap dfl kdf (.object "java/lang/Object") (0 : Int32) [] .null) (OS : Sta Z Z.heap "java/util/ArrayList" "DEFAULTCAPACITY_EMPTY_ELEMENTDATA" "[Ljava/lang/Object;" (.ref dfl)) (OL : Sta Z Z.heap "java/util/ImmutableCollections" "EMPTY_LIST" "Ljava/util/ImmutableCollections$ListN;" (.ref el)) (OM : Sta Z Z.heap "java/util/ImmutableCollections" "EMPTY" "Ljava/lang/Object;" (.ref em)) (OI : (Term.mirror "[Ljava/lang/Object;").eval a0 Z none [] Z = some (.ref mir)) (OG : Sta Z Z.heap "org/portcullis/acl/Decision" "GRANTED" "Lorg/portcullis/acl/Decision;" (.ref gr)) (OE : Sta Z Z.heap "org/portcullis/acl/Decision" "DENIED" "Lorg/portcullis/acl/Decision;" (.ref de)) (Arr : Arv Z h0 rr kr (.object "java/lang/Object") (2 : Int32) [(.ref ua), (.ref ub)] .null) (Eua : Exa Z h0 ua "org/portcullis/acl/ObjectIdentity") (Eub : Exa Z h0 ub "org/portcullis/acl/ObjectIdentity") :
    Met l Z EL0 n0 (⟨"java/util/List", "of", "([Ljava/lang/Object;)Ljava/util/List;"⟩ : MethodName) jdk_40_method_47_code 2 (some (.object "java/util/List")) [] ({ frames := 5, cells := 1, slots := 2, locals := 63 } : Room) #[(.ref rr)] h0 [] [] (fun v h' S => ∃ r : Addr, v = some (.ref r)) := by
  refine Met.of (plainFor_of_name pn11) O0 ?_
  intro p e s m below meth c T0 hx hby hml hret hlk hnm hs W0
  have W0 : Wk p l e _ s m _ below meth c Z EL0 n0 [] "java/util/List" [] T0 0 0 h0 := W0
  have hSA := fun d hd => hw d (sa_in d hd)
  have hws := fun d hd => hw d (ws_in d hd)
  refine Go.of (fun _ kk => castTop (ef78 m rr) kk) ?_
  refine gof T0 m 1 #[vr rr, U0] [(.ref rr)] (fun _ kk => XS.aloadN W0.here hx rfl (hb hby d1026_0) rfl rfl kk) ?_
  refine W0.alen hx Arr rfl rfl (hb hby d1026_1) ?_
  show Go p e below _ (T0.setTop (mkF m 2 #[vr rr, U0] [(.int 2)]))
  refine W0.tswIn hx rfl rfl (hb hby d1026_2) (by decide +kernel) (off := 43) (by decide +kernel) (by show (0 : Int) ≤ ((2 : Nat) : Int) + 43; decide) (pc' := 45) rfl ?_
  show Go p e below _ (T0.setTop (mkF m 45 #[vr rr, U0] []))
  refine W0.newO hx (hw _ (mI 224 rfl)) (hw _ (mI 225 rfl)) (hw _ (mI 226 rfl)) rfl (hb hby d1026_45) (by decide +kernel) (by decide +kernel) (fun T1 h1 b1 eb1 gb1 W1 K1 E1 D1 => ?_)
  have k2 : Fld Z h1 b1 "java/util/ImmutableCollections$List12" "e0" "Ljava/lang/Object;" .null := D1 (Or.inr (hw _ (mI 250 rfl))) (ty := (.object "java/lang/Object")) (by decide +kernel)
  have k3 : Fld Z h1 b1 "java/util/ImmutableCollections$List12" "e1" "Ljava/lang/Object;" .null := D1 (Or.inr (hw _ (mI 253 rfl))) (ty := (.object "java/lang/Object")) (by decide +kernel)
  refine gof T1 m 51 #[vr rr, U0] [(.int 0), (.ref rr), (.ref b1), (.ref b1)] (fun _ kk => XS.dup W1.here hx rfl (hb hby d1026_48) rfl rfl (XS.aloadN W1.here hx rfl (hb hby d1026_49) rfl rfl (XS.iconst W1.here hx rfl (hb hby d1026_50) kk))) ?_
  have k4 := (Arr.keep K1 nin0)
  refine W1.aaload hx k4 rfl ⟨by decide, by decide⟩ (v := (.ref ua)) rfl rfl rfl (hb hby d1026_51) ?_
  refine gof T1 m 54 #[vr rr, U0] [(.int 1), (.ref rr), (.ref ua), (.ref b1), (.ref b1)] (fun _ kk => XS.aloadN W1.here hx rfl (hb hby d1026_52) rfl rfl (XS.iconst W1.here hx rfl (hb hby d1026_53) kk)) ?_
  refine W1.aaload hx k4 rfl ⟨by decide, by decide⟩ (v := (.ref ub)) rfl rfl rfl (hb hby d1026_54) ?_
  show Go p e below _ (T1.setTop (mkF m 55 #[vr rr, U0] [(.ref ub), (.ref ua), (.ref b1), (.ref b1)]))
  refine W1.callP hx hEL rfl (hw _ (mI 283 rfl)) (hw _ (mI 284 rfl)) (hw _ (mI 226 rfl)) (hw _ (mI 285 rfl)) (by decide +kernel) (a := b1) (argsL := [(.ref ua), (.ref ub)]) (rest := [(.ref b1)]) (rm74 l Z a0 hw hEL zc SC hzc fm SF rfm b1 ua ub dfl el em mir gr de kdf h1 W1.old OD OS OL OM OI OG OE E1 k2 k3 gb1.1) all0 (by decide +kernel) (Wd := 1) (by decide +kernel) (by decide +kernel) (by decide +kernel) (allS ⟨gb1.1, (Or.inr gb1.2)⟩ all0) rfl (by rw [hml]; rfl) (lenOf pd15 rfl) rfl (by show 2 * 0 + _ ≤ _; exact Nat.le_of_eq rfl) (hb hby d1026_55) (fun T5 h5 v5 P5 Ws5 K5 q5 => ?_)
  have W5 := Ws5 [] all0
  obtain rfl := q5
  show Go p e below _ (T5.setTop (mkF m 58 #[vr rr, U0] [(.ref b1)]))
  exact W5.retA hx hEL hs hlk (by decide +kernel) (by decide +kernel) hret rfl rfl (hb hby d1026_58) (fun S hS => ⟨b1, rfl⟩)
theorem ef82 (m : MethodId) (x0 : Addr)  : entryFrame m #[(.ref x0)] 2 = mkF m 0 #[vr x0, U0] [] := by first | (simp [entryFrame, mkF, argsToLocals, Value.category]; done) | rfl | rfl
set_option maxRecDepth 65536 in
set_option maxHeartbeats 40000000 in
theorem rm82 (l : Launch) (Z : State) (a0 : Array Value) (hw : ∀ d ∈ tables_1, d.before a0 Z = true) (hEL : EW Z a0 EL0) (zc : Int32) (SC : Sta Z Z.heap "java/lang/String" "COMPACT_STRINGS" "Z" (.int zc)) (hzc : ¬ zc = 0) (fm : Value) (SF : Sta Z Z.heap "jdk/internal/util/Preconditions" "SIOOBE_FORMATTER" "Ljava/util/function/BiFunction;" fm) (rfm : fm.isRef = true) (al : Addr) (tt : Addr) (kc : ClassId) (ua : Addr) (ub : Addr) (dfl : Addr) (el : Addr) (em : Addr) (mir : Addr) (gr : Addr) (de : Addr) (kdf : ClassId) (h0 : Heap) {n0 : Nat} (O0 : Old Z n0 h0) (OD : Arv Z Z.heap dfl kdf (.object "java/lang/Object") (0 : Int32) [] .null) (OS : Sta Z Z.heap "java/util/ArrayList" "DEFAULTCAPACITY_EMPTY_ELEMENTDATA" "[Ljava/lang/Object;" (.ref dfl)) (OL : Sta Z Z.heap "java/util/ImmutableCollections" "EMPTY_LIST" "Ljava/util/ImmutableCollections$ListN;" (.ref el)) (OM : Sta Z Z.heap "java/util/ImmutableCollections" "EMPTY" "Ljava/lang/Object;" (.ref em)) (OI : (Term.mirror "[Ljava/lang/Object;").eval a0 Z none [] Z = some (.ref mir)) (OG : Sta Z Z.heap "org/portcullis/acl/Decision" "GRANTED" "Lorg/portcullis/acl/Decision;" (.ref gr)) (OE : Sta Z Z.heap "org/portcullis/acl/Decision" "DENIED" "Lorg/portcullis/acl/Decision;" (.ref de)) (Eal : Exa Z h0 al "java/util/ArrayList") (Fea : Fld Z h0 al "java/util/ArrayList" "elementData" "[Ljava/lang/Object;" (.ref tt)) (Fsa : Fld Z h0 al "java/util/ArrayList" "size" "I" (.int (2 : Int32))) (Att : Arv Z h0 tt kc (.object "java/lang/Object") (10 : Int32) [(.ref ua), (.ref ub), .null, .null, .null, .null, .null, .null, .null, .null] .null) (Ett : Exa Z h0 tt "[Ljava/lang/Object;") (Eua : Exa Z h0 ua "org/portcullis/acl/ObjectIdentity") (Eub : Exa Z h0 ub "org/portcullis/acl/ObjectIdentity") :
    Met l Z EL0 n0 (⟨"java/util/ImmutableCollections", "listCopy", "(Ljava/util/Collection;)Ljava/util/List;"⟩ : MethodName) jdk_56_method_3_code 2 (some (.object "java/util/List")) [] ({ frames := 6, cells := 2, slots := 4, locals := 76 } : Room) #[(.ref al)] h0 [] [] (fun v h' S => ∃ r : Addr, v = some (.ref r)) := by
  refine Met.of (plainFor_of_name pn15) O0 ?_
  intro p e s m below meth c T0 hx hby hml hret hlk hnm hs W0
  have W0 : Wk p l e _ s m _ below meth c Z EL0 n0 [] "java/util/ImmutableCollections" [] T0 0 0 h0 := W0
  have hSA := fun d hd => hw d (sa_in d hd)
  have hws := fun d hd => hw d (ws_in d hd)
  refine Go.of (fun _ kk => castTop (ef82 m al) kk) ?_
  refine gof T0 m 1 #[vr al, U0] [(.ref al)] (fun _ kk => XS.aloadN W0.here hx rfl (hb hby d1027_0) rfl rfl kk) ?_
  refine W0.instNo hx (hw _ (mI 99 rfl)) Eal (ns_no (hw _ (mI 100 rfl)) (hw _ (mI 225 rfl)) (NS.step (hw _ (mI 100 rfl)) (NS.step (hw _ (mI 101 rfl)) (NS.step (hw _ (mI 102 rfl)) (ns_root (hw _ (mI 103 rfl)) (hw _ (mI 225 rfl)) (by decide +kernel)) (by decide +kernel)) (by decide +kernel)) (by decide +kernel)) (by decide +kernel)) rfl rfl (hb hby d1027_1) (fun T1 W1 => ?_)
  refine gof T1 m 8 #[vr al, U0] [(.ref al)] (fun _ kk => XS.ifNo W1.here hx rfl (hb hby d1027_4) rfl (XT.i0_ne_f (by decide +kernel)) (XS.aloadN W1.here hx rfl (hb hby d1027_7) rfl rfl kk)) ?_
  refine W1.instNo hx (hw _ (mI 104 rfl)) Eal (ns_no (hw _ (mI 100 rfl)) (hw _ (mI 269 rfl)) (NS.step (hw _ (mI 100 rfl)) (NS.step (hw _ (mI 101 rfl)) (NS.step (hw _ (mI 102 rfl)) (ns_root (hw _ (mI 103 rfl)) (hw _ (mI 269 rfl)) (by decide +kernel)) (by decide +kernel)) (by decide +kernel)) (by decide +kernel)) (by decide +kernel)) rfl rfl (hb hby d1027_8) (fun T2 W2 => ?_)
  refine gof T2 m 32 #[vr al, U0] [(.ref al)] (fun _ kk => XS.ifYes W2.here hx rfl (pc0 := 11) (pc' := 31) rfl (hb hby d1027_11) rfl (XT.i0_eq_t (by decide +kernel)) (by decide +kernel) (by decide +kernel) (XS.aloadN W2.here hx rfl (hb hby d1027_31) rfl rfl kk)) ?_
  refine W2.callI hx hEL (hw _ (mI 105 rfl)) (hw _ (mI 106 rfl)) (hw _ (mI 107 rfl)) (by first | rfl | decide +kernel | simp [Cond.onTables, Cond.keepsFace, Cond.keeps, Cond.steady]) (hw _ (mI 108 rfl)) (hw _ (mI 110 rfl)) (hw _ (mI 111 rfl)) (hw _ (mI 112 rfl)) (hw _ (mI 109 rfl)) (hw _ (mI 62 rfl)) (hw _ (mI 113 rfl)) (by decide +kernel) Eal (a := al) (argsL := []) (rest := []) (rm52 l Z a0 hw hEL zc SC hzc fm SF rfm al h0 W2.old Fsa) all0 (by decide +kernel) (Wd := 0) (by decide +kernel) (by decide +kernel) (by decide +kernel) all0 rfl (by rw [hml]; rfl) (lenOf pd12 rfl) rfl (by show 2 * 0 + _ ≤ _; exact Nat.le_of_eq rfl) (hb hby d1027_32) (fun T3 h3 v3 P3 Ws3 K3 q3 => ?_)
  have W3 := Ws3 [] all0
  obtain ⟨rfl, rfl⟩ := q3
  refine gof T3 m 45 #[vr al, U0] [(.ref al)] (fun _ kk => XS.ifYes W3.here hx rfl (pc0 := 37) (pc' := 44) rfl (hb hby d1027_37) rfl (XT.i0_eq_t (by decide +kernel)) (by decide +kernel) (by decide +kernel) (XS.aloadN W3.here hx rfl (hb hby d1027_44) rfl rfl kk)) ?_
  refine W3.callI hx hEL (hw _ (mI 191 rfl)) (hw _ (mI 192 rfl)) (hw _ (mI 193 rfl)) (by first | rfl | decide +kernel | simp [Cond.onTables, Cond.keepsFace, Cond.keeps, Cond.steady]) (hw _ (mI 194 rfl)) (hw _ (mI 196 rfl)) (hw _ (mI 197 rfl)) (hw _ (mI 112 rfl)) (hw _ (mI 195 rfl)) (hw _ (mI 62 rfl)) (hw _ (mI 198 rfl)) (by decide +kernel) Eal (a := al) (argsL := []) (rest := []) (rm70 l Z a0 hw hEL zc SC hzc fm SF rfm al tt kc ua ub dfl el em mir gr de kdf h0 W3.old OD OS OL OM OI OG OE Eal Fea Fsa Att Ett Eua Eub) all0 (by decide +kernel) (Wd := 0) (by decide +kernel) (by decide +kernel) (by decide +kernel) all0 rfl (by rw [hml]; rfl) (lenOf pd6 rfl) rfl (by show 2 * 0 + _ ≤ _; exact Nat.le_of_eq rfl) (hb hby d1027_45) (fun T4 h4 v4 P4 Ws4 K4 q4 => ?_)
  have W4 := Ws4 [] all0
  obtain ⟨r4, kr4, rfl, lr4, A4⟩ := q4
  have gr4 : n0 ≤ r4 ∧ s.heap.size ≤ r4 := ⟨Nat.le_trans W3.n0le lr4, Nat.le_trans W3.s0le lr4⟩
  show Go p e below _ (T4.setTop (mkF m 50 #[vr al, U0] [(.ref r4)]))
  have k6 := (Eua.keep K4)
  have k7 := (Eub.keep K4)
  refine W4.callS hx hEL (hw _ (mI 221 rfl)) (hw _ (mI 222 rfl)) (hw _ (mI 93 rfl)) (hw _ (mI 223 rfl)) (by decide +kernel) (argsL := [(.ref r4)]) (rest := []) (rm78 l Z a0 hw hEL zc SC hzc fm SF rfm r4 kr4 ua ub dfl el em mir gr de kdf h4 W4.old OD OS OL OM OI OG OE A4 k6 k7) all0 (by decide +kernel) (Wd := 0) (by decide +kernel) (by decide +kernel) (by decide +kernel) all0 rfl (by rw [hml]; rfl) (lenOf pd13 rfl) rfl (by show 2 * 0 + _ ≤ _; exact Nat.le_of_eq rfl) (hb hby d1027_50) (fun T5 h5 v5 P5 Ws5 K5 q5 => ?_)
  have W5 := Ws5 [] all0
  obtain ⟨r5, rfl⟩ := q5
  show Go p e below _ (T5.setTop (mkF m 53 #[vr al, U0] [(.ref r5)]))
  exact W5.retA hx hEL hs hlk (by decide +kernel) (by decide +kernel) hret rfl rfl (hb hby d1027_53) (fun S hS => ⟨r5, rfl⟩)
theorem ef86 (m : MethodId) (x0 : Addr)  : entryFrame m #[(.ref x0)] 1 = mkF m 0 #[vr x0] [] := by first | (simp [entryFrame, mkF, argsToLocals, Value.category]; done) | rfl | rfl
set_option maxRecDepth 65536 in
set_option maxHeartbeats 40000000 in
theorem rm86 (l : Launch) (Z : State) (a0 : Array Value) (hw : ∀ d ∈ tables_1, d.before a0 Z = true) (hEL : EW Z a0 EL0) (zc : Int32) (SC : Sta Z Z.heap "java/lang/String" "COMPACT_STRINGS" "Z" (.int zc)) (hzc : ¬ zc = 0) (fm : Value) (SF : Sta Z Z.heap "jdk/internal/util/Preconditions" "SIOOBE_FORMATTER" "Ljava/util/function/BiFunction;" fm) (rfm : fm.isRef = true) (al : Addr) (tt : Addr) (kc : ClassId) (ua : Addr) (ub : Addr) (dfl : Addr) (el : Addr) (em : Addr) (mir : Addr) (gr : Addr) (de : Addr) (kdf : ClassId) (h0 : Heap) {n0 : Nat} (O0 : Old Z n0 h0) (OD : Arv Z Z.heap dfl kdf (.object "java/lang/Object") (0 : Int32) [] .null) (OS : Sta Z Z.heap "java/util/ArrayList" "DEFAULTCAPACITY_EMPTY_ELEMENTDATA" "[Ljava/lang/Object;" (.ref dfl)) (OL : Sta Z Z.heap "java/util/ImmutableCollections" "EMPTY_LIST" "Ljava/util/ImmutableCollections$ListN;" (.ref el)) (OM : Sta Z Z.heap "java/util/ImmutableCollections" "EMPTY" "Ljava/lang/Object;" (.ref em)) (OI : (Term.mirror "[Ljava/lang/Object;").eval a0 Z none [] Z = some (.ref mir)) (OG : Sta Z Z.heap "org/portcullis/acl/Decision" "GRANTED" "Lorg/portcullis/acl/Decision;" (.ref gr)) (OE : Sta Z Z.heap "org/portcullis/acl/Decision" "DENIED" "Lorg/portcullis/acl/Decision;" (.ref de)) (Eal : Exa Z h0 al "java/util/ArrayList") (Fea : Fld Z h0 al "java/util/ArrayList" "elementData" "[Ljava/lang/Object;" (.ref tt)) (Fsa : Fld Z h0 al "java/util/ArrayList" "size" "I" (.int (2 : Int32))) (Att : Arv Z h0 tt kc (.object "java/lang/Object") (10 : Int32) [(.ref ua), (.ref ub), .null, .null, .null, .null, .null, .null, .null, .null] .null) (Ett : Exa Z h0 tt "[Ljava/lang/Object;") (Eua : Exa Z h0 ua "org/portcullis/acl/ObjectIdentity") (Eub : Exa Z h0 ub "org/portcullis/acl/ObjectIdentity") :
    Met l Z EL0 n0 (⟨"java/util/List", "copyOf", "(Ljava/util/Collection;)Ljava/util/List;"⟩ : MethodName) jdk_40_method_48_code 1 (some (.object "java/util/List")) [] ({ frames := 7, cells := 2, slots := 4, locals := 89 } : Room) #[(.ref al)] h0 [] [] (fun v h' S => ∃ r : Addr, v = some (.ref r)) := by
  refine Met.of (plainFor_of_name pn11) O0 ?_
  intro p e s m below meth c T0 hx hby hml hret hlk hnm hs W0
  have W0 : Wk p l e _ s m _ below meth c Z EL0 n0 [] "java/util/List" [] T0 0 0 h0 := W0
  have hSA := fun d hd => hw d (sa_in d hd)
  have hws := fun d hd => hw d (ws_in d hd)
  refine Go.of (fun _ kk => castTop (ef86 m al) kk) ?_
  refine gof T0 m 1 #[vr al] [(.ref al)] (fun _ kk => XS.aloadN W0.here hx rfl (hb hby d1028_0) rfl rfl kk) ?_
  refine W0.callS hx hEL (hw _ (mI 95 rfl)) (hw _ (mI 96 rfl)) (hw _ (mI 97 rfl)) (hw _ (mI 98 rfl)) (by decide +kernel) (argsL := [(.ref al)]) (rest := []) (rm82 l Z a0 hw hEL zc SC hzc fm SF rfm al tt kc ua ub dfl el em mir gr de kdf h0 W0.old OD OS OL OM OI OG OE Eal Fea Fsa Att Ett Eua Eub) all0 (by decide +kernel) (Wd := 0) (by decide +kernel) (by decide +kernel) (by decide +kernel) all0 rfl (by rw [hml]; rfl) (lenOf pd14 rfl) rfl (by show 2 * 0 + _ ≤ _; exact Nat.le_of_eq rfl) (hb hby d1028_1) (fun T1 h1 v1 P1 Ws1 K1 q1 => ?_)
  have W1 := Ws1 [] all0
  obtain ⟨r1, rfl⟩ := q1
  show Go p e below _ (T1.setTop (mkF m 4 #[vr al] [(.ref r1)]))
  exact W1.retA hx hEL hs hlk (by decide +kernel) (by decide +kernel) hret rfl rfl (hb hby d1028_4) (fun S hS => ⟨r1, rfl⟩)
theorem ef90 (m : MethodId) (x0 : Addr) (x1 : Addr) (x2 : Value) (rx2 : x2.isRef = true) : entryFrame m #[(.ref x0), (.ref x1), x2] 3 = mkF m 0 #[vr x0, vr x1, .val x2] [] := by first | (simp [entryFrame, mkF, argsToLocals, Value.category]; done) | rfl | (rcases XT.refc rx2 with rfl | ⟨_, rfl⟩ <;> rfl)
set_option maxRecDepth 65536 in
set_option maxHeartbeats 40000000 in
theorem rm90 (l : Launch) (Z : State) (a0 : Array Value) (hw : ∀ d ∈ tables_1, d.before a0 Z = true) (hEL : EW Z a0 EL0) (zc : Int32) (SC : Sta Z Z.heap "java/lang/String" "COMPACT_STRINGS" "Z" (.int zc)) (hzc : ¬ zc = 0) (fm : Value) (SF : Sta Z Z.heap "jdk/internal/util/Preconditions" "SIOOBE_FORMATTER" "Ljava/util/function/BiFunction;" fm) (rfm : fm.isRef = true) (oo : Addr) (al : Addr) (tt : Addr) (kc : ClassId) (ua : Addr) (ub : Addr) (ev : Value) (dfl : Addr) (el : Addr) (em : Addr) (mir : Addr) (gr : Addr) (de : Addr) (kdf : ClassId) (h0 : Heap) {n0 : Nat} (O0 : Old Z n0 h0) (OD : Arv Z Z.heap dfl kdf (.object "java/lang/Object") (0 : Int32) [] .null) (OS : Sta Z Z.heap "java/util/ArrayList" "DEFAULTCAPACITY_EMPTY_ELEMENTDATA" "[Ljava/lang/Object;" (.ref dfl)) (OL : Sta Z Z.heap "java/util/ImmutableCollections" "EMPTY_LIST" "Ljava/util/ImmutableCollections$ListN;" (.ref el)) (OM : Sta Z Z.heap "java/util/ImmutableCollections" "EMPTY" "Ljava/lang/Object;" (.ref em)) (OI : (Term.mirror "[Ljava/lang/Object;").eval a0 Z none [] Z = some (.ref mir)) (OG : Sta Z Z.heap "org/portcullis/acl/Decision" "GRANTED" "Lorg/portcullis/acl/Decision;" (.ref gr)) (OE : Sta Z Z.heap "org/portcullis/acl/Decision" "DENIED" "Lorg/portcullis/acl/Decision;" (.ref de)) (rev : ev.isRef = true) (Eal : Exa Z h0 al "java/util/ArrayList") (Fea : Fld Z h0 al "java/util/ArrayList" "elementData" "[Ljava/lang/Object;" (.ref tt)) (Fsa : Fld Z h0 al "java/util/ArrayList" "size" "I" (.int (2 : Int32))) (Att : Arv Z h0 tt kc (.object "java/lang/Object") (10 : Int32) [(.ref ua), (.ref ub), .null, .null, .null, .null, .null, .null, .null, .null] .null) (Ett : Exa Z h0 tt "[Ljava/lang/Object;") (Eua : Exa Z h0 ua "org/portcullis/acl/ObjectIdentity") (Eub : Exa Z h0 ub "org/portcullis/acl/ObjectIdentity") (Eo : Exa Z h0 oo "org/portcullis/acl/Outcome") (Fla : Fld Z h0 oo "org/portcullis/acl/Outcome" "iLevels" "Ljava/util/List;" .null) (Fya : Fld Z h0 oo "org/portcullis/acl/Outcome" "iEntry" "Lorg/portcullis/acl/AccessControlEntry;" .null) (go : n0 ≤ oo) :
    Met l Z EL0 n0 (⟨"org/portcullis/acl/Outcome", "<init>", "(Ljava/util/Collection;Lorg/portcullis/acl/AccessControlEntry;)V"⟩ : MethodName) prog_10_method_1_code 3 none [] ({ frames := 8, cells := 2, slots := 4, locals := 102 } : Room) #[(.ref oo), (.ref al), ev] h0 [oo] [] (fun v h' S => v = none ∧ Fld Z h' oo "org/portcullis/acl/Outcome" "iEntry" "Lorg/portcullis/acl/AccessControlEntry;" ev) := by
  refine Met.of (plainFor_of_name pn16) O0 ?_
  intro p e s m below meth c T0 hx hby hml hret hlk hnm hs W0
  have W0 : Wk p l e _ s m _ below meth c Z EL0 n0 [oo] "org/portcullis/acl/Outcome" [] T0 0 0 h0 := W0
  have hSA := fun d hd => hw d (sa_in d hd)
  have hws := fun d hd => hw d (ws_in d hd)
  refine Go.of (fun _ kk => castTop (ef90 m oo al ev rev) kk) ?_
  refine gof T0 m 1 #[vr oo, vr al, .val ev] [(.ref oo)] (fun _ kk => XS.aloadN W0.here hx rfl (hb hby d1029_0) rfl rfl kk) ?_
  refine W0.initO hx (hw _ (mI 90 rfl)) (hw _ (mI 15 rfl)) (hw _ (mI 16 rfl)) rfl (by rw [hml]; rfl) rfl (hb hby d1029_1) (by decide +kernel) (Wd := 0) (by show 2 * 0 + _ ≤ _; exact Nat.le_of_eq rfl) (by decide +kernel) (fun T1 W1 => ?_)
  refine gof T1 m 6 #[vr oo, vr al, .val ev] [(.ref al), (.ref oo)] (fun _ kk => XS.aloadN W1.here hx rfl (hb hby d1029_4) rfl rfl (XS.aloadN W1.here hx rfl (hb hby d1029_5) rfl rfl kk)) ?_
  refine W1.callS hx hEL (hw _ (mI 91 rfl)) (hw _ (mI 92 rfl)) (hw _ (mI 93 rfl)) (hw _ (mI 94 rfl)) (by decide +kernel) (argsL := [(.ref al)]) (rest := [(.ref oo)]) (rm86 l Z a0 hw hEL zc SC hzc fm SF rfm al tt kc ua ub dfl el em mir gr de kdf h0 W1.old OD OS OL OM OI OG OE Eal Fea Fsa Att Ett Eua Eub) all0 (by decide +kernel) (Wd := 1) (by decide +kernel) (by decide +kernel) (by decide +kernel) all0 rfl (by rw [hml]; rfl) (lenOf pd14 rfl) rfl (by show 2 * 0 + _ ≤ _; exact Nat.le_of_eq rfl) (hb hby d1029_6) (fun T2 h2 v2 P2 Ws2 K2 q2 => ?_)
  have W2 := Ws2 [] all0
  obtain ⟨r2, rfl⟩ := q2
  show Go p e below _ (T2.setTop (mkF m 9 #[vr oo, vr al, .val ev] [(.ref r2), (.ref oo)]))
  have k3 := (Fla.keep K2 nin0)
  have k4 := (Eo.keep K2)
  refine W2.putF hx (host := "") (Or.inl (hw _ (mI 120 rfl))) Via.refl k3 k4 (Or.inr ⟨(hw _ (mI 121 rfl)), rfl, hnm⟩) (hw _ (mI 85 rfl)) (ty := (.object "java/util/List")) (by decide +kernel) rfl rfl go (Or.inl (mI 0 rfl)) (Or.inr ⟨by decide, by decide⟩) rfl rfl (hb hby d1029_9) (fun T5 h5 W5 w5 => ?_)
  have k6 := (Fya.keep K2 nin0)
  have K5 := Keep.of_wr w5
  have k7 := k6.other w5 (Or.inr (slot_ne (Or.inr (hw _ (mI 123 rfl))) (Or.inr (hw _ (mI 121 rfl))) (by decide +kernel) (t := (.object "org/portcullis/acl/AccessControlEntry")) (t' := (.object "java/util/List")) (by decide +kernel) (by decide +kernel)))
  have k8 := k3.same w5
  refine gof T5 m 14 #[vr oo, vr al, .val ev] [ev, (.ref oo)] (fun _ kk => XS.aloadN W5.here hx rfl (hb hby d1029_12) rfl rfl (XS.aloadN W5.here hx rfl (hb hby d1029_13) rfl rev kk)) ?_
  have k9 := (k4.keep K5)
  refine W5.putF hx (host := "") (Or.inl (hw _ (mI 122 rfl))) Via.refl k7 k9 (Or.inr ⟨(hw _ (mI 123 rfl)), rfl, hnm⟩) (hw _ (mI 85 rfl)) (ty := (.object "org/portcullis/acl/AccessControlEntry")) (by decide +kernel) (by rcases XT.refc rev with rfl | ⟨_, rfl⟩ <;> rfl) (by rcases XT.refc rev with rfl | ⟨_, rfl⟩ <;> rfl) go (Or.inl (mI 0 rfl)) (Or.inr ⟨by decide, by decide⟩) rfl rfl (hb hby d1029_14) (fun T10 h10 W10 w10 => ?_)
  have K10 := Keep.of_wr w10
  have k11 := k8.other w10 (Or.inr (slot_ne (Or.inr (hw _ (mI 121 rfl))) (Or.inr (hw _ (mI 123 rfl))) (by decide +kernel) (t := (.object "java/util/List")) (t' := (.object "org/portcullis/acl/AccessControlEntry")) (by decide +kernel) (by decide +kernel)))
  have k12 := k7.same w10
  show Go p e below _ (T10.setTop (mkF m 17 #[vr oo, vr al, .val ev] []))
  exact W10.retV hx hEL hs hlk (by decide +kernel) (by decide +kernel) hret (hb hby d1029_17) (fun S hS => ⟨rfl, k12⟩)
theorem ef63 (m : MethodId) (x0 : Addr) (x1 : Int32) (x2 : Addr)  : entryFrame m #[(.ref x0), (.int x1), (.ref x2)] 4 = mkF m 0 #[vr x0, vi x1, vr x2, U0] [] := by first | (simp [entryFrame, mkF, argsToLocals, Value.category]; done) | rfl | rfl
set_option maxRecDepth 65536 in
set_option maxHeartbeats 40000000 in
theorem rm63 (l : Launch) (Z : State) (a0 : Array Value) (hw : ∀ d ∈ tables_1, d.before a0 Z = true) (hEL : EW Z a0 EL0) (zc : Int32) (SC : Sta Z Z.heap "java/lang/String" "COMPACT_STRINGS" "Z" (.int zc)) (hzc : ¬ zc = 0) (fm : Value) (SF : Sta Z Z.heap "jdk/internal/util/Preconditions" "SIOOBE_FORMATTER" "Ljava/util/function/BiFunction;" fm) (rfm : fm.isRef = true) (tt : Addr) (kc : ClassId) (ua : Addr) (ub : Addr) (uc : Addr) (dfl : Addr) (el : Addr) (em : Addr) (mir : Addr) (gr : Addr) (de : Addr) (kdf : ClassId) (h0 : Heap) {n0 : Nat} (O0 : Old Z n0 h0) (OD : Arv Z Z.heap dfl kdf (.object "java/lang/Object") (0 : Int32) [] .null) (OS : Sta Z Z.heap "java/util/ArrayList" "DEFAULTCAPACITY_EMPTY_ELEMENTDATA" "[Ljava/lang/Object;" (.ref dfl)) (OL : Sta Z Z.heap "java/util/ImmutableCollections" "EMPTY_LIST" "Ljava/util/ImmutableCollections$ListN;" (.ref el)) (OM : Sta Z Z.heap "java/util/ImmutableCollections" "EMPTY" "Ljava/lang/Object;" (.ref em)) (OI : (Term.mirror "[Ljava/lang/Object;").eval a0 Z none [] Z = some (.ref mir)) (OG : Sta Z Z.heap "org/portcullis/acl/Decision" "GRANTED" "Lorg/portcullis/acl/Decision;" (.ref gr)) (OE : Sta Z Z.heap "org/portcullis/acl/Decision" "DENIED" "Lorg/portcullis/acl/Decision;" (.ref de)) (Att : Arv Z h0 tt kc (.object "java/lang/Object") (10 : Int32) [(.ref ua), (.ref ub), (.ref uc), .null, .null, .null, .null, .null, .null, .null] .null) (Eua : Exa Z h0 ua "org/portcullis/acl/ObjectIdentity") (Eub : Exa Z h0 ub "org/portcullis/acl/ObjectIdentity") (Euc : Exa Z h0 uc "org/portcullis/acl/ObjectIdentity") :
    Met l Z EL0 n0 (⟨"java/util/Arrays", "copyOf", "([Ljava/lang/Object;ILjava/lang/Class;)[Ljava/lang/Object;"⟩ : MethodName) jdk_65_method_120_code 4 (some (.array (.object "java/lang/Object"))) [] ({ frames := 1, cells := 1, slots := 3, locals := 18 } : Room) #[(.ref tt), (.int (3 : Int32)), (.ref mir)] h0 [] [] (fun v h' S => ∃ (r : Addr) (kr : ClassId), v = some (.ref r) ∧ h0.size ≤ r ∧ Arv Z h' r kr (.object "java/lang/Object") (3 : Int32) [(.ref ua), (.ref ub), (.ref uc)] .null) := by
  refine Met.of (plainFor_of_name pn13) O0 ?_
  intro p e s m below meth c T0 hx hby hml hret hlk hnm hs W0
  have W0 : Wk p l e _ s m _ below meth c Z EL0 n0 [] "java/util/Arrays" [] T0 0 0 h0 := W0
  have hSA := fun d hd => hw d (sa_in d hd)
  have hws := fun d hd => hw d (ws_in d hd)
  refine Go.of (fun _ kk => castTop (ef63 m tt (3 : Int32) mir) kk) ?_
  refine gof T0 m 1 #[vr tt, vi 3, vr mir, U0] [(.ref mir)] (fun _ kk => XS.aloadN W0.here hx rfl (hb hby d1022_0) rfl rfl kk) ?_
  refine W0.ldcM hx (hw _ (mI 212 rfl)) OI rfl (hb hby d1022_1) (fun T1 W1 => ?_)
  refine gof T1 m 7 #[vr tt, vi 3, vr mir, U0] [(.int 3)] (fun _ kk => XT.acmpNo (g := (mkF m 3 #[vr tt, vi 3, vr mir, U0] [(.ref mir), (.ref mir)])) W1.here hx rfl (hb hby d1022_3) (x := (.ref mir)) (y := (.ref mir)) (rest := []) rfl rfl rfl (XT.aa_ne_f (x := (.ref mir)) (y := (.ref mir)) rfl) (XS.iloadN W1.here hx rfl (hb hby d1022_6) rfl kk)) ?_
  refine W1.newR hx (hw _ (mI 213 rfl)) (hw _ (mI 189 rfl)) (ad := "[Ljava/lang/Object;") (by decide +kernel) rfl (hb hby d1022_7) rfl (by decide +kernel) (cap := 3) (by decide +kernel) (by decide +kernel) (by decide +kernel) (by decide +kernel) (fun T2 h2 b2 c2 eb2 gb2 W2 K2 A2 E2 Ov2 => ?_)
  have V2 : Arv Z h2 b2 c2 (.object "java/lang/Object") (3 : Int32) [.null, .null, .null] .null := A2
  refine gof T2 m 30 #[vr tt, vi 3, vr mir, vr b2] [(.ref tt), (.int 0), (.ref b2), (.int 0), (.ref tt)] (fun _ kk => XS.goto W2.here hx rfl (pc0 := 10) (pc' := 24) rfl (hb hby d1022_10) (by decide +kernel) (by decide +kernel) (XS.astoreN W2.here hx rfl (hb hby d1022_24) rfl rfl (l' := #[.val (.ref tt), .val (.int 3), .val (.ref mir), .val (.ref b2)]) rfl (XS.aloadN W2.here hx rfl (hb hby d1022_25) rfl rfl (XS.iconst W2.here hx rfl (hb hby d1022_26) (XS.aloadN W2.here hx rfl (hb hby d1022_27) rfl rfl (XS.iconst W2.here hx rfl (hb hby d1022_28) (XS.aloadN W2.here hx rfl (hb hby d1022_29) rfl rfl kk))))))) ?_
  have k3 := (Att.keep K2 nin0)
  refine W2.alen hx k3 rfl rfl (hb hby d1022_30) ?_
  refine gof T2 m 32 #[vr tt, vi 3, vr mir, vr b2] [(.int 3), (.int 10), (.int 0), (.ref b2), (.int 0), (.ref tt)] (fun _ kk => XS.iloadN W2.here hx rfl (hb hby d1022_31) rfl kk) ?_
  refine W2.callS hx hEL (hw _ (mI 214 rfl)) (hw _ (mI 215 rfl)) (hw _ (mI 186 rfl)) (hw _ (mI 216 rfl)) (by decide +kernel) (argsL := [(.int (10 : Int32)), (.int (3 : Int32))]) (rest := [(.int (0 : Int32)), (.ref b2), (.int (0 : Int32)), (.ref tt)]) (rm33 l Z a0 hw hEL zc SC hzc fm SF rfm  h2 W2.old ) all0 (by decide +kernel) (Wd := 4) (by decide +kernel) (by decide +kernel) (by decide +kernel) all0 rfl (by rw [hml]; rfl) (lenOf pd4 rfl) rfl (by show 2 * 0 + _ ≤ _; exact Nat.le_of_eq rfl) (hb hby d1022_32) (fun T4 h4 v4 P4 Ws4 K4 q4 => ?_)
  have W4 := Ws4 [] all0
  obtain ⟨rfl, rfl⟩ := q4
  show Go p e below _ (T4.setTop (mkF m 35 #[vr tt, vi 3, vr mir, vr b2] [(.int 3), (.int 0), (.ref b2), (.int 0), (.ref tt)]))
  have k6 := (Euc.keep K2)
  have k7 := (Eub.keep K2)
  have k8 := (Eua.keep K2)
  refine W4.cpR hx (hw _ (mI 217 rfl)) (hw _ (mI 220 rfl)) (hw _ (mI 218 rfl)) (hw _ (mI 219 rfl)) (us := [(.ref ua), (.ref ub), (.ref uc)]) k3 V2 (stoLS (Sto.ofArv V2 Ov2 (Ins.of_exa k8 (hw _ (mI 190 rfl)))) (stoLS (Sto.ofArv V2 Ov2 (Ins.of_exa k7 (hw _ (mI 190 rfl)))) (stoLS (Sto.ofArv V2 Ov2 (Ins.of_exa k6 (hw _ (mI 190 rfl)))) stoL0))) (by decide) (by decide) (by decide) (by decide) (by decide) rfl (Nat.le_of_ble_eq_true rfl) gb2.1 (Or.inr gb2.2) (mI 0 rfl) rfl (by rw [hml]; rfl) rfl (hb hby d1022_35) (by decide +kernel) (Wd := 0) (by show 2 * 0 + _ ≤ _; exact Nat.le_of_eq rfl) (by decide +kernel) (fun T5 h5 W5 K5 A5 => ?_)
  have V5 : Arv Z h5 b2 c2 (.object "java/lang/Object") (3 : Int32) [(.ref ua), (.ref ub), (.ref uc)] .null := A5
  refine gof T5 m 39 #[vr tt, vi 3, vr mir, vr b2] [(.ref b2)] (fun _ kk => XS.aloadN W5.here hx rfl (hb hby d1022_38) rfl rfl kk) ?_
  exact W5.retA hx hEL hs hlk (by decide +kernel) (by decide +kernel) hret rfl rfl (hb hby d1022_39) (fun S hS => ⟨b2, c2, rfl, hs ▸ gb2.2, V5⟩)
theorem ef67 (m : MethodId) (x0 : Addr) (x1 : Int32)  : entryFrame m #[(.ref x0), (.int x1)] 2 = mkF m 0 #[vr x0, vi x1] [] := by first | (simp [entryFrame, mkF, argsToLocals, Value.category]; done) | rfl | rfl
set_option maxRecDepth 65536 in
set_option maxHeartbeats 40000000 in
theorem rm67 (l : Launch) (Z : State) (a0 : Array Value) (hw : ∀ d ∈ tables_1, d.before a0 Z = true) (hEL : EW Z a0 EL0) (zc : Int32) (SC : Sta Z Z.heap "java/lang/String" "COMPACT_STRINGS" "Z" (.int zc)) (hzc : ¬ zc = 0) (fm : Value) (SF : Sta Z Z.heap "jdk/internal/util/Preconditions" "SIOOBE_FORMATTER" "Ljava/util/function/BiFunction;" fm) (rfm : fm.isRef = true) (tt : Addr) (kc : ClassId) (ua : Addr) (ub : Addr) (uc : Addr) (dfl : Addr) (el : Addr) (em : Addr) (mir : Addr) (gr : Addr) (de : Addr) (kdf : ClassId) (h0 : Heap) {n0 : Nat} (O0 : Old Z n0 h0) (OD : Arv Z Z.heap dfl kdf (.object "java/lang/Object") (0 : Int32) [] .null) (OS : Sta Z Z.heap "java/util/ArrayList" "DEFAULTCAPACITY_EMPTY_ELEMENTDATA" "[Ljava/lang/Object;" (.ref dfl)) (OL : Sta Z Z.heap "java/util/ImmutableCollections" "EMPTY_LIST" "Ljava/util/ImmutableCollections$ListN;" (.ref el)) (OM : Sta Z Z.heap "java/util/ImmutableCollections" "EMPTY" "Ljava/lang/Object;" (.ref em)) (OI : (Term.mirror "[Ljava/lang/Object;").eval a0 Z none [] Z = some (.ref mir)) (OG : Sta Z Z.heap "org/portcullis/acl/Decision" "GRANTED" "Lorg/portcullis/acl/Decision;" (.ref gr)) (OE : Sta Z Z.heap "org/portcullis/acl/Decision" "DENIED" "Lorg/portcullis/acl/Decision;" (.ref de)) (Att : Arv Z h0 tt kc (.object "java/lang/Object") (10 : Int32) [(.ref ua), (.ref ub), (.ref uc), .null, .null, .null, .null, .null, .null, .null] .null) (Ett : Exa Z h0 tt "[Ljava/lang/Object;") (Eua : Exa Z h0 ua "org/portcullis/acl/ObjectIdentity") (Eub : Exa Z h0 ub "org/portcullis/acl/ObjectIdentity") (Euc : Exa Z h0 uc "org/portcullis/acl/ObjectIdentity") :
    Met l Z EL0 n0 (⟨"java/util/Arrays", "copyOf", "([Ljava/lang/Object;I)[Ljava/lang/Object;"⟩ : MethodName) jdk_65_method_119_code 2 (some (.array (.object "java/lang/Object"))) [] ({ frames := 2, cells := 1, slots := 3, locals := 33 } : Room) #[(.ref tt), (.int (3 : Int32))] h0 [] [] (fun v h' S => ∃ (r : Addr) (kr : ClassId), v = some (.ref r) ∧ h0.size ≤ r ∧ Arv Z h' r kr (.object "java/lang/Object") (3 : Int32) [(.ref ua), (.ref ub), (.ref uc)] .null) := by
  refine Met.of (plainFor_of_name pn13) O0 ?_
  intro p e s m below meth c T0 hx hby hml hret hlk hnm hs W0
  have W0 : Wk p l e _ s m _ below meth c Z EL0 n0 [] "java/util/Arrays" [] T0 0 0 h0 := W0
  have hSA := fun d hd => hw d (sa_in d hd)
  have hws := fun d hd => hw d (ws_in d hd)
  refine Go.of (fun _ kk => castTop (ef67 m tt (3 : Int32)) kk) ?_
  refine gof T0 m 3 #[vr tt, vi 3] [(.ref tt), (.int 3), (.ref tt)] (fun _ kk => XS.aloadN W0.here hx rfl (hb hby d1023_0) rfl rfl (XS.iloadN W0.here hx rfl (hb hby d1023_1) rfl (XS.aloadN W0.here hx rfl (hb hby d1023_2) rfl rfl kk))) ?_
  refine W0.getCl hx (hw _ (mI 203 rfl)) (hw _ (mI 207 rfl)) (hw _ (mI 205 rfl)) (hw _ (mI 206 rfl)) Ett OI rfl (by rw [hml]; rfl) rfl (hb hby d1023_3) (by decide +kernel) (Wd := 2) (by show 2 * 0 + _ ≤ _; exact Nat.le_of_eq rfl) (by decide +kernel) (fun T1 W1 => ?_)
  show Go p e below _ (T1.setTop (mkF m 6 #[vr tt, vi 3] [(.ref mir), (.int 3), (.ref tt)]))
  refine W1.callS hx hEL (hw _ (mI 209 rfl)) (hw _ (mI 210 rfl)) (hw _ (mI 201 rfl)) (hw _ (mI 211 rfl)) (by decide +kernel) (argsL := [(.ref tt), (.int (3 : Int32)), (.ref mir)]) (rest := []) (rm63 l Z a0 hw hEL zc SC hzc fm SF rfm tt kc ua ub uc dfl el em mir gr de kdf h0 W1.old OD OS OL OM OI OG OE Att Eua Eub Euc) all0 (by decide +kernel) (Wd := 0) (by decide +kernel) (by decide +kernel) (by decide +kernel) all0 rfl (by rw [hml]; rfl) (lenOf pd8 rfl) rfl (by show 2 * 0 + _ ≤ _; exact Nat.le_of_eq rfl) (hb hby d1023_6) (fun T2 h2 v2 P2 Ws2 K2 q2 => ?_)
  have W2 := Ws2 [] all0
  obtain ⟨r2, kr2, rfl, lr2, A2⟩ := q2
  have gr2 : n0 ≤ r2 ∧ s.heap.size ≤ r2 := ⟨Nat.le_trans W1.n0le lr2, Nat.le_trans W1.s0le lr2⟩
  show Go p e below _ (T2.setTop (mkF m 9 #[vr tt, vi 3] [(.ref r2)]))
  exact W2.retA hx hEL hs hlk (by decide +kernel) (by decide +kernel) hret rfl rfl (hb hby d1023_9) (fun S hS => ⟨r2, kr2, rfl, hs ▸ gr2.2, A2⟩)
theorem ef71 (m : MethodId) (x0 : Addr)  : entryFrame m #[(.ref x0)] 1 = mkF m 0 #[vr x0] [] := by first | (simp [entryFrame, mkF, argsToLocals, Value.category]; done) | rfl | rfl
set_option maxRecDepth 65536 in
set_option maxHeartbeats 40000000 in
theorem rm71 (l : Launch) (Z : State) (a0 : Array Value) (hw : ∀ d ∈ tables_1, d.before a0 Z = true) (hEL : EW Z a0 EL0) (zc : Int32) (SC : Sta Z Z.heap "java/lang/String" "COMPACT_STRINGS" "Z" (.int zc)) (hzc : ¬ zc = 0) (fm : Value) (SF : Sta Z Z.heap "jdk/internal/util/Preconditions" "SIOOBE_FORMATTER" "Ljava/util/function/BiFunction;" fm) (rfm : fm.isRef = true) (al : Addr) (tt : Addr) (kc : ClassId) (ua : Addr) (ub : Addr) (uc : Addr) (dfl : Addr) (el : Addr) (em : Addr) (mir : Addr) (gr : Addr) (de : Addr) (kdf : ClassId) (h0 : Heap) {n0 : Nat} (O0 : Old Z n0 h0) (OD : Arv Z Z.heap dfl kdf (.object "java/lang/Object") (0 : Int32) [] .null) (OS : Sta Z Z.heap "java/util/ArrayList" "DEFAULTCAPACITY_EMPTY_ELEMENTDATA" "[Ljava/lang/Object;" (.ref dfl)) (OL : Sta Z Z.heap "java/util/ImmutableCollections" "EMPTY_LIST" "Ljava/util/ImmutableCollections$ListN;" (.ref el)) (OM : Sta Z Z.heap "java/util/ImmutableCollections" "EMPTY" "Ljava/lang/Object;" (.ref em)) (OI : (Term.mirror "[Ljava/lang/Object;").eval a0 Z none [] Z = some (.ref mir)) (OG : Sta Z Z.heap "org/portcullis/acl/Decision" "GRANTED" "Lorg/portcullis/acl/Decision;" (.ref gr)) (OE : Sta Z Z.heap "org/portcullis/acl/Decision" "DENIED" "Lorg/portcullis/acl/Decision;" (.ref de)) (Eal : Exa Z h0 al "java/util/ArrayList") (Fea : Fld Z h0 al "java/util/ArrayList" "elementData" "[Ljava/lang/Object;" (.ref tt)) (Fsa : Fld Z h0 al "java/util/ArrayList" "size" "I" (.int (3 : Int32))) (Att : Arv Z h0 tt kc (.object "java/lang/Object") (10 : Int32) [(.ref ua), (.ref ub), (.ref uc), .null, .null, .null, .null, .null, .null, .null] .null) (Ett : Exa Z h0 tt "[Ljava/lang/Object;") (Eua : Exa Z h0 ua "org/portcullis/acl/ObjectIdentity") (Eub : Exa Z h0 ub "org/portcullis/acl/ObjectIdentity") (Euc : Exa Z h0 uc "org/portcullis/acl/ObjectIdentity") :
    Met l Z EL0 n0 (⟨"java/util/ArrayList", "toArray", "()[Ljava/lang/Object;"⟩ : MethodName) jdk_38_method_16_code 1 (some (.array (.object "java/lang/Object"))) [] ({ frames := 3, cells := 1, slots := 3, locals := 46 } : Room) #[(.ref al)] h0 [] [] (fun v h' S => ∃ (r : Addr) (kr : ClassId), v = some (.ref r) ∧ h0.size ≤ r ∧ Arv Z h' r kr (.object "java/lang/Object") (3 : Int32) [(.ref ua), (.ref ub), (.ref uc)] .null) := by
  refine Met.of (plainFor_of_name pn10) O0 ?_
  intro p e s m below meth c T0 hx hby hml hret hlk hnm hs W0
  have W0 : Wk p l e _ s m _ below meth c Z EL0 n0 [] "java/util/ArrayList" [] T0 0 0 h0 := W0
  have hSA := fun d hd => hw d (sa_in d hd)
  have hws := fun d hd => hw d (ws_in d hd)
  refine Go.of (fun _ kk => castTop (ef71 m al) kk) ?_
  refine gof T0 m 1 #[vr al] [(.ref al)] (fun _ kk => XS.aloadN W0.here hx rfl (hb hby d1024_0) rfl rfl kk) ?_
  refine W0.getF hx (host := "") (Or.inl (hw _ (mI 82 rfl))) Via.refl Fea rfl rfl (hb hby d1024_1) (fun T1 W1 => ?_)
  refine gof T1 m 5 #[vr al] [(.ref al), (.ref tt)] (fun _ kk => XS.aloadN W1.here hx rfl (hb hby d1024_4) rfl rfl kk) ?_
  refine W1.getF hx (host := "") (Or.inl (hw _ (mI 114 rfl))) Via.refl Fsa rfl rfl (hb hby d1024_5) (fun T2 W2 => ?_)
  show Go p e below _ (T2.setTop (mkF m 8 #[vr al] [(.int 3), (.ref tt)]))
  refine W2.callS hx hEL (hw _ (mI 199 rfl)) (hw _ (mI 200 rfl)) (hw _ (mI 201 rfl)) (hw _ (mI 202 rfl)) (by decide +kernel) (argsL := [(.ref tt), (.int (3 : Int32))]) (rest := []) (rm67 l Z a0 hw hEL zc SC hzc fm SF rfm tt kc ua ub uc dfl el em mir gr de kdf h0 W2.old OD OS OL OM OI OG OE Att Ett Eua Eub Euc) all0 (by decide +kernel) (Wd := 0) (by decide +kernel) (by decide +kernel) (by decide +kernel) all0 rfl (by rw [hml]; rfl) (lenOf pd9 rfl) rfl (by show 2 * 0 + _ ≤ _; exact Nat.le_of_eq rfl) (hb hby d1024_8) (fun T3 h3 v3 P3 Ws3 K3 q3 => ?_)
  have W3 := Ws3 [] all0
  obtain ⟨r3, kr3, rfl, lr3, A3⟩ := q3
  have gr3 : n0 ≤ r3 ∧ s.heap.size ≤ r3 := ⟨Nat.le_trans W2.n0le lr3, Nat.le_trans W2.s0le lr3⟩
  show Go p e below _ (T3.setTop (mkF m 11 #[vr al] [(.ref r3)]))
  exact W3.retA hx hEL hs hlk (by decide +kernel) (by decide +kernel) hret rfl rfl (hb hby d1024_11) (fun S hS => ⟨r3, kr3, rfl, hs ▸ gr3.2, A3⟩)
theorem d1031_0 : decode jdk_45_method_1_code 0 = .ok (.aload_n 0, 1) := by decide +kernel
theorem d1031_1 : decode jdk_45_method_1_code 1 = .ok (.invokespecial 1, 3) := by decide +kernel
theorem d1031_4 : decode jdk_45_method_1_code 4 = .ok (.aload_n 0, 1) := by decide +kernel
theorem d1031_5 : decode jdk_45_method_1_code 5 = .ok (.aload_n 1, 1) := by decide +kernel
theorem d1031_6 : decode jdk_45_method_1_code 6 = .ok (.putfield 7, 3) := by decide +kernel
theorem d1031_9 : decode jdk_45_method_1_code 9 = .ok (.aload_n 0, 1) := by decide +kernel
theorem d1031_10 : decode jdk_45_method_1_code 10 = .ok (.iload_n 2, 1) := by decide +kernel
theorem d1031_11 : decode jdk_45_method_1_code 11 = .ok (.putfield 13, 3) := by decide +kernel
theorem d1031_14 : decode jdk_45_method_1_code 14 = .ok (.return_, 1) := by decide +kernel
theorem ef75 (m : MethodId) (x0 : Addr) (x1 : Addr) (x2 : Int32)  : entryFrame m #[(.ref x0), (.ref x1), (.int x2)] 3 = mkF m 0 #[vr x0, vr x1, vi x2] [] := by first | (simp [entryFrame, mkF, argsToLocals, Value.category]; done) | rfl | rfl
set_option maxRecDepth 65536 in
set_option maxHeartbeats 40000000 in
theorem rm75 (l : Launch) (Z : State) (a0 : Array Value) (hw : ∀ d ∈ tables_1, d.before a0 Z = true) (hEL : EW Z a0 EL0) (zc : Int32) (SC : Sta Z Z.heap "java/lang/String" "COMPACT_STRINGS" "Z" (.int zc)) (hzc : ¬ zc = 0) (fm : Value) (SF : Sta Z Z.heap "jdk/internal/util/Preconditions" "SIOOBE_FORMATTER" "Ljava/util/function/BiFunction;" fm) (rfm : fm.isRef = true) (oo : Addr) (ea : Addr) (h0 : Heap) {n0 : Nat} (O0 : Old Z n0 h0) (Eo : Exa Z h0 oo "java/util/ImmutableCollections$ListN") (Fza : Fld Z h0 oo "java/util/ImmutableCollections$ListN" "elements" "[Ljava/lang/Object;" .null) (Fzb : Fld Z h0 oo "java/util/ImmutableCollections$ListN" "allowNulls" "Z" (.int (0 : Int32))) (go : n0 ≤ oo) :
    Met l Z EL0 n0 (⟨"java/util/ImmutableCollections$ListN", "<init>", "([Ljava/lang/Object;Z)V"⟩ : MethodName) jdk_45_method_1_code 3 none [] ({ frames := 4, cells := 0, slots := 0, locals := 48 } : Room) #[(.ref oo), (.ref ea), (.int (0 : Int32))] h0 [oo] [] (fun v h' S => v = none) := by
  refine Met.of (plainFor_of_name pn17) O0 ?_
  intro p e s m below meth c T0 hx hby hml hret hlk hnm hs W0
  have W0 : Wk p l e _ s m _ below meth c Z EL0 n0 [oo] "java/util/ImmutableCollections$ListN" [] T0 0 0 h0 := W0
  have hSA := fun d hd => hw d (sa_in d hd)
  have hws := fun d hd => hw d (ws_in d hd)
  refine Go.of (fun _ kk => castTop (ef75 m oo ea (0 : Int32)) kk) ?_
  refine gof T0 m 1 #[vr oo, vr ea, vi 0] [(.ref oo)] (fun _ kk => XS.aloadN W0.here hx rfl (hb hby d1031_0) rfl rfl kk) ?_
  refine W0.callP hx hEL rfl (hw _ (mI 275 rfl)) (hw _ (mI 232 rfl)) (hw _ (mI 235 rfl)) (hw _ (mI 236 rfl)) (by decide +kernel) (a := oo) (argsL := []) (rest := []) (rm17 l Z a0 hw hEL zc SC hzc fm SF rfm oo h0 W0.old ) all0 (by decide +kernel) (Wd := 0) (by decide +kernel) (by decide +kernel) (by decide +kernel) all0 rfl (by rw [hml]; rfl) (lenOf pd3 rfl) rfl (by show 2 * 0 + _ ≤ _; exact Nat.le_of_eq rfl) (hb hby d1031_1) (fun T1 h1 v1 P1 Ws1 K1 q1 => ?_)
  have W1 := Ws1 [] all0
  obtain ⟨rfl, rfl⟩ := q1
  refine gof T1 m 6 #[vr oo, vr ea, vi 0] [(.ref ea), (.ref oo)] (fun _ kk => XS.aloadN W1.here hx rfl (hb hby d1031_4) rfl rfl (XS.aloadN W1.here hx rfl (hb hby d1031_5) rfl rfl kk)) ?_
  refine W1.putF hx (host := "") (Or.inl (hw _ (mI 279 rfl))) Via.refl Fza Eo (Or.inr ⟨(hw _ (mI 280 rfl)), rfl, hnm⟩) (hw _ (mI 269 rfl)) (ty := (.array (.object "java/lang/Object"))) (by decide +kernel) rfl rfl go (Or.inl (mI 0 rfl)) (Or.inr ⟨by decide, by decide⟩) rfl rfl (hb hby d1031_6) (fun T2 h2 W2 w2 => ?_)
  have K2 := Keep.of_wr w2
  have k3 := Fzb.other w2 (Or.inr (slot_ne (Or.inr (hw _ (mI 282 rfl))) (Or.inr (hw _ (mI 280 rfl))) (by decide +kernel) (t := .boolean) (t' := (.array (.object "java/lang/Object"))) (by decide +kernel) (by decide +kernel)))
  have k4 := Fza.same w2
  refine gof T2 m 11 #[vr oo, vr ea, vi 0] [(.int 0), (.ref oo)] (fun _ kk => XS.aloadN W2.here hx rfl (hb hby d1031_9) rfl rfl (XS.iloadN W2.here hx rfl (hb hby d1031_10) rfl kk)) ?_
  have k5 := (Eo.keep K2)
  refine W2.putF hx (host := "") (Or.inl (hw _ (mI 281 rfl))) Via.refl k3 k5 (Or.inr ⟨(hw _ (mI 282 rfl)), rfl, hnm⟩) (hw _ (mI 269 rfl)) (ty := .boolean) (by decide +kernel) rfl rfl go (Or.inl (mI 0 rfl)) (Or.inr ⟨by decide, by decide⟩) rfl rfl (hb hby d1031_11) (fun T6 h6 W6 w6 => ?_)
  have K6 := Keep.of_wr w6
  have k7 := k4.other w6 (Or.inr (slot_ne (Or.inr (hw _ (mI 280 rfl))) (Or.inr (hw _ (mI 282 rfl))) (by decide +kernel) (t := (.array (.object "java/lang/Object"))) (t' := .boolean) (by decide +kernel) (by decide +kernel)))
  have k8 := k3.same w6
  show Go p e below _ (T6.setTop (mkF m 14 #[vr oo, vr ea, vi 0] []))
  exact W6.retV hx hEL hs hlk (by decide +kernel) (by decide +kernel) hret (hb hby d1031_14) (fun S hS => rfl)
theorem d1032_0 : decode jdk_56_method_4_code 0 = .ok (.aload_n 0, 1) := by decide +kernel
theorem d1032_1 : decode jdk_56_method_4_code 1 = .ok (.arraylength, 1) := by decide +kernel
theorem d1032_2 : decode jdk_56_method_4_code 2 = .ok (.anewarray 2, 3) := by decide +kernel
theorem d1032_5 : decode jdk_56_method_4_code 5 = .ok (.astore_n 1, 1) := by decide +kernel
theorem d1032_6 : decode jdk_56_method_4_code 6 = .ok (.iconst 0, 1) := by decide +kernel
theorem d1032_7 : decode jdk_56_method_4_code 7 = .ok (.istore_n 2, 1) := by decide +kernel
theorem d1032_8 : decode jdk_56_method_4_code 8 = .ok (.iload_n 2, 1) := by decide +kernel
theorem d1032_9 : decode jdk_56_method_4_code 9 = .ok (.aload_n 0, 1) := by decide +kernel
theorem d1032_10 : decode jdk_56_method_4_code 10 = .ok (.arraylength, 1) := by decide +kernel
theorem d1032_11 : decode jdk_56_method_4_code 11 = .ok (.if_icmp .ge 18, 3) := by decide +kernel
theorem d1032_14 : decode jdk_56_method_4_code 14 = .ok (.aload_n 1, 1) := by decide +kernel
theorem d1032_15 : decode jdk_56_method_4_code 15 = .ok (.iload_n 2, 1) := by decide +kernel
theorem d1032_16 : decode jdk_56_method_4_code 16 = .ok (.aload_n 0, 1) := by decide +kernel
theorem d1032_17 : decode jdk_56_method_4_code 17 = .ok (.iload_n 2, 1) := by decide +kernel
theorem d1032_18 : decode jdk_56_method_4_code 18 = .ok (.aaload, 1) := by decide +kernel
theorem d1032_19 : decode jdk_56_method_4_code 19 = .ok (.invokestatic 37, 3) := by decide +kernel
theorem d1032_22 : decode jdk_56_method_4_code 22 = .ok (.aastore, 1) := by decide +kernel
theorem d1032_23 : decode jdk_56_method_4_code 23 = .ok (.iinc 2 1, 3) := by decide +kernel
theorem d1032_26 : decode jdk_56_method_4_code 26 = .ok (.goto (-18), 3) := by decide +kernel
theorem d1032_29 : decode jdk_56_method_4_code 29 = .ok (.new 12, 3) := by decide +kernel
theorem d1032_32 : decode jdk_56_method_4_code 32 = .ok (.dup, 1) := by decide +kernel
theorem d1032_33 : decode jdk_56_method_4_code 33 = .ok (.aload_n 1, 1) := by decide +kernel
theorem d1032_34 : decode jdk_56_method_4_code 34 = .ok (.iconst 0, 1) := by decide +kernel
theorem d1032_35 : decode jdk_56_method_4_code 35 = .ok (.invokespecial 43, 3) := by decide +kernel
theorem d1032_38 : decode jdk_56_method_4_code 38 = .ok (.areturn, 1) := by decide +kernel
theorem ef76 (m : MethodId) (x0 : Addr)  : entryFrame m #[(.ref x0)] 3 = mkF m 0 #[vr x0, U0, U0] [] := by first | (simp [entryFrame, mkF, argsToLocals, Value.category]; done) | rfl | rfl
set_option maxRecDepth 65536 in
set_option maxHeartbeats 40000000 in
theorem rm76 (l : Launch) (Z : State) (a0 : Array Value) (hw : ∀ d ∈ tables_1, d.before a0 Z = true) (hEL : EW Z a0 EL0) (zc : Int32) (SC : Sta Z Z.heap "java/lang/String" "COMPACT_STRINGS" "Z" (.int zc)) (hzc : ¬ zc = 0) (fm : Value) (SF : Sta Z Z.heap "jdk/internal/util/Preconditions" "SIOOBE_FORMATTER" "Ljava/util/function/BiFunction;" fm) (rfm : fm.isRef = true) (rr : Addr) (kr : ClassId) (ua : Addr) (ub : Addr) (uc : Addr) (h0 : Heap) {n0 : Nat} (O0 : Old Z n0 h0) (Arr : Arv Z h0 rr kr (.object "java/lang/Object") (3 : Int32) [(.ref ua), (.ref ub), (.ref uc)] .null) (Eua : Exa Z h0 ua "org/portcullis/acl/ObjectIdentity") (Eub : Exa Z h0 ub "org/portcullis/acl/ObjectIdentity") (Euc : Exa Z h0 uc "org/portcullis/acl/ObjectIdentity") :
    Met l Z EL0 n0 (⟨"java/util/ImmutableCollections", "listFromArray", "([Ljava/lang/Object;)Ljava/util/List;"⟩ : MethodName) jdk_56_method_4_code 3 (some (.object "java/util/List")) [] ({ frames := 5, cells := 2, slots := 5, locals := 63 } : Room) #[(.ref rr)] h0 [] [] (fun v h' S => ∃ r : Addr, v = some (.ref r)) := by
  refine Met.of (plainFor_of_name pn15) O0 ?_
  intro p e s m below meth c T0 hx hby hml hret hlk hnm hs W0
  have W0 : Wk p l e _ s m _ below meth c Z EL0 n0 [] "java/util/ImmutableCollections" [] T0 0 0 h0 := W0
  have hSA := fun d hd => hw d (sa_in d hd)
  have hws := fun d hd => hw d (ws_in d hd)
  refine Go.of (fun _ kk => castTop (ef76 m rr) kk) ?_
  refine gof T0 m 1 #[vr rr, U0, U0] [(.ref rr)] (fun _ kk => XS.aloadN W0.here hx rfl (hb hby d1032_0) rfl rfl kk) ?_
  refine W0.alen hx Arr rfl rfl (hb hby d1032_1) ?_
  show Go p e below _ (T0.setTop (mkF m 2 #[vr rr, U0, U0] [(.int 3)]))
  refine W0.newR hx (hw _ (mI 267 rfl)) (hw _ (mI 189 rfl)) (ad := "[Ljava/lang/Object;") (by decide +kernel) rfl (hb hby d1032_2) rfl (by decide +kernel) (cap := 3) (by decide +kernel) (by decide +kernel) (by decide +kernel) (by decide +kernel) (fun T1 h1 b1 c1 eb1 gb1 W1 K1 A1 E1 Ov1 => ?_)
  have V1 : Arv Z h1 b1 c1 (.object "java/lang/Object") (3 : Int32) [.null, .null, .null] .null := A1
  refine gof T1 m 10 #[vr rr, vr b1, vi 0] [(.ref rr), (.int 0)] (fun _ kk => XS.astoreN W1.here hx rfl (hb hby d1032_5) rfl rfl (l' := #[.val (.ref rr), .val (.ref b1), .unset]) rfl (XS.iconst W1.here hx rfl (hb hby d1032_6) (XS.istoreN W1.here hx rfl (hb hby d1032_7) rfl (l' := #[.val (.ref rr), .val (.ref b1), .val (.int 0)]) rfl (XS.iloadN W1.here hx rfl (hb hby d1032_8) rfl (XS.aloadN W1.here hx rfl (hb hby d1032_9) rfl rfl kk))))) ?_
  have k2 := (Arr.keep K1 nin0)
  refine W1.alen hx k2 rfl rfl (hb hby d1032_10) ?_
  refine gof T1 m 18 #[vr rr, vr b1, vi 0] [(.int 0), (.ref rr), (.int 0), (.ref b1)] (fun _ kk => XS.icmpNo W1.here hx rfl (hb hby d1032_11) rfl (XT.ii_ge_f (by decide +kernel)) (XS.aloadN W1.here hx rfl (hb hby d1032_14) rfl rfl (XS.iloadN W1.here hx rfl (hb hby d1032_15) rfl (XS.aloadN W1.here hx rfl (hb hby d1032_16) rfl rfl (XS.iloadN W1.here hx rfl (hb hby d1032_17) rfl kk))))) ?_
  refine W1.aaload hx k2 rfl ⟨by decide, by decide⟩ (v := (.ref ua)) rfl rfl rfl (hb hby d1032_18) ?_
  show Go p e below _ (T1.setTop (mkF m 19 #[vr rr, vr b1, vi 0] [(.ref ua), (.int 0), (.ref b1)]))
  refine W1.callS hx hEL (hw _ (mI 268 rfl)) (hw _ (mI 246 rfl)) (hw _ (mI 247 rfl)) (hw _ (mI 248 rfl)) (by decide +kernel) (argsL := [(.ref ua)]) (rest := [(.int (0 : Int32)), (.ref b1)]) (rm55 l Z a0 hw hEL zc SC hzc fm SF rfm ua h1 W1.old ) all0 (by decide +kernel) (Wd := 2) (by decide +kernel) (by decide +kernel) (by decide +kernel) all0 rfl (by rw [hml]; rfl) (lenOf pd10 rfl) rfl (by show 2 * 0 + _ ≤ _; exact Nat.le_of_eq rfl) (hb hby d1032_19) (fun T3 h3 v3 P3 Ws3 K3 q3 => ?_)
  have W3 := Ws3 [] all0
  obtain ⟨rfl, rfl⟩ := q3
  show Go p e below _ (T3.setTop (mkF m 22 #[vr rr, vr b1, vi 0] [(.ref ua), (.int 0), (.ref b1)]))
  have k4 := (Eua.keep K1)
  refine W3.stR hx V1 Ov1 (Ins.of_exa k4 (hw _ (mI 190 rfl))) ⟨by decide, by decide⟩ 0 rfl (Nat.le_of_ble_eq_true rfl) gb1.1 (Or.inr gb1.2) rfl rfl (hb hby d1032_22) (fun T5 h5 W5 K5 A5 => ?_)
  have V5 : Arv Z h5 b1 c1 (.object "java/lang/Object") (3 : Int32) [(.ref ua), .null, .null] .null := A5
  refine gof T5 m 10 #[vr rr, vr b1, vi 1] [(.ref rr), (.int 1)] (fun _ kk => XS.iinc W5.here hx rfl (hb hby d1032_23) rfl (l' := #[.val (.ref rr), .val (.ref b1), .val (.int 1)]) rfl (XS.goto W5.here hx rfl (pc0 := 26) (pc' := 8) rfl (hb hby d1032_26) (by decide +kernel) (by decide +kernel) (XS.iloadN W5.here hx rfl (hb hby d1032_8) rfl (XS.aloadN W5.here hx rfl (hb hby d1032_9) rfl rfl kk)))) ?_
  have k6 := (k2.keep K5 (ninS (ne_of_born (Nat.le_of_eq eb1.symm) Arr.lt (Nat.le_refl _)) nin0))
  refine W5.alen hx k6 rfl rfl (hb hby d1032_10) ?_
  refine gof T5 m 18 #[vr rr, vr b1, vi 1] [(.int 1), (.ref rr), (.int 1), (.ref b1)] (fun _ kk => XS.icmpNo W5.here hx rfl (hb hby d1032_11) rfl (XT.ii_ge_f (by decide +kernel)) (XS.aloadN W5.here hx rfl (hb hby d1032_14) rfl rfl (XS.iloadN W5.here hx rfl (hb hby d1032_15) rfl (XS.aloadN W5.here hx rfl (hb hby d1032_16) rfl rfl (XS.iloadN W5.here hx rfl (hb hby d1032_17) rfl kk))))) ?_
  refine W5.aaload hx k6 rfl ⟨by decide, by decide⟩ (v := (.ref ub)) rfl rfl rfl (hb hby d1032_18) ?_
  show Go p e below _ (T5.setTop (mkF m 19 #[vr rr, vr b1, vi 1] [(.ref ub), (.int 1), (.ref b1)]))
  refine W5.callS hx hEL (hw _ (mI 268 rfl)) (hw _ (mI 246 rfl)) (hw _ (mI 247 rfl)) (hw _ (mI 248 rfl)) (by decide +kernel) (argsL := [(.ref ub)]) (rest := [(.int (1 : Int32)), (.ref b1)]) (rm55 l Z a0 hw hEL zc SC hzc fm SF rfm ub h5 W5.old ) all0 (by decide +kernel) (Wd := 2) (by decide +kernel) (by decide +kernel) (by decide +kernel) all0 rfl (by rw [hml]; rfl) (lenOf pd10 rfl) rfl (by show 2 * 0 + _ ≤ _; exact Nat.le_of_eq rfl) (hb hby d1032_19) (fun T7 h7 v7 P7 Ws7 K7 q7 => ?_)
  have W7 := Ws7 [] all0
  obtain ⟨rfl, rfl⟩ := q7
  show Go p e below _ (T7.setTop (mkF m 22 #[vr rr, vr b1, vi 1] [(.ref ub), (.int 1), (.ref b1)]))
  have k8 := ((Eub.keep K1).keep K5)
  refine W7.stR hx V5 Ov1 (Ins.of_exa k8 (hw _ (mI 190 rfl))) ⟨by decide, by decide⟩ 1 rfl (Nat.le_of_ble_eq_true rfl) gb1.1 (Or.inr gb1.2) rfl rfl (hb hby d1032_22) (fun T9 h9 W9 K9 A9 => ?_)
  have V9 : Arv Z h9 b1 c1 (.object "java/lang/Object") (3 : Int32) [(.ref ua), (.ref ub), .null] .null := A9
  refine gof T9 m 10 #[vr rr, vr b1, vi 2] [(.ref rr), (.int 2)] (fun _ kk => XS.iinc W9.here hx rfl (hb hby d1032_23) rfl (l' := #[.val (.ref rr), .val (.ref b1), .val (.int 2)]) rfl (XS.goto W9.here hx rfl (pc0 := 26) (pc' := 8) rfl (hb hby d1032_26) (by decide +kernel) (by decide +kernel) (XS.iloadN W9.here hx rfl (hb hby d1032_8) rfl (XS.aloadN W9.here hx rfl (hb hby d1032_9) rfl rfl kk)))) ?_
  have k10 := (k6.keep K9 (ninS (ne_of_born (Nat.le_of_eq eb1.symm) Arr.lt (Nat.le_refl _)) nin0))
  refine W9.alen hx k10 rfl rfl (hb hby d1032_10) ?_
  refine gof T9 m 18 #[vr rr, vr b1, vi 2] [(.int 2), (.ref rr), (.int 2), (.ref b1)] (fun _ kk => XS.icmpNo W9.here hx rfl (hb hby d1032_11) rfl (XT.ii_ge_f (by decide +kernel)) (XS.aloadN W9.here hx rfl (hb hby d1032_14) rfl rfl (XS.iloadN W9.here hx rfl (hb hby d1032_15) rfl (XS.aloadN W9.here hx rfl (hb hby d1032_16) rfl rfl (XS.iloadN W9.here hx rfl (hb hby d1032_17) rfl kk))))) ?_
  refine W9.aaload hx k10 rfl ⟨by decide, by decide⟩ (v := (.ref uc)) rfl rfl rfl (hb hby d1032_18) ?_
  show Go p e below _ (T9.setTop (mkF m 19 #[vr rr, vr b1, vi 2] [(.ref uc), (.int 2), (.ref b1)]))
  refine W9.callS hx hEL (hw _ (mI 268 rfl)) (hw _ (mI 246 rfl)) (hw _ (mI 247 rfl)) (hw _ (mI 248 rfl)) (by decide +kernel) (argsL := [(.ref uc)]) (rest := [(.int (2 : Int32)), (.ref b1)]) (rm55 l Z a0 hw hEL zc SC hzc fm SF rfm uc h9 W9.old ) all0 (by decide +kernel) (Wd := 2) (by decide +kernel) (by decide +kernel) (by decide +kernel) all0 rfl (by rw [hml]; rfl) (lenOf pd10 rfl) rfl (by show 2 * 0 + _ ≤ _; exact Nat.le_of_eq rfl) (hb hby d1032_19) (fun T11 h11 v11 P11 Ws11 K11 q11 => ?_)
  have W11 := Ws11 [] all0
  obtain ⟨rfl, rfl⟩ := q11
  show Go p e below _ (T11.setTop (mkF m 22 #[vr rr, vr b1, vi 2] [(.ref uc), (.int 2), (.ref b1)]))
  have k12 := (((Euc.keep K1).keep K5).keep K9)
  refine W11.stR hx V9 Ov1 (Ins.of_exa k12 (hw _ (mI 190 rfl))) ⟨by decide, by decide⟩ 2 rfl (Nat.le_of_ble_eq_true rfl) gb1.1 (Or.inr gb1.2) rfl rfl (hb hby d1032_22) (fun T13 h13 W13 K13 A13 => ?_)
  have V13 : Arv Z h13 b1 c1 (.object "java/lang/Object") (3 : Int32) [(.ref ua), (.ref ub), (.ref uc)] .null := A13
  refine gof T13 m 10 #[vr rr, vr b1, vi 3] [(.ref rr), (.int 3)] (fun _ kk => XS.iinc W13.here hx rfl (hb hby d1032_23) rfl (l' := #[.val (.ref rr), .val (.ref b1), .val (.int 3)]) rfl (XS.goto W13.here hx rfl (pc0 := 26) (pc' := 8) rfl (hb hby d1032_26) (by decide +kernel) (by decide +kernel) (XS.iloadN W13.here hx rfl (hb hby d1032_8) rfl (XS.aloadN W13.here hx rfl (hb hby d1032_9) rfl rfl kk)))) ?_
  have k14 := (k10.keep K13 (ninS (ne_of_born (Nat.le_of_eq eb1.symm) Arr.lt (Nat.le_refl _)) nin0))
  refine W13.alen hx k14 rfl rfl (hb hby d1032_10) ?_
  refine gof T13 m 29 #[vr rr, vr b1, vi 3] [] (fun _ kk => XS.icmpYes W13.here hx rfl (pc0 := 11) (pc' := 29) rfl (hb hby d1032_11) rfl (XT.ii_ge_t (by decide +kernel)) (by decide +kernel) (by decide +kernel) kk) ?_
  refine W13.newO hx (hw _ (mI 104 rfl)) (hw _ (mI 269 rfl)) (hw _ (mI 270 rfl)) rfl (hb hby d1032_29) (by decide +kernel) (by decide +kernel) (fun T15 h15 b15 eb15 gb15 W15 K15 E15 D15 => ?_)
  have k16 : Fld Z h15 b15 "java/util/ImmutableCollections$ListN" "elements" "[Ljava/lang/Object;" .null := D15 (Or.inr (hw _ (mI 280 rfl))) (ty := (.array (.object "java/lang/Object"))) (by decide +kernel)
  have k17 : Fld Z h15 b15 "java/util/ImmutableCollections$ListN" "allowNulls" "Z" (.int (0 : Int32)) := D15 (Or.inr (hw _ (mI 282 rfl))) (ty := .boolean) (by decide +kernel)
  refine gof T15 m 35 #[vr rr, vr b1, vi 3] [(.int 0), (.ref b1), (.ref b15), (.ref b15)] (fun _ kk => XS.dup W15.here hx rfl (hb hby d1032_32) rfl rfl (XS.aloadN W15.here hx rfl (hb hby d1032_33) rfl rfl (XS.iconst W15.here hx rfl (hb hby d1032_34) kk))) ?_
  refine W15.callN hx hEL rfl (hw _ (mI 271 rfl)) (hw _ (mI 272 rfl)) (hw _ (mI 270 rfl)) (hw _ (mI 274 rfl)) (by decide +kernel) (a := b15) (argsL := [(.ref b1), (.int (0 : Int32))]) (rest := [(.ref b15)]) (rm75 l Z a0 hw hEL zc SC hzc fm SF rfm b15 b1 h15 W15.old E15 k16 k17 gb15.1) all0 (by decide +kernel) (Wd := 1) (by decide +kernel) (by decide +kernel) (by decide +kernel) (allS ⟨gb15.1, (Or.inr gb15.2)⟩ all0) rfl (by rw [hml]; rfl) (lenOf pd16 rfl) rfl (by show 2 * 0 + _ ≤ _; exact Nat.le_of_eq rfl) (hb hby d1032_35) (fun T18 h18 v18 P18 Ws18 K18 q18 => ?_)
  have W18 := Ws18 [] all0
  obtain rfl := q18
  show Go p e below _ (T18.setTop (mkF m 38 #[vr rr, vr b1, vi 3] [(.ref b15)]))
  exact W18.retA hx hEL hs hlk (by decide +kernel) (by decide +kernel) hret rfl rfl (hb hby d1032_38) (fun S hS => ⟨b15, rfl⟩)
theorem d1026_59 : decode jdk_40_method_47_code 59 = .ok (.aload_n 0, 1) := by decide +kernel
theorem d1026_60 : decode jdk_40_method_47_code 60 = .ok (.invokestatic 109, 3) := by decide +kernel
theorem d1026_63 : decode jdk_40_method_47_code 63 = .ok (.areturn, 1) := by decide +kernel
theorem ef79 (m : MethodId) (x0 : Addr)  : entryFrame m #[(.ref x0)] 2 = mkF m 0 #[vr x0, U0] [] := by first | (simp [entryFrame, mkF, argsToLocals, Value.category]; done) | rfl | rfl
set_option maxRecDepth 65536 in
set_option maxHeartbeats 40000000 in
theorem rm79 (l : Launch) (Z : State) (a0 : Array Value) (hw : ∀ d ∈ tables_1, d.before a0 Z = true) (hEL : EW Z a0 EL0) (zc : Int32) (SC : Sta Z Z.heap "java/lang/String" "COMPACT_STRINGS" "Z" (.int zc)) (hzc : ¬ zc = 0) (fm : Value) (SF : Sta Z Z.heap "jdk/internal/util/Preconditions" "SIOOBE_FORMATTER" "Ljava/util/function/BiFunction;" fm) (rfm : fm.isRef = true) (rr : Addr) (kr : ClassId) (ua : Addr) (ub : Addr) (uc : Addr) (dfl : Addr) (el : Addr) (em : Addr) (mir : Addr) (gr : Addr) (de : Addr) (kdf : ClassId) (h0 : Heap) {n0 : Nat} (O0 : Old Z n0 h0) (OD : Arv Z Z.heap dfl kdf (.object "java/lang/Object") (0 : Int32) [] .null) (OS : Sta Z Z.heap "java/util/ArrayList" "DEFAULTCAPACITY_EMPTY_ELEMENTDATA" "[Ljava/lang/Object;" (.ref dfl)) (OL : Sta Z Z.heap "java/util/ImmutableCollections" "EMPTY_LIST" "Ljava/util/ImmutableCollections$ListN;" (.ref el)) (OM : Sta Z Z.heap "java/util/ImmutableCollections" "EMPTY" "Ljava/lang/Object;" (.ref em)) (OI : (Term.mirror "[Ljava/lang/Object;").eval a0 Z none [] Z = some (.ref mir)) (OG : Sta Z Z.heap "org/portcullis/acl/Decision" "GRANTED" "Lorg/portcullis/acl/Decision;" (.ref gr)) (OE : Sta Z Z.heap "org/portcullis/acl/Decision" "DENIED" "Lorg/portcullis/acl/Decision;" (.ref de)) (Arr : Arv Z h0 rr kr (.object "java/lang/Object") (3 : Int32) [(.ref ua), (.ref ub), (.ref uc)] .null) (Eua : Exa Z h0 ua "org/portcullis/acl/ObjectIdentity") (Eub : Exa Z h0 ub "org/portcullis/acl/ObjectIdentity") (Euc : Exa Z h0 uc "org/portcullis/acl/ObjectIdentity") :
    Met l Z EL0 n0 (⟨"java/util/List", "of", "([Ljava/lang/Object;)Ljava/util/List;"⟩ : MethodName) jdk_40_method_47_code 2 (some (.object "java/util/List")) [] ({ frames := 6, cells := 2, slots := 5, locals := 77 } : Room) #[(.ref rr)] h0 [] [] (fun v h' S => ∃ r : Addr, v = some (.ref r)) := by
  refine Met.of (plainFor_of_name pn11) O0 ?_
  intro p e s m below meth c T0 hx hby hml hret hlk hnm hs W0
  have W0 : Wk p l e _ s m _ below meth c Z EL0 n0 [] "java/util/List" [] T0 0 0 h0 := W0
  have hSA := fun d hd => hw d (sa_in d hd)
  have hws := fun d hd => hw d (ws_in d hd)
  refine Go.of (fun _ kk => castTop (ef79 m rr) kk) ?_
  refine gof T0 m 1 #[vr rr, U0] [(.ref rr)] (fun _ kk => XS.aloadN W0.here hx rfl (hb hby d1026_0) rfl rfl kk) ?_
  refine W0.alen hx Arr rfl rfl (hb hby d1026_1) ?_
  show Go p e below _ (T0.setTop (mkF m 2 #[vr rr, U0] [(.int 3)]))
  refine W0.tswOut hx rfl rfl (hb hby d1026_2) (by decide +kernel) (by show (0 : Int) ≤ ((2 : Nat) : Int) + 57; decide) (pc' := 59) rfl ?_
  refine gof T0 m 60 #[vr rr, U0] [(.ref rr)] (fun _ kk => XS.aloadN W0.here hx rfl (hb hby d1026_59) rfl rfl kk) ?_
  refine W0.callS hx hEL (hw _ (mI 264 rfl)) (hw _ (mI 265 rfl)) (hw _ (mI 97 rfl)) (hw _ (mI 266 rfl)) (by decide +kernel) (argsL := [(.ref rr)]) (rest := []) (rm76 l Z a0 hw hEL zc SC hzc fm SF rfm rr kr ua ub uc h0 W0.old Arr Eua Eub Euc) all0 (by decide +kernel) (Wd := 0) (by decide +kernel) (by decide +kernel) (by decide +kernel) all0 rfl (by rw [hml]; rfl) (lenOf pd13 rfl) rfl (by show 2 * 0 + _ ≤ _; exact Nat.le_of_eq rfl) (hb hby d1026_60) (fun T1 h1 v1 P1 Ws1 K1 q1 => ?_)
  have W1 := Ws1 [] all0
  obtain ⟨r1, rfl⟩ := q1
  show Go p e below _ (T1.setTop (mkF m 63 #[vr rr, U0] [(.ref r1)]))
  exact W1.retA hx hEL hs hlk (by decide +kernel) (by decide +kernel) hret rfl rfl (hb hby d1026_63) (fun S hS => ⟨r1, rfl⟩)
theorem ef83 (m : MethodId) (x0 : Addr)  : entryFrame m #[(.ref x0)] 2 = mkF m 0 #[vr x0, U0] [] := by first | (simp [entryFrame, mkF, argsToLocals, Value.category]; done) | rfl | rfl
set_option maxRecDepth 65536 in
set_option maxHeartbeats 40000000 in
theorem rm83 (l : Launch) (Z : State) (a0 : Array Value) (hw : ∀ d ∈ tables_1, d.before a0 Z = true) (hEL : EW Z a0 EL0) (zc : Int32) (SC : Sta Z Z.heap "java/lang/String" "COMPACT_STRINGS" "Z" (.int zc)) (hzc : ¬ zc = 0) (fm : Value) (SF : Sta Z Z.heap "jdk/internal/util/Preconditions" "SIOOBE_FORMATTER" "Ljava/util/function/BiFunction;" fm) (rfm : fm.isRef = true) (al : Addr) (tt : Addr) (kc : ClassId) (ua : Addr) (ub : Addr) (uc : Addr) (dfl : Addr) (el : Addr) (em : Addr) (mir : Addr) (gr : Addr) (de : Addr) (kdf : ClassId) (h0 : Heap) {n0 : Nat} (O0 : Old Z n0 h0) (OD : Arv Z Z.heap dfl kdf (.object "java/lang/Object") (0 : Int32) [] .null) (OS : Sta Z Z.heap "java/util/ArrayList" "DEFAULTCAPACITY_EMPTY_ELEMENTDATA" "[Ljava/lang/Object;" (.ref dfl)) (OL : Sta Z Z.heap "java/util/ImmutableCollections" "EMPTY_LIST" "Ljava/util/ImmutableCollections$ListN;" (.ref el)) (OM : Sta Z Z.heap "java/util/ImmutableCollections" "EMPTY" "Ljava/lang/Object;" (.ref em)) (OI : (Term.mirror "[Ljava/lang/Object;").eval a0 Z none [] Z = some (.ref mir)) (OG : Sta Z Z.heap "org/portcullis/acl/Decision" "GRANTED" "Lorg/portcullis/acl/Decision;" (.ref gr)) (OE : Sta Z Z.heap "org/portcullis/acl/Decision" "DENIED" "Lorg/portcullis/acl/Decision;" (.ref de)) (Eal : Exa Z h0 al "java/util/ArrayList") (Fea : Fld Z h0 al "java/util/ArrayList" "elementData" "[Ljava/lang/Object;" (.ref tt)) (Fsa : Fld Z h0 al "java/util/ArrayList" "size" "I" (.int (3 : Int32))) (Att : Arv Z h0 tt kc (.object "java/lang/Object") (10 : Int32) [(.ref ua), (.ref ub), (.ref uc), .null, .null, .null, .null, .null, .null, .null] .null) (Ett : Exa Z h0 tt "[Ljava/lang/Object;") (Eua : Exa Z h0 ua "org/portcullis/acl/ObjectIdentity") (Eub : Exa Z h0 ub "org/portcullis/acl/ObjectIdentity") (Euc : Exa Z h0 uc "org/portcullis/acl/ObjectIdentity") :
    Met l Z EL0 n0 (⟨"java/util/ImmutableCollections", "listCopy", "(Ljava/util/Collection;)Ljava/util/List;"⟩ : MethodName) jdk_56_method_3_code 2 (some (.object "java/util/List")) [] ({ frames := 7, cells := 3, slots := 8, locals := 90 } : Room) #[(.ref al)] h0 [] [] (fun v h' S => ∃ r : Addr, v = some (.ref r)) := by
  refine Met.of (plainFor_of_name pn15) O0 ?_
  intro p e s m below meth c T0 hx hby hml hret hlk hnm hs W0
  have W0 : Wk p l e _ s m _ below meth c Z EL0 n0 [] "java/util/ImmutableCollections" [] T0 0 0 h0 := W0
  have hSA := fun d hd => hw d (sa_in d hd)
  have hws := fun d hd => hw d (ws_in d hd)
  refine Go.of (fun _ kk => castTop (ef83 m al) kk) ?_
  refine gof T0 m 1 #[vr al, U0] [(.ref al)] (fun _ kk => XS.aloadN W0.here hx rfl (hb hby d1027_0) rfl rfl kk) ?_
  refine W0.instNo hx (hw _ (mI 99 rfl)) Eal (ns_no (hw _ (mI 100 rfl)) (hw _ (mI 225 rfl)) (NS.step (hw _ (mI 100 rfl)) (NS.step (hw _ (mI 101 rfl)) (NS.step (hw _ (mI 102 rfl)) (ns_root (hw _ (mI 103 rfl)) (hw _ (mI 225 rfl)) (by decide +kernel)) (by decide +kernel)) (by decide +kernel)) (by decide +kernel)) (by decide +kernel)) rfl rfl (hb hby d1027_1) (fun T1 W1 => ?_)
  refine gof T1 m 8 #[vr al, U0] [(.ref al)] (fun _ kk => XS.ifNo W1.here hx rfl (hb hby d1027_4) rfl (XT.i0_ne_f (by decide +kernel)) (XS.aloadN W1.here hx rfl (hb hby d1027_7) rfl rfl kk)) ?_
  refine W1.instNo hx (hw _ (mI 104 rfl)) Eal (ns_no (hw _ (mI 100 rfl)) (hw _ (mI 269 rfl)) (NS.step (hw _ (mI 100 rfl)) (NS.step (hw _ (mI 101 rfl)) (NS.step (hw _ (mI 102 rfl)) (ns_root (hw _ (mI 103 rfl)) (hw _ (mI 269 rfl)) (by decide +kernel)) (by decide +kernel)) (by decide +kernel)) (by decide +kernel)) (by decide +kernel)) rfl rfl (hb hby d1027_8) (fun T2 W2 => ?_)
  refine gof T2 m 32 #[vr al, U0] [(.ref al)] (fun _ kk => XS.ifYes W2.here hx rfl (pc0 := 11) (pc' := 31) rfl (hb hby d1027_11) rfl (XT.i0_eq_t (by decide +kernel)) (by decide +kernel) (by decide +kernel) (XS.aloadN W2.here hx rfl (hb hby d1027_31) rfl rfl kk)) ?_
  refine W2.callI hx hEL (hw _ (mI 105 rfl)) (hw _ (mI 106 rfl)) (hw _ (mI 107 rfl)) (by first | rfl | decide +kernel | simp [Cond.onTables, Cond.keepsFace, Cond.keeps, Cond.steady]) (hw _ (mI 108 rfl)) (hw _ (mI 110 rfl)) (hw _ (mI 111 rfl)) (hw _ (mI 112 rfl)) (hw _ (mI 109 rfl)) (hw _ (mI 62 rfl)) (hw _ (mI 113 rfl)) (by decide +kernel) Eal (a := al) (argsL := []) (rest := []) (rm53 l Z a0 hw hEL zc SC hzc fm SF rfm al h0 W2.old Fsa) all0 (by decide +kernel) (Wd := 0) (by decide +kernel) (by decide +kernel) (by decide +kernel) all0 rfl (by rw [hml]; rfl) (lenOf pd12 rfl) rfl (by show 2 * 0 + _ ≤ _; exact Nat.le_of_eq rfl) (hb hby d1027_32) (fun T3 h3 v3 P3 Ws3 K3 q3 => ?_)
  have W3 := Ws3 [] all0
  obtain ⟨rfl, rfl⟩ := q3
  refine gof T3 m 45 #[vr al, U0] [(.ref al)] (fun _ kk => XS.ifYes W3.here hx rfl (pc0 := 37) (pc' := 44) rfl (hb hby d1027_37) rfl (XT.i0_eq_t (by decide +kernel)) (by decide +kernel) (by decide +kernel) (XS.aloadN W3.here hx rfl (hb hby d1027_44) rfl rfl kk)) ?_
  refine W3.callI hx hEL (hw _ (mI 191 rfl)) (hw _ (mI 192 rfl)) (hw _ (mI 193 rfl)) (by first | rfl | decide +kernel | simp [Cond.onTables, Cond.keepsFace, Cond.keeps, Cond.steady]) (hw _ (mI 194 rfl)) (hw _ (mI 196 rfl)) (hw _ (mI 197 rfl)) (hw _ (mI 112 rfl)) (hw _ (mI 195 rfl)) (hw _ (mI 62 rfl)) (hw _ (mI 198 rfl)) (by decide +kernel) Eal (a := al) (argsL := []) (rest := []) (rm71 l Z a0 hw hEL zc SC hzc fm SF rfm al tt kc ua ub uc dfl el em mir gr de kdf h0 W3.old OD OS OL OM OI OG OE Eal Fea Fsa Att Ett Eua Eub Euc) all0 (by decide +kernel) (Wd := 0) (by decide +kernel) (by decide +kernel) (by decide +kernel) all0 rfl (by rw [hml]; rfl) (lenOf pd6 rfl) rfl (by show 2 * 0 + _ ≤ _; exact Nat.le_of_eq rfl) (hb hby d1027_45) (fun T4 h4 v4 P4 Ws4 K4 q4 => ?_)
  have W4 := Ws4 [] all0
  obtain ⟨r4, kr4, rfl, lr4, A4⟩ := q4
  have gr4 : n0 ≤ r4 ∧ s.heap.size ≤ r4 := ⟨Nat.le_trans W3.n0le lr4, Nat.le_trans W3.s0le lr4⟩
  show Go p e below _ (T4.setTop (mkF m 50 #[vr al, U0] [(.ref r4)]))
  have k6 := (Eua.keep K4)
  have k7 := (Eub.keep K4)
  have k8 := (Euc.keep K4)
  refine W4.callS hx hEL (hw _ (mI 221 rfl)) (hw _ (mI 222 rfl)) (hw _ (mI 93 rfl)) (hw _ (mI 223 rfl)) (by decide +kernel) (argsL := [(.ref r4)]) (rest := []) (rm79 l Z a0 hw hEL zc SC hzc fm SF rfm r4 kr4 ua ub uc dfl el em mir gr de kdf h4 W4.old OD OS OL OM OI OG OE A4 k6 k7 k8) all0 (by decide +kernel) (Wd := 0) (by decide +kernel) (by decide +kernel) (by decide +kernel) all0 rfl (by rw [hml]; rfl) (lenOf pd13 rfl) rfl (by show 2 * 0 + _ ≤ _; exact Nat.le_of_eq rfl) (hb hby d1027_50) (fun T5 h5 v5 P5 Ws5 K5 q5 => ?_)
  have W5 := Ws5 [] all0
  obtain ⟨r5, rfl⟩ := q5
  show Go p e below _ (T5.setTop (mkF m 53 #[vr al, U0] [(.ref r5)]))
  exact W5.retA hx hEL hs hlk (by decide +kernel) (by decide +kernel) hret rfl rfl (hb hby d1027_53) (fun S hS => ⟨r5, rfl⟩)
theorem ef87 (m : MethodId) (x0 : Addr)  : entryFrame m #[(.ref x0)] 1 = mkF m 0 #[vr x0] [] := by first | (simp [entryFrame, mkF, argsToLocals, Value.category]; done) | rfl | rfl
set_option maxRecDepth 65536 in
set_option maxHeartbeats 40000000 in
theorem rm87 (l : Launch) (Z : State) (a0 : Array Value) (hw : ∀ d ∈ tables_1, d.before a0 Z = true) (hEL : EW Z a0 EL0) (zc : Int32) (SC : Sta Z Z.heap "java/lang/String" "COMPACT_STRINGS" "Z" (.int zc)) (hzc : ¬ zc = 0) (fm : Value) (SF : Sta Z Z.heap "jdk/internal/util/Preconditions" "SIOOBE_FORMATTER" "Ljava/util/function/BiFunction;" fm) (rfm : fm.isRef = true) (al : Addr) (tt : Addr) (kc : ClassId) (ua : Addr) (ub : Addr) (uc : Addr) (dfl : Addr) (el : Addr) (em : Addr) (mir : Addr) (gr : Addr) (de : Addr) (kdf : ClassId) (h0 : Heap) {n0 : Nat} (O0 : Old Z n0 h0) (OD : Arv Z Z.heap dfl kdf (.object "java/lang/Object") (0 : Int32) [] .null) (OS : Sta Z Z.heap "java/util/ArrayList" "DEFAULTCAPACITY_EMPTY_ELEMENTDATA" "[Ljava/lang/Object;" (.ref dfl)) (OL : Sta Z Z.heap "java/util/ImmutableCollections" "EMPTY_LIST" "Ljava/util/ImmutableCollections$ListN;" (.ref el)) (OM : Sta Z Z.heap "java/util/ImmutableCollections" "EMPTY" "Ljava/lang/Object;" (.ref em)) (OI : (Term.mirror "[Ljava/lang/Object;").eval a0 Z none [] Z = some (.ref mir)) (OG : Sta Z Z.heap "org/portcullis/acl/Decision" "GRANTED" "Lorg/portcullis/acl/Decision;" (.ref gr)) (OE : Sta Z Z.heap "org/portcullis/acl/Decision" "DENIED" "Lorg/portcullis/acl/Decision;" (.ref de)) (Eal : Exa Z h0 al "java/util/ArrayList") (Fea : Fld Z h0 al "java/util/ArrayList" "elementData" "[Ljava/lang/Object;" (.ref tt)) (Fsa : Fld Z h0 al "java/util/ArrayList" "size" "I" (.int (3 : Int32))) (Att : Arv Z h0 tt kc (.object "java/lang/Object") (10 : Int32) [(.ref ua), (.ref ub), (.ref uc), .null, .null, .null, .null, .null, .null, .null] .null) (Ett : Exa Z h0 tt "[Ljava/lang/Object;") (Eua : Exa Z h0 ua "org/portcullis/acl/ObjectIdentity") (Eub : Exa Z h0 ub "org/portcullis/acl/ObjectIdentity") (Euc : Exa Z h0 uc "org/portcullis/acl/ObjectIdentity") :
    Met l Z EL0 n0 (⟨"java/util/List", "copyOf", "(Ljava/util/Collection;)Ljava/util/List;"⟩ : MethodName) jdk_40_method_48_code 1 (some (.object "java/util/List")) [] ({ frames := 8, cells := 3, slots := 8, locals := 103 } : Room) #[(.ref al)] h0 [] [] (fun v h' S => ∃ r : Addr, v = some (.ref r)) := by
  refine Met.of (plainFor_of_name pn11) O0 ?_
  intro p e s m below meth c T0 hx hby hml hret hlk hnm hs W0
  have W0 : Wk p l e _ s m _ below meth c Z EL0 n0 [] "java/util/List" [] T0 0 0 h0 := W0
  have hSA := fun d hd => hw d (sa_in d hd)
  have hws := fun d hd => hw d (ws_in d hd)
  refine Go.of (fun _ kk => castTop (ef87 m al) kk) ?_
  refine gof T0 m 1 #[vr al] [(.ref al)] (fun _ kk => XS.aloadN W0.here hx rfl (hb hby d1028_0) rfl rfl kk) ?_
  refine W0.callS hx hEL (hw _ (mI 95 rfl)) (hw _ (mI 96 rfl)) (hw _ (mI 97 rfl)) (hw _ (mI 98 rfl)) (by decide +kernel) (argsL := [(.ref al)]) (rest := []) (rm83 l Z a0 hw hEL zc SC hzc fm SF rfm al tt kc ua ub uc dfl el em mir gr de kdf h0 W0.old OD OS OL OM OI OG OE Eal Fea Fsa Att Ett Eua Eub Euc) all0 (by decide +kernel) (Wd := 0) (by decide +kernel) (by decide +kernel) (by decide +kernel) all0 rfl (by rw [hml]; rfl) (lenOf pd14 rfl) rfl (by show 2 * 0 + _ ≤ _; exact Nat.le_of_eq rfl) (hb hby d1028_1) (fun T1 h1 v1 P1 Ws1 K1 q1 => ?_)
  have W1 := Ws1 [] all0
  obtain ⟨r1, rfl⟩ := q1
  show Go p e below _ (T1.setTop (mkF m 4 #[vr al] [(.ref r1)]))
  exact W1.retA hx hEL hs hlk (by decide +kernel) (by decide +kernel) hret rfl rfl (hb hby d1028_4) (fun S hS => ⟨r1, rfl⟩)
theorem ef91 (m : MethodId) (x0 : Addr) (x1 : Addr) (x2 : Value) (rx2 : x2.isRef = true) : entryFrame m #[(.ref x0), (.ref x1), x2] 3 = mkF m 0 #[vr x0, vr x1, .val x2] [] := by first | (simp [entryFrame, mkF, argsToLocals, Value.category]; done) | rfl | (rcases XT.refc rx2 with rfl | ⟨_, rfl⟩ <;> rfl)
set_option maxRecDepth 65536 in
set_option maxHeartbeats 40000000 in
theorem rm91 (l : Launch) (Z : State) (a0 : Array Value) (hw : ∀ d ∈ tables_1, d.before a0 Z = true) (hEL : EW Z a0 EL0) (zc : Int32) (SC : Sta Z Z.heap "java/lang/String" "COMPACT_STRINGS" "Z" (.int zc)) (hzc : ¬ zc = 0) (fm : Value) (SF : Sta Z Z.heap "jdk/internal/util/Preconditions" "SIOOBE_FORMATTER" "Ljava/util/function/BiFunction;" fm) (rfm : fm.isRef = true) (oo : Addr) (al : Addr) (tt : Addr) (kc : ClassId) (ua : Addr) (ub : Addr) (uc : Addr) (ev : Value) (dfl : Addr) (el : Addr) (em : Addr) (mir : Addr) (gr : Addr) (de : Addr) (kdf : ClassId) (h0 : Heap) {n0 : Nat} (O0 : Old Z n0 h0) (OD : Arv Z Z.heap dfl kdf (.object "java/lang/Object") (0 : Int32) [] .null) (OS : Sta Z Z.heap "java/util/ArrayList" "DEFAULTCAPACITY_EMPTY_ELEMENTDATA" "[Ljava/lang/Object;" (.ref dfl)) (OL : Sta Z Z.heap "java/util/ImmutableCollections" "EMPTY_LIST" "Ljava/util/ImmutableCollections$ListN;" (.ref el)) (OM : Sta Z Z.heap "java/util/ImmutableCollections" "EMPTY" "Ljava/lang/Object;" (.ref em)) (OI : (Term.mirror "[Ljava/lang/Object;").eval a0 Z none [] Z = some (.ref mir)) (OG : Sta Z Z.heap "org/portcullis/acl/Decision" "GRANTED" "Lorg/portcullis/acl/Decision;" (.ref gr)) (OE : Sta Z Z.heap "org/portcullis/acl/Decision" "DENIED" "Lorg/portcullis/acl/Decision;" (.ref de)) (rev : ev.isRef = true) (Eal : Exa Z h0 al "java/util/ArrayList") (Fea : Fld Z h0 al "java/util/ArrayList" "elementData" "[Ljava/lang/Object;" (.ref tt)) (Fsa : Fld Z h0 al "java/util/ArrayList" "size" "I" (.int (3 : Int32))) (Att : Arv Z h0 tt kc (.object "java/lang/Object") (10 : Int32) [(.ref ua), (.ref ub), (.ref uc), .null, .null, .null, .null, .null, .null, .null] .null) (Ett : Exa Z h0 tt "[Ljava/lang/Object;") (Eua : Exa Z h0 ua "org/portcullis/acl/ObjectIdentity") (Eub : Exa Z h0 ub "org/portcullis/acl/ObjectIdentity") (Euc : Exa Z h0 uc "org/portcullis/acl/ObjectIdentity") (Eo : Exa Z h0 oo "org/portcullis/acl/Outcome") (Fla : Fld Z h0 oo "org/portcullis/acl/Outcome" "iLevels" "Ljava/util/List;" .null) (Fya : Fld Z h0 oo "org/portcullis/acl/Outcome" "iEntry" "Lorg/portcullis/acl/AccessControlEntry;" .null) (go : n0 ≤ oo) :
    Met l Z EL0 n0 (⟨"org/portcullis/acl/Outcome", "<init>", "(Ljava/util/Collection;Lorg/portcullis/acl/AccessControlEntry;)V"⟩ : MethodName) prog_10_method_1_code 3 none [] ({ frames := 9, cells := 3, slots := 8, locals := 116 } : Room) #[(.ref oo), (.ref al), ev] h0 [oo] [] (fun v h' S => v = none ∧ Fld Z h' oo "org/portcullis/acl/Outcome" "iEntry" "Lorg/portcullis/acl/AccessControlEntry;" ev) := by
  refine Met.of (plainFor_of_name pn16) O0 ?_
  intro p e s m below meth c T0 hx hby hml hret hlk hnm hs W0
  have W0 : Wk p l e _ s m _ below meth c Z EL0 n0 [oo] "org/portcullis/acl/Outcome" [] T0 0 0 h0 := W0
  have hSA := fun d hd => hw d (sa_in d hd)
  have hws := fun d hd => hw d (ws_in d hd)
  refine Go.of (fun _ kk => castTop (ef91 m oo al ev rev) kk) ?_
  refine gof T0 m 1 #[vr oo, vr al, .val ev] [(.ref oo)] (fun _ kk => XS.aloadN W0.here hx rfl (hb hby d1029_0) rfl rfl kk) ?_
  refine W0.initO hx (hw _ (mI 90 rfl)) (hw _ (mI 15 rfl)) (hw _ (mI 16 rfl)) rfl (by rw [hml]; rfl) rfl (hb hby d1029_1) (by decide +kernel) (Wd := 0) (by show 2 * 0 + _ ≤ _; exact Nat.le_of_eq rfl) (by decide +kernel) (fun T1 W1 => ?_)
  refine gof T1 m 6 #[vr oo, vr al, .val ev] [(.ref al), (.ref oo)] (fun _ kk => XS.aloadN W1.here hx rfl (hb hby d1029_4) rfl rfl (XS.aloadN W1.here hx rfl (hb hby d1029_5) rfl rfl kk)) ?_
  refine W1.callS hx hEL (hw _ (mI 91 rfl)) (hw _ (mI 92 rfl)) (hw _ (mI 93 rfl)) (hw _ (mI 94 rfl)) (by decide +kernel) (argsL := [(.ref al)]) (rest := [(.ref oo)]) (rm87 l Z a0 hw hEL zc SC hzc fm SF rfm al tt kc ua ub uc dfl el em mir gr de kdf h0 W1.old OD OS OL OM OI OG OE Eal Fea Fsa Att Ett Eua Eub Euc) all0 (by decide +kernel) (Wd := 1) (by decide +kernel) (by decide +kernel) (by decide +kernel) all0 rfl (by rw [hml]; rfl) (lenOf pd14 rfl) rfl (by show 2 * 0 + _ ≤ _; exact Nat.le_of_eq rfl) (hb hby d1029_6) (fun T2 h2 v2 P2 Ws2 K2 q2 => ?_)
  have W2 := Ws2 [] all0
  obtain ⟨r2, rfl⟩ := q2
  show Go p e below _ (T2.setTop (mkF m 9 #[vr oo, vr al, .val ev] [(.ref r2), (.ref oo)]))
  have k3 := (Fla.keep K2 nin0)
  have k4 := (Eo.keep K2)
  refine W2.putF hx (host := "") (Or.inl (hw _ (mI 120 rfl))) Via.refl k3 k4 (Or.inr ⟨(hw _ (mI 121 rfl)), rfl, hnm⟩) (hw _ (mI 85 rfl)) (ty := (.object "java/util/List")) (by decide +kernel) rfl rfl go (Or.inl (mI 0 rfl)) (Or.inr ⟨by decide, by decide⟩) rfl rfl (hb hby d1029_9) (fun T5 h5 W5 w5 => ?_)
  have k6 := (Fya.keep K2 nin0)
  have K5 := Keep.of_wr w5
  have k7 := k6.other w5 (Or.inr (slot_ne (Or.inr (hw _ (mI 123 rfl))) (Or.inr (hw _ (mI 121 rfl))) (by decide +kernel) (t := (.object "org/portcullis/acl/AccessControlEntry")) (t' := (.object "java/util/List")) (by decide +kernel) (by decide +kernel)))
  have k8 := k3.same w5
  refine gof T5 m 14 #[vr oo, vr al, .val ev] [ev, (.ref oo)] (fun _ kk => XS.aloadN W5.here hx rfl (hb hby d1029_12) rfl rfl (XS.aloadN W5.here hx rfl (hb hby d1029_13) rfl rev kk)) ?_
  have k9 := (k4.keep K5)
  refine W5.putF hx (host := "") (Or.inl (hw _ (mI 122 rfl))) Via.refl k7 k9 (Or.inr ⟨(hw _ (mI 123 rfl)), rfl, hnm⟩) (hw _ (mI 85 rfl)) (ty := (.object "org/portcullis/acl/AccessControlEntry")) (by decide +kernel) (by rcases XT.refc rev with rfl | ⟨_, rfl⟩ <;> rfl) (by rcases XT.refc rev with rfl | ⟨_, rfl⟩ <;> rfl) go (Or.inl (mI 0 rfl)) (Or.inr ⟨by decide, by decide⟩) rfl rfl (hb hby d1029_14) (fun T10 h10 W10 w10 => ?_)
  have K10 := Keep.of_wr w10
  have k11 := k8.other w10 (Or.inr (slot_ne (Or.inr (hw _ (mI 121 rfl))) (Or.inr (hw _ (mI 123 rfl))) (by decide +kernel) (t := (.object "java/util/List")) (t' := (.object "org/portcullis/acl/AccessControlEntry")) (by decide +kernel) (by decide +kernel)))
  have k12 := k7.same w10
  show Go p e below _ (T10.setTop (mkF m 17 #[vr oo, vr al, .val ev] []))
  exact W10.retV hx hEL hs hlk (by decide +kernel) (by decide +kernel) hret (hb hby d1029_17) (fun S hS => ⟨rfl, k12⟩)
theorem d1027_40 : decode jdk_56_method_3_code 40 = .ok (.invokestatic 26, 3) := by decide +kernel
theorem d1027_43 : decode jdk_56_method_3_code 43 = .ok (.areturn, 1) := by decide +kernel
theorem ef80 (m : MethodId) (x0 : Addr)  : entryFrame m #[(.ref x0)] 2 = mkF m 0 #[vr x0, U0] [] := by first | (simp [entryFrame, mkF, argsToLocals, Value.category]; done) | rfl | rfl
set_option maxRecDepth 65536 in
set_option maxHeartbeats 40000000 in
theorem rm80 (l : Launch) (Z : State) (a0 : Array Value) (hw : ∀ d ∈ tables_1, d.before a0 Z = true) (hEL : EW Z a0 EL0) (zc : Int32) (SC : Sta Z Z.heap "java/lang/String" "COMPACT_STRINGS" "Z" (.int zc)) (hzc : ¬ zc = 0) (fm : Value) (SF : Sta Z Z.heap "jdk/internal/util/Preconditions" "SIOOBE_FORMATTER" "Ljava/util/function/BiFunction;" fm) (rfm : fm.isRef = true) (al : Addr) (dfl : Addr) (el : Addr) (em : Addr) (mir : Addr) (gr : Addr) (de : Addr) (kdf : ClassId) (h0 : Heap) {n0 : Nat} (O0 : Old Z n0 h0) (OD : Arv Z Z.heap dfl kdf (.object "java/lang/Object") (0 : Int32) [] .null) (OS : Sta Z Z.heap "java/util/ArrayList" "DEFAULTCAPACITY_EMPTY_ELEMENTDATA" "[Ljava/lang/Object;" (.ref dfl)) (OL : Sta Z Z.heap "java/util/ImmutableCollections" "EMPTY_LIST" "Ljava/util/ImmutableCollections$ListN;" (.ref el)) (OM : Sta Z Z.heap "java/util/ImmutableCollections" "EMPTY" "Ljava/lang/Object;" (.ref em)) (OI : (Term.mirror "[Ljava/lang/Object;").eval a0 Z none [] Z = some (.ref mir)) (OG : Sta Z Z.heap "org/portcullis/acl/Decision" "GRANTED" "Lorg/portcullis/acl/Decision;" (.ref gr)) (OE : Sta Z Z.heap "org/portcullis/acl/Decision" "DENIED" "Lorg/portcullis/acl/Decision;" (.ref de)) (Eal : Exa Z h0 al "java/util/ArrayList") (Fsa : Fld Z h0 al "java/util/ArrayList" "size" "I" (.int (0 : Int32))) :
    Met l Z EL0 n0 (⟨"java/util/ImmutableCollections", "listCopy", "(Ljava/util/Collection;)Ljava/util/List;"⟩ : MethodName) jdk_56_method_3_code 2 (some (.object "java/util/List")) [] ({ frames := 1, cells := 0, slots := 0, locals := 12 } : Room) #[(.ref al)] h0 [] [] (fun v h' S => ∃ r : Addr, v = some (.ref r)) := by
  refine Met.of (plainFor_of_name pn15) O0 ?_
  intro p e s m below meth c T0 hx hby hml hret hlk hnm hs W0
  have W0 : Wk p l e _ s m _ below meth c Z EL0 n0 [] "java/util/ImmutableCollections" [] T0 0 0 h0 := W0
  have hSA := fun d hd => hw d (sa_in d hd)
  have hws := fun d hd => hw d (ws_in d hd)
  refine Go.of (fun _ kk => castTop (ef80 m al) kk) ?_
  refine gof T0 m 1 #[vr al, U0] [(.ref al)] (fun _ kk => XS.aloadN W0.here hx rfl (hb hby d1027_0) rfl rfl kk) ?_
  refine W0.instNo hx (hw _ (mI 99 rfl)) Eal (ns_no (hw _ (mI 100 rfl)) (hw _ (mI 225 rfl)) (NS.step (hw _ (mI 100 rfl)) (NS.step (hw _ (mI 101 rfl)) (NS.step (hw _ (mI 102 rfl)) (ns_root (hw _ (mI 103 rfl)) (hw _ (mI 225 rfl)) (by decide +kernel)) (by decide +kernel)) (by decide +kernel)) (by decide +kernel)) (by decide +kernel)) rfl rfl (hb hby d1027_1) (fun T1 W1 => ?_)
  refine gof T1 m 8 #[vr al, U0] [(.ref al)] (fun _ kk => XS.ifNo W1.here hx rfl (hb hby d1027_4) rfl (XT.i0_ne_f (by decide +kernel)) (XS.aloadN W1.here hx rfl (hb hby d1027_7) rfl rfl kk)) ?_
  refine W1.instNo hx (hw _ (mI 104 rfl)) Eal (ns_no (hw _ (mI 100 rfl)) (hw _ (mI 269 rfl)) (NS.step (hw _ (mI 100 rfl)) (NS.step (hw _ (mI 101 rfl)) (NS.step (hw _ (mI 102 rfl)) (ns_root (hw _ (mI 103 rfl)) (hw _ (mI 269 rfl)) (by decide +kernel)) (by decide +kernel)) (by decide +kernel)) (by decide +kernel)) (by decide +kernel)) rfl rfl (hb hby d1027_8) (fun T2 W2 => ?_)
  refine gof T2 m 32 #[vr al, U0] [(.ref al)] (fun _ kk => XS.ifYes W2.here hx rfl (pc0 := 11) (pc' := 31) rfl (hb hby d1027_11) rfl (XT.i0_eq_t (by decide +kernel)) (by decide +kernel) (by decide +kernel) (XS.aloadN W2.here hx rfl (hb hby d1027_31) rfl rfl kk)) ?_
  refine W2.callI hx hEL (hw _ (mI 105 rfl)) (hw _ (mI 106 rfl)) (hw _ (mI 107 rfl)) (by first | rfl | decide +kernel | simp [Cond.onTables, Cond.keepsFace, Cond.keeps, Cond.steady]) (hw _ (mI 108 rfl)) (hw _ (mI 110 rfl)) (hw _ (mI 111 rfl)) (hw _ (mI 112 rfl)) (hw _ (mI 109 rfl)) (hw _ (mI 62 rfl)) (hw _ (mI 113 rfl)) (by decide +kernel) Eal (a := al) (argsL := []) (rest := []) (rm50 l Z a0 hw hEL zc SC hzc fm SF rfm al h0 W2.old Fsa) all0 (by decide +kernel) (Wd := 0) (by decide +kernel) (by decide +kernel) (by decide +kernel) all0 rfl (by rw [hml]; rfl) (lenOf pd12 rfl) rfl (by show 2 * 0 + _ ≤ _; exact Nat.le_of_eq rfl) (hb hby d1027_32) (fun T3 h3 v3 P3 Ws3 K3 q3 => ?_)
  have W3 := Ws3 [] all0
  obtain ⟨rfl, rfl⟩ := q3
  refine gof T3 m 40 #[vr al, U0] [] (fun _ kk => XS.ifNo W3.here hx rfl (hb hby d1027_37) rfl (XT.i0_eq_f (by decide +kernel)) kk) ?_
  refine W3.callS hx hEL (hw _ (mI 116 rfl)) (hw _ (mI 117 rfl)) (hw _ (mI 93 rfl)) (hw _ (mI 118 rfl)) (by decide +kernel) (argsL := []) (rest := []) (rm54 l Z a0 hw hEL zc SC hzc fm SF rfm dfl el em mir gr de kdf h0 W3.old OD OS OL OM OI OG OE) all0 (by decide +kernel) (Wd := 0) (by decide +kernel) (by decide +kernel) (by decide +kernel) all0 rfl (by rw [hml]; rfl) (lenOf pd17 rfl) rfl (by show 2 * 0 + _ ≤ _; exact Nat.le_of_eq rfl) (hb hby d1027_40) (fun T4 h4 v4 P4 Ws4 K4 q4 => ?_)
  have W4 := Ws4 [] all0
  obtain ⟨rfl, rfl⟩ := q4
  show Go p e below _ (T4.setTop (mkF m 43 #[vr al, U0] [(.ref el)]))
  exact W4.retA hx hEL hs hlk (by decide +kernel) (by decide +kernel) hret rfl rfl (hb hby d1027_43) (fun S hS => ⟨el, rfl⟩)
theorem ef84 (m : MethodId) (x0 : Addr)  : entryFrame m #[(.ref x0)] 1 = mkF m 0 #[vr x0] [] := by first | (simp [entryFrame, mkF, argsToLocals, Value.category]; done) | rfl | rfl
set_option maxRecDepth 65536 in
set_option maxHeartbeats 40000000 in
theorem rm84 (l : Launch) (Z : State) (a0 : Array Value) (hw : ∀ d ∈ tables_1, d.before a0 Z = true) (hEL : EW Z a0 EL0) (zc : Int32) (SC : Sta Z Z.heap "java/lang/String" "COMPACT_STRINGS" "Z" (.int zc)) (hzc : ¬ zc = 0) (fm : Value) (SF : Sta Z Z.heap "jdk/internal/util/Preconditions" "SIOOBE_FORMATTER" "Ljava/util/function/BiFunction;" fm) (rfm : fm.isRef = true) (al : Addr) (dfl : Addr) (el : Addr) (em : Addr) (mir : Addr) (gr : Addr) (de : Addr) (kdf : ClassId) (h0 : Heap) {n0 : Nat} (O0 : Old Z n0 h0) (OD : Arv Z Z.heap dfl kdf (.object "java/lang/Object") (0 : Int32) [] .null) (OS : Sta Z Z.heap "java/util/ArrayList" "DEFAULTCAPACITY_EMPTY_ELEMENTDATA" "[Ljava/lang/Object;" (.ref dfl)) (OL : Sta Z Z.heap "java/util/ImmutableCollections" "EMPTY_LIST" "Ljava/util/ImmutableCollections$ListN;" (.ref el)) (OM : Sta Z Z.heap "java/util/ImmutableCollections" "EMPTY" "Ljava/lang/Object;" (.ref em)) (OI : (Term.mirror "[Ljava/lang/Object;").eval a0 Z none [] Z = some (.ref mir)) (OG : Sta Z Z.heap "org/portcullis/acl/Decision" "GRANTED" "Lorg/portcullis/acl/Decision;" (.ref gr)) (OE : Sta Z Z.heap "org/portcullis/acl/Decision" "DENIED" "Lorg/portcullis/acl/Decision;" (.ref de)) (Eal : Exa Z h0 al "java/util/ArrayList") (Fsa : Fld Z h0 al "java/util/ArrayList" "size" "I" (.int (0 : Int32))) :
    Met l Z EL0 n0 (⟨"java/util/List", "copyOf", "(Ljava/util/Collection;)Ljava/util/List;"⟩ : MethodName) jdk_40_method_48_code 1 (some (.object "java/util/List")) [] ({ frames := 2, cells := 0, slots := 0, locals := 25 } : Room) #[(.ref al)] h0 [] [] (fun v h' S => ∃ r : Addr, v = some (.ref r)) := by
  refine Met.of (plainFor_of_name pn11) O0 ?_
  intro p e s m below meth c T0 hx hby hml hret hlk hnm hs W0
  have W0 : Wk p l e _ s m _ below meth c Z EL0 n0 [] "java/util/List" [] T0 0 0 h0 := W0
  have hSA := fun d hd => hw d (sa_in d hd)
  have hws := fun d hd => hw d (ws_in d hd)
  refine Go.of (fun _ kk => castTop (ef84 m al) kk) ?_
  refine gof T0 m 1 #[vr al] [(.ref al)] (fun _ kk => XS.aloadN W0.here hx rfl (hb hby d1028_0) rfl rfl kk) ?_
  refine W0.callS hx hEL (hw _ (mI 95 rfl)) (hw _ (mI 96 rfl)) (hw _ (mI 97 rfl)) (hw _ (mI 98 rfl)) (by decide +kernel) (argsL := [(.ref al)]) (rest := []) (rm80 l Z a0 hw hEL zc SC hzc fm SF rfm al dfl el em mir gr de kdf h0 W0.old OD OS OL OM OI OG OE Eal Fsa) all0 (by decide +kernel) (Wd := 0) (by decide +kernel) (by decide +kernel) (by decide +kernel) all0 rfl (by rw [hml]; rfl) (lenOf pd14 rfl) rfl (by show 2 * 0 + _ ≤ _; exact Nat.le_of_eq rfl) (hb hby d1028_1) (fun T1 h1 v1 P1 Ws1 K1 q1 => ?_)
  have W1 := Ws1 [] all0
  obtain ⟨r1, rfl⟩ := q1
  show Go p e below _ (T1.setTop (mkF m 4 #[vr al] [(.ref r1)]))
  exact W1.retA hx hEL hs hlk (by decide +kernel) (by decide +kernel) hret rfl rfl (hb hby d1028_4) (fun S hS => ⟨r1, rfl⟩)
theorem ef88 (m : MethodId) (x0 : Addr) (x1 : Addr) (x2 : Value) (rx2 : x2.isRef = true) : entryFrame m #[(.ref x0), (.ref x1), x2] 3 = mkF m 0 #[vr x0, vr x1, .val x2] [] := by first | (simp [entryFrame, mkF, argsToLocals, Value.category]; done) | rfl | (rcases XT.refc rx2 with rfl | ⟨_, rfl⟩ <;> rfl)
set_option maxRecDepth 65536 in
set_option maxHeartbeats 40000000 in
theorem rm88 (l : Launch) (Z : State) (a0 : Array Value) (hw : ∀ d ∈ tables_1, d.before a0 Z = true) (hEL : EW Z a0 EL0) (zc : Int32) (SC : Sta Z Z.heap "java/lang/String" "COMPACT_STRINGS" "Z" (.int zc)) (hzc : ¬ zc = 0) (fm : Value) (SF : Sta Z Z.heap "jdk/internal/util/Preconditions" "SIOOBE_FORMATTER" "Ljava/util/function/BiFunction;" fm) (rfm : fm.isRef = true) (oo : Addr) (al : Addr) (ev : Value) (dfl : Addr) (el : Addr) (em : Addr) (mir : Addr) (gr : Addr) (de : Addr) (kdf : ClassId) (h0 : Heap) {n0 : Nat} (O0 : Old Z n0 h0) (OD : Arv Z Z.heap dfl kdf (.object "java/lang/Object") (0 : Int32) [] .null) (OS : Sta Z Z.heap "java/util/ArrayList" "DEFAULTCAPACITY_EMPTY_ELEMENTDATA" "[Ljava/lang/Object;" (.ref dfl)) (OL : Sta Z Z.heap "java/util/ImmutableCollections" "EMPTY_LIST" "Ljava/util/ImmutableCollections$ListN;" (.ref el)) (OM : Sta Z Z.heap "java/util/ImmutableCollections" "EMPTY" "Ljava/lang/Object;" (.ref em)) (OI : (Term.mirror "[Ljava/lang/Object;").eval a0 Z none [] Z = some (.ref mir)) (OG : Sta Z Z.heap "org/portcullis/acl/Decision" "GRANTED" "Lorg/portcullis/acl/Decision;" (.ref gr)) (OE : Sta Z Z.heap "org/portcullis/acl/Decision" "DENIED" "Lorg/portcullis/acl/Decision;" (.ref de)) (rev : ev.isRef = true) (Eal : Exa Z h0 al "java/util/ArrayList") (Fsa : Fld Z h0 al "java/util/ArrayList" "size" "I" (.int (0 : Int32))) (Eo : Exa Z h0 oo "org/portcullis/acl/Outcome") (Fla : Fld Z h0 oo "org/portcullis/acl/Outcome" "iLevels" "Ljava/util/List;" .null) (Fya : Fld Z h0 oo "org/portcullis/acl/Outcome" "iEntry" "Lorg/portcullis/acl/AccessControlEntry;" .null) (go : n0 ≤ oo) :
    Met l Z EL0 n0 (⟨"org/portcullis/acl/Outcome", "<init>", "(Ljava/util/Collection;Lorg/portcullis/acl/AccessControlEntry;)V"⟩ : MethodName) prog_10_method_1_code 3 none [] ({ frames := 3, cells := 0, slots := 0, locals := 38 } : Room) #[(.ref oo), (.ref al), ev] h0 [oo] [] (fun v h' S => v = none ∧ Fld Z h' oo "org/portcullis/acl/Outcome" "iEntry" "Lorg/portcullis/acl/AccessControlEntry;" ev) := by
  refine Met.of (plainFor_of_name pn16) O0 ?_
  intro p e s m below meth c T0 hx hby hml hret hlk hnm hs W0
  have W0 : Wk p l e _ s m _ below meth c Z EL0 n0 [oo] "org/portcullis/acl/Outcome" [] T0 0 0 h0 := W0
  have hSA := fun d hd => hw d (sa_in d hd)
  have hws := fun d hd => hw d (ws_in d hd)
  refine Go.of (fun _ kk => castTop (ef88 m oo al ev rev) kk) ?_
  refine gof T0 m 1 #[vr oo, vr al, .val ev] [(.ref oo)] (fun _ kk => XS.aloadN W0.here hx rfl (hb hby d1029_0) rfl rfl kk) ?_
  refine W0.initO hx (hw _ (mI 90 rfl)) (hw _ (mI 15 rfl)) (hw _ (mI 16 rfl)) rfl (by rw [hml]; rfl) rfl (hb hby d1029_1) (by decide +kernel) (Wd := 0) (by show 2 * 0 + _ ≤ _; exact Nat.le_of_eq rfl) (by decide +kernel) (fun T1 W1 => ?_)
  refine gof T1 m 6 #[vr oo, vr al, .val ev] [(.ref al), (.ref oo)] (fun _ kk => XS.aloadN W1.here hx rfl (hb hby d1029_4) rfl rfl (XS.aloadN W1.here hx rfl (hb hby d1029_5) rfl rfl kk)) ?_
  refine W1.callS hx hEL (hw _ (mI 91 rfl)) (hw _ (mI 92 rfl)) (hw _ (mI 93 rfl)) (hw _ (mI 94 rfl)) (by decide +kernel) (argsL := [(.ref al)]) (rest := [(.ref oo)]) (rm84 l Z a0 hw hEL zc SC hzc fm SF rfm al dfl el em mir gr de kdf h0 W1.old OD OS OL OM OI OG OE Eal Fsa) all0 (by decide +kernel) (Wd := 1) (by decide +kernel) (by decide +kernel) (by decide +kernel) all0 rfl (by rw [hml]; rfl) (lenOf pd14 rfl) rfl (by show 2 * 0 + _ ≤ _; exact Nat.le_of_eq rfl) (hb hby d1029_6) (fun T2 h2 v2 P2 Ws2 K2 q2 => ?_)
  have W2 := Ws2 [] all0
  obtain ⟨r2, rfl⟩ := q2
  show Go p e below _ (T2.setTop (mkF m 9 #[vr oo, vr al, .val ev] [(.ref r2), (.ref oo)]))
  have k3 := (Fla.keep K2 nin0)
  have k4 := (Eo.keep K2)
  refine W2.putF hx (host := "") (Or.inl (hw _ (mI 120 rfl))) Via.refl k3 k4 (Or.inr ⟨(hw _ (mI 121 rfl)), rfl, hnm⟩) (hw _ (mI 85 rfl)) (ty := (.object "java/util/List")) (by decide +kernel) rfl rfl go (Or.inl (mI 0 rfl)) (Or.inr ⟨by decide, by decide⟩) rfl rfl (hb hby d1029_9) (fun T5 h5 W5 w5 => ?_)
  have k6 := (Fya.keep K2 nin0)
  have K5 := Keep.of_wr w5
  have k7 := k6.other w5 (Or.inr (slot_ne (Or.inr (hw _ (mI 123 rfl))) (Or.inr (hw _ (mI 121 rfl))) (by decide +kernel) (t := (.object "org/portcullis/acl/AccessControlEntry")) (t' := (.object "java/util/List")) (by decide +kernel) (by decide +kernel)))
  have k8 := k3.same w5
  refine gof T5 m 14 #[vr oo, vr al, .val ev] [ev, (.ref oo)] (fun _ kk => XS.aloadN W5.here hx rfl (hb hby d1029_12) rfl rfl (XS.aloadN W5.here hx rfl (hb hby d1029_13) rfl rev kk)) ?_
  have k9 := (k4.keep K5)
  refine W5.putF hx (host := "") (Or.inl (hw _ (mI 122 rfl))) Via.refl k7 k9 (Or.inr ⟨(hw _ (mI 123 rfl)), rfl, hnm⟩) (hw _ (mI 85 rfl)) (ty := (.object "org/portcullis/acl/AccessControlEntry")) (by decide +kernel) (by rcases XT.refc rev with rfl | ⟨_, rfl⟩ <;> rfl) (by rcases XT.refc rev with rfl | ⟨_, rfl⟩ <;> rfl) go (Or.inl (mI 0 rfl)) (Or.inr ⟨by decide, by decide⟩) rfl rfl (hb hby d1029_14) (fun T10 h10 W10 w10 => ?_)
  have K10 := Keep.of_wr w10
  have k11 := k8.other w10 (Or.inr (slot_ne (Or.inr (hw _ (mI 121 rfl))) (Or.inr (hw _ (mI 123 rfl))) (by decide +kernel) (t := (.object "java/util/List")) (t' := (.object "org/portcullis/acl/AccessControlEntry")) (by decide +kernel) (by decide +kernel)))
  have k12 := k7.same w10
  show Go p e below _ (T10.setTop (mkF m 17 #[vr oo, vr al, .val ev] []))
  exact W10.retV hx hEL hs hlk (by decide +kernel) (by decide +kernel) hret (hb hby d1029_17) (fun S hS => ⟨rfl, k12⟩)
theorem d1033_0 : decode prog_1_method_8_code 0 = .ok (.aload_n 0, 1) := by decide +kernel
theorem d1033_1 : decode prog_1_method_8_code 1 = .ok (.getfield 27, 3) := by decide +kernel
theorem d1033_4 : decode prog_1_method_8_code 4 = .ok (.ireturn, 1) := by decide +kernel
theorem ef92 (m : MethodId) (x0 : Addr)  : entryFrame m #[(.ref x0)] 1 = mkF m 0 #[vr x0] [] := by first | (simp [entryFrame, mkF, argsToLocals, Value.category]; done) | rfl | rfl
set_option maxRecDepth 65536 in
set_option maxHeartbeats 40000000 in
theorem rm92 (l : Launch) (Z : State) (a0 : Array Value) (hw : ∀ d ∈ tables_1, d.before a0 Z = true) (hEL : EW Z a0 EL0) (zc : Int32) (SC : Sta Z Z.heap "java/lang/String" "COMPACT_STRINGS" "Z" (.int zc)) (hzc : ¬ zc = 0) (fm : Value) (SF : Sta Z Z.heap "jdk/internal/util/Preconditions" "SIOOBE_FORMATTER" "Ljava/util/function/BiFunction;" fm) (rfm : fm.isRef = true) (oo : Addr) (h0 : Heap) {n0 : Nat} (O0 : Old Z n0 h0) (Fga : Fld Z h0 oo "org/portcullis/acl/AccessControlEntry" "granting" "Z" (.int (0 : Int32))) :
    Met l Z EL0 n0 (⟨"org/portcullis/acl/AccessControlEntry", "granting", "()Z"⟩ : MethodName) prog_1_method_8_code 1 (some .boolean) [] ({ frames := 0, cells := 0, slots := 0, locals := 0 } : Room) #[(.ref oo)] h0 [] [] (fun v h' S => v = some (.int (0 : Int32)) ∧ h0 = h') := by
  refine Met.of (plainFor_of_name pn4) O0 ?_
  intro p e s m below meth c T0 hx hby hml hret hlk hnm hs W0
  have W0 : Wk p l e _ s m _ below meth c Z EL0 n0 [] "org/portcullis/acl/AccessControlEntry" [] T0 0 0 h0 := W0
  have hSA := fun d hd => hw d (sa_in d hd)
  have hws := fun d hd => hw d (ws_in d hd)
  refine Go.of (fun _ kk => castTop (ef92 m oo) kk) ?_
  refine gof T0 m 1 #[vr oo] [(.ref oo)] (fun _ kk => XS.aloadN W0.here hx rfl (hb hby d1033_0) rfl rfl kk) ?_
  refine W0.getF hx (host := "") (Or.inl (hw _ (mI 146 rfl))) Via.refl Fga rfl rfl (hb hby d1033_1) (fun T1 W1 => ?_)
  show Go p e below _ (T1.setTop (mkF m 4 #[vr oo] [(.int 0)]))
  exact W1.retI hx hEL hs hlk (by decide +kernel) (by decide +kernel) hret (by simp) rfl (hb hby d1033_4) (fun S hS => ⟨rfl, rfl⟩)
theorem d1034_0 : decode prog_10_method_2_code 0 = .ok (.aload_n 0, 1) := by decide +kernel
theorem d1034_1 : decode prog_10_method_2_code 1 = .ok (.getfield 19, 3) := by decide +kernel
theorem d1034_4 : decode prog_10_method_2_code 4 = .ok (.ifnull 19, 3) := by decide +kernel
theorem d1034_7 : decode prog_10_method_2_code 7 = .ok (.aload_n 0, 1) := by decide +kernel
theorem d1034_8 : decode prog_10_method_2_code 8 = .ok (.getfield 19, 3) := by decide +kernel
theorem d1034_11 : decode prog_10_method_2_code 11 = .ok (.invokevirtual 23, 3) := by decide +kernel
theorem d1034_14 : decode prog_10_method_2_code 14 = .ok (.ifCond .eq 9, 3) := by decide +kernel
theorem d1034_23 : decode prog_10_method_2_code 23 = .ok (.getstatic 35, 3) := by decide +kernel
theorem d1034_26 : decode prog_10_method_2_code 26 = .ok (.areturn, 1) := by decide +kernel
theorem ef94 (m : MethodId) (x0 : Addr)  : entryFrame m #[(.ref x0)] 1 = mkF m 0 #[vr x0] [] := by first | (simp [entryFrame, mkF, argsToLocals, Value.category]; done) | rfl | rfl
set_option maxRecDepth 65536 in
set_option maxHeartbeats 40000000 in
theorem rm94 (l : Launch) (Z : State) (a0 : Array Value) (hw : ∀ d ∈ tables_1, d.before a0 Z = true) (hEL : EW Z a0 EL0) (zc : Int32) (SC : Sta Z Z.heap "java/lang/String" "COMPACT_STRINGS" "Z" (.int zc)) (hzc : ¬ zc = 0) (fm : Value) (SF : Sta Z Z.heap "jdk/internal/util/Preconditions" "SIOOBE_FORMATTER" "Ljava/util/function/BiFunction;" fm) (rfm : fm.isRef = true) (oo : Addr) (ee : Addr) (dfl : Addr) (el : Addr) (em : Addr) (mir : Addr) (gr : Addr) (de : Addr) (kdf : ClassId) (h0 : Heap) {n0 : Nat} (O0 : Old Z n0 h0) (OD : Arv Z Z.heap dfl kdf (.object "java/lang/Object") (0 : Int32) [] .null) (OS : Sta Z Z.heap "java/util/ArrayList" "DEFAULTCAPACITY_EMPTY_ELEMENTDATA" "[Ljava/lang/Object;" (.ref dfl)) (OL : Sta Z Z.heap "java/util/ImmutableCollections" "EMPTY_LIST" "Ljava/util/ImmutableCollections$ListN;" (.ref el)) (OM : Sta Z Z.heap "java/util/ImmutableCollections" "EMPTY" "Ljava/lang/Object;" (.ref em)) (OI : (Term.mirror "[Ljava/lang/Object;").eval a0 Z none [] Z = some (.ref mir)) (OG : Sta Z Z.heap "org/portcullis/acl/Decision" "GRANTED" "Lorg/portcullis/acl/Decision;" (.ref gr)) (OE : Sta Z Z.heap "org/portcullis/acl/Decision" "DENIED" "Lorg/portcullis/acl/Decision;" (.ref de)) (Fya : Fld Z h0 oo "org/portcullis/acl/Outcome" "iEntry" "Lorg/portcullis/acl/AccessControlEntry;" (.ref ee)) (Eee : Exa Z h0 ee "org/portcullis/acl/AccessControlEntry") (Fga : Fld Z h0 ee "org/portcullis/acl/AccessControlEntry" "granting" "Z" (.int (0 : Int32))) :
    Met l Z EL0 n0 (⟨"org/portcullis/acl/Outcome", "getDecision", "()Lorg/portcullis/acl/Decision;"⟩ : MethodName) prog_10_method_2_code 1 (some (.object "org/portcullis/acl/Decision")) [] ({ frames := 1, cells := 0, slots := 0, locals := 12 } : Room) #[(.ref oo)] h0 [] [] (fun v h' S => v = some (.ref de) ∧ h0 = h') := by
  refine Met.of (plainFor_of_name pn16) O0 ?_
  intro p e s m below meth c T0 hx hby hml hret hlk hnm hs W0
  have W0 : Wk p l e _ s m _ below meth c Z EL0 n0 [] "org/portcullis/acl/Outcome" [] T0 0 0 h0 := W0
  have hSA := fun d hd => hw d (sa_in d hd)
  have hws := fun d hd => hw d (ws_in d hd)
  refine Go.of (fun _ kk => castTop (ef94 m oo) kk) ?_
  refine gof T0 m 1 #[vr oo] [(.ref oo)] (fun _ kk => XS.aloadN W0.here hx rfl (hb hby d1034_0) rfl rfl kk) ?_
  refine W0.getF hx (host := "") (Or.inl (hw _ (mI 122 rfl))) Via.refl Fya rfl rfl (hb hby d1034_1) (fun T1 W1 => ?_)
  refine gof T1 m 8 #[vr oo] [(.ref oo)] (fun _ kk => XS.ifnullNo W1.here hx rfl (hb hby d1034_4) rfl (XS.aloadN W1.here hx rfl (hb hby d1034_7) rfl rfl kk)) ?_
  refine W1.getF hx (host := "") (Or.inl (hw _ (mI 122 rfl))) Via.refl Fya rfl rfl (hb hby d1034_8) (fun T2 W2 => ?_)
  show Go p e below _ (T2.setTop (mkF m 11 #[vr oo] [(.ref ee)]))
  refine W2.callV hx hEL (hw _ (mI 254 rfl)) (hw _ (mI 255 rfl)) (hw _ (mI 257 rfl)) (hw _ (mI 256 rfl)) (hw _ (mI 135 rfl)) (hw _ (mI 258 rfl)) (by decide +kernel) Eee (a := ee) (argsL := []) (rest := []) (rm92 l Z a0 hw hEL zc SC hzc fm SF rfm ee h0 W2.old Fga) all0 (by decide +kernel) (Wd := 0) (by decide +kernel) (by decide +kernel) (by decide +kernel) all0 rfl (by rw [hml]; rfl) (lenOf pd12 rfl) rfl (by show 2 * 0 + _ ≤ _; exact Nat.le_of_eq rfl) (hb hby d1034_11) (fun T3 h3 v3 P3 Ws3 K3 q3 => ?_)
  have W3 := Ws3 [] all0
  obtain ⟨rfl, rfl⟩ := q3
  refine gof T3 m 23 #[vr oo] [] (fun _ kk => XS.ifYes W3.here hx rfl (pc0 := 14) (pc' := 23) rfl (hb hby d1034_14) rfl (XT.i0_eq_t (by decide +kernel)) (by decide +kernel) (by decide +kernel) kk) ?_
  refine W3.getS hx (host := "") (Or.inl (hw _ (mI 129 rfl))) Via.refl OE rfl (hb hby d1034_23) (fun T4 W4 => ?_)
  show Go p e below _ (T4.setTop (mkF m 26 #[vr oo] [(.ref de)]))
  exact W4.retA hx hEL hs hlk (by decide +kernel) (by decide +kernel) hret rfl rfl (hb hby d1034_26) (fun S hS => ⟨rfl, rfl⟩)
theorem ef93 (m : MethodId) (x0 : Addr)  : entryFrame m #[(.ref x0)] 1 = mkF m 0 #[vr x0] [] := by first | (simp [entryFrame, mkF, argsToLocals, Value.category]; done) | rfl | rfl
set_option maxRecDepth 65536 in
set_option maxHeartbeats 40000000 in
theorem rm93 (l : Launch) (Z : State) (a0 : Array Value) (hw : ∀ d ∈ tables_1, d.before a0 Z = true) (hEL : EW Z a0 EL0) (zc : Int32) (SC : Sta Z Z.heap "java/lang/String" "COMPACT_STRINGS" "Z" (.int zc)) (hzc : ¬ zc = 0) (fm : Value) (SF : Sta Z Z.heap "jdk/internal/util/Preconditions" "SIOOBE_FORMATTER" "Ljava/util/function/BiFunction;" fm) (rfm : fm.isRef = true) (oo : Addr) (h0 : Heap) {n0 : Nat} (O0 : Old Z n0 h0) (Fga : Fld Z h0 oo "org/portcullis/acl/AccessControlEntry" "granting" "Z" (.int (1 : Int32))) :
    Met l Z EL0 n0 (⟨"org/portcullis/acl/AccessControlEntry", "granting", "()Z"⟩ : MethodName) prog_1_method_8_code 1 (some .boolean) [] ({ frames := 0, cells := 0, slots := 0, locals := 0 } : Room) #[(.ref oo)] h0 [] [] (fun v h' S => v = some (.int (1 : Int32)) ∧ h0 = h') := by
  refine Met.of (plainFor_of_name pn4) O0 ?_
  intro p e s m below meth c T0 hx hby hml hret hlk hnm hs W0
  have W0 : Wk p l e _ s m _ below meth c Z EL0 n0 [] "org/portcullis/acl/AccessControlEntry" [] T0 0 0 h0 := W0
  have hSA := fun d hd => hw d (sa_in d hd)
  have hws := fun d hd => hw d (ws_in d hd)
  refine Go.of (fun _ kk => castTop (ef93 m oo) kk) ?_
  refine gof T0 m 1 #[vr oo] [(.ref oo)] (fun _ kk => XS.aloadN W0.here hx rfl (hb hby d1033_0) rfl rfl kk) ?_
  refine W0.getF hx (host := "") (Or.inl (hw _ (mI 146 rfl))) Via.refl Fga rfl rfl (hb hby d1033_1) (fun T1 W1 => ?_)
  show Go p e below _ (T1.setTop (mkF m 4 #[vr oo] [(.int 1)]))
  exact W1.retI hx hEL hs hlk (by decide +kernel) (by decide +kernel) hret (by simp) rfl (hb hby d1033_4) (fun S hS => ⟨rfl, rfl⟩)
theorem d1034_17 : decode prog_10_method_2_code 17 = .ok (.getstatic 29, 3) := by decide +kernel
theorem d1034_20 : decode prog_10_method_2_code 20 = .ok (.goto 6, 3) := by decide +kernel
theorem ef95 (m : MethodId) (x0 : Addr)  : entryFrame m #[(.ref x0)] 1 = mkF m 0 #[vr x0] [] := by first | (simp [entryFrame, mkF, argsToLocals, Value.category]; done) | rfl | rfl
set_option maxRecDepth 65536 in
set_option maxHeartbeats 40000000 in
theorem rm95 (l : Launch) (Z : State) (a0 : Array Value) (hw : ∀ d ∈ tables_1, d.before a0 Z = true) (hEL : EW Z a0 EL0) (zc : Int32) (SC : Sta Z Z.heap "java/lang/String" "COMPACT_STRINGS" "Z" (.int zc)) (hzc : ¬ zc = 0) (fm : Value) (SF : Sta Z Z.heap "jdk/internal/util/Preconditions" "SIOOBE_FORMATTER" "Ljava/util/function/BiFunction;" fm) (rfm : fm.isRef = true) (oo : Addr) (ee : Addr) (dfl : Addr) (el : Addr) (em : Addr) (mir : Addr) (gr : Addr) (de : Addr) (kdf : ClassId) (h0 : Heap) {n0 : Nat} (O0 : Old Z n0 h0) (OD : Arv Z Z.heap dfl kdf (.object "java/lang/Object") (0 : Int32) [] .null) (OS : Sta Z Z.heap "java/util/ArrayList" "DEFAULTCAPACITY_EMPTY_ELEMENTDATA" "[Ljava/lang/Object;" (.ref dfl)) (OL : Sta Z Z.heap "java/util/ImmutableCollections" "EMPTY_LIST" "Ljava/util/ImmutableCollections$ListN;" (.ref el)) (OM : Sta Z Z.heap "java/util/ImmutableCollections" "EMPTY" "Ljava/lang/Object;" (.ref em)) (OI : (Term.mirror "[Ljava/lang/Object;").eval a0 Z none [] Z = some (.ref mir)) (OG : Sta Z Z.heap "org/portcullis/acl/Decision" "GRANTED" "Lorg/portcullis/acl/Decision;" (.ref gr)) (OE : Sta Z Z.heap "org/portcullis/acl/Decision" "DENIED" "Lorg/portcullis/acl/Decision;" (.ref de)) (Fya : Fld Z h0 oo "org/portcullis/acl/Outcome" "iEntry" "Lorg/portcullis/acl/AccessControlEntry;" (.ref ee)) (Eee : Exa Z h0 ee "org/portcullis/acl/AccessControlEntry") (Fga : Fld Z h0 ee "org/portcullis/acl/AccessControlEntry" "granting" "Z" (.int (1 : Int32))) :
    Met l Z EL0 n0 (⟨"org/portcullis/acl/Outcome", "getDecision", "()Lorg/portcullis/acl/Decision;"⟩ : MethodName) prog_10_method_2_code 1 (some (.object "org/portcullis/acl/Decision")) [] ({ frames := 1, cells := 0, slots := 0, locals := 12 } : Room) #[(.ref oo)] h0 [] [] (fun v h' S => v = some (.ref gr) ∧ h0 = h') := by
  refine Met.of (plainFor_of_name pn16) O0 ?_
  intro p e s m below meth c T0 hx hby hml hret hlk hnm hs W0
  have W0 : Wk p l e _ s m _ below meth c Z EL0 n0 [] "org/portcullis/acl/Outcome" [] T0 0 0 h0 := W0
  have hSA := fun d hd => hw d (sa_in d hd)
  have hws := fun d hd => hw d (ws_in d hd)
  refine Go.of (fun _ kk => castTop (ef95 m oo) kk) ?_
  refine gof T0 m 1 #[vr oo] [(.ref oo)] (fun _ kk => XS.aloadN W0.here hx rfl (hb hby d1034_0) rfl rfl kk) ?_
  refine W0.getF hx (host := "") (Or.inl (hw _ (mI 122 rfl))) Via.refl Fya rfl rfl (hb hby d1034_1) (fun T1 W1 => ?_)
  refine gof T1 m 8 #[vr oo] [(.ref oo)] (fun _ kk => XS.ifnullNo W1.here hx rfl (hb hby d1034_4) rfl (XS.aloadN W1.here hx rfl (hb hby d1034_7) rfl rfl kk)) ?_
  refine W1.getF hx (host := "") (Or.inl (hw _ (mI 122 rfl))) Via.refl Fya rfl rfl (hb hby d1034_8) (fun T2 W2 => ?_)
  show Go p e below _ (T2.setTop (mkF m 11 #[vr oo] [(.ref ee)]))
  refine W2.callV hx hEL (hw _ (mI 254 rfl)) (hw _ (mI 255 rfl)) (hw _ (mI 257 rfl)) (hw _ (mI 256 rfl)) (hw _ (mI 135 rfl)) (hw _ (mI 258 rfl)) (by decide +kernel) Eee (a := ee) (argsL := []) (rest := []) (rm93 l Z a0 hw hEL zc SC hzc fm SF rfm ee h0 W2.old Fga) all0 (by decide +kernel) (Wd := 0) (by decide +kernel) (by decide +kernel) (by decide +kernel) all0 rfl (by rw [hml]; rfl) (lenOf pd12 rfl) rfl (by show 2 * 0 + _ ≤ _; exact Nat.le_of_eq rfl) (hb hby d1034_11) (fun T3 h3 v3 P3 Ws3 K3 q3 => ?_)
  have W3 := Ws3 [] all0
  obtain ⟨rfl, rfl⟩ := q3
  refine gof T3 m 17 #[vr oo] [] (fun _ kk => XS.ifNo W3.here hx rfl (hb hby d1034_14) rfl (XT.i0_eq_f (by decide +kernel)) kk) ?_
  refine W3.getS hx (host := "") (Or.inl (hw _ (mI 259 rfl))) Via.refl OG rfl (hb hby d1034_17) (fun T4 W4 => ?_)
  refine gof T4 m 26 #[vr oo] [(.ref gr)] (fun _ kk => XS.goto W4.here hx rfl (pc0 := 20) (pc' := 26) rfl (hb hby d1034_20) (by decide +kernel) (by decide +kernel) kk) ?_
  exact W4.retA hx hEL hs hlk (by decide +kernel) (by decide +kernel) hret rfl rfl (hb hby d1034_26) (fun S hS => ⟨rfl, rfl⟩)
theorem ef96 (m : MethodId) (x0 : Addr)  : entryFrame m #[(.ref x0)] 1 = mkF m 0 #[vr x0] [] := by first | (simp [entryFrame, mkF, argsToLocals, Value.category]; done) | rfl | rfl
set_option maxRecDepth 65536 in
set_option maxHeartbeats 40000000 in
theorem rm96 (l : Launch) (Z : State) (a0 : Array Value) (hw : ∀ d ∈ tables_1, d.before a0 Z = true) (hEL : EW Z a0 EL0) (zc : Int32) (SC : Sta Z Z.heap "java/lang/String" "COMPACT_STRINGS" "Z" (.int zc)) (hzc : ¬ zc = 0) (fm : Value) (SF : Sta Z Z.heap "jdk/internal/util/Preconditions" "SIOOBE_FORMATTER" "Ljava/util/function/BiFunction;" fm) (rfm : fm.isRef = true) (oo : Addr) (dfl : Addr) (el : Addr) (em : Addr) (mir : Addr) (gr : Addr) (de : Addr) (kdf : ClassId) (h0 : Heap) {n0 : Nat} (O0 : Old Z n0 h0) (OD : Arv Z Z.heap dfl kdf (.object "java/lang/Object") (0 : Int32) [] .null) (OS : Sta Z Z.heap "java/util/ArrayList" "DEFAULTCAPACITY_EMPTY_ELEMENTDATA" "[Ljava/lang/Object;" (.ref dfl)) (OL : Sta Z Z.heap "java/util/ImmutableCollections" "EMPTY_LIST" "Ljava/util/ImmutableCollections$ListN;" (.ref el)) (OM : Sta Z Z.heap "java/util/ImmutableCollections" "EMPTY" "Ljava/lang/Object;" (.ref em)) (OI : (Term.mirror "[Ljava/lang/Object;").eval a0 Z none [] Z = some (.ref mir)) (OG : Sta Z Z.heap "org/portcullis/acl/Decision" "GRANTED" "Lorg/portcullis/acl/Decision;" (.ref gr)) (OE : Sta Z Z.heap "org/portcullis/acl/Decision" "DENIED" "Lorg/portcullis/acl/Decision;" (.ref de)) (Fya : Fld Z h0 oo "org/portcullis/acl/Outcome" "iEntry" "Lorg/portcullis/acl/AccessControlEntry;" .null) :
    Met l Z EL0 n0 (⟨"org/portcullis/acl/Outcome", "getDecision", "()Lorg/portcullis/acl/Decision;"⟩ : MethodName) prog_10_method_2_code 1 (some (.object "org/portcullis/acl/Decision")) [] ({ frames := 0, cells := 0, slots := 0, locals := 0 } : Room) #[(.ref oo)] h0 [] [] (fun v h' S => v = some (.ref de) ∧ h0 = h') := by
  refine Met.of (plainFor_of_name pn16) O0 ?_
  intro p e s m below meth c T0 hx hby hml hret hlk hnm hs W0
  have W0 : Wk p l e _ s m _ below meth c Z EL0 n0 [] "org/portcullis/acl/Outcome" [] T0 0 0 h0 := W0
  have hSA := fun d hd => hw d (sa_in d hd)
  have hws := fun d hd => hw d (ws_in d hd)
  refine Go.of (fun _ kk => castTop (ef96 m oo) kk) ?_
  refine gof T0 m 1 #[vr oo] [(.ref oo)] (fun _ kk => XS.aloadN W0.here hx rfl (hb hby d1034_0) rfl rfl kk) ?_
  refine W0.getF hx (host := "") (Or.inl (hw _ (mI 122 rfl))) Via.refl Fya rfl rfl (hb hby d1034_1) (fun T1 W1 => ?_)
  refine gof T1 m 23 #[vr oo] [] (fun _ kk => XS.ifnullYes W1.here hx rfl (pc0 := 4) (pc' := 23) rfl (hb hby d1034_4) rfl (by decide +kernel) (by decide +kernel) kk) ?_
  refine W1.getS hx (host := "") (Or.inl (hw _ (mI 129 rfl))) Via.refl OE rfl (hb hby d1034_23) (fun T2 W2 => ?_)
  show Go p e below _ (T2.setTop (mkF m 26 #[vr oo] [(.ref de)]))
  exact W2.retA hx hEL hs hlk (by decide +kernel) (by decide +kernel) hret rfl rfl (hb hby d1034_26) (fun S hS => ⟨rfl, rfl⟩)
theorem ef0 (m : MethodId) (x0 : Int32) (x1 : Int32) (x2 : Int32) (x3 : Int32) (x4 : Int32)  : entryFrame m #[(.int x0), (.int x1), (.int x2), (.int x3), (.int x4)] maxLocals = mkF m 0 #[vi x0, vi x1, vi x2, vi x3, vi x4, U0, U0, U0, U0, U0, U0, U0, U0, U0, U0, U0, U0] [] := by first | (simp [entryFrame, mkF, argsToLocals, Value.category, maxLocals]; done) | rfl | rfl
set_option maxRecDepth 65536 in
set_option maxHeartbeats 40000000 in
theorem rm0 (l : Launch) (Z : State) (a0 : Array Value) (hw : ∀ d ∈ tables_1, d.before a0 Z = true) (hEL : EW Z a0 EL0) (zc : Int32) (SC : Sta Z Z.heap "java/lang/String" "COMPACT_STRINGS" "Z" (.int zc)) (hzc : ¬ zc = 0) (fm : Value) (SF : Sta Z Z.heap "jdk/internal/util/Preconditions" "SIOOBE_FORMATTER" "Ljava/util/function/BiFunction;" fm) (rfm : fm.isRef = true) (i0 : Int32) (i1 : Int32) (i2 : Int32) (i3 : Int32) (i4 : Int32) (dfl : Addr) (el : Addr) (em : Addr) (mir : Addr) (gr : Addr) (de : Addr) (kdf : ClassId) (h0 : Heap) {n0 : Nat} (O0 : Old Z n0 h0) (OD : Arv Z Z.heap dfl kdf (.object "java/lang/Object") (0 : Int32) [] .null) (OS : Sta Z Z.heap "java/util/ArrayList" "DEFAULTCAPACITY_EMPTY_ELEMENTDATA" "[Ljava/lang/Object;" (.ref dfl)) (OL : Sta Z Z.heap "java/util/ImmutableCollections" "EMPTY_LIST" "Ljava/util/ImmutableCollections$ListN;" (.ref el)) (OM : Sta Z Z.heap "java/util/ImmutableCollections" "EMPTY" "Ljava/lang/Object;" (.ref em)) (OI : (Term.mirror "[Ljava/lang/Object;").eval a0 Z none [] Z = some (.ref mir)) (OG : Sta Z Z.heap "org/portcullis/acl/Decision" "GRANTED" "Lorg/portcullis/acl/Decision;" (.ref gr)) (OE : Sta Z Z.heap "org/portcullis/acl/Decision" "DENIED" "Lorg/portcullis/acl/Decision;" (.ref de)) :
    Met l Z EL0 n0 x code maxLocals ret tables_1 room_1 #[(.int i0), (.int i1), (.int i2), (.int i3), (.int i4)] h0 [] [] (fun v h' S => v = some (.int 1)) := by
  refine Met.of (plainFor_of_name pn18) O0 ?_
  intro p e s m below meth c T0 hx hby hml hret hlk hnm hs W0
  have W0 : Wk p l e _ s m _ below meth c Z EL0 n0 [] "org/portcullis/acl/OutcomeGetDecisionPinLaw" [] T0 0 0 h0 := W0
  have hSA := fun d hd => hw d (sa_in d hd)
  have hws := fun d hd => hw d (ws_in d hd)
  refine Go.of (fun _ kk => castTop (ef0 m i0 i1 i2 i3 i4) kk) ?_
  refine gof T0 m 3 #[vi i0, vi i1, vi i2, vi i3, vi i4, U0, U0, U0, U0, U0, U0, U0, U0, U0, U0, U0, U0] [(.int (i0 &&& (1 : Int32)))] (fun _ kk => XS.iloadN W0.here hx rfl (hb hby at_0) rfl (XS.iconst W0.here hx rfl (hb hby at_1) (XS.iand W0.here hx rfl (hb hby at_2) rfl kk))) ?_
  by_cases c1 : (i0 &&& (1 : Int32)) = (0 : Int32)
  · refine gof T0 m 16 #[vi i0, vi i1, vi i2, vi i3, vi i4, vi 0, U0, U0, U0, U0, U0, U0, U0, U0, U0, U0, U0] [(.int (i0 &&& (2 : Int32)))] (fun _ kk => XS.ifYes W0.here hx rfl (pc0 := 3) (pc' := 10) rfl (hb hby at_3) rfl (XT.i0_eq_t c1) (by decide +kernel) (by decide +kernel) (XS.iconst W0.here hx rfl (hb hby at_10) (XS.istore W0.here hx rfl (hb hby at_11) rfl (l' := #[.val (.int i0), .val (.int i1), .val (.int i2), .val (.int i3), .val (.int i4), .val (.int 0), .unset, .unset, .unset, .unset, .unset, .unset, .unset, .unset, .unset, .unset, .unset]) rfl (XS.iloadN W0.here hx rfl (hb hby at_13) rfl (XS.iconst W0.here hx rfl (hb hby at_14) (XS.iand W0.here hx rfl (hb hby at_15) rfl kk)))))) ?_
    refine gof T0 m 24 #[vi i0, vi i1, vi i2, vi i3, vi i4, vi 0, U0, U0, U0, U0, U0, U0, U0, U0, U0, U0, U0] [(.int (if (i0 &&& (2 : Int32)) = (0 : Int32) then (0 : Int32) else (1 : Int32)))] (fun _ kk => ?_) ?_
    · show Steps p.tables e below (T0.setTop (mkF m 16 #[vi i0, vi i1, vi i2, vi i3, vi i4, vi 0, U0, U0, U0, U0, U0, U0, U0, U0, U0, U0, U0] [(.int (i0 &&& (2 : Int32)))])) _
      by_cases c2 : (i0 &&& (2 : Int32)) = (0 : Int32)
      · try simp only [if_pos c2] at kk
        refine XS.ifYes W0.here hx rfl (pc0 := 16) (pc' := 23) rfl (hb hby at_16) rfl (XT.i0_eq_t c2) (by decide +kernel) (by decide +kernel) ?_
        show Steps p.tables e below (T0.setTop (mkF m 23 #[vi i0, vi i1, vi i2, vi i3, vi i4, vi 0, U0, U0, U0, U0, U0, U0, U0, U0, U0, U0, U0] [])) _
        refine XS.iconst W0.here hx rfl (hb hby at_23) ?_
        show Steps p.tables e below (T0.setTop (mkF m 24 #[vi i0, vi i1, vi i2, vi i3, vi i4, vi 0, U0, U0, U0, U0, U0, U0, U0, U0, U0, U0, U0] [(.int 0)])) _
        exact kk
      · try simp only [if_neg c2] at kk
        refine XS.ifNo W0.here hx rfl (hb hby at_16) rfl (XT.i0_eq_f c2) ?_
        show Steps p.tables e below (T0.setTop (mkF m 19 #[vi i0, vi i1, vi i2, vi i3, vi i4, vi 0, U0, U0, U0, U0, U0, U0, U0, U0, U0, U0, U0] [])) _
        refine XS.iconst W0.here hx rfl (hb hby at_19) ?_
        show Steps p.tables e below (T0.setTop (mkF m 20 #[vi i0, vi i1, vi i2, vi i3, vi i4, vi 0, U0, U0, U0, U0, U0, U0, U0, U0, U0, U0, U0] [(.int 1)])) _
        refine XS.goto W0.here hx rfl (pc0 := 20) (pc' := 24) rfl (hb hby at_20) (by decide +kernel) (by decide +kernel) ?_
        show Steps p.tables e below (T0.setTop (mkF m 24 #[vi i0, vi i1, vi i2, vi i3, vi i4, vi 0, U0, U0, U0, U0, U0, U0, U0, U0, U0, U0, U0] [(.int 1)])) _
        exact kk
    obtain ⟨y3, hy3⟩ : ∃ z : Int32, (if (i0 &&& (2 : Int32)) = (0 : Int32) then (0 : Int32) else (1 : Int32)) = z := ⟨_, rfl⟩
    rw [hy3]
    refine gof T0 m 29 #[vi i0, vi i1, vi i2, vi i3, vi i4, vi 0, vi y3, U0, U0, U0, U0, U0, U0, U0, U0, U0, U0] [(.int (i0 &&& (4 : Int32)))] (fun _ kk => XS.istore W0.here hx rfl (hb hby at_24) rfl (l' := #[.val (.int i0), .val (.int i1), .val (.int i2), .val (.int i3), .val (.int i4), .val (.int 0), .val (.int y3), .unset, .unset, .unset, .unset, .unset, .unset, .unset, .unset, .unset, .unset]) rfl (XS.iloadN W0.here hx rfl (hb hby at_26) rfl (XS.iconst W0.here hx rfl (hb hby at_27) (XS.iand W0.here hx rfl (hb hby at_28) rfl kk)))) ?_
    refine gof T0 m 37 #[vi i0, vi i1, vi i2, vi i3, vi i4, vi 0, vi y3, U0, U0, U0, U0, U0, U0, U0, U0, U0, U0] [(.int (if (i0 &&& (4 : Int32)) = (0 : Int32) then (0 : Int32) else (1 : Int32)))] (fun _ kk => ?_) ?_
    · show Steps p.tables e below (T0.setTop (mkF m 29 #[vi i0, vi i1, vi i2, vi i3, vi i4, vi 0, vi y3, U0, U0, U0, U0, U0, U0, U0, U0, U0, U0] [(.int (i0 &&& (4 : Int32)))])) _
      by_cases c4 : (i0 &&& (4 : Int32)) = (0 : Int32)
      · try simp only [if_pos c4] at kk
        refine XS.ifYes W0.here hx rfl (pc0 := 29) (pc' := 36) rfl (hb hby at_29) rfl (XT.i0_eq_t c4) (by decide +kernel) (by decide +kernel) ?_
        show Steps p.tables e below (T0.setTop (mkF m 36 #[vi i0, vi i1, vi i2, vi i3, vi i4, vi 0, vi y3, U0, U0, U0, U0, U0, U0, U0, U0, U0, U0] [])) _
        refine XS.iconst W0.here hx rfl (hb hby at_36) ?_
        show Steps p.tables e below (T0.setTop (mkF m 37 #[vi i0, vi i1, vi i2, vi i3, vi i4, vi 0, vi y3, U0, U0, U0, U0, U0, U0, U0, U0, U0, U0] [(.int 0)])) _
        exact kk
      · try simp only [if_neg c4] at kk
        refine XS.ifNo W0.here hx rfl (hb hby at_29) rfl (XT.i0_eq_f c4) ?_
        show Steps p.tables e below (T0.setTop (mkF m 32 #[vi i0, vi i1, vi i2, vi i3, vi i4, vi 0, vi y3, U0, U0, U0, U0, U0, U0, U0, U0, U0, U0] [])) _
        refine XS.iconst W0.here hx rfl (hb hby at_32) ?_
        show Steps p.tables e below (T0.setTop (mkF m 33 #[vi i0, vi i1, vi i2, vi i3, vi i4, vi 0, vi y3, U0, U0, U0, U0, U0, U0, U0, U0, U0, U0] [(.int 1)])) _
        refine XS.goto W0.here hx rfl (pc0 := 33) (pc' := 37) rfl (hb hby at_33) (by decide +kernel) (by decide +kernel) ?_
        show Steps p.tables e below (T0.setTop (mkF m 37 #[vi i0, vi i1, vi i2, vi i3, vi i4, vi 0, vi y3, U0, U0, U0, U0, U0, U0, U0, U0, U0, U0] [(.int 1)])) _
        exact kk
    obtain ⟨y5, hy5⟩ : ∃ z : Int32, (if (i0 &&& (4 : Int32)) = (0 : Int32) then (0 : Int32) else (1 : Int32)) = z := ⟨_, rfl⟩
    rw [hy5]
    show Go p e below _ (T0.setTop (mkF m 37 #[vi i0, vi i1, vi i2, vi i3, vi i4, vi 0, vi y3, U0, U0, U0, U0, U0, U0, U0, U0, U0, U0] [(.int y5)]))
    have nz_p : narrow .boolean (.int y5) = .int y5 := by rw [← hy5]; split <;> rfl
    have fz_p : fits .boolean (.int y5) = true := by rw [← hy5]; split <;> rfl
    refine gof T0 m 44 #[vi i0, vi i1, vi i2, vi i3, vi i4, vi 0, vi y3, vi y5, U0, U0, U0, U0, U0, U0, U0, U0, U0] [(.int (((i0.toUInt32 >>> ((3 : Int32) &&& 31).toUInt32).toInt32) &&& (3 : Int32)))] (fun _ kk => XS.istore W0.here hx rfl (hb hby at_37) rfl (l' := #[.val (.int i0), .val (.int i1), .val (.int i2), .val (.int i3), .val (.int i4), .val (.int 0), .val (.int y3), .val (.int y5), .unset, .unset, .unset, .unset, .unset, .unset, .unset, .unset, .unset]) rfl (XS.iloadN W0.here hx rfl (hb hby at_39) rfl (XS.iconst W0.here hx rfl (hb hby at_40) (XS.iushr W0.here hx rfl (hb hby at_41) rfl (XS.iconst W0.here hx rfl (hb hby at_42) (XS.iand W0.here hx rfl (hb hby at_43) rfl kk)))))) ?_
    rcases and3 ((i0.toUInt32 >>> ((3 : Int32) &&& 31).toUInt32).toInt32) with z6 | z6 | z6 | z6
    · rw [z6]
      refine gof T0 m 60 #[vi i0, vi i1, vi i2, vi i3, vi i4, vi 0, vi y3, vi y5, vi 0, U0, U0, U0, U0, U0, U0, U0, U0] [(.int 2)] (fun _ kk => XS.istore W0.here hx rfl (hb hby at_44) rfl (l' := #[.val (.int i0), .val (.int i1), .val (.int i2), .val (.int i3), .val (.int i4), .val (.int 0), .val (.int y3), .val (.int y5), .val (.int 0), .unset, .unset, .unset, .unset, .unset, .unset, .unset, .unset]) rfl (XS.iload W0.here hx rfl (hb hby at_46) rfl (XS.ifYes W0.here hx rfl (pc0 := 48) (pc' := 59) rfl (hb hby at_48) rfl (XT.i0_eq_t (by decide +kernel)) (by decide +kernel) (by decide +kernel) (XS.iconst W0.here hx rfl (hb hby at_59) kk)))) ?_
      refine W0.newP hx (hw _ (mI 0 rfl)) rfl (hb hby at_60) rfl (by decide +kernel) (cap := 2) (by decide +kernel) (by decide +kernel) (by decide +kernel) (by decide +kernel) (fun T7 h7 b7 c7 eb7 gb7 W7 K7 A7 => ?_)
      have V7 : Arv Z h7 b7 c7 .char (2 : Int32) [(.int (0 : Int32)), (.int (0 : Int32))] (.int (0 : Int32)) := A7
      refine gof T7 m 73 #[vi i0, vi i1, vi i2, vi i3, vi i4, vi 0, vi y3, vi y5, vi 0, vr b7, U0, U0, U0, U0, U0, U0, U0] [(.int ((i3 &&& (255 : Int32)).toUInt32.toUInt16.toUInt32.toInt32)), (.int 0), (.ref b7)] (fun _ kk => XS.astore W7.here hx rfl (hb hby at_62) rfl rfl (l' := #[.val (.int i0), .val (.int i1), .val (.int i2), .val (.int i3), .val (.int i4), .val (.int 0), .val (.int y3), .val (.int y5), .val (.int 0), .val (.ref b7), .unset, .unset, .unset, .unset, .unset, .unset, .unset]) rfl (XS.aload W7.here hx rfl (hb hby at_64) rfl rfl (XS.iconst W7.here hx rfl (hb hby at_66) (XS.iloadN W7.here hx rfl (hb hby at_67) rfl (XS.sipush W7.here hx rfl (hb hby at_68) (XS.iand W7.here hx rfl (hb hby at_71) rfl (XS.i2c W7.here hx rfl (hb hby at_72) rfl kk))))))) ?_
      obtain ⟨q8, hq8, cq8, zq8⟩ := char255 i3
      rw [hq8]
      show Go p e below _ (T7.setTop (mkF m 73 #[vi i0, vi i1, vi i2, vi i3, vi i4, vi 0, vi y3, vi y5, vi 0, vr b7, U0, U0, U0, U0, U0, U0, U0] [(.int q8), (.int 0), (.ref b7)]))
      refine W7.stC hx V7 ⟨by decide, by decide⟩ 0 rfl (Nat.le_of_ble_eq_true rfl) gb7.1 (Or.inr gb7.2) rfl rfl (hb hby at_73) (fun T9 h9 W9 K9 A9 => ?_)
      have V9 : Arv Z h9 b7 c7 .char (2 : Int32) [(.int q8), (.int (0 : Int32))] (.int (0 : Int32)) := (by rw [(nar_char cq8)] at A9; exact A9)
      refine gof T9 m 84 #[vi i0, vi i1, vi i2, vi i3, vi i4, vi 0, vi y3, vi y5, vi 0, vr b7, U0, U0, U0, U0, U0, U0, U0] [(.int ((i4 &&& (255 : Int32)).toUInt32.toUInt16.toUInt32.toInt32)), (.int 1), (.ref b7)] (fun _ kk => XS.aload W9.here hx rfl (hb hby at_74) rfl rfl (XS.iconst W9.here hx rfl (hb hby at_76) (XS.iload W9.here hx rfl (hb hby at_77) rfl (XS.sipush W9.here hx rfl (hb hby at_79) (XS.iand W9.here hx rfl (hb hby at_82) rfl (XS.i2c W9.here hx rfl (hb hby at_83) rfl kk)))))) ?_
      obtain ⟨q10, hq10, cq10, zq10⟩ := char255 i4
      rw [hq10]
      show Go p e below _ (T9.setTop (mkF m 84 #[vi i0, vi i1, vi i2, vi i3, vi i4, vi 0, vi y3, vi y5, vi 0, vr b7, U0, U0, U0, U0, U0, U0, U0] [(.int q10), (.int 1), (.ref b7)]))
      refine W9.stC hx V9 ⟨by decide, by decide⟩ 1 rfl (Nat.le_of_ble_eq_true rfl) gb7.1 (Or.inr gb7.2) rfl rfl (hb hby at_84) (fun T11 h11 W11 K11 A11 => ?_)
      have V11 : Arv Z h11 b7 c7 .char (2 : Int32) [(.int q8), (.int q10)] (.int (0 : Int32)) := (by rw [(nar_char cq10)] at A11; exact A11)
      show Go p e below _ (T11.setTop (mkF m 85 #[vi i0, vi i1, vi i2, vi i3, vi i4, vi 0, vi y3, vi y5, vi 0, vr b7, U0, U0, U0, U0, U0, U0, U0] []))
      refine W11.newO hx (hw _ (mI 1 rfl)) (hw _ (mI 2 rfl)) (hw _ (mI 3 rfl)) rfl (hb hby at_85) (by decide +kernel) (by decide +kernel) (fun T12 h12 b12 eb12 gb12 W12 K12 E12 D12 => ?_)
      have k13 : Fld Z h12 b12 "org/portcullis/acl/Sid" "name" "Ljava/lang/String;" .null := D12 (Or.inr (hw _ (mI 43 rfl))) (ty := (.object "java/lang/String")) (by decide +kernel)
      have k14 : Fld Z h12 b12 "org/portcullis/acl/Sid" "principal" "Z" (.int (0 : Int32)) := D12 (Or.inr (hw _ (mI 45 rfl))) (ty := .boolean) (by decide +kernel)
      refine gof T12 m 89 #[vi i0, vi i1, vi i2, vi i3, vi i4, vi 0, vi y3, vi y5, vi 0, vr b7, U0, U0, U0, U0, U0, U0, U0] [(.ref b12), (.ref b12)] (fun _ kk => XS.dup W12.here hx rfl (hb hby at_88) rfl rfl kk) ?_
      refine W12.newO hx (hw _ (mI 4 rfl)) (hw _ (mI 5 rfl)) (hw _ (mI 6 rfl)) rfl (hb hby at_89) (by decide +kernel) (by decide +kernel) (fun T15 h15 b15 eb15 gb15 W15 K15 E15 D15 => ?_)
      have k16 : Fld Z h15 b15 "java/lang/String" "coder" "B" (.int (0 : Int32)) := D15 (Or.inr (hw _ (mI 30 rfl))) (ty := .byte) (by decide +kernel)
      have k17 : Fld Z h15 b15 "java/lang/String" "value" "[B" .null := D15 (Or.inr (hw _ (mI 32 rfl))) (ty := (.array .byte)) (by decide +kernel)
      refine gof T15 m 95 #[vi i0, vi i1, vi i2, vi i3, vi i4, vi 0, vi y3, vi y5, vi 0, vr b7, U0, U0, U0, U0, U0, U0, U0] [(.ref b7), (.ref b15), (.ref b15), (.ref b12), (.ref b12)] (fun _ kk => XS.dup W15.here hx rfl (hb hby at_92) rfl rfl (XS.aload W15.here hx rfl (hb hby at_93) rfl rfl kk)) ?_
      have k19 := ((V11.keep K12 nin0).keep K15 nin0)
      refine W15.newStr hx hws (hw _ (mI 5 rfl)) SC hzc (hw _ (mI 7 rfl)) (hw _ (mI 8 rfl)) (hw _ (mI 9 rfl)) E15 k17 k16 (cs := [q8, q10]) (n := 2) k19 rfl rfl (by decide +kernel) (by decide +kernel) (allSi cq8 (allSi cq10 all0i)) gb15.1 (Or.inr gb15.2) (mI 0 rfl) (by decide +kernel) (Wd := 3) (by decide +kernel) (by decide +kernel) (by decide +kernel) rfl (by rw [hml]; rfl) rfl (by show 2 * 0 + _ ≤ _; exact Nat.le_of_eq rfl) (hb hby at_95) (fun T18 h18 W18 K18 S18 => ?_)
      refine gof T18 m 100 #[vi i0, vi i1, vi i2, vi i3, vi i4, vi 0, vi y3, vi y5, vi 0, vr b7, U0, U0, U0, U0, U0, U0, U0] [(.int y5), (.ref b15), (.ref b12), (.ref b12)] (fun _ kk => XS.iload W18.here hx rfl (hb hby at_98) rfl kk) ?_
      have k21 := ((E12.keep K15).keep K18)
      have k22 := ((k13.keep K15 nin0).keep K18 (ninS (ne_of_born (Nat.le_of_eq eb15.symm) E12.lt (Nat.le_refl _)) nin0))
      have k23 := ((k14.keep K15 nin0).keep K18 (ninS (ne_of_born (Nat.le_of_eq eb15.symm) E12.lt (Nat.le_refl _)) nin0))
      refine W18.callP hx hEL rfl (hw _ (mI 33 rfl)) (hw _ (mI 34 rfl)) (hw _ (mI 3 rfl)) (hw _ (mI 35 rfl)) (by decide +kernel) (a := b12) (argsL := [(.ref b15), (.int y5)]) (rest := [(.ref b12)]) (rm11 l Z a0 hw hEL zc SC hzc fm SF rfm b12 b15 y5 h18 W18.old k21 k22 k23 gb12.1 nz_p fz_p) all0 (by decide +kernel) (Wd := 1) (by decide +kernel) (by decide +kernel) (by decide +kernel) (allS ⟨gb12.1, (Or.inr gb12.2)⟩ all0) rfl (by rw [hml]; rfl) (lenOf pd18 rfl) rfl (by show 2 * 0 + _ ≤ _; exact Nat.le_of_eq rfl) (hb hby at_100) (fun T20 h20 v20 P20 Ws20 K20 q20 => ?_)
      have W20 := Ws20 [] all0
      obtain rfl := q20
      refine gof T20 m 135 #[vi i0, vi i1, vi i2, vi i3, vi i4, vi 0, vi y3, vi y5, vi 0, vr b7, vr b12, vN, U0, U0, U0, U0, U0] [(.int (i4 &&& (255 : Int32)))] (fun _ kk => XS.astore W20.here hx rfl (hb hby at_103) rfl rfl (l' := #[.val (.int i0), .val (.int i1), .val (.int i2), .val (.int i3), .val (.int i4), .val (.int 0), .val (.int y3), .val (.int y5), .val (.int 0), .val (.ref b7), .val (.ref b12), .unset, .unset, .unset, .unset, .unset, .unset]) rfl (XS.iload W20.here hx rfl (hb hby at_105) rfl (XS.ifYes W20.here hx rfl (pc0 := 107) (pc' := 126) rfl (hb hby at_107) rfl (XT.i0_eq_t (by decide +kernel)) (by decide +kernel) (by decide +kernel) (XS.aconstNull W20.here hx rfl (hb hby at_126) (XS.astore W20.here hx rfl (hb hby at_127) rfl rfl (l' := #[.val (.int i0), .val (.int i1), .val (.int i2), .val (.int i3), .val (.int i4), .val (.int 0), .val (.int y3), .val (.int y5), .val (.int 0), .val (.ref b7), .val (.ref b12), .val .null, .unset, .unset, .unset, .unset, .unset]) rfl (XS.iload W20.here hx rfl (hb hby at_129) rfl (XS.sipush W20.here hx rfl (hb hby at_131) (XS.iand W20.here hx rfl (hb hby at_134) rfl kk)))))))) ?_
      refine gof T20 m 136 #[vi i0, vi i1, vi i2, vi i3, vi i4, vi 0, vi y3, vi y5, vi 0, vr b7, vr b12, vN, U0, U0, U0, U0, U0] [(.int ((i4 &&& (255 : Int32)).toUInt32.toUInt16.toUInt32.toInt32))] (fun _ kk => XS.i2c W20.here hx rfl (hb hby at_135) rfl kk) ?_
      rw [hq10]
      show Go p e below _ (T20.setTop (mkF m 136 #[vi i0, vi i1, vi i2, vi i3, vi i4, vi 0, vi y3, vi y5, vi 0, vr b7, vr b12, vN, U0, U0, U0, U0, U0] [(.int q10)]))
      refine W20.callS hx hEL (hw _ (mI 46 rfl)) (hw _ (mI 47 rfl)) (hw _ (mI 6 rfl)) (hw _ (mI 48 rfl)) (by decide +kernel) (argsL := [(.int q10)]) (rest := []) (rm27 l Z a0 hw hEL zc SC hzc fm SF rfm q10 h20 W20.old cq10) all0 (by decide +kernel) (Wd := 0) (by decide +kernel) (by decide +kernel) (by decide +kernel) all0 rfl (by rw [hml]; rfl) (lenOf pd19 rfl) rfl (by show 2 * 0 + _ ≤ _; exact Nat.le_of_eq rfl) (hb hby at_136) (fun T24 h24 v24 P24 Ws24 K24 q24 => ?_)
      have W24 := Ws24 [] all0
      obtain ⟨r24, rfl, lr24, S24⟩ := q24
      have gr24 : n0 ≤ r24 ∧ s.heap.size ≤ r24 := ⟨Nat.le_trans W20.n0le lr24, Nat.le_trans W20.s0le lr24⟩
      have E24 := S24.exa
      refine gof T24 m 141 #[vi i0, vi i1, vi i2, vi i3, vi i4, vi 0, vi y3, vi y5, vi 0, vr b7, vr b12, vN, vr r24, U0, U0, U0, U0] [] (fun _ kk => XS.astore W24.here hx rfl (hb hby at_139) rfl rfl (l' := #[.val (.int i0), .val (.int i1), .val (.int i2), .val (.int i3), .val (.int i4), .val (.int 0), .val (.int y3), .val (.int y5), .val (.int 0), .val (.ref b7), .val (.ref b12), .val .null, .val (.ref r24), .unset, .unset, .unset, .unset]) rfl kk) ?_
      refine W24.newO hx (hw _ (mI 60 rfl)) (hw _ (mI 61 rfl)) (hw _ (mI 62 rfl)) rfl (hb hby at_141) (by decide +kernel) (by decide +kernel) (fun T25 h25 b25 eb25 gb25 W25 K25 E25 D25 => ?_)
      have k26 : Fld Z h25 b25 "java/util/AbstractList" "modCount" "I" (.int (0 : Int32)) := D25 (Or.inl (hw _ (mI 80 rfl))) (ty := .int) (by decide +kernel)
      have k27 : Fld Z h25 b25 "java/util/ArrayList" "elementData" "[Ljava/lang/Object;" .null := D25 (Or.inl (hw _ (mI 83 rfl))) (ty := (.array (.object "java/lang/Object"))) (by decide +kernel)
      have k28 : Fld Z h25 b25 "java/util/ArrayList" "size" "I" (.int (0 : Int32)) := D25 (Or.inl (hw _ (mI 115 rfl))) (ty := .int) (by decide +kernel)
      refine gof T25 m 145 #[vi i0, vi i1, vi i2, vi i3, vi i4, vi 0, vi y3, vi y5, vi 0, vr b7, vr b12, vN, vr r24, U0, U0, U0, U0] [(.ref b25), (.ref b25)] (fun _ kk => XS.dup W25.here hx rfl (hb hby at_144) rfl rfl kk) ?_
      refine W25.callP hx hEL rfl (hw _ (mI 63 rfl)) (hw _ (mI 64 rfl)) (hw _ (mI 62 rfl)) (hw _ (mI 65 rfl)) (by decide +kernel) (a := b25) (argsL := []) (rest := [(.ref b25)]) (rm19 l Z a0 hw hEL zc SC hzc fm SF rfm b25 dfl el em mir gr de kdf h25 W25.old OD OS OL OM OI OG OE E25 k26 k27 k28 gb25.1) all0 (by decide +kernel) (Wd := 1) (by decide +kernel) (by decide +kernel) (by decide +kernel) (allS ⟨gb25.1, (Or.inr gb25.2)⟩ all0) rfl (by rw [hml]; rfl) (lenOf pd3 rfl) rfl (by show 2 * 0 + _ ≤ _; exact Nat.le_of_eq rfl) (hb hby at_145) (fun T29 h29 v29 P29 Ws29 K29 q29 => ?_)
      have W29 := Ws29 [] all0
      obtain ⟨rfl, Fe29, Fs29, Fm29⟩ := q29
      refine gof T29 m 198 #[vi i0, vi i1, vi i2, vi i3, vi i4, vi 0, vi y3, vi y5, vi 0, vr b7, vr b12, vN, vr r24, vr b25, U0, U0, U0] [(.int 0)] (fun _ kk => XS.astore W29.here hx rfl (hb hby at_148) rfl rfl (l' := #[.val (.int i0), .val (.int i1), .val (.int i2), .val (.int i3), .val (.int i4), .val (.int 0), .val (.int y3), .val (.int y5), .val (.int 0), .val (.ref b7), .val (.ref b12), .val .null, .val (.ref r24), .val (.ref b25), .unset, .unset, .unset]) rfl (XS.iload W29.here hx rfl (hb hby at_150) rfl (XS.iconst W29.here hx rfl (hb hby at_152) (XS.icmpYes W29.here hx rfl (pc0 := 153) (pc' := 173) rfl (hb hby at_153) rfl (XT.ii_lt_t (by decide +kernel)) (by decide +kernel) (by decide +kernel) (XS.iload W29.here hx rfl (hb hby at_173) rfl (XS.iconst W29.here hx rfl (hb hby at_175) (XS.icmpYes W29.here hx rfl (pc0 := 176) (pc' := 196) rfl (hb hby at_176) rfl (XT.ii_lt_t (by decide +kernel)) (by decide +kernel) (by decide +kernel) (XS.iload W29.here hx rfl (hb hby at_196) rfl kk)))))))) ?_
      refine gof T29 m 219 #[vi i0, vi i1, vi i2, vi i3, vi i4, vi 0, vi y3, vi y5, vi 0, vr b7, vr b12, vN, vr r24, vr b25, U0, U0, U0] [] (fun _ kk => XS.iconst W29.here hx rfl (hb hby at_198) (XS.icmpYes W29.here hx rfl (pc0 := 199) (pc' := 219) rfl (hb hby at_199) rfl (XT.ii_lt_t (by decide +kernel)) (by decide +kernel) (by decide +kernel) kk)) ?_
      refine W29.newO hx (hw _ (mI 84 rfl)) (hw _ (mI 85 rfl)) (hw _ (mI 86 rfl)) rfl (hb hby at_219) (by decide +kernel) (by decide +kernel) (fun T30 h30 b30 eb30 gb30 W30 K30 E30 D30 => ?_)
      have k31 : Fld Z h30 b30 "org/portcullis/acl/Outcome" "iLevels" "Ljava/util/List;" .null := D30 (Or.inr (hw _ (mI 121 rfl))) (ty := (.object "java/util/List")) (by decide +kernel)
      have k32 : Fld Z h30 b30 "org/portcullis/acl/Outcome" "iEntry" "Lorg/portcullis/acl/AccessControlEntry;" .null := D30 (Or.inr (hw _ (mI 123 rfl))) (ty := (.object "org/portcullis/acl/AccessControlEntry")) (by decide +kernel)
      refine gof T30 m 227 #[vi i0, vi i1, vi i2, vi i3, vi i4, vi 0, vi y3, vi y5, vi 0, vr b7, vr b12, vN, vr r24, vr b25, U0, U0, U0] [.null, (.ref b25), (.ref b30), (.ref b30)] (fun _ kk => XS.dup W30.here hx rfl (hb hby at_222) rfl rfl (XS.aload W30.here hx rfl (hb hby at_223) rfl rfl (XS.aload W30.here hx rfl (hb hby at_225) rfl rfl kk))) ?_
      have k34 := ((E25.keep K29).keep K30)
      have k35 := (Fs29.keep K30 nin0)
      refine W30.callP hx hEL rfl (hw _ (mI 87 rfl)) (hw _ (mI 88 rfl)) (hw _ (mI 86 rfl)) (hw _ (mI 89 rfl)) (by decide +kernel) (a := b30) (argsL := [(.ref b25), .null]) (rest := [(.ref b30)]) (rm88 l Z a0 hw hEL zc SC hzc fm SF rfm b30 b25 .null dfl el em mir gr de kdf h30 W30.old OD OS OL OM OI OG OE rfl k34 k35 E30 k31 k32 gb30.1) all0 (by decide +kernel) (Wd := 1) (by decide +kernel) (by decide +kernel) (by decide +kernel) (allS ⟨gb30.1, (Or.inr gb30.2)⟩ all0) rfl (by rw [hml]; rfl) (lenOf pd20 rfl) rfl (by show 2 * 0 + _ ≤ _; exact Nat.le_of_eq rfl) (hb hby at_227) (fun T33 h33 v33 P33 Ws33 K33 q33 => ?_)
      have W33 := Ws33 [] all0
      obtain ⟨rfl, Fi33⟩ := q33
      refine gof T33 m 234 #[vi i0, vi i1, vi i2, vi i3, vi i4, vi 0, vi y3, vi y5, vi 0, vr b7, vr b12, vN, vr r24, vr b25, vr b30, U0, U0] [(.ref b30)] (fun _ kk => XS.astore W33.here hx rfl (hb hby at_230) rfl rfl (l' := #[.val (.int i0), .val (.int i1), .val (.int i2), .val (.int i3), .val (.int i4), .val (.int 0), .val (.int y3), .val (.int y5), .val (.int 0), .val (.ref b7), .val (.ref b12), .val .null, .val (.ref r24), .val (.ref b25), .val (.ref b30), .unset, .unset]) rfl (XS.aload W33.here hx rfl (hb hby at_232) rfl rfl kk)) ?_
      have k37 := (E30.keep K33)
      refine W33.callV hx hEL (hw _ (mI 124 rfl)) (hw _ (mI 125 rfl)) (hw _ (mI 127 rfl)) (hw _ (mI 126 rfl)) (hw _ (mI 86 rfl)) (hw _ (mI 128 rfl)) (by decide +kernel) k37 (a := b30) (argsL := []) (rest := []) (rm96 l Z a0 hw hEL zc SC hzc fm SF rfm b30 dfl el em mir gr de kdf h33 W33.old OD OS OL OM OI OG OE Fi33) all0 (by decide +kernel) (Wd := 0) (by decide +kernel) (by decide +kernel) (by decide +kernel) all0 rfl (by rw [hml]; rfl) (lenOf pd21 rfl) rfl (by show 2 * 0 + _ ≤ _; exact Nat.le_of_eq rfl) (hb hby at_234) (fun T36 h36 v36 P36 Ws36 K36 q36 => ?_)
      have W36 := Ws36 [] all0
      obtain ⟨rfl, rfl⟩ := q36
      refine gof T36 m 255 #[vi i0, vi i1, vi i2, vi i3, vi i4, vi 0, vi y3, vi y5, vi 0, vr b7, vr b12, vN, vr r24, vr b25, vr b30, vr de, U0] [] (fun _ kk => XS.astore W36.here hx rfl (hb hby at_237) rfl rfl (l' := #[.val (.int i0), .val (.int i1), .val (.int i2), .val (.int i3), .val (.int i4), .val (.int 0), .val (.int y3), .val (.int y5), .val (.int 0), .val (.ref b7), .val (.ref b12), .val .null, .val (.ref r24), .val (.ref b25), .val (.ref b30), .val (.ref de), .unset]) rfl (XS.iload W36.here hx rfl (hb hby at_239) rfl (XS.ifYes W36.here hx rfl (pc0 := 241) (pc' := 255) rfl (hb hby at_241) rfl (XT.i0_eq_t (by decide +kernel)) (by decide +kernel) (by decide +kernel) kk))) ?_
      refine W36.getS hx (host := "") (Or.inl (hw _ (mI 132 rfl))) Via.refl OE rfl (hb hby at_255) (fun T38 W38 => ?_)
      refine gof T38 m 269 #[vi i0, vi i1, vi i2, vi i3, vi i4, vi 0, vi y3, vi y5, vi 0, vr b7, vr b12, vN, vr r24, vr b25, vr b30, vr de, vr de] [(.ref b30)] (fun _ kk => XS.astore W38.here hx rfl (hb hby at_258) rfl rfl (l' := #[.val (.int i0), .val (.int i1), .val (.int i2), .val (.int i3), .val (.int i4), .val (.int 0), .val (.int y3), .val (.int y5), .val (.int 0), .val (.ref b7), .val (.ref b12), .val .null, .val (.ref r24), .val (.ref b25), .val (.ref b30), .val (.ref de), .val (.ref de)]) rfl (XS.aload W38.here hx rfl (hb hby at_260) rfl rfl (XS.aload W38.here hx rfl (hb hby at_262) rfl rfl (XT.acmpNo (g := (mkF m 264 #[vi i0, vi i1, vi i2, vi i3, vi i4, vi 0, vi y3, vi y5, vi 0, vr b7, vr b12, vN, vr r24, vr b25, vr b30, vr de, vr de] [(.ref de), (.ref de)])) W38.here hx rfl (hb hby at_264) (x := (.ref de)) (y := (.ref de)) (rest := []) rfl rfl rfl (XT.aa_ne_f (x := (.ref de)) (y := (.ref de)) rfl) (XS.aload W38.here hx rfl (hb hby at_267) rfl rfl kk))))) ?_
      refine W38.callV hx hEL (hw _ (mI 124 rfl)) (hw _ (mI 125 rfl)) (hw _ (mI 127 rfl)) (hw _ (mI 126 rfl)) (hw _ (mI 86 rfl)) (hw _ (mI 128 rfl)) (by decide +kernel) k37 (a := b30) (argsL := []) (rest := []) (rm96 l Z a0 hw hEL zc SC hzc fm SF rfm b30 dfl el em mir gr de kdf h33 W38.old OD OS OL OM OI OG OE Fi33) all0 (by decide +kernel) (Wd := 0) (by decide +kernel) (by decide +kernel) (by decide +kernel) all0 rfl (by rw [hml]; rfl) (lenOf pd21 rfl) rfl (by show 2 * 0 + _ ≤ _; exact Nat.le_of_eq rfl) (hb hby at_269) (fun T39 h39 v39 P39 Ws39 K39 q39 => ?_)
      have W39 := Ws39 [] all0
      obtain ⟨rfl, rfl⟩ := q39
      refine gof T39 m 282 #[vi i0, vi i1, vi i2, vi i3, vi i4, vi 0, vi y3, vi y5, vi 0, vr b7, vr b12, vN, vr r24, vr b25, vr b30, vr de, vr de] [(.int 1)] (fun _ kk => XS.aload W39.here hx rfl (hb hby at_272) rfl rfl (XT.acmpNo (g := (mkF m 274 #[vi i0, vi i1, vi i2, vi i3, vi i4, vi 0, vi y3, vi y5, vi 0, vr b7, vr b12, vN, vr r24, vr b25, vr b30, vr de, vr de] [(.ref de), (.ref de)])) W39.here hx rfl (hb hby at_274) (x := (.ref de)) (y := (.ref de)) (rest := []) rfl rfl rfl (XT.aa_ne_f (x := (.ref de)) (y := (.ref de)) rfl) (XS.iconst W39.here hx rfl (hb hby at_277) (XS.goto W39.here hx rfl (pc0 := 278) (pc' := 282) rfl (hb hby at_278) (by decide +kernel) (by decide +kernel) kk)))) ?_
      exact W39.retI hx hEL hs hlk (by decide +kernel) (by decide +kernel) hret (by simp) rfl (hb hby at_282) (fun S hS => rfl)
    · rw [z6]
      refine gof T0 m 60 #[vi i0, vi i1, vi i2, vi i3, vi i4, vi 0, vi y3, vi y5, vi 1, U0, U0, U0, U0, U0, U0, U0, U0] [(.int 2)] (fun _ kk => XS.istore W0.here hx rfl (hb hby at_44) rfl (l' := #[.val (.int i0), .val (.int i1), .val (.int i2), .val (.int i3), .val (.int i4), .val (.int 0), .val (.int y3), .val (.int y5), .val (.int 1), .unset, .unset, .unset, .unset, .unset, .unset, .unset, .unset]) rfl (XS.iload W0.here hx rfl (hb hby at_46) rfl (XS.ifYes W0.here hx rfl (pc0 := 48) (pc' := 59) rfl (hb hby at_48) rfl (XT.i0_eq_t (by decide +kernel)) (by decide +kernel) (by decide +kernel) (XS.iconst W0.here hx rfl (hb hby at_59) kk)))) ?_
      refine W0.newP hx (hw _ (mI 0 rfl)) rfl (hb hby at_60) rfl (by decide +kernel) (cap := 2) (by decide +kernel) (by decide +kernel) (by decide +kernel) (by decide +kernel) (fun T40 h40 b40 c40 eb40 gb40 W40 K40 A40 => ?_)
      have V40 : Arv Z h40 b40 c40 .char (2 : Int32) [(.int (0 : Int32)), (.int (0 : Int32))] (.int (0 : Int32)) := A40
      refine gof T40 m 73 #[vi i0, vi i1, vi i2, vi i3, vi i4, vi 0, vi y3, vi y5, vi 1, vr b40, U0, U0, U0, U0, U0, U0, U0] [(.int ((i3 &&& (255 : Int32)).toUInt32.toUInt16.toUInt32.toInt32)), (.int 0), (.ref b40)] (fun _ kk => XS.astore W40.here hx rfl (hb hby at_62) rfl rfl (l' := #[.val (.int i0), .val (.int i1), .val (.int i2), .val (.int i3), .val (.int i4), .val (.int 0), .val (.int y3), .val (.int y5), .val (.int 1), .val (.ref b40), .unset, .unset, .unset, .unset, .unset, .unset, .unset]) rfl (XS.aload W40.here hx rfl (hb hby at_64) rfl rfl (XS.iconst W40.here hx rfl (hb hby at_66) (XS.iloadN W40.here hx rfl (hb hby at_67) rfl (XS.sipush W40.here hx rfl (hb hby at_68) (XS.iand W40.here hx rfl (hb hby at_71) rfl (XS.i2c W40.here hx rfl (hb hby at_72) rfl kk))))))) ?_
      obtain ⟨q41, hq41, cq41, zq41⟩ := char255 i3
      rw [hq41]
      show Go p e below _ (T40.setTop (mkF m 73 #[vi i0, vi i1, vi i2, vi i3, vi i4, vi 0, vi y3, vi y5, vi 1, vr b40, U0, U0, U0, U0, U0, U0, U0] [(.int q41), (.int 0), (.ref b40)]))
      refine W40.stC hx V40 ⟨by decide, by decide⟩ 0 rfl (Nat.le_of_ble_eq_true rfl) gb40.1 (Or.inr gb40.2) rfl rfl (hb hby at_73) (fun T42 h42 W42 K42 A42 => ?_)
      have V42 : Arv Z h42 b40 c40 .char (2 : Int32) [(.int q41), (.int (0 : Int32))] (.int (0 : Int32)) := (by rw [(nar_char cq41)] at A42; exact A42)
      refine gof T42 m 84 #[vi i0, vi i1, vi i2, vi i3, vi i4, vi 0, vi y3, vi y5, vi 1, vr b40, U0, U0, U0, U0, U0, U0, U0] [(.int ((i4 &&& (255 : Int32)).toUInt32.toUInt16.toUInt32.toInt32)), (.int 1), (.ref b40)] (fun _ kk => XS.aload W42.here hx rfl (hb hby at_74) rfl rfl (XS.iconst W42.here hx rfl (hb hby at_76) (XS.iload W42.here hx rfl (hb hby at_77) rfl (XS.sipush W42.here hx rfl (hb hby at_79) (XS.iand W42.here hx rfl (hb hby at_82) rfl (XS.i2c W42.here hx rfl (hb hby at_83) rfl kk)))))) ?_
      obtain ⟨q43, hq43, cq43, zq43⟩ := char255 i4
      rw [hq43]
      show Go p e below _ (T42.setTop (mkF m 84 #[vi i0, vi i1, vi i2, vi i3, vi i4, vi 0, vi y3, vi y5, vi 1, vr b40, U0, U0, U0, U0, U0, U0, U0] [(.int q43), (.int 1), (.ref b40)]))
      refine W42.stC hx V42 ⟨by decide, by decide⟩ 1 rfl (Nat.le_of_ble_eq_true rfl) gb40.1 (Or.inr gb40.2) rfl rfl (hb hby at_84) (fun T44 h44 W44 K44 A44 => ?_)
      have V44 : Arv Z h44 b40 c40 .char (2 : Int32) [(.int q41), (.int q43)] (.int (0 : Int32)) := (by rw [(nar_char cq43)] at A44; exact A44)
      show Go p e below _ (T44.setTop (mkF m 85 #[vi i0, vi i1, vi i2, vi i3, vi i4, vi 0, vi y3, vi y5, vi 1, vr b40, U0, U0, U0, U0, U0, U0, U0] []))
      refine W44.newO hx (hw _ (mI 1 rfl)) (hw _ (mI 2 rfl)) (hw _ (mI 3 rfl)) rfl (hb hby at_85) (by decide +kernel) (by decide +kernel) (fun T45 h45 b45 eb45 gb45 W45 K45 E45 D45 => ?_)
      have k46 : Fld Z h45 b45 "org/portcullis/acl/Sid" "name" "Ljava/lang/String;" .null := D45 (Or.inr (hw _ (mI 43 rfl))) (ty := (.object "java/lang/String")) (by decide +kernel)
      have k47 : Fld Z h45 b45 "org/portcullis/acl/Sid" "principal" "Z" (.int (0 : Int32)) := D45 (Or.inr (hw _ (mI 45 rfl))) (ty := .boolean) (by decide +kernel)
      refine gof T45 m 89 #[vi i0, vi i1, vi i2, vi i3, vi i4, vi 0, vi y3, vi y5, vi 1, vr b40, U0, U0, U0, U0, U0, U0, U0] [(.ref b45), (.ref b45)] (fun _ kk => XS.dup W45.here hx rfl (hb hby at_88) rfl rfl kk) ?_
      refine W45.newO hx (hw _ (mI 4 rfl)) (hw _ (mI 5 rfl)) (hw _ (mI 6 rfl)) rfl (hb hby at_89) (by decide +kernel) (by decide +kernel) (fun T48 h48 b48 eb48 gb48 W48 K48 E48 D48 => ?_)
      have k49 : Fld Z h48 b48 "java/lang/String" "coder" "B" (.int (0 : Int32)) := D48 (Or.inr (hw _ (mI 30 rfl))) (ty := .byte) (by decide +kernel)
      have k50 : Fld Z h48 b48 "java/lang/String" "value" "[B" .null := D48 (Or.inr (hw _ (mI 32 rfl))) (ty := (.array .byte)) (by decide +kernel)
      refine gof T48 m 95 #[vi i0, vi i1, vi i2, vi i3, vi i4, vi 0, vi y3, vi y5, vi 1, vr b40, U0, U0, U0, U0, U0, U0, U0] [(.ref b40), (.ref b48), (.ref b48), (.ref b45), (.ref b45)] (fun _ kk => XS.dup W48.here hx rfl (hb hby at_92) rfl rfl (XS.aload W48.here hx rfl (hb hby at_93) rfl rfl kk)) ?_
      have k52 := ((V44.keep K45 nin0).keep K48 nin0)
      refine W48.newStr hx hws (hw _ (mI 5 rfl)) SC hzc (hw _ (mI 7 rfl)) (hw _ (mI 8 rfl)) (hw _ (mI 9 rfl)) E48 k50 k49 (cs := [q41, q43]) (n := 2) k52 rfl rfl (by decide +kernel) (by decide +kernel) (allSi cq41 (allSi cq43 all0i)) gb48.1 (Or.inr gb48.2) (mI 0 rfl) (by decide +kernel) (Wd := 3) (by decide +kernel) (by decide +kernel) (by decide +kernel) rfl (by rw [hml]; rfl) rfl (by show 2 * 0 + _ ≤ _; exact Nat.le_of_eq rfl) (hb hby at_95) (fun T51 h51 W51 K51 S51 => ?_)
      refine gof T51 m 100 #[vi i0, vi i1, vi i2, vi i3, vi i4, vi 0, vi y3, vi y5, vi 1, vr b40, U0, U0, U0, U0, U0, U0, U0] [(.int y5), (.ref b48), (.ref b45), (.ref b45)] (fun _ kk => XS.iload W51.here hx rfl (hb hby at_98) rfl kk) ?_
      have k54 := ((E45.keep K48).keep K51)
      have k55 := ((k46.keep K48 nin0).keep K51 (ninS (ne_of_born (Nat.le_of_eq eb48.symm) E45.lt (Nat.le_refl _)) nin0))
      have k56 := ((k47.keep K48 nin0).keep K51 (ninS (ne_of_born (Nat.le_of_eq eb48.symm) E45.lt (Nat.le_refl _)) nin0))
      refine W51.callP hx hEL rfl (hw _ (mI 33 rfl)) (hw _ (mI 34 rfl)) (hw _ (mI 3 rfl)) (hw _ (mI 35 rfl)) (by decide +kernel) (a := b45) (argsL := [(.ref b48), (.int y5)]) (rest := [(.ref b45)]) (rm11 l Z a0 hw hEL zc SC hzc fm SF rfm b45 b48 y5 h51 W51.old k54 k55 k56 gb45.1 nz_p fz_p) all0 (by decide +kernel) (Wd := 1) (by decide +kernel) (by decide +kernel) (by decide +kernel) (allS ⟨gb45.1, (Or.inr gb45.2)⟩ all0) rfl (by rw [hml]; rfl) (lenOf pd18 rfl) rfl (by show 2 * 0 + _ ≤ _; exact Nat.le_of_eq rfl) (hb hby at_100) (fun T53 h53 v53 P53 Ws53 K53 q53 => ?_)
      have W53 := Ws53 [] all0
      obtain rfl := q53
      refine gof T53 m 135 #[vi i0, vi i1, vi i2, vi i3, vi i4, vi 0, vi y3, vi y5, vi 1, vr b40, vr b45, vN, U0, U0, U0, U0, U0] [(.int (i4 &&& (255 : Int32)))] (fun _ kk => XS.astore W53.here hx rfl (hb hby at_103) rfl rfl (l' := #[.val (.int i0), .val (.int i1), .val (.int i2), .val (.int i3), .val (.int i4), .val (.int 0), .val (.int y3), .val (.int y5), .val (.int 1), .val (.ref b40), .val (.ref b45), .unset, .unset, .unset, .unset, .unset, .unset]) rfl (XS.iload W53.here hx rfl (hb hby at_105) rfl (XS.ifYes W53.here hx rfl (pc0 := 107) (pc' := 126) rfl (hb hby at_107) rfl (XT.i0_eq_t (by decide +kernel)) (by decide +kernel) (by decide +kernel) (XS.aconstNull W53.here hx rfl (hb hby at_126) (XS.astore W53.here hx rfl (hb hby at_127) rfl rfl (l' := #[.val (.int i0), .val (.int i1), .val (.int i2), .val (.int i3), .val (.int i4), .val (.int 0), .val (.int y3), .val (.int y5), .val (.int 1), .val (.ref b40), .val (.ref b45), .val .null, .unset, .unset, .unset, .unset, .unset]) rfl (XS.iload W53.here hx rfl (hb hby at_129) rfl (XS.sipush W53.here hx rfl (hb hby at_131) (XS.iand W53.here hx rfl (hb hby at_134) rfl kk)))))))) ?_
      refine gof T53 m 136 #[vi i0, vi i1, vi i2, vi i3, vi i4, vi 0, vi y3, vi y5, vi 1, vr b40, vr b45, vN, U0, U0, U0, U0, U0] [(.int ((i4 &&& (255 : Int32)).toUInt32.toUInt16.toUInt32.toInt32))] (fun _ kk => XS.i2c W53.here hx rfl (hb hby at_135) rfl kk) ?_
      rw [hq43]
      show Go p e below _ (T53.setTop (mkF m 136 #[vi i0, vi i1, vi i2, vi i3, vi i4, vi 0, vi y3, vi y5, vi 1, vr b40, vr b45, vN, U0, U0, U0, U0, U0] [(.int q43)]))
      refine W53.callS hx hEL (hw _ (mI 46 rfl)) (hw _ (mI 47 rfl)) (hw _ (mI 6 rfl)) (hw _ (mI 48 rfl)) (by decide +kernel) (argsL := [(.int q43)]) (rest := []) (rm27 l Z a0 hw hEL zc SC hzc fm SF rfm q43 h53 W53.old cq43) all0 (by decide +kernel) (Wd := 0) (by decide +kernel) (by decide +kernel) (by decide +kernel) all0 rfl (by rw [hml]; rfl) (lenOf pd19 rfl) rfl (by show 2 * 0 + _ ≤ _; exact Nat.le_of_eq rfl) (hb hby at_136) (fun T57 h57 v57 P57 Ws57 K57 q57 => ?_)
      have W57 := Ws57 [] all0
      obtain ⟨r57, rfl, lr57, S57⟩ := q57
      have gr57 : n0 ≤ r57 ∧ s.heap.size ≤ r57 := ⟨Nat.le_trans W53.n0le lr57, Nat.le_trans W53.s0le lr57⟩
      have E57 := S57.exa
      refine gof T57 m 141 #[vi i0, vi i1, vi i2, vi i3, vi i4, vi 0, vi y3, vi y5, vi 1, vr b40, vr b45, vN, vr r57, U0, U0, U0, U0] [] (fun _ kk => XS.astore W57.here hx rfl (hb hby at_139) rfl rfl (l' := #[.val (.int i0), .val (.int i1), .val (.int i2), .val (.int i3), .val (.int i4), .val (.int 0), .val (.int y3), .val (.int y5), .val (.int 1), .val (.ref b40), .val (.ref b45), .val .null, .val (.ref r57), .unset, .unset, .unset, .unset]) rfl kk) ?_
      refine W57.newO hx (hw _ (mI 60 rfl)) (hw _ (mI 61 rfl)) (hw _ (mI 62 rfl)) rfl (hb hby at_141) (by decide +kernel) (by decide +kernel) (fun T58 h58 b58 eb58 gb58 W58 K58 E58 D58 => ?_)
      have k59 : Fld Z h58 b58 "java/util/AbstractList" "modCount" "I" (.int (0 : Int32)) := D58 (Or.inl (hw _ (mI 80 rfl))) (ty := .int) (by decide +kernel)
      have k60 : Fld Z h58 b58 "java/util/ArrayList" "elementData" "[Ljava/lang/Object;" .null := D58 (Or.inl (hw _ (mI 83 rfl))) (ty := (.array (.object "java/lang/Object"))) (by decide +kernel)
      have k61 : Fld Z h58 b58 "java/util/ArrayList" "size" "I" (.int (0 : Int32)) := D58 (Or.inl (hw _ (mI 115 rfl))) (ty := .int) (by decide +kernel)
      refine gof T58 m 145 #[vi i0, vi i1, vi i2, vi i3, vi i4, vi 0, vi y3, vi y5, vi 1, vr b40, vr b45, vN, vr r57, U0, U0, U0, U0] [(.ref b58), (.ref b58)] (fun _ kk => XS.dup W58.here hx rfl (hb hby at_144) rfl rfl kk) ?_
      refine W58.callP hx hEL rfl (hw _ (mI 63 rfl)) (hw _ (mI 64 rfl)) (hw _ (mI 62 rfl)) (hw _ (mI 65 rfl)) (by decide +kernel) (a := b58) (argsL := []) (rest := [(.ref b58)]) (rm19 l Z a0 hw hEL zc SC hzc fm SF rfm b58 dfl el em mir gr de kdf h58 W58.old OD OS OL OM OI OG OE E58 k59 k60 k61 gb58.1) all0 (by decide +kernel) (Wd := 1) (by decide +kernel) (by decide +kernel) (by decide +kernel) (allS ⟨gb58.1, (Or.inr gb58.2)⟩ all0) rfl (by rw [hml]; rfl) (lenOf pd3 rfl) rfl (by show 2 * 0 + _ ≤ _; exact Nat.le_of_eq rfl) (hb hby at_145) (fun T62 h62 v62 P62 Ws62 K62 q62 => ?_)
      have W62 := Ws62 [] all0
      obtain ⟨rfl, Fe62, Fs62, Fm62⟩ := q62
      refine gof T62 m 158 #[vi i0, vi i1, vi i2, vi i3, vi i4, vi 0, vi y3, vi y5, vi 1, vr b40, vr b45, vN, vr r57, vr b58, U0, U0, U0] [(.ref b58)] (fun _ kk => XS.astore W62.here hx rfl (hb hby at_148) rfl rfl (l' := #[.val (.int i0), .val (.int i1), .val (.int i2), .val (.int i3), .val (.int i4), .val (.int 0), .val (.int y3), .val (.int y5), .val (.int 1), .val (.ref b40), .val (.ref b45), .val .null, .val (.ref r57), .val (.ref b58), .unset, .unset, .unset]) rfl (XS.iload W62.here hx rfl (hb hby at_150) rfl (XS.iconst W62.here hx rfl (hb hby at_152) (XS.icmpNo W62.here hx rfl (hb hby at_153) rfl (XT.ii_lt_f (by decide +kernel)) (XS.aload W62.here hx rfl (hb hby at_156) rfl rfl kk))))) ?_
      refine W62.newO hx (hw _ (mI 148 rfl)) (hw _ (mI 149 rfl)) (hw _ (mI 150 rfl)) rfl (hb hby at_158) (by decide +kernel) (by decide +kernel) (fun T63 h63 b63 eb63 gb63 W63 K63 E63 D63 => ?_)
      have k64 : Fld Z h63 b63 "org/portcullis/acl/ObjectIdentity" "type" "Ljava/lang/String;" .null := D63 (Or.inr (hw _ (mI 159 rfl))) (ty := (.object "java/lang/String")) (by decide +kernel)
      have k65 : Fld Z h63 b63 "org/portcullis/acl/ObjectIdentity" "id" "Ljava/lang/String;" .null := D63 (Or.inr (hw _ (mI 161 rfl))) (ty := (.object "java/lang/String")) (by decide +kernel)
      refine gof T63 m 164 #[vi i0, vi i1, vi i2, vi i3, vi i4, vi 0, vi y3, vi y5, vi 1, vr b40, vr b45, vN, vr r57, vr b58, U0, U0, U0] [(.ref r57), (.ref b63), (.ref b63), (.ref b58)] (fun _ kk => XS.dup W63.here hx rfl (hb hby at_161) rfl rfl (XS.aload W63.here hx rfl (hb hby at_162) rfl rfl kk)) ?_
      refine W63.ldcO hx hEL (hw _ (mI 151 rfl)) hSA rfl (hb hby at_164) (n := 4) (by decide +kernel) (by decide +kernel) (by decide +kernel) (by decide +kernel) (fun T66 h66 b66 W66 K66 => ?_)
      show Go p e below _ (T66.setTop (mkF m 166 #[vi i0, vi i1, vi i2, vi i3, vi i4, vi 0, vi y3, vi y5, vi 1, vr b40, vr b45, vN, vr r57, vr b58, U0, U0, U0] [(.ref b66), (.ref r57), (.ref b63), (.ref b63), (.ref b58)]))
      have k68 := (E63.keep K66)
      have k69 := (k64.keep K66 nin0)
      have k70 := (k65.keep K66 nin0)
      refine W66.callP hx hEL rfl (hw _ (mI 154 rfl)) (hw _ (mI 155 rfl)) (hw _ (mI 150 rfl)) (hw _ (mI 156 rfl)) (by decide +kernel) (a := b63) (argsL := [(.ref r57), (.ref b66)]) (rest := [(.ref b63), (.ref b58)]) (rm14 l Z a0 hw hEL zc SC hzc fm SF rfm b63 r57 b66 h66 W66.old k68 k69 k70 gb63.1) all0 (by decide +kernel) (Wd := 2) (by decide +kernel) (by decide +kernel) (by decide +kernel) (allS ⟨gb63.1, (Or.inr gb63.2)⟩ all0) rfl (by rw [hml]; rfl) (lenOf pd22 rfl) rfl (by show 2 * 0 + _ ≤ _; exact Nat.le_of_eq rfl) (hb hby at_166) (fun T67 h67 v67 P67 Ws67 K67 q67 => ?_)
      have W67 := Ws67 [] all0
      obtain rfl := q67
      show Go p e below _ (T67.setTop (mkF m 169 #[vi i0, vi i1, vi i2, vi i3, vi i4, vi 0, vi y3, vi y5, vi 1, vr b40, vr b45, vN, vr r57, vr b58, U0, U0, U0] [(.ref b63), (.ref b58)]))
      have k72 := ((((E58.keep K62).keep K63).keep K66).keep K67)
      have k73 := (((Fe62.keep K63 nin0).keep K66 nin0).keep K67 (ninS (ne_of_born (Nat.le_of_eq eb63.symm) E58.lt K62.1) nin0))
      have k74 := (((Fs62.keep K63 nin0).keep K66 nin0).keep K67 (ninS (ne_of_born (Nat.le_of_eq eb63.symm) E58.lt K62.1) nin0))
      have k75 := (((Fm62.keep K63 nin0).keep K66 nin0).keep K67 (ninS (ne_of_born (Nat.le_of_eq eb63.symm) E58.lt K62.1) nin0))
      have k76 := (k68.keep K67)
      refine W67.callV hx hEL (hw _ (mI 162 rfl)) (hw _ (mI 163 rfl)) (hw _ (mI 165 rfl)) (hw _ (mI 164 rfl)) (hw _ (mI 62 rfl)) (hw _ (mI 166 rfl)) (by decide +kernel) k72 (a := b58) (argsL := [(.ref b63)]) (rest := []) (rm43 l Z a0 hw hEL zc SC hzc fm SF rfm b58 b63 (0 : Int32) dfl el em mir gr de kdf h67 W67.old OD OS OL OM OI OG OE k72 k73 k74 k75 k76 gb58.1) all0 (by decide +kernel) (Wd := 0) (by decide +kernel) (by decide +kernel) (by decide +kernel) (allS ⟨gb58.1, (Or.inr gb58.2)⟩ all0) rfl (by rw [hml]; rfl) (lenOf pd23 rfl) rfl (by show 2 * 0 + _ ≤ _; exact Nat.le_of_eq rfl) (hb hby at_169) (fun T71 h71 v71 P71 Ws71 K71 q71 => ?_)
      have W71 := Ws71 [] all0
      obtain ⟨t71, kt71, rfl, lt71, Fe71, Fs71, Fm71, A71, Ov71, Ex71⟩ := q71
      have gt71 : n0 ≤ t71 ∧ s.heap.size ≤ t71 := ⟨Nat.le_trans W67.n0le lt71, Nat.le_trans W67.s0le lt71⟩
      refine gof T71 m 219 #[vi i0, vi i1, vi i2, vi i3, vi i4, vi 0, vi y3, vi y5, vi 1, vr b40, vr b45, vN, vr r57, vr b58, U0, U0, U0] [] (fun _ kk => XS.pop W71.here hx rfl (hb hby at_172) rfl rfl (XS.iload W71.here hx rfl (hb hby at_173) rfl (XS.iconst W71.here hx rfl (hb hby at_175) (XS.icmpYes W71.here hx rfl (pc0 := 176) (pc' := 196) rfl (hb hby at_176) rfl (XT.ii_lt_t (by decide +kernel)) (by decide +kernel) (by decide +kernel) (XS.iload W71.here hx rfl (hb hby at_196) rfl (XS.iconst W71.here hx rfl (hb hby at_198) (XS.icmpYes W71.here hx rfl (pc0 := 199) (pc' := 219) rfl (hb hby at_199) rfl (XT.ii_lt_t (by decide +kernel)) (by decide +kernel) (by decide +kernel) kk))))))) ?_
      refine W71.newO hx (hw _ (mI 84 rfl)) (hw _ (mI 85 rfl)) (hw _ (mI 86 rfl)) rfl (hb hby at_219) (by decide +kernel) (by decide +kernel) (fun T77 h77 b77 eb77 gb77 W77 K77 E77 D77 => ?_)
      have k78 : Fld Z h77 b77 "org/portcullis/acl/Outcome" "iLevels" "Ljava/util/List;" .null := D77 (Or.inr (hw _ (mI 121 rfl))) (ty := (.object "java/util/List")) (by decide +kernel)
      have k79 : Fld Z h77 b77 "org/portcullis/acl/Outcome" "iEntry" "Lorg/portcullis/acl/AccessControlEntry;" .null := D77 (Or.inr (hw _ (mI 123 rfl))) (ty := (.object "org/portcullis/acl/AccessControlEntry")) (by decide +kernel)
      refine gof T77 m 227 #[vi i0, vi i1, vi i2, vi i3, vi i4, vi 0, vi y3, vi y5, vi 1, vr b40, vr b45, vN, vr r57, vr b58, U0, U0, U0] [.null, (.ref b58), (.ref b77), (.ref b77)] (fun _ kk => XS.dup W77.here hx rfl (hb hby at_222) rfl rfl (XS.aload W77.here hx rfl (hb hby at_223) rfl rfl (XS.aload W77.here hx rfl (hb hby at_225) rfl rfl kk))) ?_
      have k81 := ((k72.keep K71).keep K77)
      have k82 := (Fe71.keep K77 nin0)
      have k83 := (Fs71.keep K77 nin0)
      have k84 := (A71.keep K77 nin0)
      have k85 := (Ex71.keep K77)
      have k86 := ((k76.keep K71).keep K77)
      refine W77.callP hx hEL rfl (hw _ (mI 87 rfl)) (hw _ (mI 88 rfl)) (hw _ (mI 86 rfl)) (hw _ (mI 89 rfl)) (by decide +kernel) (a := b77) (argsL := [(.ref b58), .null]) (rest := [(.ref b77)]) (rm89 l Z a0 hw hEL zc SC hzc fm SF rfm b77 b58 t71 kt71 b63 .null dfl el em mir gr de kdf h77 W77.old OD OS OL OM OI OG OE rfl k81 k82 k83 k84 k85 k86 E77 k78 k79 gb77.1) all0 (by decide +kernel) (Wd := 1) (by decide +kernel) (by decide +kernel) (by decide +kernel) (allS ⟨gb77.1, (Or.inr gb77.2)⟩ all0) rfl (by rw [hml]; rfl) (lenOf pd20 rfl) rfl (by show 2 * 0 + _ ≤ _; exact Nat.le_of_eq rfl) (hb hby at_227) (fun T80 h80 v80 P80 Ws80 K80 q80 => ?_)
      have W80 := Ws80 [] all0
      obtain ⟨rfl, Fi80⟩ := q80
      refine gof T80 m 234 #[vi i0, vi i1, vi i2, vi i3, vi i4, vi 0, vi y3, vi y5, vi 1, vr b40, vr b45, vN, vr r57, vr b58, vr b77, U0, U0] [(.ref b77)] (fun _ kk => XS.astore W80.here hx rfl (hb hby at_230) rfl rfl (l' := #[.val (.int i0), .val (.int i1), .val (.int i2), .val (.int i3), .val (.int i4), .val (.int 0), .val (.int y3), .val (.int y5), .val (.int 1), .val (.ref b40), .val (.ref b45), .val .null, .val (.ref r57), .val (.ref b58), .val (.ref b77), .unset, .unset]) rfl (XS.aload W80.here hx rfl (hb hby at_232) rfl rfl kk)) ?_
      have k88 := (E77.keep K80)
      refine W80.callV hx hEL (hw _ (mI 124 rfl)) (hw _ (mI 125 rfl)) (hw _ (mI 127 rfl)) (hw _ (mI 126 rfl)) (hw _ (mI 86 rfl)) (hw _ (mI 128 rfl)) (by decide +kernel) k88 (a := b77) (argsL := []) (rest := []) (rm96 l Z a0 hw hEL zc SC hzc fm SF rfm b77 dfl el em mir gr de kdf h80 W80.old OD OS OL OM OI OG OE Fi80) all0 (by decide +kernel) (Wd := 0) (by decide +kernel) (by decide +kernel) (by decide +kernel) all0 rfl (by rw [hml]; rfl) (lenOf pd21 rfl) rfl (by show 2 * 0 + _ ≤ _; exact Nat.le_of_eq rfl) (hb hby at_234) (fun T87 h87 v87 P87 Ws87 K87 q87 => ?_)
      have W87 := Ws87 [] all0
      obtain ⟨rfl, rfl⟩ := q87
      refine gof T87 m 255 #[vi i0, vi i1, vi i2, vi i3, vi i4, vi 0, vi y3, vi y5, vi 1, vr b40, vr b45, vN, vr r57, vr b58, vr b77, vr de, U0] [] (fun _ kk => XS.astore W87.here hx rfl (hb hby at_237) rfl rfl (l' := #[.val (.int i0), .val (.int i1), .val (.int i2), .val (.int i3), .val (.int i4), .val (.int 0), .val (.int y3), .val (.int y5), .val (.int 1), .val (.ref b40), .val (.ref b45), .val .null, .val (.ref r57), .val (.ref b58), .val (.ref b77), .val (.ref de), .unset]) rfl (XS.iload W87.here hx rfl (hb hby at_239) rfl (XS.ifYes W87.here hx rfl (pc0 := 241) (pc' := 255) rfl (hb hby at_241) rfl (XT.i0_eq_t (by decide +kernel)) (by decide +kernel) (by decide +kernel) kk))) ?_
      refine W87.getS hx (host := "") (Or.inl (hw _ (mI 132 rfl))) Via.refl OE rfl (hb hby at_255) (fun T89 W89 => ?_)
      refine gof T89 m 269 #[vi i0, vi i1, vi i2, vi i3, vi i4, vi 0, vi y3, vi y5, vi 1, vr b40, vr b45, vN, vr r57, vr b58, vr b77, vr de, vr de] [(.ref b77)] (fun _ kk => XS.astore W89.here hx rfl (hb hby at_258) rfl rfl (l' := #[.val (.int i0), .val (.int i1), .val (.int i2), .val (.int i3), .val (.int i4), .val (.int 0), .val (.int y3), .val (.int y5), .val (.int 1), .val (.ref b40), .val (.ref b45), .val .null, .val (.ref r57), .val (.ref b58), .val (.ref b77), .val (.ref de), .val (.ref de)]) rfl (XS.aload W89.here hx rfl (hb hby at_260) rfl rfl (XS.aload W89.here hx rfl (hb hby at_262) rfl rfl (XT.acmpNo (g := (mkF m 264 #[vi i0, vi i1, vi i2, vi i3, vi i4, vi 0, vi y3, vi y5, vi 1, vr b40, vr b45, vN, vr r57, vr b58, vr b77, vr de, vr de] [(.ref de), (.ref de)])) W89.here hx rfl (hb hby at_264) (x := (.ref de)) (y := (.ref de)) (rest := []) rfl rfl rfl (XT.aa_ne_f (x := (.ref de)) (y := (.ref de)) rfl) (XS.aload W89.here hx rfl (hb hby at_267) rfl rfl kk))))) ?_
      refine W89.callV hx hEL (hw _ (mI 124 rfl)) (hw _ (mI 125 rfl)) (hw _ (mI 127 rfl)) (hw _ (mI 126 rfl)) (hw _ (mI 86 rfl)) (hw _ (mI 128 rfl)) (by decide +kernel) k88 (a := b77) (argsL := []) (rest := []) (rm96 l Z a0 hw hEL zc SC hzc fm SF rfm b77 dfl el em mir gr de kdf h80 W89.old OD OS OL OM OI OG OE Fi80) all0 (by decide +kernel) (Wd := 0) (by decide +kernel) (by decide +kernel) (by decide +kernel) all0 rfl (by rw [hml]; rfl) (lenOf pd21 rfl) rfl (by show 2 * 0 + _ ≤ _; exact Nat.le_of_eq rfl) (hb hby at_269) (fun T90 h90 v90 P90 Ws90 K90 q90 => ?_)
      have W90 := Ws90 [] all0
      obtain ⟨rfl, rfl⟩ := q90
      refine gof T90 m 282 #[vi i0, vi i1, vi i2, vi i3, vi i4, vi 0, vi y3, vi y5, vi 1, vr b40, vr b45, vN, vr r57, vr b58, vr b77, vr de, vr de] [(.int 1)] (fun _ kk => XS.aload W90.here hx rfl (hb hby at_272) rfl rfl (XT.acmpNo (g := (mkF m 274 #[vi i0, vi i1, vi i2, vi i3, vi i4, vi 0, vi y3, vi y5, vi 1, vr b40, vr b45, vN, vr r57, vr b58, vr b77, vr de, vr de] [(.ref de), (.ref de)])) W90.here hx rfl (hb hby at_274) (x := (.ref de)) (y := (.ref de)) (rest := []) rfl rfl rfl (XT.aa_ne_f (x := (.ref de)) (y := (.ref de)) rfl) (XS.iconst W90.here hx rfl (hb hby at_277) (XS.goto W90.here hx rfl (pc0 := 278) (pc' := 282) rfl (hb hby at_278) (by decide +kernel) (by decide +kernel) kk)))) ?_
      exact W90.retI hx hEL hs hlk (by decide +kernel) (by decide +kernel) hret (by simp) rfl (hb hby at_282) (fun S hS => rfl)
    · rw [z6]
      refine gof T0 m 60 #[vi i0, vi i1, vi i2, vi i3, vi i4, vi 0, vi y3, vi y5, vi 2, U0, U0, U0, U0, U0, U0, U0, U0] [(.int 2)] (fun _ kk => XS.istore W0.here hx rfl (hb hby at_44) rfl (l' := #[.val (.int i0), .val (.int i1), .val (.int i2), .val (.int i3), .val (.int i4), .val (.int 0), .val (.int y3), .val (.int y5), .val (.int 2), .unset, .unset, .unset, .unset, .unset, .unset, .unset, .unset]) rfl (XS.iload W0.here hx rfl (hb hby at_46) rfl (XS.ifYes W0.here hx rfl (pc0 := 48) (pc' := 59) rfl (hb hby at_48) rfl (XT.i0_eq_t (by decide +kernel)) (by decide +kernel) (by decide +kernel) (XS.iconst W0.here hx rfl (hb hby at_59) kk)))) ?_
      refine W0.newP hx (hw _ (mI 0 rfl)) rfl (hb hby at_60) rfl (by decide +kernel) (cap := 2) (by decide +kernel) (by decide +kernel) (by decide +kernel) (by decide +kernel) (fun T91 h91 b91 c91 eb91 gb91 W91 K91 A91 => ?_)
      have V91 : Arv Z h91 b91 c91 .char (2 : Int32) [(.int (0 : Int32)), (.int (0 : Int32))] (.int (0 : Int32)) := A91
      refine gof T91 m 73 #[vi i0, vi i1, vi i2, vi i3, vi i4, vi 0, vi y3, vi y5, vi 2, vr b91, U0, U0, U0, U0, U0, U0, U0] [(.int ((i3 &&& (255 : Int32)).toUInt32.toUInt16.toUInt32.toInt32)), (.int 0), (.ref b91)] (fun _ kk => XS.astore W91.here hx rfl (hb hby at_62) rfl rfl (l' := #[.val (.int i0), .val (.int i1), .val (.int i2), .val (.int i3), .val (.int i4), .val (.int 0), .val (.int y3), .val (.int y5), .val (.int 2), .val (.ref b91), .unset, .unset, .unset, .unset, .unset, .unset, .unset]) rfl (XS.aload W91.here hx rfl (hb hby at_64) rfl rfl (XS.iconst W91.here hx rfl (hb hby at_66) (XS.iloadN W91.here hx rfl (hb hby at_67) rfl (XS.sipush W91.here hx rfl (hb hby at_68) (XS.iand W91.here hx rfl (hb hby at_71) rfl (XS.i2c W91.here hx rfl (hb hby at_72) rfl kk))))))) ?_
      obtain ⟨q92, hq92, cq92, zq92⟩ := char255 i3
      rw [hq92]
      show Go p e below _ (T91.setTop (mkF m 73 #[vi i0, vi i1, vi i2, vi i3, vi i4, vi 0, vi y3, vi y5, vi 2, vr b91, U0, U0, U0, U0, U0, U0, U0] [(.int q92), (.int 0), (.ref b91)]))
      refine W91.stC hx V91 ⟨by decide, by decide⟩ 0 rfl (Nat.le_of_ble_eq_true rfl) gb91.1 (Or.inr gb91.2) rfl rfl (hb hby at_73) (fun T93 h93 W93 K93 A93 => ?_)
      have V93 : Arv Z h93 b91 c91 .char (2 : Int32) [(.int q92), (.int (0 : Int32))] (.int (0 : Int32)) := (by rw [(nar_char cq92)] at A93; exact A93)
      refine gof T93 m 84 #[vi i0, vi i1, vi i2, vi i3, vi i4, vi 0, vi y3, vi y5, vi 2, vr b91, U0, U0, U0, U0, U0, U0, U0] [(.int ((i4 &&& (255 : Int32)).toUInt32.toUInt16.toUInt32.toInt32)), (.int 1), (.ref b91)] (fun _ kk => XS.aload W93.here hx rfl (hb hby at_74) rfl rfl (XS.iconst W93.here hx rfl (hb hby at_76) (XS.iload W93.here hx rfl (hb hby at_77) rfl (XS.sipush W93.here hx rfl (hb hby at_79) (XS.iand W93.here hx rfl (hb hby at_82) rfl (XS.i2c W93.here hx rfl (hb hby at_83) rfl kk)))))) ?_
      obtain ⟨q94, hq94, cq94, zq94⟩ := char255 i4
      rw [hq94]
      show Go p e below _ (T93.setTop (mkF m 84 #[vi i0, vi i1, vi i2, vi i3, vi i4, vi 0, vi y3, vi y5, vi 2, vr b91, U0, U0, U0, U0, U0, U0, U0] [(.int q94), (.int 1), (.ref b91)]))
      refine W93.stC hx V93 ⟨by decide, by decide⟩ 1 rfl (Nat.le_of_ble_eq_true rfl) gb91.1 (Or.inr gb91.2) rfl rfl (hb hby at_84) (fun T95 h95 W95 K95 A95 => ?_)
      have V95 : Arv Z h95 b91 c91 .char (2 : Int32) [(.int q92), (.int q94)] (.int (0 : Int32)) := (by rw [(nar_char cq94)] at A95; exact A95)
      show Go p e below _ (T95.setTop (mkF m 85 #[vi i0, vi i1, vi i2, vi i3, vi i4, vi 0, vi y3, vi y5, vi 2, vr b91, U0, U0, U0, U0, U0, U0, U0] []))
      refine W95.newO hx (hw _ (mI 1 rfl)) (hw _ (mI 2 rfl)) (hw _ (mI 3 rfl)) rfl (hb hby at_85) (by decide +kernel) (by decide +kernel) (fun T96 h96 b96 eb96 gb96 W96 K96 E96 D96 => ?_)
      have k97 : Fld Z h96 b96 "org/portcullis/acl/Sid" "name" "Ljava/lang/String;" .null := D96 (Or.inr (hw _ (mI 43 rfl))) (ty := (.object "java/lang/String")) (by decide +kernel)
      have k98 : Fld Z h96 b96 "org/portcullis/acl/Sid" "principal" "Z" (.int (0 : Int32)) := D96 (Or.inr (hw _ (mI 45 rfl))) (ty := .boolean) (by decide +kernel)
      refine gof T96 m 89 #[vi i0, vi i1, vi i2, vi i3, vi i4, vi 0, vi y3, vi y5, vi 2, vr b91, U0, U0, U0, U0, U0, U0, U0] [(.ref b96), (.ref b96)] (fun _ kk => XS.dup W96.here hx rfl (hb hby at_88) rfl rfl kk) ?_
      refine W96.newO hx (hw _ (mI 4 rfl)) (hw _ (mI 5 rfl)) (hw _ (mI 6 rfl)) rfl (hb hby at_89) (by decide +kernel) (by decide +kernel) (fun T99 h99 b99 eb99 gb99 W99 K99 E99 D99 => ?_)
      have k100 : Fld Z h99 b99 "java/lang/String" "coder" "B" (.int (0 : Int32)) := D99 (Or.inr (hw _ (mI 30 rfl))) (ty := .byte) (by decide +kernel)
      have k101 : Fld Z h99 b99 "java/lang/String" "value" "[B" .null := D99 (Or.inr (hw _ (mI 32 rfl))) (ty := (.array .byte)) (by decide +kernel)
      refine gof T99 m 95 #[vi i0, vi i1, vi i2, vi i3, vi i4, vi 0, vi y3, vi y5, vi 2, vr b91, U0, U0, U0, U0, U0, U0, U0] [(.ref b91), (.ref b99), (.ref b99), (.ref b96), (.ref b96)] (fun _ kk => XS.dup W99.here hx rfl (hb hby at_92) rfl rfl (XS.aload W99.here hx rfl (hb hby at_93) rfl rfl kk)) ?_
      have k103 := ((V95.keep K96 nin0).keep K99 nin0)
      refine W99.newStr hx hws (hw _ (mI 5 rfl)) SC hzc (hw _ (mI 7 rfl)) (hw _ (mI 8 rfl)) (hw _ (mI 9 rfl)) E99 k101 k100 (cs := [q92, q94]) (n := 2) k103 rfl rfl (by decide +kernel) (by decide +kernel) (allSi cq92 (allSi cq94 all0i)) gb99.1 (Or.inr gb99.2) (mI 0 rfl) (by decide +kernel) (Wd := 3) (by decide +kernel) (by decide +kernel) (by decide +kernel) rfl (by rw [hml]; rfl) rfl (by show 2 * 0 + _ ≤ _; exact Nat.le_of_eq rfl) (hb hby at_95) (fun T102 h102 W102 K102 S102 => ?_)
      refine gof T102 m 100 #[vi i0, vi i1, vi i2, vi i3, vi i4, vi 0, vi y3, vi y5, vi 2, vr b91, U0, U0, U0, U0, U0, U0, U0] [(.int y5), (.ref b99), (.ref b96), (.ref b96)] (fun _ kk => XS.iload W102.here hx rfl (hb hby at_98) rfl kk) ?_
      have k105 := ((E96.keep K99).keep K102)
      have k106 := ((k97.keep K99 nin0).keep K102 (ninS (ne_of_born (Nat.le_of_eq eb99.symm) E96.lt (Nat.le_refl _)) nin0))
      have k107 := ((k98.keep K99 nin0).keep K102 (ninS (ne_of_born (Nat.le_of_eq eb99.symm) E96.lt (Nat.le_refl _)) nin0))
      refine W102.callP hx hEL rfl (hw _ (mI 33 rfl)) (hw _ (mI 34 rfl)) (hw _ (mI 3 rfl)) (hw _ (mI 35 rfl)) (by decide +kernel) (a := b96) (argsL := [(.ref b99), (.int y5)]) (rest := [(.ref b96)]) (rm11 l Z a0 hw hEL zc SC hzc fm SF rfm b96 b99 y5 h102 W102.old k105 k106 k107 gb96.1 nz_p fz_p) all0 (by decide +kernel) (Wd := 1) (by decide +kernel) (by decide +kernel) (by decide +kernel) (allS ⟨gb96.1, (Or.inr gb96.2)⟩ all0) rfl (by rw [hml]; rfl) (lenOf pd18 rfl) rfl (by show 2 * 0 + _ ≤ _; exact Nat.le_of_eq rfl) (hb hby at_100) (fun T104 h104 v104 P104 Ws104 K104 q104 => ?_)
      have W104 := Ws104 [] all0
      obtain rfl := q104
      refine gof T104 m 135 #[vi i0, vi i1, vi i2, vi i3, vi i4, vi 0, vi y3, vi y5, vi 2, vr b91, vr b96, vN, U0, U0, U0, U0, U0] [(.int (i4 &&& (255 : Int32)))] (fun _ kk => XS.astore W104.here hx rfl (hb hby at_103) rfl rfl (l' := #[.val (.int i0), .val (.int i1), .val (.int i2), .val (.int i3), .val (.int i4), .val (.int 0), .val (.int y3), .val (.int y5), .val (.int 2), .val (.ref b91), .val (.ref b96), .unset, .unset, .unset, .unset, .unset, .unset]) rfl (XS.iload W104.here hx rfl (hb hby at_105) rfl (XS.ifYes W104.here hx rfl (pc0 := 107) (pc' := 126) rfl (hb hby at_107) rfl (XT.i0_eq_t (by decide +kernel)) (by decide +kernel) (by decide +kernel) (XS.aconstNull W104.here hx rfl (hb hby at_126) (XS.astore W104.here hx rfl (hb hby at_127) rfl rfl (l' := #[.val (.int i0), .val (.int i1), .val (.int i2), .val (.int i3), .val (.int i4), .val (.int 0), .val (.int y3), .val (.int y5), .val (.int 2), .val (.ref b91), .val (.ref b96), .val .null, .unset, .unset, .unset, .unset, .unset]) rfl (XS.iload W104.here hx rfl (hb hby at_129) rfl (XS.sipush W104.here hx rfl (hb hby at_131) (XS.iand W104.here hx rfl (hb hby at_134) rfl kk)))))))) ?_
      refine gof T104 m 136 #[vi i0, vi i1, vi i2, vi i3, vi i4, vi 0, vi y3, vi y5, vi 2, vr b91, vr b96, vN, U0, U0, U0, U0, U0] [(.int ((i4 &&& (255 : Int32)).toUInt32.toUInt16.toUInt32.toInt32))] (fun _ kk => XS.i2c W104.here hx rfl (hb hby at_135) rfl kk) ?_
      rw [hq94]
      show Go p e below _ (T104.setTop (mkF m 136 #[vi i0, vi i1, vi i2, vi i3, vi i4, vi 0, vi y3, vi y5, vi 2, vr b91, vr b96, vN, U0, U0, U0, U0, U0] [(.int q94)]))
      refine W104.callS hx hEL (hw _ (mI 46 rfl)) (hw _ (mI 47 rfl)) (hw _ (mI 6 rfl)) (hw _ (mI 48 rfl)) (by decide +kernel) (argsL := [(.int q94)]) (rest := []) (rm27 l Z a0 hw hEL zc SC hzc fm SF rfm q94 h104 W104.old cq94) all0 (by decide +kernel) (Wd := 0) (by decide +kernel) (by decide +kernel) (by decide +kernel) all0 rfl (by rw [hml]; rfl) (lenOf pd19 rfl) rfl (by show 2 * 0 + _ ≤ _; exact Nat.le_of_eq rfl) (hb hby at_136) (fun T108 h108 v108 P108 Ws108 K108 q108 => ?_)
      have W108 := Ws108 [] all0
      obtain ⟨r108, rfl, lr108, S108⟩ := q108
      have gr108 : n0 ≤ r108 ∧ s.heap.size ≤ r108 := ⟨Nat.le_trans W104.n0le lr108, Nat.le_trans W104.s0le lr108⟩
      have E108 := S108.exa
      refine gof T108 m 141 #[vi i0, vi i1, vi i2, vi i3, vi i4, vi 0, vi y3, vi y5, vi 2, vr b91, vr b96, vN, vr r108, U0, U0, U0, U0] [] (fun _ kk => XS.astore W108.here hx rfl (hb hby at_139) rfl rfl (l' := #[.val (.int i0), .val (.int i1), .val (.int i2), .val (.int i3), .val (.int i4), .val (.int 0), .val (.int y3), .val (.int y5), .val (.int 2), .val (.ref b91), .val (.ref b96), .val .null, .val (.ref r108), .unset, .unset, .unset, .unset]) rfl kk) ?_
      refine W108.newO hx (hw _ (mI 60 rfl)) (hw _ (mI 61 rfl)) (hw _ (mI 62 rfl)) rfl (hb hby at_141) (by decide +kernel) (by decide +kernel) (fun T109 h109 b109 eb109 gb109 W109 K109 E109 D109 => ?_)
      have k110 : Fld Z h109 b109 "java/util/AbstractList" "modCount" "I" (.int (0 : Int32)) := D109 (Or.inl (hw _ (mI 80 rfl))) (ty := .int) (by decide +kernel)
      have k111 : Fld Z h109 b109 "java/util/ArrayList" "elementData" "[Ljava/lang/Object;" .null := D109 (Or.inl (hw _ (mI 83 rfl))) (ty := (.array (.object "java/lang/Object"))) (by decide +kernel)
      have k112 : Fld Z h109 b109 "java/util/ArrayList" "size" "I" (.int (0 : Int32)) := D109 (Or.inl (hw _ (mI 115 rfl))) (ty := .int) (by decide +kernel)
      refine gof T109 m 145 #[vi i0, vi i1, vi i2, vi i3, vi i4, vi 0, vi y3, vi y5, vi 2, vr b91, vr b96, vN, vr r108, U0, U0, U0, U0] [(.ref b109), (.ref b109)] (fun _ kk => XS.dup W109.here hx rfl (hb hby at_144) rfl rfl kk) ?_
      refine W109.callP hx hEL rfl (hw _ (mI 63 rfl)) (hw _ (mI 64 rfl)) (hw _ (mI 62 rfl)) (hw _ (mI 65 rfl)) (by decide +kernel) (a := b109) (argsL := []) (rest := [(.ref b109)]) (rm19 l Z a0 hw hEL zc SC hzc fm SF rfm b109 dfl el em mir gr de kdf h109 W109.old OD OS OL OM OI OG OE E109 k110 k111 k112 gb109.1) all0 (by decide +kernel) (Wd := 1) (by decide +kernel) (by decide +kernel) (by decide +kernel) (allS ⟨gb109.1, (Or.inr gb109.2)⟩ all0) rfl (by rw [hml]; rfl) (lenOf pd3 rfl) rfl (by show 2 * 0 + _ ≤ _; exact Nat.le_of_eq rfl) (hb hby at_145) (fun T113 h113 v113 P113 Ws113 K113 q113 => ?_)
      have W113 := Ws113 [] all0
      obtain ⟨rfl, Fe113, Fs113, Fm113⟩ := q113
      refine gof T113 m 158 #[vi i0, vi i1, vi i2, vi i3, vi i4, vi 0, vi y3, vi y5, vi 2, vr b91, vr b96, vN, vr r108, vr b109, U0, U0, U0] [(.ref b109)] (fun _ kk => XS.astore W113.here hx rfl (hb hby at_148) rfl rfl (l' := #[.val (.int i0), .val (.int i1), .val (.int i2), .val (.int i3), .val (.int i4), .val (.int 0), .val (.int y3), .val (.int y5), .val (.int 2), .val (.ref b91), .val (.ref b96), .val .null, .val (.ref r108), .val (.ref b109), .unset, .unset, .unset]) rfl (XS.iload W113.here hx rfl (hb hby at_150) rfl (XS.iconst W113.here hx rfl (hb hby at_152) (XS.icmpNo W113.here hx rfl (hb hby at_153) rfl (XT.ii_lt_f (by decide +kernel)) (XS.aload W113.here hx rfl (hb hby at_156) rfl rfl kk))))) ?_
      refine W113.newO hx (hw _ (mI 148 rfl)) (hw _ (mI 149 rfl)) (hw _ (mI 150 rfl)) rfl (hb hby at_158) (by decide +kernel) (by decide +kernel) (fun T114 h114 b114 eb114 gb114 W114 K114 E114 D114 => ?_)
      have k115 : Fld Z h114 b114 "org/portcullis/acl/ObjectIdentity" "type" "Ljava/lang/String;" .null := D114 (Or.inr (hw _ (mI 159 rfl))) (ty := (.object "java/lang/String")) (by decide +kernel)
      have k116 : Fld Z h114 b114 "org/portcullis/acl/ObjectIdentity" "id" "Ljava/lang/String;" .null := D114 (Or.inr (hw _ (mI 161 rfl))) (ty := (.object "java/lang/String")) (by decide +kernel)
      refine gof T114 m 164 #[vi i0, vi i1, vi i2, vi i3, vi i4, vi 0, vi y3, vi y5, vi 2, vr b91, vr b96, vN, vr r108, vr b109, U0, U0, U0] [(.ref r108), (.ref b114), (.ref b114), (.ref b109)] (fun _ kk => XS.dup W114.here hx rfl (hb hby at_161) rfl rfl (XS.aload W114.here hx rfl (hb hby at_162) rfl rfl kk)) ?_
      refine W114.ldcO hx hEL (hw _ (mI 151 rfl)) hSA rfl (hb hby at_164) (n := 4) (by decide +kernel) (by decide +kernel) (by decide +kernel) (by decide +kernel) (fun T117 h117 b117 W117 K117 => ?_)
      show Go p e below _ (T117.setTop (mkF m 166 #[vi i0, vi i1, vi i2, vi i3, vi i4, vi 0, vi y3, vi y5, vi 2, vr b91, vr b96, vN, vr r108, vr b109, U0, U0, U0] [(.ref b117), (.ref r108), (.ref b114), (.ref b114), (.ref b109)]))
      have k119 := (E114.keep K117)
      have k120 := (k115.keep K117 nin0)
      have k121 := (k116.keep K117 nin0)
      refine W117.callP hx hEL rfl (hw _ (mI 154 rfl)) (hw _ (mI 155 rfl)) (hw _ (mI 150 rfl)) (hw _ (mI 156 rfl)) (by decide +kernel) (a := b114) (argsL := [(.ref r108), (.ref b117)]) (rest := [(.ref b114), (.ref b109)]) (rm14 l Z a0 hw hEL zc SC hzc fm SF rfm b114 r108 b117 h117 W117.old k119 k120 k121 gb114.1) all0 (by decide +kernel) (Wd := 2) (by decide +kernel) (by decide +kernel) (by decide +kernel) (allS ⟨gb114.1, (Or.inr gb114.2)⟩ all0) rfl (by rw [hml]; rfl) (lenOf pd22 rfl) rfl (by show 2 * 0 + _ ≤ _; exact Nat.le_of_eq rfl) (hb hby at_166) (fun T118 h118 v118 P118 Ws118 K118 q118 => ?_)
      have W118 := Ws118 [] all0
      obtain rfl := q118
      show Go p e below _ (T118.setTop (mkF m 169 #[vi i0, vi i1, vi i2, vi i3, vi i4, vi 0, vi y3, vi y5, vi 2, vr b91, vr b96, vN, vr r108, vr b109, U0, U0, U0] [(.ref b114), (.ref b109)]))
      have k123 := ((((E109.keep K113).keep K114).keep K117).keep K118)
      have k124 := (((Fe113.keep K114 nin0).keep K117 nin0).keep K118 (ninS (ne_of_born (Nat.le_of_eq eb114.symm) E109.lt K113.1) nin0))
      have k125 := (((Fs113.keep K114 nin0).keep K117 nin0).keep K118 (ninS (ne_of_born (Nat.le_of_eq eb114.symm) E109.lt K113.1) nin0))
      have k126 := (((Fm113.keep K114 nin0).keep K117 nin0).keep K118 (ninS (ne_of_born (Nat.le_of_eq eb114.symm) E109.lt K113.1) nin0))
      have k127 := (k119.keep K118)
      refine W118.callV hx hEL (hw _ (mI 162 rfl)) (hw _ (mI 163 rfl)) (hw _ (mI 165 rfl)) (hw _ (mI 164 rfl)) (hw _ (mI 62 rfl)) (hw _ (mI 166 rfl)) (by decide +kernel) k123 (a := b109) (argsL := [(.ref b114)]) (rest := []) (rm43 l Z a0 hw hEL zc SC hzc fm SF rfm b109 b114 (0 : Int32) dfl el em mir gr de kdf h118 W118.old OD OS OL OM OI OG OE k123 k124 k125 k126 k127 gb109.1) all0 (by decide +kernel) (Wd := 0) (by decide +kernel) (by decide +kernel) (by decide +kernel) (allS ⟨gb109.1, (Or.inr gb109.2)⟩ all0) rfl (by rw [hml]; rfl) (lenOf pd23 rfl) rfl (by show 2 * 0 + _ ≤ _; exact Nat.le_of_eq rfl) (hb hby at_169) (fun T122 h122 v122 P122 Ws122 K122 q122 => ?_)
      have W122 := Ws122 [] all0
      obtain ⟨t122, kt122, rfl, lt122, Fe122, Fs122, Fm122, A122, Ov122, Ex122⟩ := q122
      have gt122 : n0 ≤ t122 ∧ s.heap.size ≤ t122 := ⟨Nat.le_trans W118.n0le lt122, Nat.le_trans W118.s0le lt122⟩
      refine gof T122 m 181 #[vi i0, vi i1, vi i2, vi i3, vi i4, vi 0, vi y3, vi y5, vi 2, vr b91, vr b96, vN, vr r108, vr b109, U0, U0, U0] [(.ref b109)] (fun _ kk => XS.pop W122.here hx rfl (hb hby at_172) rfl rfl (XS.iload W122.here hx rfl (hb hby at_173) rfl (XS.iconst W122.here hx rfl (hb hby at_175) (XS.icmpNo W122.here hx rfl (hb hby at_176) rfl (XT.ii_lt_f (by decide +kernel)) (XS.aload W122.here hx rfl (hb hby at_179) rfl rfl kk))))) ?_
      refine W122.newO hx (hw _ (mI 148 rfl)) (hw _ (mI 149 rfl)) (hw _ (mI 150 rfl)) rfl (hb hby at_181) (by decide +kernel) (by decide +kernel) (fun T128 h128 b128 eb128 gb128 W128 K128 E128 D128 => ?_)
      have k129 : Fld Z h128 b128 "org/portcullis/acl/ObjectIdentity" "type" "Ljava/lang/String;" .null := D128 (Or.inr (hw _ (mI 159 rfl))) (ty := (.object "java/lang/String")) (by decide +kernel)
      have k130 : Fld Z h128 b128 "org/portcullis/acl/ObjectIdentity" "id" "Ljava/lang/String;" .null := D128 (Or.inr (hw _ (mI 161 rfl))) (ty := (.object "java/lang/String")) (by decide +kernel)
      refine gof T128 m 187 #[vi i0, vi i1, vi i2, vi i3, vi i4, vi 0, vi y3, vi y5, vi 2, vr b91, vr b96, vN, vr r108, vr b109, U0, U0, U0] [(.ref r108), (.ref b128), (.ref b128), (.ref b109)] (fun _ kk => XS.dup W128.here hx rfl (hb hby at_184) rfl rfl (XS.aload W128.here hx rfl (hb hby at_185) rfl rfl kk)) ?_
      refine W128.ldcO hx hEL (hw _ (mI 262 rfl)) hSA rfl (hb hby at_187) (n := 4) (by decide +kernel) (by decide +kernel) (by decide +kernel) (by decide +kernel) (fun T131 h131 b131 W131 K131 => ?_)
      show Go p e below _ (T131.setTop (mkF m 189 #[vi i0, vi i1, vi i2, vi i3, vi i4, vi 0, vi y3, vi y5, vi 2, vr b91, vr b96, vN, vr r108, vr b109, U0, U0, U0] [(.ref b131), (.ref r108), (.ref b128), (.ref b128), (.ref b109)]))
      have k133 := (E128.keep K131)
      have k134 := (k129.keep K131 nin0)
      have k135 := (k130.keep K131 nin0)
      refine W131.callP hx hEL rfl (hw _ (mI 154 rfl)) (hw _ (mI 155 rfl)) (hw _ (mI 150 rfl)) (hw _ (mI 156 rfl)) (by decide +kernel) (a := b128) (argsL := [(.ref r108), (.ref b131)]) (rest := [(.ref b128), (.ref b109)]) (rm14 l Z a0 hw hEL zc SC hzc fm SF rfm b128 r108 b131 h131 W131.old k133 k134 k135 gb128.1) all0 (by decide +kernel) (Wd := 2) (by decide +kernel) (by decide +kernel) (by decide +kernel) (allS ⟨gb128.1, (Or.inr gb128.2)⟩ all0) rfl (by rw [hml]; rfl) (lenOf pd22 rfl) rfl (by show 2 * 0 + _ ≤ _; exact Nat.le_of_eq rfl) (hb hby at_189) (fun T132 h132 v132 P132 Ws132 K132 q132 => ?_)
      have W132 := Ws132 [] all0
      obtain rfl := q132
      show Go p e below _ (T132.setTop (mkF m 192 #[vi i0, vi i1, vi i2, vi i3, vi i4, vi 0, vi y3, vi y5, vi 2, vr b91, vr b96, vN, vr r108, vr b109, U0, U0, U0] [(.ref b128), (.ref b109)]))
      have k137 := ((((k123.keep K122).keep K128).keep K131).keep K132)
      have k138 := (((Fe122.keep K128 nin0).keep K131 nin0).keep K132 (ninS (ne_of_born (Nat.le_of_eq eb128.symm) E109.lt (Nat.le_trans (Nat.le_trans (Nat.le_trans (Nat.le_trans K113.1 K114.1) K117.1) K118.1) K122.1)) nin0))
      have k139 := (((Fs122.keep K128 nin0).keep K131 nin0).keep K132 (ninS (ne_of_born (Nat.le_of_eq eb128.symm) E109.lt (Nat.le_trans (Nat.le_trans (Nat.le_trans (Nat.le_trans K113.1 K114.1) K117.1) K118.1) K122.1)) nin0))
      have k140 := (((Fm122.keep K128 nin0).keep K131 nin0).keep K132 (ninS (ne_of_born (Nat.le_of_eq eb128.symm) E109.lt (Nat.le_trans (Nat.le_trans (Nat.le_trans (Nat.le_trans K113.1 K114.1) K117.1) K118.1) K122.1)) nin0))
      have k141 := (((A122.keep K128 nin0).keep K131 nin0).keep K132 (ninS (ne_of_born (Nat.le_of_eq eb128.symm) A122.lt (Nat.le_refl _)) nin0))
      have k142 := (k133.keep K132)
      refine W132.callV hx hEL (hw _ (mI 162 rfl)) (hw _ (mI 163 rfl)) (hw _ (mI 165 rfl)) (hw _ (mI 164 rfl)) (hw _ (mI 62 rfl)) (hw _ (mI 166 rfl)) (by decide +kernel) k137 (a := b109) (argsL := [(.ref b128)]) (rest := []) (rm44 l Z a0 hw hEL zc SC hzc fm SF rfm b109 t122 kt122 ((0 : Int32) + (1 : Int32)) b114 b128 h132 W132.old k137 k138 k139 k140 k141 Ov122 k142 gb109.1 gt122.1 (ne_of_born lt122 E109.lt (Nat.le_trans (Nat.le_trans (Nat.le_trans K113.1 K114.1) K117.1) K118.1))) all0 (by decide +kernel) (Wd := 0) (by decide +kernel) (by decide +kernel) (by decide +kernel) (allS ⟨gb109.1, (Or.inr gb109.2)⟩ (allS ⟨gt122.1, (Or.inr gt122.2)⟩ all0)) rfl (by rw [hml]; rfl) (lenOf pd23 rfl) rfl (by show 2 * 0 + _ ≤ _; exact Nat.le_of_eq rfl) (hb hby at_192) (fun T136 h136 v136 P136 Ws136 K136 q136 => ?_)
      have W136 := Ws136 [] all0
      obtain ⟨rfl, Fe136, Fs136, Fm136, A136⟩ := q136
      refine gof T136 m 219 #[vi i0, vi i1, vi i2, vi i3, vi i4, vi 0, vi y3, vi y5, vi 2, vr b91, vr b96, vN, vr r108, vr b109, U0, U0, U0] [] (fun _ kk => XS.pop W136.here hx rfl (hb hby at_195) rfl rfl (XS.iload W136.here hx rfl (hb hby at_196) rfl (XS.iconst W136.here hx rfl (hb hby at_198) (XS.icmpYes W136.here hx rfl (pc0 := 199) (pc' := 219) rfl (hb hby at_199) rfl (XT.ii_lt_t (by decide +kernel)) (by decide +kernel) (by decide +kernel) kk)))) ?_
      refine W136.newO hx (hw _ (mI 84 rfl)) (hw _ (mI 85 rfl)) (hw _ (mI 86 rfl)) rfl (hb hby at_219) (by decide +kernel) (by decide +kernel) (fun T143 h143 b143 eb143 gb143 W143 K143 E143 D143 => ?_)
      have k144 : Fld Z h143 b143 "org/portcullis/acl/Outcome" "iLevels" "Ljava/util/List;" .null := D143 (Or.inr (hw _ (mI 121 rfl))) (ty := (.object "java/util/List")) (by decide +kernel)
      have k145 : Fld Z h143 b143 "org/portcullis/acl/Outcome" "iEntry" "Lorg/portcullis/acl/AccessControlEntry;" .null := D143 (Or.inr (hw _ (mI 123 rfl))) (ty := (.object "org/portcullis/acl/AccessControlEntry")) (by decide +kernel)
      refine gof T143 m 227 #[vi i0, vi i1, vi i2, vi i3, vi i4, vi 0, vi y3, vi y5, vi 2, vr b91, vr b96, vN, vr r108, vr b109, U0, U0, U0] [.null, (.ref b109), (.ref b143), (.ref b143)] (fun _ kk => XS.dup W143.here hx rfl (hb hby at_222) rfl rfl (XS.aload W143.here hx rfl (hb hby at_223) rfl rfl (XS.aload W143.here hx rfl (hb hby at_225) rfl rfl kk))) ?_
      have k147 := ((k137.keep K136).keep K143)
      have k148 := (Fe136.keep K143 nin0)
      have k149 := (Fs136.keep K143 nin0)
      have k150 := (A136.keep K143 nin0)
      have k151 := (((((Ex122.keep K128).keep K131).keep K132).keep K136).keep K143)
      have k152 := ((((((k127.keep K122).keep K128).keep K131).keep K132).keep K136).keep K143)
      have k153 := ((k142.keep K136).keep K143)
      refine W143.callP hx hEL rfl (hw _ (mI 87 rfl)) (hw _ (mI 88 rfl)) (hw _ (mI 86 rfl)) (hw _ (mI 89 rfl)) (by decide +kernel) (a := b143) (argsL := [(.ref b109), .null]) (rest := [(.ref b143)]) (rm90 l Z a0 hw hEL zc SC hzc fm SF rfm b143 b109 t122 kt122 b114 b128 .null dfl el em mir gr de kdf h143 W143.old OD OS OL OM OI OG OE rfl k147 k148 k149 k150 k151 k152 k153 E143 k144 k145 gb143.1) all0 (by decide +kernel) (Wd := 1) (by decide +kernel) (by decide +kernel) (by decide +kernel) (allS ⟨gb143.1, (Or.inr gb143.2)⟩ all0) rfl (by rw [hml]; rfl) (lenOf pd20 rfl) rfl (by show 2 * 0 + _ ≤ _; exact Nat.le_of_eq rfl) (hb hby at_227) (fun T146 h146 v146 P146 Ws146 K146 q146 => ?_)
      have W146 := Ws146 [] all0
      obtain ⟨rfl, Fi146⟩ := q146
      refine gof T146 m 234 #[vi i0, vi i1, vi i2, vi i3, vi i4, vi 0, vi y3, vi y5, vi 2, vr b91, vr b96, vN, vr r108, vr b109, vr b143, U0, U0] [(.ref b143)] (fun _ kk => XS.astore W146.here hx rfl (hb hby at_230) rfl rfl (l' := #[.val (.int i0), .val (.int i1), .val (.int i2), .val (.int i3), .val (.int i4), .val (.int 0), .val (.int y3), .val (.int y5), .val (.int 2), .val (.ref b91), .val (.ref b96), .val .null, .val (.ref r108), .val (.ref b109), .val (.ref b143), .unset, .unset]) rfl (XS.aload W146.here hx rfl (hb hby at_232) rfl rfl kk)) ?_
      have k155 := (E143.keep K146)
      refine W146.callV hx hEL (hw _ (mI 124 rfl)) (hw _ (mI 125 rfl)) (hw _ (mI 127 rfl)) (hw _ (mI 126 rfl)) (hw _ (mI 86 rfl)) (hw _ (mI 128 rfl)) (by decide +kernel) k155 (a := b143) (argsL := []) (rest := []) (rm96 l Z a0 hw hEL zc SC hzc fm SF rfm b143 dfl el em mir gr de kdf h146 W146.old OD OS OL OM OI OG OE Fi146) all0 (by decide +kernel) (Wd := 0) (by decide +kernel) (by decide +kernel) (by decide +kernel) all0 rfl (by rw [hml]; rfl) (lenOf pd21 rfl) rfl (by show 2 * 0 + _ ≤ _; exact Nat.le_of_eq rfl) (hb hby at_234) (fun T154 h154 v154 P154 Ws154 K154 q154 => ?_)
      have W154 := Ws154 [] all0
      obtain ⟨rfl, rfl⟩ := q154
      refine gof T154 m 255 #[vi i0, vi i1, vi i2, vi i3, vi i4, vi 0, vi y3, vi y5, vi 2, vr b91, vr b96, vN, vr r108, vr b109, vr b143, vr de, U0] [] (fun _ kk => XS.astore W154.here hx rfl (hb hby at_237) rfl rfl (l' := #[.val (.int i0), .val (.int i1), .val (.int i2), .val (.int i3), .val (.int i4), .val (.int 0), .val (.int y3), .val (.int y5), .val (.int 2), .val (.ref b91), .val (.ref b96), .val .null, .val (.ref r108), .val (.ref b109), .val (.ref b143), .val (.ref de), .unset]) rfl (XS.iload W154.here hx rfl (hb hby at_239) rfl (XS.ifYes W154.here hx rfl (pc0 := 241) (pc' := 255) rfl (hb hby at_241) rfl (XT.i0_eq_t (by decide +kernel)) (by decide +kernel) (by decide +kernel) kk))) ?_
      refine W154.getS hx (host := "") (Or.inl (hw _ (mI 132 rfl))) Via.refl OE rfl (hb hby at_255) (fun T156 W156 => ?_)
      refine gof T156 m 269 #[vi i0, vi i1, vi i2, vi i3, vi i4, vi 0, vi y3, vi y5, vi 2, vr b91, vr b96, vN, vr r108, vr b109, vr b143, vr de, vr de] [(.ref b143)] (fun _ kk => XS.astore W156.here hx rfl (hb hby at_258) rfl rfl (l' := #[.val (.int i0), .val (.int i1), .val (.int i2), .val (.int i3), .val (.int i4), .val (.int 0), .val (.int y3), .val (.int y5), .val (.int 2), .val (.ref b91), .val (.ref b96), .val .null, .val (.ref r108), .val (.ref b109), .val (.ref b143), .val (.ref de), .val (.ref de)]) rfl (XS.aload W156.here hx rfl (hb hby at_260) rfl rfl (XS.aload W156.here hx rfl (hb hby at_262) rfl rfl (XT.acmpNo (g := (mkF m 264 #[vi i0, vi i1, vi i2, vi i3, vi i4, vi 0, vi y3, vi y5, vi 2, vr b91, vr b96, vN, vr r108, vr b109, vr b143, vr de, vr de] [(.ref de), (.ref de)])) W156.here hx rfl (hb hby at_264) (x := (.ref de)) (y := (.ref de)) (rest := []) rfl rfl rfl (XT.aa_ne_f (x := (.ref de)) (y := (.ref de)) rfl) (XS.aload W156.here hx rfl (hb hby at_267) rfl rfl kk))))) ?_
      refine W156.callV hx hEL (hw _ (mI 124 rfl)) (hw _ (mI 125 rfl)) (hw _ (mI 127 rfl)) (hw _ (mI 126 rfl)) (hw _ (mI 86 rfl)) (hw _ (mI 128 rfl)) (by decide +kernel) k155 (a := b143) (argsL := []) (rest := []) (rm96 l Z a0 hw hEL zc SC hzc fm SF rfm b143 dfl el em mir gr de kdf h146 W156.old OD OS OL OM OI OG OE Fi146) all0 (by decide +kernel) (Wd := 0) (by decide +kernel) (by decide +kernel) (by decide +kernel) all0 rfl (by rw [hml]; rfl) (lenOf pd21 rfl) rfl (by show 2 * 0 + _ ≤ _; exact Nat.le_of_eq rfl) (hb hby at_269) (fun T157 h157 v157 P157 Ws157 K157 q157 => ?_)
      have W157 := Ws157 [] all0
      obtain ⟨rfl, rfl⟩ := q157
      refine gof T157 m 282 #[vi i0, vi i1, vi i2, vi i3, vi i4, vi 0, vi y3, vi y5, vi 2, vr b91, vr b96, vN, vr r108, vr b109, vr b143, vr de, vr de] [(.int 1)] (fun _ kk => XS.aload W157.here hx rfl (hb hby at_272) rfl rfl (XT.acmpNo (g := (mkF m 274 #[vi i0, vi i1, vi i2, vi i3, vi i4, vi 0, vi y3, vi y5, vi 2, vr b91, vr b96, vN, vr r108, vr b109, vr b143, vr de, vr de] [(.ref de), (.ref de)])) W157.here hx rfl (hb hby at_274) (x := (.ref de)) (y := (.ref de)) (rest := []) rfl rfl rfl (XT.aa_ne_f (x := (.ref de)) (y := (.ref de)) rfl) (XS.iconst W157.here hx rfl (hb hby at_277) (XS.goto W157.here hx rfl (pc0 := 278) (pc' := 282) rfl (hb hby at_278) (by decide +kernel) (by decide +kernel) kk)))) ?_
      exact W157.retI hx hEL hs hlk (by decide +kernel) (by decide +kernel) hret (by simp) rfl (hb hby at_282) (fun S hS => rfl)
    · rw [z6]
      refine gof T0 m 60 #[vi i0, vi i1, vi i2, vi i3, vi i4, vi 0, vi y3, vi y5, vi 3, U0, U0, U0, U0, U0, U0, U0, U0] [(.int 2)] (fun _ kk => XS.istore W0.here hx rfl (hb hby at_44) rfl (l' := #[.val (.int i0), .val (.int i1), .val (.int i2), .val (.int i3), .val (.int i4), .val (.int 0), .val (.int y3), .val (.int y5), .val (.int 3), .unset, .unset, .unset, .unset, .unset, .unset, .unset, .unset]) rfl (XS.iload W0.here hx rfl (hb hby at_46) rfl (XS.ifYes W0.here hx rfl (pc0 := 48) (pc' := 59) rfl (hb hby at_48) rfl (XT.i0_eq_t (by decide +kernel)) (by decide +kernel) (by decide +kernel) (XS.iconst W0.here hx rfl (hb hby at_59) kk)))) ?_
      refine W0.newP hx (hw _ (mI 0 rfl)) rfl (hb hby at_60) rfl (by decide +kernel) (cap := 2) (by decide +kernel) (by decide +kernel) (by decide +kernel) (by decide +kernel) (fun T158 h158 b158 c158 eb158 gb158 W158 K158 A158 => ?_)
      have V158 : Arv Z h158 b158 c158 .char (2 : Int32) [(.int (0 : Int32)), (.int (0 : Int32))] (.int (0 : Int32)) := A158
      refine gof T158 m 73 #[vi i0, vi i1, vi i2, vi i3, vi i4, vi 0, vi y3, vi y5, vi 3, vr b158, U0, U0, U0, U0, U0, U0, U0] [(.int ((i3 &&& (255 : Int32)).toUInt32.toUInt16.toUInt32.toInt32)), (.int 0), (.ref b158)] (fun _ kk => XS.astore W158.here hx rfl (hb hby at_62) rfl rfl (l' := #[.val (.int i0), .val (.int i1), .val (.int i2), .val (.int i3), .val (.int i4), .val (.int 0), .val (.int y3), .val (.int y5), .val (.int 3), .val (.ref b158), .unset, .unset, .unset, .unset, .unset, .unset, .unset]) rfl (XS.aload W158.here hx rfl (hb hby at_64) rfl rfl (XS.iconst W158.here hx rfl (hb hby at_66) (XS.iloadN W158.here hx rfl (hb hby at_67) rfl (XS.sipush W158.here hx rfl (hb hby at_68) (XS.iand W158.here hx rfl (hb hby at_71) rfl (XS.i2c W158.here hx rfl (hb hby at_72) rfl kk))))))) ?_
      obtain ⟨q159, hq159, cq159, zq159⟩ := char255 i3
      rw [hq159]
      show Go p e below _ (T158.setTop (mkF m 73 #[vi i0, vi i1, vi i2, vi i3, vi i4, vi 0, vi y3, vi y5, vi 3, vr b158, U0, U0, U0, U0, U0, U0, U0] [(.int q159), (.int 0), (.ref b158)]))
      refine W158.stC hx V158 ⟨by decide, by decide⟩ 0 rfl (Nat.le_of_ble_eq_true rfl) gb158.1 (Or.inr gb158.2) rfl rfl (hb hby at_73) (fun T160 h160 W160 K160 A160 => ?_)
      have V160 : Arv Z h160 b158 c158 .char (2 : Int32) [(.int q159), (.int (0 : Int32))] (.int (0 : Int32)) := (by rw [(nar_char cq159)] at A160; exact A160)
      refine gof T160 m 84 #[vi i0, vi i1, vi i2, vi i3, vi i4, vi 0, vi y3, vi y5, vi 3, vr b158, U0, U0, U0, U0, U0, U0, U0] [(.int ((i4 &&& (255 : Int32)).toUInt32.toUInt16.toUInt32.toInt32)), (.int 1), (.ref b158)] (fun _ kk => XS.aload W160.here hx rfl (hb hby at_74) rfl rfl (XS.iconst W160.here hx rfl (hb hby at_76) (XS.iload W160.here hx rfl (hb hby at_77) rfl (XS.sipush W160.here hx rfl (hb hby at_79) (XS.iand W160.here hx rfl (hb hby at_82) rfl (XS.i2c W160.here hx rfl (hb hby at_83) rfl kk)))))) ?_
      obtain ⟨q161, hq161, cq161, zq161⟩ := char255 i4
      rw [hq161]
      show Go p e below _ (T160.setTop (mkF m 84 #[vi i0, vi i1, vi i2, vi i3, vi i4, vi 0, vi y3, vi y5, vi 3, vr b158, U0, U0, U0, U0, U0, U0, U0] [(.int q161), (.int 1), (.ref b158)]))
      refine W160.stC hx V160 ⟨by decide, by decide⟩ 1 rfl (Nat.le_of_ble_eq_true rfl) gb158.1 (Or.inr gb158.2) rfl rfl (hb hby at_84) (fun T162 h162 W162 K162 A162 => ?_)
      have V162 : Arv Z h162 b158 c158 .char (2 : Int32) [(.int q159), (.int q161)] (.int (0 : Int32)) := (by rw [(nar_char cq161)] at A162; exact A162)
      show Go p e below _ (T162.setTop (mkF m 85 #[vi i0, vi i1, vi i2, vi i3, vi i4, vi 0, vi y3, vi y5, vi 3, vr b158, U0, U0, U0, U0, U0, U0, U0] []))
      refine W162.newO hx (hw _ (mI 1 rfl)) (hw _ (mI 2 rfl)) (hw _ (mI 3 rfl)) rfl (hb hby at_85) (by decide +kernel) (by decide +kernel) (fun T163 h163 b163 eb163 gb163 W163 K163 E163 D163 => ?_)
      have k164 : Fld Z h163 b163 "org/portcullis/acl/Sid" "name" "Ljava/lang/String;" .null := D163 (Or.inr (hw _ (mI 43 rfl))) (ty := (.object "java/lang/String")) (by decide +kernel)
      have k165 : Fld Z h163 b163 "org/portcullis/acl/Sid" "principal" "Z" (.int (0 : Int32)) := D163 (Or.inr (hw _ (mI 45 rfl))) (ty := .boolean) (by decide +kernel)
      refine gof T163 m 89 #[vi i0, vi i1, vi i2, vi i3, vi i4, vi 0, vi y3, vi y5, vi 3, vr b158, U0, U0, U0, U0, U0, U0, U0] [(.ref b163), (.ref b163)] (fun _ kk => XS.dup W163.here hx rfl (hb hby at_88) rfl rfl kk) ?_
      refine W163.newO hx (hw _ (mI 4 rfl)) (hw _ (mI 5 rfl)) (hw _ (mI 6 rfl)) rfl (hb hby at_89) (by decide +kernel) (by decide +kernel) (fun T166 h166 b166 eb166 gb166 W166 K166 E166 D166 => ?_)
      have k167 : Fld Z h166 b166 "java/lang/String" "coder" "B" (.int (0 : Int32)) := D166 (Or.inr (hw _ (mI 30 rfl))) (ty := .byte) (by decide +kernel)
      have k168 : Fld Z h166 b166 "java/lang/String" "value" "[B" .null := D166 (Or.inr (hw _ (mI 32 rfl))) (ty := (.array .byte)) (by decide +kernel)
      refine gof T166 m 95 #[vi i0, vi i1, vi i2, vi i3, vi i4, vi 0, vi y3, vi y5, vi 3, vr b158, U0, U0, U0, U0, U0, U0, U0] [(.ref b158), (.ref b166), (.ref b166), (.ref b163), (.ref b163)] (fun _ kk => XS.dup W166.here hx rfl (hb hby at_92) rfl rfl (XS.aload W166.here hx rfl (hb hby at_93) rfl rfl kk)) ?_
      have k170 := ((V162.keep K163 nin0).keep K166 nin0)
      refine W166.newStr hx hws (hw _ (mI 5 rfl)) SC hzc (hw _ (mI 7 rfl)) (hw _ (mI 8 rfl)) (hw _ (mI 9 rfl)) E166 k168 k167 (cs := [q159, q161]) (n := 2) k170 rfl rfl (by decide +kernel) (by decide +kernel) (allSi cq159 (allSi cq161 all0i)) gb166.1 (Or.inr gb166.2) (mI 0 rfl) (by decide +kernel) (Wd := 3) (by decide +kernel) (by decide +kernel) (by decide +kernel) rfl (by rw [hml]; rfl) rfl (by show 2 * 0 + _ ≤ _; exact Nat.le_of_eq rfl) (hb hby at_95) (fun T169 h169 W169 K169 S169 => ?_)
      refine gof T169 m 100 #[vi i0, vi i1, vi i2, vi i3, vi i4, vi 0, vi y3, vi y5, vi 3, vr b158, U0, U0, U0, U0, U0, U0, U0] [(.int y5), (.ref b166), (.ref b163), (.ref b163)] (fun _ kk => XS.iload W169.here hx rfl (hb hby at_98) rfl kk) ?_
      have k172 := ((E163.keep K166).keep K169)
      have k173 := ((k164.keep K166 nin0).keep K169 (ninS (ne_of_born (Nat.le_of_eq eb166.symm) E163.lt (Nat.le_refl _)) nin0))
      have k174 := ((k165.keep K166 nin0).keep K169 (ninS (ne_of_born (Nat.le_of_eq eb166.symm) E163.lt (Nat.le_refl _)) nin0))
      refine W169.callP hx hEL rfl (hw _ (mI 33 rfl)) (hw _ (mI 34 rfl)) (hw _ (mI 3 rfl)) (hw _ (mI 35 rfl)) (by decide +kernel) (a := b163) (argsL := [(.ref b166), (.int y5)]) (rest := [(.ref b163)]) (rm11 l Z a0 hw hEL zc SC hzc fm SF rfm b163 b166 y5 h169 W169.old k172 k173 k174 gb163.1 nz_p fz_p) all0 (by decide +kernel) (Wd := 1) (by decide +kernel) (by decide +kernel) (by decide +kernel) (allS ⟨gb163.1, (Or.inr gb163.2)⟩ all0) rfl (by rw [hml]; rfl) (lenOf pd18 rfl) rfl (by show 2 * 0 + _ ≤ _; exact Nat.le_of_eq rfl) (hb hby at_100) (fun T171 h171 v171 P171 Ws171 K171 q171 => ?_)
      have W171 := Ws171 [] all0
      obtain rfl := q171
      refine gof T171 m 135 #[vi i0, vi i1, vi i2, vi i3, vi i4, vi 0, vi y3, vi y5, vi 3, vr b158, vr b163, vN, U0, U0, U0, U0, U0] [(.int (i4 &&& (255 : Int32)))] (fun _ kk => XS.astore W171.here hx rfl (hb hby at_103) rfl rfl (l' := #[.val (.int i0), .val (.int i1), .val (.int i2), .val (.int i3), .val (.int i4), .val (.int 0), .val (.int y3), .val (.int y5), .val (.int 3), .val (.ref b158), .val (.ref b163), .unset, .unset, .unset, .unset, .unset, .unset]) rfl (XS.iload W171.here hx rfl (hb hby at_105) rfl (XS.ifYes W171.here hx rfl (pc0 := 107) (pc' := 126) rfl (hb hby at_107) rfl (XT.i0_eq_t (by decide +kernel)) (by decide +kernel) (by decide +kernel) (XS.aconstNull W171.here hx rfl (hb hby at_126) (XS.astore W171.here hx rfl (hb hby at_127) rfl rfl (l' := #[.val (.int i0), .val (.int i1), .val (.int i2), .val (.int i3), .val (.int i4), .val (.int 0), .val (.int y3), .val (.int y5), .val (.int 3), .val (.ref b158), .val (.ref b163), .val .null, .unset, .unset, .unset, .unset, .unset]) rfl (XS.iload W171.here hx rfl (hb hby at_129) rfl (XS.sipush W171.here hx rfl (hb hby at_131) (XS.iand W171.here hx rfl (hb hby at_134) rfl kk)))))))) ?_
      refine gof T171 m 136 #[vi i0, vi i1, vi i2, vi i3, vi i4, vi 0, vi y3, vi y5, vi 3, vr b158, vr b163, vN, U0, U0, U0, U0, U0] [(.int ((i4 &&& (255 : Int32)).toUInt32.toUInt16.toUInt32.toInt32))] (fun _ kk => XS.i2c W171.here hx rfl (hb hby at_135) rfl kk) ?_
      rw [hq161]
      show Go p e below _ (T171.setTop (mkF m 136 #[vi i0, vi i1, vi i2, vi i3, vi i4, vi 0, vi y3, vi y5, vi 3, vr b158, vr b163, vN, U0, U0, U0, U0, U0] [(.int q161)]))
      refine W171.callS hx hEL (hw _ (mI 46 rfl)) (hw _ (mI 47 rfl)) (hw _ (mI 6 rfl)) (hw _ (mI 48 rfl)) (by decide +kernel) (argsL := [(.int q161)]) (rest := []) (rm27 l Z a0 hw hEL zc SC hzc fm SF rfm q161 h171 W171.old cq161) all0 (by decide +kernel) (Wd := 0) (by decide +kernel) (by decide +kernel) (by decide +kernel) all0 rfl (by rw [hml]; rfl) (lenOf pd19 rfl) rfl (by show 2 * 0 + _ ≤ _; exact Nat.le_of_eq rfl) (hb hby at_136) (fun T175 h175 v175 P175 Ws175 K175 q175 => ?_)
      have W175 := Ws175 [] all0
      obtain ⟨r175, rfl, lr175, S175⟩ := q175
      have gr175 : n0 ≤ r175 ∧ s.heap.size ≤ r175 := ⟨Nat.le_trans W171.n0le lr175, Nat.le_trans W171.s0le lr175⟩
      have E175 := S175.exa
      refine gof T175 m 141 #[vi i0, vi i1, vi i2, vi i3, vi i4, vi 0, vi y3, vi y5, vi 3, vr b158, vr b163, vN, vr r175, U0, U0, U0, U0] [] (fun _ kk => XS.astore W175.here hx rfl (hb hby at_139) rfl rfl (l' := #[.val (.int i0), .val (.int i1), .val (.int i2), .val (.int i3), .val (.int i4), .val (.int 0), .val (.int y3), .val (.int y5), .val (.int 3), .val (.ref b158), .val (.ref b163), .val .null, .val (.ref r175), .unset, .unset, .unset, .unset]) rfl kk) ?_
      refine W175.newO hx (hw _ (mI 60 rfl)) (hw _ (mI 61 rfl)) (hw _ (mI 62 rfl)) rfl (hb hby at_141) (by decide +kernel) (by decide +kernel) (fun T176 h176 b176 eb176 gb176 W176 K176 E176 D176 => ?_)
      have k177 : Fld Z h176 b176 "java/util/AbstractList" "modCount" "I" (.int (0 : Int32)) := D176 (Or.inl (hw _ (mI 80 rfl))) (ty := .int) (by decide +kernel)
      have k178 : Fld Z h176 b176 "java/util/ArrayList" "elementData" "[Ljava/lang/Object;" .null := D176 (Or.inl (hw _ (mI 83 rfl))) (ty := (.array (.object "java/lang/Object"))) (by decide +kernel)
      have k179 : Fld Z h176 b176 "java/util/ArrayList" "size" "I" (.int (0 : Int32)) := D176 (Or.inl (hw _ (mI 115 rfl))) (ty := .int) (by decide +kernel)
      refine gof T176 m 145 #[vi i0, vi i1, vi i2, vi i3, vi i4, vi 0, vi y3, vi y5, vi 3, vr b158, vr b163, vN, vr r175, U0, U0, U0, U0] [(.ref b176), (.ref b176)] (fun _ kk => XS.dup W176.here hx rfl (hb hby at_144) rfl rfl kk) ?_
      refine W176.callP hx hEL rfl (hw _ (mI 63 rfl)) (hw _ (mI 64 rfl)) (hw _ (mI 62 rfl)) (hw _ (mI 65 rfl)) (by decide +kernel) (a := b176) (argsL := []) (rest := [(.ref b176)]) (rm19 l Z a0 hw hEL zc SC hzc fm SF rfm b176 dfl el em mir gr de kdf h176 W176.old OD OS OL OM OI OG OE E176 k177 k178 k179 gb176.1) all0 (by decide +kernel) (Wd := 1) (by decide +kernel) (by decide +kernel) (by decide +kernel) (allS ⟨gb176.1, (Or.inr gb176.2)⟩ all0) rfl (by rw [hml]; rfl) (lenOf pd3 rfl) rfl (by show 2 * 0 + _ ≤ _; exact Nat.le_of_eq rfl) (hb hby at_145) (fun T180 h180 v180 P180 Ws180 K180 q180 => ?_)
      have W180 := Ws180 [] all0
      obtain ⟨rfl, Fe180, Fs180, Fm180⟩ := q180
      refine gof T180 m 158 #[vi i0, vi i1, vi i2, vi i3, vi i4, vi 0, vi y3, vi y5, vi 3, vr b158, vr b163, vN, vr r175, vr b176, U0, U0, U0] [(.ref b176)] (fun _ kk => XS.astore W180.here hx rfl (hb hby at_148) rfl rfl (l' := #[.val (.int i0), .val (.int i1), .val (.int i2), .val (.int i3), .val (.int i4), .val (.int 0), .val (.int y3), .val (.int y5), .val (.int 3), .val (.ref b158), .val (.ref b163), .val .null, .val (.ref r175), .val (.ref b176), .unset, .unset, .unset]) rfl (XS.iload W180.here hx rfl (hb hby at_150) rfl (XS.iconst W180.here hx rfl (hb hby at_152) (XS.icmpNo W180.here hx rfl (hb hby at_153) rfl (XT.ii_lt_f (by decide +kernel)) (XS.aload W180.here hx rfl (hb hby at_156) rfl rfl kk))))) ?_
      refine W180.newO hx (hw _ (mI 148 rfl)) (hw _ (mI 149 rfl)) (hw _ (mI 150 rfl)) rfl (hb hby at_158) (by decide +kernel) (by decide +kernel) (fun T181 h181 b181 eb181 gb181 W181 K181 E181 D181 => ?_)
      have k182 : Fld Z h181 b181 "org/portcullis/acl/ObjectIdentity" "type" "Ljava/lang/String;" .null := D181 (Or.inr (hw _ (mI 159 rfl))) (ty := (.object "java/lang/String")) (by decide +kernel)
      have k183 : Fld Z h181 b181 "org/portcullis/acl/ObjectIdentity" "id" "Ljava/lang/String;" .null := D181 (Or.inr (hw _ (mI 161 rfl))) (ty := (.object "java/lang/String")) (by decide +kernel)
      refine gof T181 m 164 #[vi i0, vi i1, vi i2, vi i3, vi i4, vi 0, vi y3, vi y5, vi 3, vr b158, vr b163, vN, vr r175, vr b176, U0, U0, U0] [(.ref r175), (.ref b181), (.ref b181), (.ref b176)] (fun _ kk => XS.dup W181.here hx rfl (hb hby at_161) rfl rfl (XS.aload W181.here hx rfl (hb hby at_162) rfl rfl kk)) ?_
      refine W181.ldcO hx hEL (hw _ (mI 151 rfl)) hSA rfl (hb hby at_164) (n := 4) (by decide +kernel) (by decide +kernel) (by decide +kernel) (by decide +kernel) (fun T184 h184 b184 W184 K184 => ?_)
      show Go p e below _ (T184.setTop (mkF m 166 #[vi i0, vi i1, vi i2, vi i3, vi i4, vi 0, vi y3, vi y5, vi 3, vr b158, vr b163, vN, vr r175, vr b176, U0, U0, U0] [(.ref b184), (.ref r175), (.ref b181), (.ref b181), (.ref b176)]))
      have k186 := (E181.keep K184)
      have k187 := (k182.keep K184 nin0)
      have k188 := (k183.keep K184 nin0)
      refine W184.callP hx hEL rfl (hw _ (mI 154 rfl)) (hw _ (mI 155 rfl)) (hw _ (mI 150 rfl)) (hw _ (mI 156 rfl)) (by decide +kernel) (a := b181) (argsL := [(.ref r175), (.ref b184)]) (rest := [(.ref b181), (.ref b176)]) (rm14 l Z a0 hw hEL zc SC hzc fm SF rfm b181 r175 b184 h184 W184.old k186 k187 k188 gb181.1) all0 (by decide +kernel) (Wd := 2) (by decide +kernel) (by decide +kernel) (by decide +kernel) (allS ⟨gb181.1, (Or.inr gb181.2)⟩ all0) rfl (by rw [hml]; rfl) (lenOf pd22 rfl) rfl (by show 2 * 0 + _ ≤ _; exact Nat.le_of_eq rfl) (hb hby at_166) (fun T185 h185 v185 P185 Ws185 K185 q185 => ?_)
      have W185 := Ws185 [] all0
      obtain rfl := q185
      show Go p e below _ (T185.setTop (mkF m 169 #[vi i0, vi i1, vi i2, vi i3, vi i4, vi 0, vi y3, vi y5, vi 3, vr b158, vr b163, vN, vr r175, vr b176, U0, U0, U0] [(.ref b181), (.ref b176)]))
      have k190 := ((((E176.keep K180).keep K181).keep K184).keep K185)
      have k191 := (((Fe180.keep K181 nin0).keep K184 nin0).keep K185 (ninS (ne_of_born (Nat.le_of_eq eb181.symm) E176.lt K180.1) nin0))
      have k192 := (((Fs180.keep K181 nin0).keep K184 nin0).keep K185 (ninS (ne_of_born (Nat.le_of_eq eb181.symm) E176.lt K180.1) nin0))
      have k193 := (((Fm180.keep K181 nin0).keep K184 nin0).keep K185 (ninS (ne_of_born (Nat.le_of_eq eb181.symm) E176.lt K180.1) nin0))
      have k194 := (k186.keep K185)
      refine W185.callV hx hEL (hw _ (mI 162 rfl)) (hw _ (mI 163 rfl)) (hw _ (mI 165 rfl)) (hw _ (mI 164 rfl)) (hw _ (mI 62 rfl)) (hw _ (mI 166 rfl)) (by decide +kernel) k190 (a := b176) (argsL := [(.ref b181)]) (rest := []) (rm43 l Z a0 hw hEL zc SC hzc fm SF rfm b176 b181 (0 : Int32) dfl el em mir gr de kdf h185 W185.old OD OS OL OM OI OG OE k190 k191 k192 k193 k194 gb176.1) all0 (by decide +kernel) (Wd := 0) (by decide +kernel) (by decide +kernel) (by decide +kernel) (allS ⟨gb176.1, (Or.inr gb176.2)⟩ all0) rfl (by rw [hml]; rfl) (lenOf pd23 rfl) rfl (by show 2 * 0 + _ ≤ _; exact Nat.le_of_eq rfl) (hb hby at_169) (fun T189 h189 v189 P189 Ws189 K189 q189 => ?_)
      have W189 := Ws189 [] all0
      obtain ⟨t189, kt189, rfl, lt189, Fe189, Fs189, Fm189, A189, Ov189, Ex189⟩ := q189
      have gt189 : n0 ≤ t189 ∧ s.heap.size ≤ t189 := ⟨Nat.le_trans W185.n0le lt189, Nat.le_trans W185.s0le lt189⟩
      refine gof T189 m 181 #[vi i0, vi i1, vi i2, vi i3, vi i4, vi 0, vi y3, vi y5, vi 3, vr b158, vr b163, vN, vr r175, vr b176, U0, U0, U0] [(.ref b176)] (fun _ kk => XS.pop W189.here hx rfl (hb hby at_172) rfl rfl (XS.iload W189.here hx rfl (hb hby at_173) rfl (XS.iconst W189.here hx rfl (hb hby at_175) (XS.icmpNo W189.here hx rfl (hb hby at_176) rfl (XT.ii_lt_f (by decide +kernel)) (XS.aload W189.here hx rfl (hb hby at_179) rfl rfl kk))))) ?_
      refine W189.newO hx (hw _ (mI 148 rfl)) (hw _ (mI 149 rfl)) (hw _ (mI 150 rfl)) rfl (hb hby at_181) (by decide +kernel) (by decide +kernel) (fun T195 h195 b195 eb195 gb195 W195 K195 E195 D195 => ?_)
      have k196 : Fld Z h195 b195 "org/portcullis/acl/ObjectIdentity" "type" "Ljava/lang/String;" .null := D195 (Or.inr (hw _ (mI 159 rfl))) (ty := (.object "java/lang/String")) (by decide +kernel)
      have k197 : Fld Z h195 b195 "org/portcullis/acl/ObjectIdentity" "id" "Ljava/lang/String;" .null := D195 (Or.inr (hw _ (mI 161 rfl))) (ty := (.object "java/lang/String")) (by decide +kernel)
      refine gof T195 m 187 #[vi i0, vi i1, vi i2, vi i3, vi i4, vi 0, vi y3, vi y5, vi 3, vr b158, vr b163, vN, vr r175, vr b176, U0, U0, U0] [(.ref r175), (.ref b195), (.ref b195), (.ref b176)] (fun _ kk => XS.dup W195.here hx rfl (hb hby at_184) rfl rfl (XS.aload W195.here hx rfl (hb hby at_185) rfl rfl kk)) ?_
      refine W195.ldcO hx hEL (hw _ (mI 262 rfl)) hSA rfl (hb hby at_187) (n := 4) (by decide +kernel) (by decide +kernel) (by decide +kernel) (by decide +kernel) (fun T198 h198 b198 W198 K198 => ?_)
      show Go p e below _ (T198.setTop (mkF m 189 #[vi i0, vi i1, vi i2, vi i3, vi i4, vi 0, vi y3, vi y5, vi 3, vr b158, vr b163, vN, vr r175, vr b176, U0, U0, U0] [(.ref b198), (.ref r175), (.ref b195), (.ref b195), (.ref b176)]))
      have k200 := (E195.keep K198)
      have k201 := (k196.keep K198 nin0)
      have k202 := (k197.keep K198 nin0)
      refine W198.callP hx hEL rfl (hw _ (mI 154 rfl)) (hw _ (mI 155 rfl)) (hw _ (mI 150 rfl)) (hw _ (mI 156 rfl)) (by decide +kernel) (a := b195) (argsL := [(.ref r175), (.ref b198)]) (rest := [(.ref b195), (.ref b176)]) (rm14 l Z a0 hw hEL zc SC hzc fm SF rfm b195 r175 b198 h198 W198.old k200 k201 k202 gb195.1) all0 (by decide +kernel) (Wd := 2) (by decide +kernel) (by decide +kernel) (by decide +kernel) (allS ⟨gb195.1, (Or.inr gb195.2)⟩ all0) rfl (by rw [hml]; rfl) (lenOf pd22 rfl) rfl (by show 2 * 0 + _ ≤ _; exact Nat.le_of_eq rfl) (hb hby at_189) (fun T199 h199 v199 P199 Ws199 K199 q199 => ?_)
      have W199 := Ws199 [] all0
      obtain rfl := q199
      show Go p e below _ (T199.setTop (mkF m 192 #[vi i0, vi i1, vi i2, vi i3, vi i4, vi 0, vi y3, vi y5, vi 3, vr b158, vr b163, vN, vr r175, vr b176, U0, U0, U0] [(.ref b195), (.ref b176)]))
      have k204 := ((((k190.keep K189).keep K195).keep K198).keep K199)
      have k205 := (((Fe189.keep K195 nin0).keep K198 nin0).keep K199 (ninS (ne_of_born (Nat.le_of_eq eb195.symm) E176.lt (Nat.le_trans (Nat.le_trans (Nat.le_trans (Nat.le_trans K180.1 K181.1) K184.1) K185.1) K189.1)) nin0))
      have k206 := (((Fs189.keep K195 nin0).keep K198 nin0).keep K199 (ninS (ne_of_born (Nat.le_of_eq eb195.symm) E176.lt (Nat.le_trans (Nat.le_trans (Nat.le_trans (Nat.le_trans K180.1 K181.1) K184.1) K185.1) K189.1)) nin0))
      have k207 := (((Fm189.keep K195 nin0).keep K198 nin0).keep K199 (ninS (ne_of_born (Nat.le_of_eq eb195.symm) E176.lt (Nat.le_trans (Nat.le_trans (Nat.le_trans (Nat.le_trans K180.1 K181.1) K184.1) K185.1) K189.1)) nin0))
      have k208 := (((A189.keep K195 nin0).keep K198 nin0).keep K199 (ninS (ne_of_born (Nat.le_of_eq eb195.symm) A189.lt (Nat.le_refl _)) nin0))
      have k209 := (k200.keep K199)
      refine W199.callV hx hEL (hw _ (mI 162 rfl)) (hw _ (mI 163 rfl)) (hw _ (mI 165 rfl)) (hw _ (mI 164 rfl)) (hw _ (mI 62 rfl)) (hw _ (mI 166 rfl)) (by decide +kernel) k204 (a := b176) (argsL := [(.ref b195)]) (rest := []) (rm44 l Z a0 hw hEL zc SC hzc fm SF rfm b176 t189 kt189 ((0 : Int32) + (1 : Int32)) b181 b195 h199 W199.old k204 k205 k206 k207 k208 Ov189 k209 gb176.1 gt189.1 (ne_of_born lt189 E176.lt (Nat.le_trans (Nat.le_trans (Nat.le_trans K180.1 K181.1) K184.1) K185.1))) all0 (by decide +kernel) (Wd := 0) (by decide +kernel) (by decide +kernel) (by decide +kernel) (allS ⟨gb176.1, (Or.inr gb176.2)⟩ (allS ⟨gt189.1, (Or.inr gt189.2)⟩ all0)) rfl (by rw [hml]; rfl) (lenOf pd23 rfl) rfl (by show 2 * 0 + _ ≤ _; exact Nat.le_of_eq rfl) (hb hby at_192) (fun T203 h203 v203 P203 Ws203 K203 q203 => ?_)
      have W203 := Ws203 [] all0
      obtain ⟨rfl, Fe203, Fs203, Fm203, A203⟩ := q203
      refine gof T203 m 204 #[vi i0, vi i1, vi i2, vi i3, vi i4, vi 0, vi y3, vi y5, vi 3, vr b158, vr b163, vN, vr r175, vr b176, U0, U0, U0] [(.ref b176)] (fun _ kk => XS.pop W203.here hx rfl (hb hby at_195) rfl rfl (XS.iload W203.here hx rfl (hb hby at_196) rfl (XS.iconst W203.here hx rfl (hb hby at_198) (XS.icmpNo W203.here hx rfl (hb hby at_199) rfl (XT.ii_lt_f (by decide +kernel)) (XS.aload W203.here hx rfl (hb hby at_202) rfl rfl kk))))) ?_
      refine W203.newO hx (hw _ (mI 148 rfl)) (hw _ (mI 149 rfl)) (hw _ (mI 150 rfl)) rfl (hb hby at_204) (by decide +kernel) (by decide +kernel) (fun T210 h210 b210 eb210 gb210 W210 K210 E210 D210 => ?_)
      have k211 : Fld Z h210 b210 "org/portcullis/acl/ObjectIdentity" "type" "Ljava/lang/String;" .null := D210 (Or.inr (hw _ (mI 159 rfl))) (ty := (.object "java/lang/String")) (by decide +kernel)
      have k212 : Fld Z h210 b210 "org/portcullis/acl/ObjectIdentity" "id" "Ljava/lang/String;" .null := D210 (Or.inr (hw _ (mI 161 rfl))) (ty := (.object "java/lang/String")) (by decide +kernel)
      refine gof T210 m 210 #[vi i0, vi i1, vi i2, vi i3, vi i4, vi 0, vi y3, vi y5, vi 3, vr b158, vr b163, vN, vr r175, vr b176, U0, U0, U0] [(.ref r175), (.ref b210), (.ref b210), (.ref b176)] (fun _ kk => XS.dup W210.here hx rfl (hb hby at_207) rfl rfl (XS.aload W210.here hx rfl (hb hby at_208) rfl rfl kk)) ?_
      refine W210.ldcO hx hEL (hw _ (mI 263 rfl)) hSA rfl (hb hby at_210) (n := 4) (by decide +kernel) (by decide +kernel) (by decide +kernel) (by decide +kernel) (fun T213 h213 b213 W213 K213 => ?_)
      show Go p e below _ (T213.setTop (mkF m 212 #[vi i0, vi i1, vi i2, vi i3, vi i4, vi 0, vi y3, vi y5, vi 3, vr b158, vr b163, vN, vr r175, vr b176, U0, U0, U0] [(.ref b213), (.ref r175), (.ref b210), (.ref b210), (.ref b176)]))
      have k215 := (E210.keep K213)
      have k216 := (k211.keep K213 nin0)
      have k217 := (k212.keep K213 nin0)
      refine W213.callP hx hEL rfl (hw _ (mI 154 rfl)) (hw _ (mI 155 rfl)) (hw _ (mI 150 rfl)) (hw _ (mI 156 rfl)) (by decide +kernel) (a := b210) (argsL := [(.ref r175), (.ref b213)]) (rest := [(.ref b210), (.ref b176)]) (rm14 l Z a0 hw hEL zc SC hzc fm SF rfm b210 r175 b213 h213 W213.old k215 k216 k217 gb210.1) all0 (by decide +kernel) (Wd := 2) (by decide +kernel) (by decide +kernel) (by decide +kernel) (allS ⟨gb210.1, (Or.inr gb210.2)⟩ all0) rfl (by rw [hml]; rfl) (lenOf pd22 rfl) rfl (by show 2 * 0 + _ ≤ _; exact Nat.le_of_eq rfl) (hb hby at_212) (fun T214 h214 v214 P214 Ws214 K214 q214 => ?_)
      have W214 := Ws214 [] all0
      obtain rfl := q214
      show Go p e below _ (T214.setTop (mkF m 215 #[vi i0, vi i1, vi i2, vi i3, vi i4, vi 0, vi y3, vi y5, vi 3, vr b158, vr b163, vN, vr r175, vr b176, U0, U0, U0] [(.ref b210), (.ref b176)]))
      have k219 := ((((k204.keep K203).keep K210).keep K213).keep K214)
      have k220 := (((Fe203.keep K210 nin0).keep K213 nin0).keep K214 (ninS (ne_of_born (Nat.le_of_eq eb210.symm) E176.lt (Nat.le_trans (Nat.le_trans (Nat.le_trans (Nat.le_trans (Nat.le_trans (Nat.le_trans (Nat.le_trans (Nat.le_trans K180.1 K181.1) K184.1) K185.1) K189.1) K195.1) K198.1) K199.1) K203.1)) nin0))
      have k221 := (((Fs203.keep K210 nin0).keep K213 nin0).keep K214 (ninS (ne_of_born (Nat.le_of_eq eb210.symm) E176.lt (Nat.le_trans (Nat.le_trans (Nat.le_trans (Nat.le_trans (Nat.le_trans (Nat.le_trans (Nat.le_trans (Nat.le_trans K180.1 K181.1) K184.1) K185.1) K189.1) K195.1) K198.1) K199.1) K203.1)) nin0))
      have k222 := (((Fm203.keep K210 nin0).keep K213 nin0).keep K214 (ninS (ne_of_born (Nat.le_of_eq eb210.symm) E176.lt (Nat.le_trans (Nat.le_trans (Nat.le_trans (Nat.le_trans (Nat.le_trans (Nat.le_trans (Nat.le_trans (Nat.le_trans K180.1 K181.1) K184.1) K185.1) K189.1) K195.1) K198.1) K199.1) K203.1)) nin0))
      have k223 := (((A203.keep K210 nin0).keep K213 nin0).keep K214 (ninS (ne_of_born (Nat.le_of_eq eb210.symm) A189.lt (Nat.le_trans (Nat.le_trans (Nat.le_trans K195.1 K198.1) K199.1) K203.1)) nin0))
      have k224 := (k215.keep K214)
      refine W214.callV hx hEL (hw _ (mI 162 rfl)) (hw _ (mI 163 rfl)) (hw _ (mI 165 rfl)) (hw _ (mI 164 rfl)) (hw _ (mI 62 rfl)) (hw _ (mI 166 rfl)) (by decide +kernel) k219 (a := b176) (argsL := [(.ref b210)]) (rest := []) (rm45 l Z a0 hw hEL zc SC hzc fm SF rfm b176 t189 kt189 (((0 : Int32) + (1 : Int32)) + (1 : Int32)) b181 b195 b210 h214 W214.old k219 k220 k221 k222 k223 Ov189 k224 gb176.1 gt189.1 (ne_of_born lt189 E176.lt (Nat.le_trans (Nat.le_trans (Nat.le_trans K180.1 K181.1) K184.1) K185.1))) all0 (by decide +kernel) (Wd := 0) (by decide +kernel) (by decide +kernel) (by decide +kernel) (allS ⟨gb176.1, (Or.inr gb176.2)⟩ (allS ⟨gt189.1, (Or.inr gt189.2)⟩ all0)) rfl (by rw [hml]; rfl) (lenOf pd23 rfl) rfl (by show 2 * 0 + _ ≤ _; exact Nat.le_of_eq rfl) (hb hby at_215) (fun T218 h218 v218 P218 Ws218 K218 q218 => ?_)
      have W218 := Ws218 [] all0
      obtain ⟨rfl, Fe218, Fs218, Fm218, A218⟩ := q218
      refine gof T218 m 219 #[vi i0, vi i1, vi i2, vi i3, vi i4, vi 0, vi y3, vi y5, vi 3, vr b158, vr b163, vN, vr r175, vr b176, U0, U0, U0] [] (fun _ kk => XS.pop W218.here hx rfl (hb hby at_218) rfl rfl kk) ?_
      refine W218.newO hx (hw _ (mI 84 rfl)) (hw _ (mI 85 rfl)) (hw _ (mI 86 rfl)) rfl (hb hby at_219) (by decide +kernel) (by decide +kernel) (fun T225 h225 b225 eb225 gb225 W225 K225 E225 D225 => ?_)
      have k226 : Fld Z h225 b225 "org/portcullis/acl/Outcome" "iLevels" "Ljava/util/List;" .null := D225 (Or.inr (hw _ (mI 121 rfl))) (ty := (.object "java/util/List")) (by decide +kernel)
      have k227 : Fld Z h225 b225 "org/portcullis/acl/Outcome" "iEntry" "Lorg/portcullis/acl/AccessControlEntry;" .null := D225 (Or.inr (hw _ (mI 123 rfl))) (ty := (.object "org/portcullis/acl/AccessControlEntry")) (by decide +kernel)
      refine gof T225 m 227 #[vi i0, vi i1, vi i2, vi i3, vi i4, vi 0, vi y3, vi y5, vi 3, vr b158, vr b163, vN, vr r175, vr b176, U0, U0, U0] [.null, (.ref b176), (.ref b225), (.ref b225)] (fun _ kk => XS.dup W225.here hx rfl (hb hby at_222) rfl rfl (XS.aload W225.here hx rfl (hb hby at_223) rfl rfl (XS.aload W225.here hx rfl (hb hby at_225) rfl rfl kk))) ?_
      have k229 := ((k219.keep K218).keep K225)
      have k230 := (Fe218.keep K225 nin0)
      have k231 := (Fs218.keep K225 nin0)
      have k232 := (A218.keep K225 nin0)
      have k233 := (((((((((Ex189.keep K195).keep K198).keep K199).keep K203).keep K210).keep K213).keep K214).keep K218).keep K225)
      have k234 := ((((((((((k194.keep K189).keep K195).keep K198).keep K199).keep K203).keep K210).keep K213).keep K214).keep K218).keep K225)
      have k235 := ((((((k209.keep K203).keep K210).keep K213).keep K214).keep K218).keep K225)
      have k236 := ((k224.keep K218).keep K225)
      refine W225.callP hx hEL rfl (hw _ (mI 87 rfl)) (hw _ (mI 88 rfl)) (hw _ (mI 86 rfl)) (hw _ (mI 89 rfl)) (by decide +kernel) (a := b225) (argsL := [(.ref b176), .null]) (rest := [(.ref b225)]) (rm91 l Z a0 hw hEL zc SC hzc fm SF rfm b225 b176 t189 kt189 b181 b195 b210 .null dfl el em mir gr de kdf h225 W225.old OD OS OL OM OI OG OE rfl k229 k230 k231 k232 k233 k234 k235 k236 E225 k226 k227 gb225.1) all0 (by decide +kernel) (Wd := 1) (by decide +kernel) (by decide +kernel) (by decide +kernel) (allS ⟨gb225.1, (Or.inr gb225.2)⟩ all0) rfl (by rw [hml]; rfl) (lenOf pd20 rfl) rfl (by show 2 * 0 + _ ≤ _; exact Nat.le_of_eq rfl) (hb hby at_227) (fun T228 h228 v228 P228 Ws228 K228 q228 => ?_)
      have W228 := Ws228 [] all0
      obtain ⟨rfl, Fi228⟩ := q228
      refine gof T228 m 234 #[vi i0, vi i1, vi i2, vi i3, vi i4, vi 0, vi y3, vi y5, vi 3, vr b158, vr b163, vN, vr r175, vr b176, vr b225, U0, U0] [(.ref b225)] (fun _ kk => XS.astore W228.here hx rfl (hb hby at_230) rfl rfl (l' := #[.val (.int i0), .val (.int i1), .val (.int i2), .val (.int i3), .val (.int i4), .val (.int 0), .val (.int y3), .val (.int y5), .val (.int 3), .val (.ref b158), .val (.ref b163), .val .null, .val (.ref r175), .val (.ref b176), .val (.ref b225), .unset, .unset]) rfl (XS.aload W228.here hx rfl (hb hby at_232) rfl rfl kk)) ?_
      have k238 := (E225.keep K228)
      refine W228.callV hx hEL (hw _ (mI 124 rfl)) (hw _ (mI 125 rfl)) (hw _ (mI 127 rfl)) (hw _ (mI 126 rfl)) (hw _ (mI 86 rfl)) (hw _ (mI 128 rfl)) (by decide +kernel) k238 (a := b225) (argsL := []) (rest := []) (rm96 l Z a0 hw hEL zc SC hzc fm SF rfm b225 dfl el em mir gr de kdf h228 W228.old OD OS OL OM OI OG OE Fi228) all0 (by decide +kernel) (Wd := 0) (by decide +kernel) (by decide +kernel) (by decide +kernel) all0 rfl (by rw [hml]; rfl) (lenOf pd21 rfl) rfl (by show 2 * 0 + _ ≤ _; exact Nat.le_of_eq rfl) (hb hby at_234) (fun T237 h237 v237 P237 Ws237 K237 q237 => ?_)
      have W237 := Ws237 [] all0
      obtain ⟨rfl, rfl⟩ := q237
      refine gof T237 m 255 #[vi i0, vi i1, vi i2, vi i3, vi i4, vi 0, vi y3, vi y5, vi 3, vr b158, vr b163, vN, vr r175, vr b176, vr b225, vr de, U0] [] (fun _ kk => XS.astore W237.here hx rfl (hb hby at_237) rfl rfl (l' := #[.val (.int i0), .val (.int i1), .val (.int i2), .val (.int i3), .val (.int i4), .val (.int 0), .val (.int y3), .val (.int y5), .val (.int 3), .val (.ref b158), .val (.ref b163), .val .null, .val (.ref r175), .val (.ref b176), .val (.ref b225), .val (.ref de), .unset]) rfl (XS.iload W237.here hx rfl (hb hby at_239) rfl (XS.ifYes W237.here hx rfl (pc0 := 241) (pc' := 255) rfl (hb hby at_241) rfl (XT.i0_eq_t (by decide +kernel)) (by decide +kernel) (by decide +kernel) kk))) ?_
      refine W237.getS hx (host := "") (Or.inl (hw _ (mI 132 rfl))) Via.refl OE rfl (hb hby at_255) (fun T239 W239 => ?_)
      refine gof T239 m 269 #[vi i0, vi i1, vi i2, vi i3, vi i4, vi 0, vi y3, vi y5, vi 3, vr b158, vr b163, vN, vr r175, vr b176, vr b225, vr de, vr de] [(.ref b225)] (fun _ kk => XS.astore W239.here hx rfl (hb hby at_258) rfl rfl (l' := #[.val (.int i0), .val (.int i1), .val (.int i2), .val (.int i3), .val (.int i4), .val (.int 0), .val (.int y3), .val (.int y5), .val (.int 3), .val (.ref b158), .val (.ref b163), .val .null, .val (.ref r175), .val (.ref b176), .val (.ref b225), .val (.ref de), .val (.ref de)]) rfl (XS.aload W239.here hx rfl (hb hby at_260) rfl rfl (XS.aload W239.here hx rfl (hb hby at_262) rfl rfl (XT.acmpNo (g := (mkF m 264 #[vi i0, vi i1, vi i2, vi i3, vi i4, vi 0, vi y3, vi y5, vi 3, vr b158, vr b163, vN, vr r175, vr b176, vr b225, vr de, vr de] [(.ref de), (.ref de)])) W239.here hx rfl (hb hby at_264) (x := (.ref de)) (y := (.ref de)) (rest := []) rfl rfl rfl (XT.aa_ne_f (x := (.ref de)) (y := (.ref de)) rfl) (XS.aload W239.here hx rfl (hb hby at_267) rfl rfl kk))))) ?_
      refine W239.callV hx hEL (hw _ (mI 124 rfl)) (hw _ (mI 125 rfl)) (hw _ (mI 127 rfl)) (hw _ (mI 126 rfl)) (hw _ (mI 86 rfl)) (hw _ (mI 128 rfl)) (by decide +kernel) k238 (a := b225) (argsL := []) (rest := []) (rm96 l Z a0 hw hEL zc SC hzc fm SF rfm b225 dfl el em mir gr de kdf h228 W239.old OD OS OL OM OI OG OE Fi228) all0 (by decide +kernel) (Wd := 0) (by decide +kernel) (by decide +kernel) (by decide +kernel) all0 rfl (by rw [hml]; rfl) (lenOf pd21 rfl) rfl (by show 2 * 0 + _ ≤ _; exact Nat.le_of_eq rfl) (hb hby at_269) (fun T240 h240 v240 P240 Ws240 K240 q240 => ?_)
      have W240 := Ws240 [] all0
      obtain ⟨rfl, rfl⟩ := q240
      refine gof T240 m 282 #[vi i0, vi i1, vi i2, vi i3, vi i4, vi 0, vi y3, vi y5, vi 3, vr b158, vr b163, vN, vr r175, vr b176, vr b225, vr de, vr de] [(.int 1)] (fun _ kk => XS.aload W240.here hx rfl (hb hby at_272) rfl rfl (XT.acmpNo (g := (mkF m 274 #[vi i0, vi i1, vi i2, vi i3, vi i4, vi 0, vi y3, vi y5, vi 3, vr b158, vr b163, vN, vr r175, vr b176, vr b225, vr de, vr de] [(.ref de), (.ref de)])) W240.here hx rfl (hb hby at_274) (x := (.ref de)) (y := (.ref de)) (rest := []) rfl rfl rfl (XT.aa_ne_f (x := (.ref de)) (y := (.ref de)) rfl) (XS.iconst W240.here hx rfl (hb hby at_277) (XS.goto W240.here hx rfl (pc0 := 278) (pc' := 282) rfl (hb hby at_278) (by decide +kernel) (by decide +kernel) kk)))) ?_
      exact W240.retI hx hEL hs hlk (by decide +kernel) (by decide +kernel) hret (by simp) rfl (hb hby at_282) (fun S hS => rfl)
  · refine gof T0 m 16 #[vi i0, vi i1, vi i2, vi i3, vi i4, vi 1, U0, U0, U0, U0, U0, U0, U0, U0, U0, U0, U0] [(.int (i0 &&& (2 : Int32)))] (fun _ kk => XS.ifNo W0.here hx rfl (hb hby at_3) rfl (XT.i0_eq_f c1) (XS.iconst W0.here hx rfl (hb hby at_6) (XS.goto W0.here hx rfl (pc0 := 7) (pc' := 11) rfl (hb hby at_7) (by decide +kernel) (by decide +kernel) (XS.istore W0.here hx rfl (hb hby at_11) rfl (l' := #[.val (.int i0), .val (.int i1), .val (.int i2), .val (.int i3), .val (.int i4), .val (.int 1), .unset, .unset, .unset, .unset, .unset, .unset, .unset, .unset, .unset, .unset, .unset]) rfl (XS.iloadN W0.here hx rfl (hb hby at_13) rfl (XS.iconst W0.here hx rfl (hb hby at_14) (XS.iand W0.here hx rfl (hb hby at_15) rfl kk))))))) ?_
    by_cases c241 : (i0 &&& (2 : Int32)) = (0 : Int32)
    · refine gof T0 m 29 #[vi i0, vi i1, vi i2, vi i3, vi i4, vi 1, vi 0, U0, U0, U0, U0, U0, U0, U0, U0, U0, U0] [(.int (i0 &&& (4 : Int32)))] (fun _ kk => XS.ifYes W0.here hx rfl (pc0 := 16) (pc' := 23) rfl (hb hby at_16) rfl (XT.i0_eq_t c241) (by decide +kernel) (by decide +kernel) (XS.iconst W0.here hx rfl (hb hby at_23) (XS.istore W0.here hx rfl (hb hby at_24) rfl (l' := #[.val (.int i0), .val (.int i1), .val (.int i2), .val (.int i3), .val (.int i4), .val (.int 1), .val (.int 0), .unset, .unset, .unset, .unset, .unset, .unset, .unset, .unset, .unset, .unset]) rfl (XS.iloadN W0.here hx rfl (hb hby at_26) rfl (XS.iconst W0.here hx rfl (hb hby at_27) (XS.iand W0.here hx rfl (hb hby at_28) rfl kk)))))) ?_
      refine gof T0 m 37 #[vi i0, vi i1, vi i2, vi i3, vi i4, vi 1, vi 0, U0, U0, U0, U0, U0, U0, U0, U0, U0, U0] [(.int (if (i0 &&& (4 : Int32)) = (0 : Int32) then (0 : Int32) else (1 : Int32)))] (fun _ kk => ?_) ?_
      · show Steps p.tables e below (T0.setTop (mkF m 29 #[vi i0, vi i1, vi i2, vi i3, vi i4, vi 1, vi 0, U0, U0, U0, U0, U0, U0, U0, U0, U0, U0] [(.int (i0 &&& (4 : Int32)))])) _
        by_cases c242 : (i0 &&& (4 : Int32)) = (0 : Int32)
        · try simp only [if_pos c242] at kk
          refine XS.ifYes W0.here hx rfl (pc0 := 29) (pc' := 36) rfl (hb hby at_29) rfl (XT.i0_eq_t c242) (by decide +kernel) (by decide +kernel) ?_
          show Steps p.tables e below (T0.setTop (mkF m 36 #[vi i0, vi i1, vi i2, vi i3, vi i4, vi 1, vi 0, U0, U0, U0, U0, U0, U0, U0, U0, U0, U0] [])) _
          refine XS.iconst W0.here hx rfl (hb hby at_36) ?_
          show Steps p.tables e below (T0.setTop (mkF m 37 #[vi i0, vi i1, vi i2, vi i3, vi i4, vi 1, vi 0, U0, U0, U0, U0, U0, U0, U0, U0, U0, U0] [(.int 0)])) _
          exact kk
        · try simp only [if_neg c242] at kk
          refine XS.ifNo W0.here hx rfl (hb hby at_29) rfl (XT.i0_eq_f c242) ?_
          show Steps p.tables e below (T0.setTop (mkF m 32 #[vi i0, vi i1, vi i2, vi i3, vi i4, vi 1, vi 0, U0, U0, U0, U0, U0, U0, U0, U0, U0, U0] [])) _
          refine XS.iconst W0.here hx rfl (hb hby at_32) ?_
          show Steps p.tables e below (T0.setTop (mkF m 33 #[vi i0, vi i1, vi i2, vi i3, vi i4, vi 1, vi 0, U0, U0, U0, U0, U0, U0, U0, U0, U0, U0] [(.int 1)])) _
          refine XS.goto W0.here hx rfl (pc0 := 33) (pc' := 37) rfl (hb hby at_33) (by decide +kernel) (by decide +kernel) ?_
          show Steps p.tables e below (T0.setTop (mkF m 37 #[vi i0, vi i1, vi i2, vi i3, vi i4, vi 1, vi 0, U0, U0, U0, U0, U0, U0, U0, U0, U0, U0] [(.int 1)])) _
          exact kk
      obtain ⟨y243, hy243⟩ : ∃ z : Int32, (if (i0 &&& (4 : Int32)) = (0 : Int32) then (0 : Int32) else (1 : Int32)) = z := ⟨_, rfl⟩
      rw [hy243]
      show Go p e below _ (T0.setTop (mkF m 37 #[vi i0, vi i1, vi i2, vi i3, vi i4, vi 1, vi 0, U0, U0, U0, U0, U0, U0, U0, U0, U0, U0] [(.int y243)]))
      have nz_p : narrow .boolean (.int y243) = .int y243 := by rw [← hy243]; split <;> rfl
      have fz_p : fits .boolean (.int y243) = true := by rw [← hy243]; split <;> rfl
      refine gof T0 m 44 #[vi i0, vi i1, vi i2, vi i3, vi i4, vi 1, vi 0, vi y243, U0, U0, U0, U0, U0, U0, U0, U0, U0] [(.int (((i0.toUInt32 >>> ((3 : Int32) &&& 31).toUInt32).toInt32) &&& (3 : Int32)))] (fun _ kk => XS.istore W0.here hx rfl (hb hby at_37) rfl (l' := #[.val (.int i0), .val (.int i1), .val (.int i2), .val (.int i3), .val (.int i4), .val (.int 1), .val (.int 0), .val (.int y243), .unset, .unset, .unset, .unset, .unset, .unset, .unset, .unset, .unset]) rfl (XS.iloadN W0.here hx rfl (hb hby at_39) rfl (XS.iconst W0.here hx rfl (hb hby at_40) (XS.iushr W0.here hx rfl (hb hby at_41) rfl (XS.iconst W0.here hx rfl (hb hby at_42) (XS.iand W0.here hx rfl (hb hby at_43) rfl kk)))))) ?_
      rcases and3 ((i0.toUInt32 >>> ((3 : Int32) &&& 31).toUInt32).toInt32) with z244 | z244 | z244 | z244
      · rw [z244]
        refine gof T0 m 60 #[vi i0, vi i1, vi i2, vi i3, vi i4, vi 1, vi 0, vi y243, vi 1, U0, U0, U0, U0, U0, U0, U0, U0] [(.int 2)] (fun _ kk => XS.istore W0.here hx rfl (hb hby at_44) rfl (l' := #[.val (.int i0), .val (.int i1), .val (.int i2), .val (.int i3), .val (.int i4), .val (.int 1), .val (.int 0), .val (.int y243), .val (.int 0), .unset, .unset, .unset, .unset, .unset, .unset, .unset, .unset]) rfl (XS.iload W0.here hx rfl (hb hby at_46) rfl (XS.ifNo W0.here hx rfl (hb hby at_48) rfl (XT.i0_eq_f (by decide +kernel)) (XS.iload W0.here hx rfl (hb hby at_51) rfl (XS.ifNo W0.here hx rfl (hb hby at_53) rfl (XT.i0_ne_f (by decide +kernel)) (XS.iconst W0.here hx rfl (hb hby at_56) (XS.istore W0.here hx rfl (hb hby at_57) rfl (l' := #[.val (.int i0), .val (.int i1), .val (.int i2), .val (.int i3), .val (.int i4), .val (.int 1), .val (.int 0), .val (.int y243), .val (.int 1), .unset, .unset, .unset, .unset, .unset, .unset, .unset, .unset]) rfl (XS.iconst W0.here hx rfl (hb hby at_59) kk)))))))) ?_
        refine W0.newP hx (hw _ (mI 0 rfl)) rfl (hb hby at_60) rfl (by decide +kernel) (cap := 2) (by decide +kernel) (by decide +kernel) (by decide +kernel) (by decide +kernel) (fun T245 h245 b245 c245 eb245 gb245 W245 K245 A245 => ?_)
        have V245 : Arv Z h245 b245 c245 .char (2 : Int32) [(.int (0 : Int32)), (.int (0 : Int32))] (.int (0 : Int32)) := A245
        refine gof T245 m 73 #[vi i0, vi i1, vi i2, vi i3, vi i4, vi 1, vi 0, vi y243, vi 1, vr b245, U0, U0, U0, U0, U0, U0, U0] [(.int ((i3 &&& (255 : Int32)).toUInt32.toUInt16.toUInt32.toInt32)), (.int 0), (.ref b245)] (fun _ kk => XS.astore W245.here hx rfl (hb hby at_62) rfl rfl (l' := #[.val (.int i0), .val (.int i1), .val (.int i2), .val (.int i3), .val (.int i4), .val (.int 1), .val (.int 0), .val (.int y243), .val (.int 1), .val (.ref b245), .unset, .unset, .unset, .unset, .unset, .unset, .unset]) rfl (XS.aload W245.here hx rfl (hb hby at_64) rfl rfl (XS.iconst W245.here hx rfl (hb hby at_66) (XS.iloadN W245.here hx rfl (hb hby at_67) rfl (XS.sipush W245.here hx rfl (hb hby at_68) (XS.iand W245.here hx rfl (hb hby at_71) rfl (XS.i2c W245.here hx rfl (hb hby at_72) rfl kk))))))) ?_
        obtain ⟨q246, hq246, cq246, zq246⟩ := char255 i3
        rw [hq246]
        show Go p e below _ (T245.setTop (mkF m 73 #[vi i0, vi i1, vi i2, vi i3, vi i4, vi 1, vi 0, vi y243, vi 1, vr b245, U0, U0, U0, U0, U0, U0, U0] [(.int q246), (.int 0), (.ref b245)]))
        refine W245.stC hx V245 ⟨by decide, by decide⟩ 0 rfl (Nat.le_of_ble_eq_true rfl) gb245.1 (Or.inr gb245.2) rfl rfl (hb hby at_73) (fun T247 h247 W247 K247 A247 => ?_)
        have V247 : Arv Z h247 b245 c245 .char (2 : Int32) [(.int q246), (.int (0 : Int32))] (.int (0 : Int32)) := (by rw [(nar_char cq246)] at A247; exact A247)
        refine gof T247 m 84 #[vi i0, vi i1, vi i2, vi i3, vi i4, vi 1, vi 0, vi y243, vi 1, vr b245, U0, U0, U0, U0, U0, U0, U0] [(.int ((i4 &&& (255 : Int32)).toUInt32.toUInt16.toUInt32.toInt32)), (.int 1), (.ref b245)] (fun _ kk => XS.aload W247.here hx rfl (hb hby at_74) rfl rfl (XS.iconst W247.here hx rfl (hb hby at_76) (XS.iload W247.here hx rfl (hb hby at_77) rfl (XS.sipush W247.here hx rfl (hb hby at_79) (XS.iand W247.here hx rfl (hb hby at_82) rfl (XS.i2c W247.here hx rfl (hb hby at_83) rfl kk)))))) ?_
        obtain ⟨q248, hq248, cq248, zq248⟩ := char255 i4
        rw [hq248]
        show Go p e below _ (T247.setTop (mkF m 84 #[vi i0, vi i1, vi i2, vi i3, vi i4, vi 1, vi 0, vi y243, vi 1, vr b245, U0, U0, U0, U0, U0, U0, U0] [(.int q248), (.int 1), (.ref b245)]))
        refine W247.stC hx V247 ⟨by decide, by decide⟩ 1 rfl (Nat.le_of_ble_eq_true rfl) gb245.1 (Or.inr gb245.2) rfl rfl (hb hby at_84) (fun T249 h249 W249 K249 A249 => ?_)
        have V249 : Arv Z h249 b245 c245 .char (2 : Int32) [(.int q246), (.int q248)] (.int (0 : Int32)) := (by rw [(nar_char cq248)] at A249; exact A249)
        show Go p e below _ (T249.setTop (mkF m 85 #[vi i0, vi i1, vi i2, vi i3, vi i4, vi 1, vi 0, vi y243, vi 1, vr b245, U0, U0, U0, U0, U0, U0, U0] []))
        refine W249.newO hx (hw _ (mI 1 rfl)) (hw _ (mI 2 rfl)) (hw _ (mI 3 rfl)) rfl (hb hby at_85) (by decide +kernel) (by decide +kernel) (fun T250 h250 b250 eb250 gb250 W250 K250 E250 D250 => ?_)
        have k251 : Fld Z h250 b250 "org/portcullis/acl/Sid" "name" "Ljava/lang/String;" .null := D250 (Or.inr (hw _ (mI 43 rfl))) (ty := (.object "java/lang/String")) (by decide +kernel)
        have k252 : Fld Z h250 b250 "org/portcullis/acl/Sid" "principal" "Z" (.int (0 : Int32)) := D250 (Or.inr (hw _ (mI 45 rfl))) (ty := .boolean) (by decide +kernel)
        refine gof T250 m 89 #[vi i0, vi i1, vi i2, vi i3, vi i4, vi 1, vi 0, vi y243, vi 1, vr b245, U0, U0, U0, U0, U0, U0, U0] [(.ref b250), (.ref b250)] (fun _ kk => XS.dup W250.here hx rfl (hb hby at_88) rfl rfl kk) ?_
        refine W250.newO hx (hw _ (mI 4 rfl)) (hw _ (mI 5 rfl)) (hw _ (mI 6 rfl)) rfl (hb hby at_89) (by decide +kernel) (by decide +kernel) (fun T253 h253 b253 eb253 gb253 W253 K253 E253 D253 => ?_)
        have k254 : Fld Z h253 b253 "java/lang/String" "coder" "B" (.int (0 : Int32)) := D253 (Or.inr (hw _ (mI 30 rfl))) (ty := .byte) (by decide +kernel)
        have k255 : Fld Z h253 b253 "java/lang/String" "value" "[B" .null := D253 (Or.inr (hw _ (mI 32 rfl))) (ty := (.array .byte)) (by decide +kernel)
        refine gof T253 m 95 #[vi i0, vi i1, vi i2, vi i3, vi i4, vi 1, vi 0, vi y243, vi 1, vr b245, U0, U0, U0, U0, U0, U0, U0] [(.ref b245), (.ref b253), (.ref b253), (.ref b250), (.ref b250)] (fun _ kk => XS.dup W253.here hx rfl (hb hby at_92) rfl rfl (XS.aload W253.here hx rfl (hb hby at_93) rfl rfl kk)) ?_
        have k257 := ((V249.keep K250 nin0).keep K253 nin0)
        refine W253.newStr hx hws (hw _ (mI 5 rfl)) SC hzc (hw _ (mI 7 rfl)) (hw _ (mI 8 rfl)) (hw _ (mI 9 rfl)) E253 k255 k254 (cs := [q246, q248]) (n := 2) k257 rfl rfl (by decide +kernel) (by decide +kernel) (allSi cq246 (allSi cq248 all0i)) gb253.1 (Or.inr gb253.2) (mI 0 rfl) (by decide +kernel) (Wd := 3) (by decide +kernel) (by decide +kernel) (by decide +kernel) rfl (by rw [hml]; rfl) rfl (by show 2 * 0 + _ ≤ _; exact Nat.le_of_eq rfl) (hb hby at_95) (fun T256 h256 W256 K256 S256 => ?_)
        refine gof T256 m 100 #[vi i0, vi i1, vi i2, vi i3, vi i4, vi 1, vi 0, vi y243, vi 1, vr b245, U0, U0, U0, U0, U0, U0, U0] [(.int y243), (.ref b253), (.ref b250), (.ref b250)] (fun _ kk => XS.iload W256.here hx rfl (hb hby at_98) rfl kk) ?_
        have k259 := ((E250.keep K253).keep K256)
        have k260 := ((k251.keep K253 nin0).keep K256 (ninS (ne_of_born (Nat.le_of_eq eb253.symm) E250.lt (Nat.le_refl _)) nin0))
        have k261 := ((k252.keep K253 nin0).keep K256 (ninS (ne_of_born (Nat.le_of_eq eb253.symm) E250.lt (Nat.le_refl _)) nin0))
        refine W256.callP hx hEL rfl (hw _ (mI 33 rfl)) (hw _ (mI 34 rfl)) (hw _ (mI 3 rfl)) (hw _ (mI 35 rfl)) (by decide +kernel) (a := b250) (argsL := [(.ref b253), (.int y243)]) (rest := [(.ref b250)]) (rm11 l Z a0 hw hEL zc SC hzc fm SF rfm b250 b253 y243 h256 W256.old k259 k260 k261 gb250.1 nz_p fz_p) all0 (by decide +kernel) (Wd := 1) (by decide +kernel) (by decide +kernel) (by decide +kernel) (allS ⟨gb250.1, (Or.inr gb250.2)⟩ all0) rfl (by rw [hml]; rfl) (lenOf pd18 rfl) rfl (by show 2 * 0 + _ ≤ _; exact Nat.le_of_eq rfl) (hb hby at_100) (fun T258 h258 v258 P258 Ws258 K258 q258 => ?_)
        have W258 := Ws258 [] all0
        obtain rfl := q258
        refine gof T258 m 110 #[vi i0, vi i1, vi i2, vi i3, vi i4, vi 1, vi 0, vi y243, vi 1, vr b245, vr b250, U0, U0, U0, U0, U0, U0] [] (fun _ kk => XS.astore W258.here hx rfl (hb hby at_103) rfl rfl (l' := #[.val (.int i0), .val (.int i1), .val (.int i2), .val (.int i3), .val (.int i4), .val (.int 1), .val (.int 0), .val (.int y243), .val (.int 1), .val (.ref b245), .val (.ref b250), .unset, .unset, .unset, .unset, .unset, .unset]) rfl (XS.iload W258.here hx rfl (hb hby at_105) rfl (XS.ifNo W258.here hx rfl (hb hby at_107) rfl (XT.i0_eq_f (by decide +kernel)) kk))) ?_
        refine W258.newO hx (hw _ (mI 133 rfl)) (hw _ (mI 134 rfl)) (hw _ (mI 135 rfl)) rfl (hb hby at_110) (by decide +kernel) (by decide +kernel) (fun T262 h262 b262 eb262 gb262 W262 K262 E262 D262 => ?_)
        have k263 : Fld Z h262 b262 "org/portcullis/acl/AccessControlEntry" "order" "I" (.int (0 : Int32)) := D262 (Or.inr (hw _ (mI 141 rfl))) (ty := .int) (by decide +kernel)
        have k264 : Fld Z h262 b262 "org/portcullis/acl/AccessControlEntry" "sid" "Lorg/portcullis/acl/Sid;" .null := D262 (Or.inr (hw _ (mI 143 rfl))) (ty := (.object "org/portcullis/acl/Sid")) (by decide +kernel)
        have k265 : Fld Z h262 b262 "org/portcullis/acl/AccessControlEntry" "mask" "I" (.int (0 : Int32)) := D262 (Or.inr (hw _ (mI 145 rfl))) (ty := .int) (by decide +kernel)
        have k266 : Fld Z h262 b262 "org/portcullis/acl/AccessControlEntry" "granting" "Z" (.int (0 : Int32)) := D262 (Or.inr (hw _ (mI 147 rfl))) (ty := .boolean) (by decide +kernel)
        refine gof T262 m 120 #[vi i0, vi i1, vi i2, vi i3, vi i4, vi 1, vi 0, vi y243, vi 1, vr b245, vr b250, U0, U0, U0, U0, U0, U0] [(.int 0), (.int i2), (.ref b250), (.int i1), (.ref b262), (.ref b262)] (fun _ kk => XS.dup W262.here hx rfl (hb hby at_113) rfl rfl (XS.iloadN W262.here hx rfl (hb hby at_114) rfl (XS.aload W262.here hx rfl (hb hby at_115) rfl rfl (XS.iloadN W262.here hx rfl (hb hby at_117) rfl (XS.iload W262.here hx rfl (hb hby at_118) rfl kk))))) ?_
        refine W262.callP hx hEL rfl (hw _ (mI 136 rfl)) (hw _ (mI 137 rfl)) (hw _ (mI 135 rfl)) (hw _ (mI 138 rfl)) (by decide +kernel) (a := b262) (argsL := [(.int i1), (.ref b250), (.int i2), (.int (0 : Int32))]) (rest := [(.ref b262)]) (rm12 l Z a0 hw hEL zc SC hzc fm SF rfm b262 b250 i1 i2 h262 W262.old E262 k263 k264 k265 k266 gb262.1) all0 (by decide +kernel) (Wd := 1) (by decide +kernel) (by decide +kernel) (by decide +kernel) (allS ⟨gb262.1, (Or.inr gb262.2)⟩ all0) rfl (by rw [hml]; rfl) (lenOf pd24 rfl) rfl (by show 2 * 0 + _ ≤ _; exact Nat.le_of_eq rfl) (hb hby at_120) (fun T267 h267 v267 P267 Ws267 K267 q267 => ?_)
        have W267 := Ws267 [] all0
        obtain ⟨rfl, Fg267⟩ := q267
        refine gof T267 m 136 #[vi i0, vi i1, vi i2, vi i3, vi i4, vi 1, vi 0, vi y243, vi 1, vr b245, vr b250, vr b262, U0, U0, U0, U0, U0] [(.int ((i4 &&& (255 : Int32)).toUInt32.toUInt16.toUInt32.toInt32))] (fun _ kk => XS.goto W267.here hx rfl (pc0 := 123) (pc' := 127) rfl (hb hby at_123) (by decide +kernel) (by decide +kernel) (XS.astore W267.here hx rfl (hb hby at_127) rfl rfl (l' := #[.val (.int i0), .val (.int i1), .val (.int i2), .val (.int i3), .val (.int i4), .val (.int 1), .val (.int 0), .val (.int y243), .val (.int 1), .val (.ref b245), .val (.ref b250), .val (.ref b262), .unset, .unset, .unset, .unset, .unset]) rfl (XS.iload W267.here hx rfl (hb hby at_129) rfl (XS.sipush W267.here hx rfl (hb hby at_131) (XS.iand W267.here hx rfl (hb hby at_134) rfl (XS.i2c W267.here hx rfl (hb hby at_135) rfl kk)))))) ?_
        rw [hq248]
        show Go p e below _ (T267.setTop (mkF m 136 #[vi i0, vi i1, vi i2, vi i3, vi i4, vi 1, vi 0, vi y243, vi 1, vr b245, vr b250, vr b262, U0, U0, U0, U0, U0] [(.int q248)]))
        refine W267.callS hx hEL (hw _ (mI 46 rfl)) (hw _ (mI 47 rfl)) (hw _ (mI 6 rfl)) (hw _ (mI 48 rfl)) (by decide +kernel) (argsL := [(.int q248)]) (rest := []) (rm27 l Z a0 hw hEL zc SC hzc fm SF rfm q248 h267 W267.old cq248) all0 (by decide +kernel) (Wd := 0) (by decide +kernel) (by decide +kernel) (by decide +kernel) all0 rfl (by rw [hml]; rfl) (lenOf pd19 rfl) rfl (by show 2 * 0 + _ ≤ _; exact Nat.le_of_eq rfl) (hb hby at_136) (fun T268 h268 v268 P268 Ws268 K268 q268 => ?_)
        have W268 := Ws268 [] all0
        obtain ⟨r268, rfl, lr268, S268⟩ := q268
        have gr268 : n0 ≤ r268 ∧ s.heap.size ≤ r268 := ⟨Nat.le_trans W267.n0le lr268, Nat.le_trans W267.s0le lr268⟩
        have E268 := S268.exa
        refine gof T268 m 141 #[vi i0, vi i1, vi i2, vi i3, vi i4, vi 1, vi 0, vi y243, vi 1, vr b245, vr b250, vr b262, vr r268, U0, U0, U0, U0] [] (fun _ kk => XS.astore W268.here hx rfl (hb hby at_139) rfl rfl (l' := #[.val (.int i0), .val (.int i1), .val (.int i2), .val (.int i3), .val (.int i4), .val (.int 1), .val (.int 0), .val (.int y243), .val (.int 1), .val (.ref b245), .val (.ref b250), .val (.ref b262), .val (.ref r268), .unset, .unset, .unset, .unset]) rfl kk) ?_
        refine W268.newO hx (hw _ (mI 60 rfl)) (hw _ (mI 61 rfl)) (hw _ (mI 62 rfl)) rfl (hb hby at_141) (by decide +kernel) (by decide +kernel) (fun T269 h269 b269 eb269 gb269 W269 K269 E269 D269 => ?_)
        have k270 : Fld Z h269 b269 "java/util/AbstractList" "modCount" "I" (.int (0 : Int32)) := D269 (Or.inl (hw _ (mI 80 rfl))) (ty := .int) (by decide +kernel)
        have k271 : Fld Z h269 b269 "java/util/ArrayList" "elementData" "[Ljava/lang/Object;" .null := D269 (Or.inl (hw _ (mI 83 rfl))) (ty := (.array (.object "java/lang/Object"))) (by decide +kernel)
        have k272 : Fld Z h269 b269 "java/util/ArrayList" "size" "I" (.int (0 : Int32)) := D269 (Or.inl (hw _ (mI 115 rfl))) (ty := .int) (by decide +kernel)
        refine gof T269 m 145 #[vi i0, vi i1, vi i2, vi i3, vi i4, vi 1, vi 0, vi y243, vi 1, vr b245, vr b250, vr b262, vr r268, U0, U0, U0, U0] [(.ref b269), (.ref b269)] (fun _ kk => XS.dup W269.here hx rfl (hb hby at_144) rfl rfl kk) ?_
        refine W269.callP hx hEL rfl (hw _ (mI 63 rfl)) (hw _ (mI 64 rfl)) (hw _ (mI 62 rfl)) (hw _ (mI 65 rfl)) (by decide +kernel) (a := b269) (argsL := []) (rest := [(.ref b269)]) (rm19 l Z a0 hw hEL zc SC hzc fm SF rfm b269 dfl el em mir gr de kdf h269 W269.old OD OS OL OM OI OG OE E269 k270 k271 k272 gb269.1) all0 (by decide +kernel) (Wd := 1) (by decide +kernel) (by decide +kernel) (by decide +kernel) (allS ⟨gb269.1, (Or.inr gb269.2)⟩ all0) rfl (by rw [hml]; rfl) (lenOf pd3 rfl) rfl (by show 2 * 0 + _ ≤ _; exact Nat.le_of_eq rfl) (hb hby at_145) (fun T273 h273 v273 P273 Ws273 K273 q273 => ?_)
        have W273 := Ws273 [] all0
        obtain ⟨rfl, Fe273, Fs273, Fm273⟩ := q273
        refine gof T273 m 158 #[vi i0, vi i1, vi i2, vi i3, vi i4, vi 1, vi 0, vi y243, vi 1, vr b245, vr b250, vr b262, vr r268, vr b269, U0, U0, U0] [(.ref b269)] (fun _ kk => XS.astore W273.here hx rfl (hb hby at_148) rfl rfl (l' := #[.val (.int i0), .val (.int i1), .val (.int i2), .val (.int i3), .val (.int i4), .val (.int 1), .val (.int 0), .val (.int y243), .val (.int 1), .val (.ref b245), .val (.ref b250), .val (.ref b262), .val (.ref r268), .val (.ref b269), .unset, .unset, .unset]) rfl (XS.iload W273.here hx rfl (hb hby at_150) rfl (XS.iconst W273.here hx rfl (hb hby at_152) (XS.icmpNo W273.here hx rfl (hb hby at_153) rfl (XT.ii_lt_f (by decide +kernel)) (XS.aload W273.here hx rfl (hb hby at_156) rfl rfl kk))))) ?_
        refine W273.newO hx (hw _ (mI 148 rfl)) (hw _ (mI 149 rfl)) (hw _ (mI 150 rfl)) rfl (hb hby at_158) (by decide +kernel) (by decide +kernel) (fun T274 h274 b274 eb274 gb274 W274 K274 E274 D274 => ?_)
        have k275 : Fld Z h274 b274 "org/portcullis/acl/ObjectIdentity" "type" "Ljava/lang/String;" .null := D274 (Or.inr (hw _ (mI 159 rfl))) (ty := (.object "java/lang/String")) (by decide +kernel)
        have k276 : Fld Z h274 b274 "org/portcullis/acl/ObjectIdentity" "id" "Ljava/lang/String;" .null := D274 (Or.inr (hw _ (mI 161 rfl))) (ty := (.object "java/lang/String")) (by decide +kernel)
        refine gof T274 m 164 #[vi i0, vi i1, vi i2, vi i3, vi i4, vi 1, vi 0, vi y243, vi 1, vr b245, vr b250, vr b262, vr r268, vr b269, U0, U0, U0] [(.ref r268), (.ref b274), (.ref b274), (.ref b269)] (fun _ kk => XS.dup W274.here hx rfl (hb hby at_161) rfl rfl (XS.aload W274.here hx rfl (hb hby at_162) rfl rfl kk)) ?_
        refine W274.ldcO hx hEL (hw _ (mI 151 rfl)) hSA rfl (hb hby at_164) (n := 4) (by decide +kernel) (by decide +kernel) (by decide +kernel) (by decide +kernel) (fun T277 h277 b277 W277 K277 => ?_)
        show Go p e below _ (T277.setTop (mkF m 166 #[vi i0, vi i1, vi i2, vi i3, vi i4, vi 1, vi 0, vi y243, vi 1, vr b245, vr b250, vr b262, vr r268, vr b269, U0, U0, U0] [(.ref b277), (.ref r268), (.ref b274), (.ref b274), (.ref b269)]))
        have k279 := (E274.keep K277)
        have k280 := (k275.keep K277 nin0)
        have k281 := (k276.keep K277 nin0)
        refine W277.callP hx hEL rfl (hw _ (mI 154 rfl)) (hw _ (mI 155 rfl)) (hw _ (mI 150 rfl)) (hw _ (mI 156 rfl)) (by decide +kernel) (a := b274) (argsL := [(.ref r268), (.ref b277)]) (rest := [(.ref b274), (.ref b269)]) (rm14 l Z a0 hw hEL zc SC hzc fm SF rfm b274 r268 b277 h277 W277.old k279 k280 k281 gb274.1) all0 (by decide +kernel) (Wd := 2) (by decide +kernel) (by decide +kernel) (by decide +kernel) (allS ⟨gb274.1, (Or.inr gb274.2)⟩ all0) rfl (by rw [hml]; rfl) (lenOf pd22 rfl) rfl (by show 2 * 0 + _ ≤ _; exact Nat.le_of_eq rfl) (hb hby at_166) (fun T278 h278 v278 P278 Ws278 K278 q278 => ?_)
        have W278 := Ws278 [] all0
        obtain rfl := q278
        show Go p e below _ (T278.setTop (mkF m 169 #[vi i0, vi i1, vi i2, vi i3, vi i4, vi 1, vi 0, vi y243, vi 1, vr b245, vr b250, vr b262, vr r268, vr b269, U0, U0, U0] [(.ref b274), (.ref b269)]))
        have k283 := ((((E269.keep K273).keep K274).keep K277).keep K278)
        have k284 := (((Fe273.keep K274 nin0).keep K277 nin0).keep K278 (ninS (ne_of_born (Nat.le_of_eq eb274.symm) E269.lt K273.1) nin0))
        have k285 := (((Fs273.keep K274 nin0).keep K277 nin0).keep K278 (ninS (ne_of_born (Nat.le_of_eq eb274.symm) E269.lt K273.1) nin0))
        have k286 := (((Fm273.keep K274 nin0).keep K277 nin0).keep K278 (ninS (ne_of_born (Nat.le_of_eq eb274.symm) E269.lt K273.1) nin0))
        have k287 := (k279.keep K278)
        refine W278.callV hx hEL (hw _ (mI 162 rfl)) (hw _ (mI 163 rfl)) (hw _ (mI 165 rfl)) (hw _ (mI 164 rfl)) (hw _ (mI 62 rfl)) (hw _ (mI 166 rfl)) (by decide +kernel) k283 (a := b269) (argsL := [(.ref b274)]) (rest := []) (rm43 l Z a0 hw hEL zc SC hzc fm SF rfm b269 b274 (0 : Int32) dfl el em mir gr de kdf h278 W278.old OD OS OL OM OI OG OE k283 k284 k285 k286 k287 gb269.1) all0 (by decide +kernel) (Wd := 0) (by decide +kernel) (by decide +kernel) (by decide +kernel) (allS ⟨gb269.1, (Or.inr gb269.2)⟩ all0) rfl (by rw [hml]; rfl) (lenOf pd23 rfl) rfl (by show 2 * 0 + _ ≤ _; exact Nat.le_of_eq rfl) (hb hby at_169) (fun T282 h282 v282 P282 Ws282 K282 q282 => ?_)
        have W282 := Ws282 [] all0
        obtain ⟨t282, kt282, rfl, lt282, Fe282, Fs282, Fm282, A282, Ov282, Ex282⟩ := q282
        have gt282 : n0 ≤ t282 ∧ s.heap.size ≤ t282 := ⟨Nat.le_trans W278.n0le lt282, Nat.le_trans W278.s0le lt282⟩
        refine gof T282 m 219 #[vi i0, vi i1, vi i2, vi i3, vi i4, vi 1, vi 0, vi y243, vi 1, vr b245, vr b250, vr b262, vr r268, vr b269, U0, U0, U0] [] (fun _ kk => XS.pop W282.here hx rfl (hb hby at_172) rfl rfl (XS.iload W282.here hx rfl (hb hby at_173) rfl (XS.iconst W282.here hx rfl (hb hby at_175) (XS.icmpYes W282.here hx rfl (pc0 := 176) (pc' := 196) rfl (hb hby at_176) rfl (XT.ii_lt_t (by decide +kernel)) (by decide +kernel) (by decide +kernel) (XS.iload W282.here hx rfl (hb hby at_196) rfl (XS.iconst W282.here hx rfl (hb hby at_198) (XS.icmpYes W282.here hx rfl (pc0 := 199) (pc' := 219) rfl (hb hby at_199) rfl (XT.ii_lt_t (by decide +kernel)) (by decide +kernel) (by decide +kernel) kk))))))) ?_
        refine W282.newO hx (hw _ (mI 84 rfl)) (hw _ (mI 85 rfl)) (hw _ (mI 86 rfl)) rfl (hb hby at_219) (by decide +kernel) (by decide +kernel) (fun T288 h288 b288 eb288 gb288 W288 K288 E288 D288 => ?_)
        have k289 : Fld Z h288 b288 "org/portcullis/acl/Outcome" "iLevels" "Ljava/util/List;" .null := D288 (Or.inr (hw _ (mI 121 rfl))) (ty := (.object "java/util/List")) (by decide +kernel)
        have k290 : Fld Z h288 b288 "org/portcullis/acl/Outcome" "iEntry" "Lorg/portcullis/acl/AccessControlEntry;" .null := D288 (Or.inr (hw _ (mI 123 rfl))) (ty := (.object "org/portcullis/acl/AccessControlEntry")) (by decide +kernel)
        refine gof T288 m 227 #[vi i0, vi i1, vi i2, vi i3, vi i4, vi 1, vi 0, vi y243, vi 1, vr b245, vr b250, vr b262, vr r268, vr b269, U0, U0, U0] [(.ref b262), (.ref b269), (.ref b288), (.ref b288)] (fun _ kk => XS.dup W288.here hx rfl (hb hby at_222) rfl rfl (XS.aload W288.here hx rfl (hb hby at_223) rfl rfl (XS.aload W288.here hx rfl (hb hby at_225) rfl rfl kk))) ?_
        have k292 := ((k283.keep K282).keep K288)
        have k293 := (Fe282.keep K288 nin0)
        have k294 := (Fs282.keep K288 nin0)
        have k295 := (A282.keep K288 nin0)
        have k296 := (Ex282.keep K288)
        have k297 := ((k287.keep K282).keep K288)
        refine W288.callP hx hEL rfl (hw _ (mI 87 rfl)) (hw _ (mI 88 rfl)) (hw _ (mI 86 rfl)) (hw _ (mI 89 rfl)) (by decide +kernel) (a := b288) (argsL := [(.ref b269), (.ref b262)]) (rest := [(.ref b288)]) (rm89 l Z a0 hw hEL zc SC hzc fm SF rfm b288 b269 t282 kt282 b274 (.ref b262) dfl el em mir gr de kdf h288 W288.old OD OS OL OM OI OG OE rfl k292 k293 k294 k295 k296 k297 E288 k289 k290 gb288.1) all0 (by decide +kernel) (Wd := 1) (by decide +kernel) (by decide +kernel) (by decide +kernel) (allS ⟨gb288.1, (Or.inr gb288.2)⟩ all0) rfl (by rw [hml]; rfl) (lenOf pd20 rfl) rfl (by show 2 * 0 + _ ≤ _; exact Nat.le_of_eq rfl) (hb hby at_227) (fun T291 h291 v291 P291 Ws291 K291 q291 => ?_)
        have W291 := Ws291 [] all0
        obtain ⟨rfl, Fi291⟩ := q291
        refine gof T291 m 234 #[vi i0, vi i1, vi i2, vi i3, vi i4, vi 1, vi 0, vi y243, vi 1, vr b245, vr b250, vr b262, vr r268, vr b269, vr b288, U0, U0] [(.ref b288)] (fun _ kk => XS.astore W291.here hx rfl (hb hby at_230) rfl rfl (l' := #[.val (.int i0), .val (.int i1), .val (.int i2), .val (.int i3), .val (.int i4), .val (.int 1), .val (.int 0), .val (.int y243), .val (.int 1), .val (.ref b245), .val (.ref b250), .val (.ref b262), .val (.ref r268), .val (.ref b269), .val (.ref b288), .unset, .unset]) rfl (XS.aload W291.here hx rfl (hb hby at_232) rfl rfl kk)) ?_
        have k299 := ((((((((((E262.keep K267).keep K268).keep K269).keep K273).keep K274).keep K277).keep K278).keep K282).keep K288).keep K291)
        have k300 := (((((((((Fg267.keep K268 nin0).keep K269 nin0).keep K273 (ninS (ne_of_born (Nat.le_of_eq eb269.symm) E262.lt (Nat.le_trans K267.1 K268.1)) nin0)).keep K274 nin0).keep K277 nin0).keep K278 (ninS (ne_of_born (Nat.le_of_eq eb274.symm) E262.lt (Nat.le_trans (Nat.le_trans (Nat.le_trans K267.1 K268.1) K269.1) K273.1)) nin0)).keep K282 (ninS (ne_of_born (Nat.le_of_eq eb269.symm) E262.lt (Nat.le_trans K267.1 K268.1)) nin0)).keep K288 nin0).keep K291 (ninS (ne_of_born (Nat.le_of_eq eb288.symm) E262.lt (Nat.le_trans (Nat.le_trans (Nat.le_trans (Nat.le_trans (Nat.le_trans (Nat.le_trans (Nat.le_trans K267.1 K268.1) K269.1) K273.1) K274.1) K277.1) K278.1) K282.1)) nin0))
        have k301 := (E288.keep K291)
        refine W291.callV hx hEL (hw _ (mI 124 rfl)) (hw _ (mI 125 rfl)) (hw _ (mI 127 rfl)) (hw _ (mI 126 rfl)) (hw _ (mI 86 rfl)) (hw _ (mI 128 rfl)) (by decide +kernel) k301 (a := b288) (argsL := []) (rest := []) (rm94 l Z a0 hw hEL zc SC hzc fm SF rfm b288 b262 dfl el em mir gr de kdf h291 W291.old OD OS OL OM OI OG OE Fi291 k299 k300) all0 (by decide +kernel) (Wd := 0) (by decide +kernel) (by decide +kernel) (by decide +kernel) all0 rfl (by rw [hml]; rfl) (lenOf pd21 rfl) rfl (by show 2 * 0 + _ ≤ _; exact Nat.le_of_eq rfl) (hb hby at_234) (fun T298 h298 v298 P298 Ws298 K298 q298 => ?_)
        have W298 := Ws298 [] all0
        obtain ⟨rfl, rfl⟩ := q298
        refine gof T298 m 255 #[vi i0, vi i1, vi i2, vi i3, vi i4, vi 1, vi 0, vi y243, vi 1, vr b245, vr b250, vr b262, vr r268, vr b269, vr b288, vr de, U0] [] (fun _ kk => XS.astore W298.here hx rfl (hb hby at_237) rfl rfl (l' := #[.val (.int i0), .val (.int i1), .val (.int i2), .val (.int i3), .val (.int i4), .val (.int 1), .val (.int 0), .val (.int y243), .val (.int 1), .val (.ref b245), .val (.ref b250), .val (.ref b262), .val (.ref r268), .val (.ref b269), .val (.ref b288), .val (.ref de), .unset]) rfl (XS.iload W298.here hx rfl (hb hby at_239) rfl (XS.ifNo W298.here hx rfl (hb hby at_241) rfl (XT.i0_eq_f (by decide +kernel)) (XS.iload W298.here hx rfl (hb hby at_244) rfl (XS.ifYes W298.here hx rfl (pc0 := 246) (pc' := 255) rfl (hb hby at_246) rfl (XT.i0_eq_t (by decide +kernel)) (by decide +kernel) (by decide +kernel) kk))))) ?_
        refine W298.getS hx (host := "") (Or.inl (hw _ (mI 132 rfl))) Via.refl OE rfl (hb hby at_255) (fun T302 W302 => ?_)
        refine gof T302 m 269 #[vi i0, vi i1, vi i2, vi i3, vi i4, vi 1, vi 0, vi y243, vi 1, vr b245, vr b250, vr b262, vr r268, vr b269, vr b288, vr de, vr de] [(.ref b288)] (fun _ kk => XS.astore W302.here hx rfl (hb hby at_258) rfl rfl (l' := #[.val (.int i0), .val (.int i1), .val (.int i2), .val (.int i3), .val (.int i4), .val (.int 1), .val (.int 0), .val (.int y243), .val (.int 1), .val (.ref b245), .val (.ref b250), .val (.ref b262), .val (.ref r268), .val (.ref b269), .val (.ref b288), .val (.ref de), .val (.ref de)]) rfl (XS.aload W302.here hx rfl (hb hby at_260) rfl rfl (XS.aload W302.here hx rfl (hb hby at_262) rfl rfl (XT.acmpNo (g := (mkF m 264 #[vi i0, vi i1, vi i2, vi i3, vi i4, vi 1, vi 0, vi y243, vi 1, vr b245, vr b250, vr b262, vr r268, vr b269, vr b288, vr de, vr de] [(.ref de), (.ref de)])) W302.here hx rfl (hb hby at_264) (x := (.ref de)) (y := (.ref de)) (rest := []) rfl rfl rfl (XT.aa_ne_f (x := (.ref de)) (y := (.ref de)) rfl) (XS.aload W302.here hx rfl (hb hby at_267) rfl rfl kk))))) ?_
        refine W302.callV hx hEL (hw _ (mI 124 rfl)) (hw _ (mI 125 rfl)) (hw _ (mI 127 rfl)) (hw _ (mI 126 rfl)) (hw _ (mI 86 rfl)) (hw _ (mI 128 rfl)) (by decide +kernel) k301 (a := b288) (argsL := []) (rest := []) (rm94 l Z a0 hw hEL zc SC hzc fm SF rfm b288 b262 dfl el em mir gr de kdf h291 W302.old OD OS OL OM OI OG OE Fi291 k299 k300) all0 (by decide +kernel) (Wd := 0) (by decide +kernel) (by decide +kernel) (by decide +kernel) all0 rfl (by rw [hml]; rfl) (lenOf pd21 rfl) rfl (by show 2 * 0 + _ ≤ _; exact Nat.le_of_eq rfl) (hb hby at_269) (fun T303 h303 v303 P303 Ws303 K303 q303 => ?_)
        have W303 := Ws303 [] all0
        obtain ⟨rfl, rfl⟩ := q303
        refine gof T303 m 282 #[vi i0, vi i1, vi i2, vi i3, vi i4, vi 1, vi 0, vi y243, vi 1, vr b245, vr b250, vr b262, vr r268, vr b269, vr b288, vr de, vr de] [(.int 1)] (fun _ kk => XS.aload W303.here hx rfl (hb hby at_272) rfl rfl (XT.acmpNo (g := (mkF m 274 #[vi i0, vi i1, vi i2, vi i3, vi i4, vi 1, vi 0, vi y243, vi 1, vr b245, vr b250, vr b262, vr r268, vr b269, vr b288, vr de, vr de] [(.ref de), (.ref de)])) W303.here hx rfl (hb hby at_274) (x := (.ref de)) (y := (.ref de)) (rest := []) rfl rfl rfl (XT.aa_ne_f (x := (.ref de)) (y := (.ref de)) rfl) (XS.iconst W303.here hx rfl (hb hby at_277) (XS.goto W303.here hx rfl (pc0 := 278) (pc' := 282) rfl (hb hby at_278) (by decide +kernel) (by decide +kernel) kk)))) ?_
        exact W303.retI hx hEL hs hlk (by decide +kernel) (by decide +kernel) hret (by simp) rfl (hb hby at_282) (fun S hS => rfl)
      · rw [z244]
        refine gof T0 m 60 #[vi i0, vi i1, vi i2, vi i3, vi i4, vi 1, vi 0, vi y243, vi 1, U0, U0, U0, U0, U0, U0, U0, U0] [(.int 2)] (fun _ kk => XS.istore W0.here hx rfl (hb hby at_44) rfl (l' := #[.val (.int i0), .val (.int i1), .val (.int i2), .val (.int i3), .val (.int i4), .val (.int 1), .val (.int 0), .val (.int y243), .val (.int 1), .unset, .unset, .unset, .unset, .unset, .unset, .unset, .unset]) rfl (XS.iload W0.here hx rfl (hb hby at_46) rfl (XS.ifNo W0.here hx rfl (hb hby at_48) rfl (XT.i0_eq_f (by decide +kernel)) (XS.iload W0.here hx rfl (hb hby at_51) rfl (XS.ifYes W0.here hx rfl (pc0 := 53) (pc' := 59) rfl (hb hby at_53) rfl (XT.i0_ne_t (by decide +kernel)) (by decide +kernel) (by decide +kernel) (XS.iconst W0.here hx rfl (hb hby at_59) kk)))))) ?_
        refine W0.newP hx (hw _ (mI 0 rfl)) rfl (hb hby at_60) rfl (by decide +kernel) (cap := 2) (by decide +kernel) (by decide +kernel) (by decide +kernel) (by decide +kernel) (fun T304 h304 b304 c304 eb304 gb304 W304 K304 A304 => ?_)
        have V304 : Arv Z h304 b304 c304 .char (2 : Int32) [(.int (0 : Int32)), (.int (0 : Int32))] (.int (0 : Int32)) := A304
        refine gof T304 m 73 #[vi i0, vi i1, vi i2, vi i3, vi i4, vi 1, vi 0, vi y243, vi 1, vr b304, U0, U0, U0, U0, U0, U0, U0] [(.int ((i3 &&& (255 : Int32)).toUInt32.toUInt16.toUInt32.toInt32)), (.int 0), (.ref b304)] (fun _ kk => XS.astore W304.here hx rfl (hb hby at_62) rfl rfl (l' := #[.val (.int i0), .val (.int i1), .val (.int i2), .val (.int i3), .val (.int i4), .val (.int 1), .val (.int 0), .val (.int y243), .val (.int 1), .val (.ref b304), .unset, .unset, .unset, .unset, .unset, .unset, .unset]) rfl (XS.aload W304.here hx rfl (hb hby at_64) rfl rfl (XS.iconst W304.here hx rfl (hb hby at_66) (XS.iloadN W304.here hx rfl (hb hby at_67) rfl (XS.sipush W304.here hx rfl (hb hby at_68) (XS.iand W304.here hx rfl (hb hby at_71) rfl (XS.i2c W304.here hx rfl (hb hby at_72) rfl kk))))))) ?_
        obtain ⟨q305, hq305, cq305, zq305⟩ := char255 i3
        rw [hq305]
        show Go p e below _ (T304.setTop (mkF m 73 #[vi i0, vi i1, vi i2, vi i3, vi i4, vi 1, vi 0, vi y243, vi 1, vr b304, U0, U0, U0, U0, U0, U0, U0] [(.int q305), (.int 0), (.ref b304)]))
        refine W304.stC hx V304 ⟨by decide, by decide⟩ 0 rfl (Nat.le_of_ble_eq_true rfl) gb304.1 (Or.inr gb304.2) rfl rfl (hb hby at_73) (fun T306 h306 W306 K306 A306 => ?_)
        have V306 : Arv Z h306 b304 c304 .char (2 : Int32) [(.int q305), (.int (0 : Int32))] (.int (0 : Int32)) := (by rw [(nar_char cq305)] at A306; exact A306)
        refine gof T306 m 84 #[vi i0, vi i1, vi i2, vi i3, vi i4, vi 1, vi 0, vi y243, vi 1, vr b304, U0, U0, U0, U0, U0, U0, U0] [(.int ((i4 &&& (255 : Int32)).toUInt32.toUInt16.toUInt32.toInt32)), (.int 1), (.ref b304)] (fun _ kk => XS.aload W306.here hx rfl (hb hby at_74) rfl rfl (XS.iconst W306.here hx rfl (hb hby at_76) (XS.iload W306.here hx rfl (hb hby at_77) rfl (XS.sipush W306.here hx rfl (hb hby at_79) (XS.iand W306.here hx rfl (hb hby at_82) rfl (XS.i2c W306.here hx rfl (hb hby at_83) rfl kk)))))) ?_
        obtain ⟨q307, hq307, cq307, zq307⟩ := char255 i4
        rw [hq307]
        show Go p e below _ (T306.setTop (mkF m 84 #[vi i0, vi i1, vi i2, vi i3, vi i4, vi 1, vi 0, vi y243, vi 1, vr b304, U0, U0, U0, U0, U0, U0, U0] [(.int q307), (.int 1), (.ref b304)]))
        refine W306.stC hx V306 ⟨by decide, by decide⟩ 1 rfl (Nat.le_of_ble_eq_true rfl) gb304.1 (Or.inr gb304.2) rfl rfl (hb hby at_84) (fun T308 h308 W308 K308 A308 => ?_)
        have V308 : Arv Z h308 b304 c304 .char (2 : Int32) [(.int q305), (.int q307)] (.int (0 : Int32)) := (by rw [(nar_char cq307)] at A308; exact A308)
        show Go p e below _ (T308.setTop (mkF m 85 #[vi i0, vi i1, vi i2, vi i3, vi i4, vi 1, vi 0, vi y243, vi 1, vr b304, U0, U0, U0, U0, U0, U0, U0] []))
        refine W308.newO hx (hw _ (mI 1 rfl)) (hw _ (mI 2 rfl)) (hw _ (mI 3 rfl)) rfl (hb hby at_85) (by decide +kernel) (by decide +kernel) (fun T309 h309 b309 eb309 gb309 W309 K309 E309 D309 => ?_)
        have k310 : Fld Z h309 b309 "org/portcullis/acl/Sid" "name" "Ljava/lang/String;" .null := D309 (Or.inr (hw _ (mI 43 rfl))) (ty := (.object "java/lang/String")) (by decide +kernel)
        have k311 : Fld Z h309 b309 "org/portcullis/acl/Sid" "principal" "Z" (.int (0 : Int32)) := D309 (Or.inr (hw _ (mI 45 rfl))) (ty := .boolean) (by decide +kernel)
        refine gof T309 m 89 #[vi i0, vi i1, vi i2, vi i3, vi i4, vi 1, vi 0, vi y243, vi 1, vr b304, U0, U0, U0, U0, U0, U0, U0] [(.ref b309), (.ref b309)] (fun _ kk => XS.dup W309.here hx rfl (hb hby at_88) rfl rfl kk) ?_
        refine W309.newO hx (hw _ (mI 4 rfl)) (hw _ (mI 5 rfl)) (hw _ (mI 6 rfl)) rfl (hb hby at_89) (by decide +kernel) (by decide +kernel) (fun T312 h312 b312 eb312 gb312 W312 K312 E312 D312 => ?_)
        have k313 : Fld Z h312 b312 "java/lang/String" "coder" "B" (.int (0 : Int32)) := D312 (Or.inr (hw _ (mI 30 rfl))) (ty := .byte) (by decide +kernel)
        have k314 : Fld Z h312 b312 "java/lang/String" "value" "[B" .null := D312 (Or.inr (hw _ (mI 32 rfl))) (ty := (.array .byte)) (by decide +kernel)
        refine gof T312 m 95 #[vi i0, vi i1, vi i2, vi i3, vi i4, vi 1, vi 0, vi y243, vi 1, vr b304, U0, U0, U0, U0, U0, U0, U0] [(.ref b304), (.ref b312), (.ref b312), (.ref b309), (.ref b309)] (fun _ kk => XS.dup W312.here hx rfl (hb hby at_92) rfl rfl (XS.aload W312.here hx rfl (hb hby at_93) rfl rfl kk)) ?_
        have k316 := ((V308.keep K309 nin0).keep K312 nin0)
        refine W312.newStr hx hws (hw _ (mI 5 rfl)) SC hzc (hw _ (mI 7 rfl)) (hw _ (mI 8 rfl)) (hw _ (mI 9 rfl)) E312 k314 k313 (cs := [q305, q307]) (n := 2) k316 rfl rfl (by decide +kernel) (by decide +kernel) (allSi cq305 (allSi cq307 all0i)) gb312.1 (Or.inr gb312.2) (mI 0 rfl) (by decide +kernel) (Wd := 3) (by decide +kernel) (by decide +kernel) (by decide +kernel) rfl (by rw [hml]; rfl) rfl (by show 2 * 0 + _ ≤ _; exact Nat.le_of_eq rfl) (hb hby at_95) (fun T315 h315 W315 K315 S315 => ?_)
        refine gof T315 m 100 #[vi i0, vi i1, vi i2, vi i3, vi i4, vi 1, vi 0, vi y243, vi 1, vr b304, U0, U0, U0, U0, U0, U0, U0] [(.int y243), (.ref b312), (.ref b309), (.ref b309)] (fun _ kk => XS.iload W315.here hx rfl (hb hby at_98) rfl kk) ?_
        have k318 := ((E309.keep K312).keep K315)
        have k319 := ((k310.keep K312 nin0).keep K315 (ninS (ne_of_born (Nat.le_of_eq eb312.symm) E309.lt (Nat.le_refl _)) nin0))
        have k320 := ((k311.keep K312 nin0).keep K315 (ninS (ne_of_born (Nat.le_of_eq eb312.symm) E309.lt (Nat.le_refl _)) nin0))
        refine W315.callP hx hEL rfl (hw _ (mI 33 rfl)) (hw _ (mI 34 rfl)) (hw _ (mI 3 rfl)) (hw _ (mI 35 rfl)) (by decide +kernel) (a := b309) (argsL := [(.ref b312), (.int y243)]) (rest := [(.ref b309)]) (rm11 l Z a0 hw hEL zc SC hzc fm SF rfm b309 b312 y243 h315 W315.old k318 k319 k320 gb309.1 nz_p fz_p) all0 (by decide +kernel) (Wd := 1) (by decide +kernel) (by decide +kernel) (by decide +kernel) (allS ⟨gb309.1, (Or.inr gb309.2)⟩ all0) rfl (by rw [hml]; rfl) (lenOf pd18 rfl) rfl (by show 2 * 0 + _ ≤ _; exact Nat.le_of_eq rfl) (hb hby at_100) (fun T317 h317 v317 P317 Ws317 K317 q317 => ?_)
        have W317 := Ws317 [] all0
        obtain rfl := q317
        refine gof T317 m 110 #[vi i0, vi i1, vi i2, vi i3, vi i4, vi 1, vi 0, vi y243, vi 1, vr b304, vr b309, U0, U0, U0, U0, U0, U0] [] (fun _ kk => XS.astore W317.here hx rfl (hb hby at_103) rfl rfl (l' := #[.val (.int i0), .val (.int i1), .val (.int i2), .val (.int i3), .val (.int i4), .val (.int 1), .val (.int 0), .val (.int y243), .val (.int 1), .val (.ref b304), .val (.ref b309), .unset, .unset, .unset, .unset, .unset, .unset]) rfl (XS.iload W317.here hx rfl (hb hby at_105) rfl (XS.ifNo W317.here hx rfl (hb hby at_107) rfl (XT.i0_eq_f (by decide +kernel)) kk))) ?_
        refine W317.newO hx (hw _ (mI 133 rfl)) (hw _ (mI 134 rfl)) (hw _ (mI 135 rfl)) rfl (hb hby at_110) (by decide +kernel) (by decide +kernel) (fun T321 h321 b321 eb321 gb321 W321 K321 E321 D321 => ?_)
        have k322 : Fld Z h321 b321 "org/portcullis/acl/AccessControlEntry" "order" "I" (.int (0 : Int32)) := D321 (Or.inr (hw _ (mI 141 rfl))) (ty := .int) (by decide +kernel)
        have k323 : Fld Z h321 b321 "org/portcullis/acl/AccessControlEntry" "sid" "Lorg/portcullis/acl/Sid;" .null := D321 (Or.inr (hw _ (mI 143 rfl))) (ty := (.object "org/portcullis/acl/Sid")) (by decide +kernel)
        have k324 : Fld Z h321 b321 "org/portcullis/acl/AccessControlEntry" "mask" "I" (.int (0 : Int32)) := D321 (Or.inr (hw _ (mI 145 rfl))) (ty := .int) (by decide +kernel)
        have k325 : Fld Z h321 b321 "org/portcullis/acl/AccessControlEntry" "granting" "Z" (.int (0 : Int32)) := D321 (Or.inr (hw _ (mI 147 rfl))) (ty := .boolean) (by decide +kernel)
        refine gof T321 m 120 #[vi i0, vi i1, vi i2, vi i3, vi i4, vi 1, vi 0, vi y243, vi 1, vr b304, vr b309, U0, U0, U0, U0, U0, U0] [(.int 0), (.int i2), (.ref b309), (.int i1), (.ref b321), (.ref b321)] (fun _ kk => XS.dup W321.here hx rfl (hb hby at_113) rfl rfl (XS.iloadN W321.here hx rfl (hb hby at_114) rfl (XS.aload W321.here hx rfl (hb hby at_115) rfl rfl (XS.iloadN W321.here hx rfl (hb hby at_117) rfl (XS.iload W321.here hx rfl (hb hby at_118) rfl kk))))) ?_
        refine W321.callP hx hEL rfl (hw _ (mI 136 rfl)) (hw _ (mI 137 rfl)) (hw _ (mI 135 rfl)) (hw _ (mI 138 rfl)) (by decide +kernel) (a := b321) (argsL := [(.int i1), (.ref b309), (.int i2), (.int (0 : Int32))]) (rest := [(.ref b321)]) (rm12 l Z a0 hw hEL zc SC hzc fm SF rfm b321 b309 i1 i2 h321 W321.old E321 k322 k323 k324 k325 gb321.1) all0 (by decide +kernel) (Wd := 1) (by decide +kernel) (by decide +kernel) (by decide +kernel) (allS ⟨gb321.1, (Or.inr gb321.2)⟩ all0) rfl (by rw [hml]; rfl) (lenOf pd24 rfl) rfl (by show 2 * 0 + _ ≤ _; exact Nat.le_of_eq rfl) (hb hby at_120) (fun T326 h326 v326 P326 Ws326 K326 q326 => ?_)
        have W326 := Ws326 [] all0
        obtain ⟨rfl, Fg326⟩ := q326
        refine gof T326 m 136 #[vi i0, vi i1, vi i2, vi i3, vi i4, vi 1, vi 0, vi y243, vi 1, vr b304, vr b309, vr b321, U0, U0, U0, U0, U0] [(.int ((i4 &&& (255 : Int32)).toUInt32.toUInt16.toUInt32.toInt32))] (fun _ kk => XS.goto W326.here hx rfl (pc0 := 123) (pc' := 127) rfl (hb hby at_123) (by decide +kernel) (by decide +kernel) (XS.astore W326.here hx rfl (hb hby at_127) rfl rfl (l' := #[.val (.int i0), .val (.int i1), .val (.int i2), .val (.int i3), .val (.int i4), .val (.int 1), .val (.int 0), .val (.int y243), .val (.int 1), .val (.ref b304), .val (.ref b309), .val (.ref b321), .unset, .unset, .unset, .unset, .unset]) rfl (XS.iload W326.here hx rfl (hb hby at_129) rfl (XS.sipush W326.here hx rfl (hb hby at_131) (XS.iand W326.here hx rfl (hb hby at_134) rfl (XS.i2c W326.here hx rfl (hb hby at_135) rfl kk)))))) ?_
        rw [hq307]
        show Go p e below _ (T326.setTop (mkF m 136 #[vi i0, vi i1, vi i2, vi i3, vi i4, vi 1, vi 0, vi y243, vi 1, vr b304, vr b309, vr b321, U0, U0, U0, U0, U0] [(.int q307)]))
        refine W326.callS hx hEL (hw _ (mI 46 rfl)) (hw _ (mI 47 rfl)) (hw _ (mI 6 rfl)) (hw _ (mI 48 rfl)) (by decide +kernel) (argsL := [(.int q307)]) (rest := []) (rm27 l Z a0 hw hEL zc SC hzc fm SF rfm q307 h326 W326.old cq307) all0 (by decide +kernel) (Wd := 0) (by decide +kernel) (by decide +kernel) (by decide +kernel) all0 rfl (by rw [hml]; rfl) (lenOf pd19 rfl) rfl (by show 2 * 0 + _ ≤ _; exact Nat.le_of_eq rfl) (hb hby at_136) (fun T327 h327 v327 P327 Ws327 K327 q327 => ?_)
        have W327 := Ws327 [] all0
        obtain ⟨r327, rfl, lr327, S327⟩ := q327
        have gr327 : n0 ≤ r327 ∧ s.heap.size ≤ r327 := ⟨Nat.le_trans W326.n0le lr327, Nat.le_trans W326.s0le lr327⟩
        have E327 := S327.exa
        refine gof T327 m 141 #[vi i0, vi i1, vi i2, vi i3, vi i4, vi 1, vi 0, vi y243, vi 1, vr b304, vr b309, vr b321, vr r327, U0, U0, U0, U0] [] (fun _ kk => XS.astore W327.here hx rfl (hb hby at_139) rfl rfl (l' := #[.val (.int i0), .val (.int i1), .val (.int i2), .val (.int i3), .val (.int i4), .val (.int 1), .val (.int 0), .val (.int y243), .val (.int 1), .val (.ref b304), .val (.ref b309), .val (.ref b321), .val (.ref r327), .unset, .unset, .unset, .unset]) rfl kk) ?_
        refine W327.newO hx (hw _ (mI 60 rfl)) (hw _ (mI 61 rfl)) (hw _ (mI 62 rfl)) rfl (hb hby at_141) (by decide +kernel) (by decide +kernel) (fun T328 h328 b328 eb328 gb328 W328 K328 E328 D328 => ?_)
        have k329 : Fld Z h328 b328 "java/util/AbstractList" "modCount" "I" (.int (0 : Int32)) := D328 (Or.inl (hw _ (mI 80 rfl))) (ty := .int) (by decide +kernel)
        have k330 : Fld Z h328 b328 "java/util/ArrayList" "elementData" "[Ljava/lang/Object;" .null := D328 (Or.inl (hw _ (mI 83 rfl))) (ty := (.array (.object "java/lang/Object"))) (by decide +kernel)
        have k331 : Fld Z h328 b328 "java/util/ArrayList" "size" "I" (.int (0 : Int32)) := D328 (Or.inl (hw _ (mI 115 rfl))) (ty := .int) (by decide +kernel)
        refine gof T328 m 145 #[vi i0, vi i1, vi i2, vi i3, vi i4, vi 1, vi 0, vi y243, vi 1, vr b304, vr b309, vr b321, vr r327, U0, U0, U0, U0] [(.ref b328), (.ref b328)] (fun _ kk => XS.dup W328.here hx rfl (hb hby at_144) rfl rfl kk) ?_
        refine W328.callP hx hEL rfl (hw _ (mI 63 rfl)) (hw _ (mI 64 rfl)) (hw _ (mI 62 rfl)) (hw _ (mI 65 rfl)) (by decide +kernel) (a := b328) (argsL := []) (rest := [(.ref b328)]) (rm19 l Z a0 hw hEL zc SC hzc fm SF rfm b328 dfl el em mir gr de kdf h328 W328.old OD OS OL OM OI OG OE E328 k329 k330 k331 gb328.1) all0 (by decide +kernel) (Wd := 1) (by decide +kernel) (by decide +kernel) (by decide +kernel) (allS ⟨gb328.1, (Or.inr gb328.2)⟩ all0) rfl (by rw [hml]; rfl) (lenOf pd3 rfl) rfl (by show 2 * 0 + _ ≤ _; exact Nat.le_of_eq rfl) (hb hby at_145) (fun T332 h332 v332 P332 Ws332 K332 q332 => ?_)
        have W332 := Ws332 [] all0
        obtain ⟨rfl, Fe332, Fs332, Fm332⟩ := q332
        refine gof T332 m 158 #[vi i0, vi i1, vi i2, vi i3, vi i4, vi 1, vi 0, vi y243, vi 1, vr b304, vr b309, vr b321, vr r327, vr b328, U0, U0, U0] [(.ref b328)] (fun _ kk => XS.astore W332.here hx rfl (hb hby at_148) rfl rfl (l' := #[.val (.int i0), .val (.int i1), .val (.int i2), .val (.int i3), .val (.int i4), .val (.int 1), .val (.int 0), .val (.int y243), .val (.int 1), .val (.ref b304), .val (.ref b309), .val (.ref b321), .val (.ref r327), .val (.ref b328), .unset, .unset, .unset]) rfl (XS.iload W332.here hx rfl (hb hby at_150) rfl (XS.iconst W332.here hx rfl (hb hby at_152) (XS.icmpNo W332.here hx rfl (hb hby at_153) rfl (XT.ii_lt_f (by decide +kernel)) (XS.aload W332.here hx rfl (hb hby at_156) rfl rfl kk))))) ?_
        refine W332.newO hx (hw _ (mI 148 rfl)) (hw _ (mI 149 rfl)) (hw _ (mI 150 rfl)) rfl (hb hby at_158) (by decide +kernel) (by decide +kernel) (fun T333 h333 b333 eb333 gb333 W333 K333 E333 D333 => ?_)
        have k334 : Fld Z h333 b333 "org/portcullis/acl/ObjectIdentity" "type" "Ljava/lang/String;" .null := D333 (Or.inr (hw _ (mI 159 rfl))) (ty := (.object "java/lang/String")) (by decide +kernel)
        have k335 : Fld Z h333 b333 "org/portcullis/acl/ObjectIdentity" "id" "Ljava/lang/String;" .null := D333 (Or.inr (hw _ (mI 161 rfl))) (ty := (.object "java/lang/String")) (by decide +kernel)
        refine gof T333 m 164 #[vi i0, vi i1, vi i2, vi i3, vi i4, vi 1, vi 0, vi y243, vi 1, vr b304, vr b309, vr b321, vr r327, vr b328, U0, U0, U0] [(.ref r327), (.ref b333), (.ref b333), (.ref b328)] (fun _ kk => XS.dup W333.here hx rfl (hb hby at_161) rfl rfl (XS.aload W333.here hx rfl (hb hby at_162) rfl rfl kk)) ?_
        refine W333.ldcO hx hEL (hw _ (mI 151 rfl)) hSA rfl (hb hby at_164) (n := 4) (by decide +kernel) (by decide +kernel) (by decide +kernel) (by decide +kernel) (fun T336 h336 b336 W336 K336 => ?_)
        show Go p e below _ (T336.setTop (mkF m 166 #[vi i0, vi i1, vi i2, vi i3, vi i4, vi 1, vi 0, vi y243, vi 1, vr b304, vr b309, vr b321, vr r327, vr b328, U0, U0, U0] [(.ref b336), (.ref r327), (.ref b333), (.ref b333), (.ref b328)]))
        have k338 := (E333.keep K336)
        have k339 := (k334.keep K336 nin0)
        have k340 := (k335.keep K336 nin0)
        refine W336.callP hx hEL rfl (hw _ (mI 154 rfl)) (hw _ (mI 155 rfl)) (hw _ (mI 150 rfl)) (hw _ (mI 156 rfl)) (by decide +kernel) (a := b333) (argsL := [(.ref r327), (.ref b336)]) (rest := [(.ref b333), (.ref b328)]) (rm14 l Z a0 hw hEL zc SC hzc fm SF rfm b333 r327 b336 h336 W336.old k338 k339 k340 gb333.1) all0 (by decide +kernel) (Wd := 2) (by decide +kernel) (by decide +kernel) (by decide +kernel) (allS ⟨gb333.1, (Or.inr gb333.2)⟩ all0) rfl (by rw [hml]; rfl) (lenOf pd22 rfl) rfl (by show 2 * 0 + _ ≤ _; exact Nat.le_of_eq rfl) (hb hby at_166) (fun T337 h337 v337 P337 Ws337 K337 q337 => ?_)
        have W337 := Ws337 [] all0
        obtain rfl := q337
        show Go p e below _ (T337.setTop (mkF m 169 #[vi i0, vi i1, vi i2, vi i3, vi i4, vi 1, vi 0, vi y243, vi 1, vr b304, vr b309, vr b321, vr r327, vr b328, U0, U0, U0] [(.ref b333), (.ref b328)]))
        have k342 := ((((E328.keep K332).keep K333).keep K336).keep K337)
        have k343 := (((Fe332.keep K333 nin0).keep K336 nin0).keep K337 (ninS (ne_of_born (Nat.le_of_eq eb333.symm) E328.lt K332.1) nin0))
        have k344 := (((Fs332.keep K333 nin0).keep K336 nin0).keep K337 (ninS (ne_of_born (Nat.le_of_eq eb333.symm) E328.lt K332.1) nin0))
        have k345 := (((Fm332.keep K333 nin0).keep K336 nin0).keep K337 (ninS (ne_of_born (Nat.le_of_eq eb333.symm) E328.lt K332.1) nin0))
        have k346 := (k338.keep K337)
        refine W337.callV hx hEL (hw _ (mI 162 rfl)) (hw _ (mI 163 rfl)) (hw _ (mI 165 rfl)) (hw _ (mI 164 rfl)) (hw _ (mI 62 rfl)) (hw _ (mI 166 rfl)) (by decide +kernel) k342 (a := b328) (argsL := [(.ref b333)]) (rest := []) (rm43 l Z a0 hw hEL zc SC hzc fm SF rfm b328 b333 (0 : Int32) dfl el em mir gr de kdf h337 W337.old OD OS OL OM OI OG OE k342 k343 k344 k345 k346 gb328.1) all0 (by decide +kernel) (Wd := 0) (by decide +kernel) (by decide +kernel) (by decide +kernel) (allS ⟨gb328.1, (Or.inr gb328.2)⟩ all0) rfl (by rw [hml]; rfl) (lenOf pd23 rfl) rfl (by show 2 * 0 + _ ≤ _; exact Nat.le_of_eq rfl) (hb hby at_169) (fun T341 h341 v341 P341 Ws341 K341 q341 => ?_)
        have W341 := Ws341 [] all0
        obtain ⟨t341, kt341, rfl, lt341, Fe341, Fs341, Fm341, A341, Ov341, Ex341⟩ := q341
        have gt341 : n0 ≤ t341 ∧ s.heap.size ≤ t341 := ⟨Nat.le_trans W337.n0le lt341, Nat.le_trans W337.s0le lt341⟩
        refine gof T341 m 219 #[vi i0, vi i1, vi i2, vi i3, vi i4, vi 1, vi 0, vi y243, vi 1, vr b304, vr b309, vr b321, vr r327, vr b328, U0, U0, U0] [] (fun _ kk => XS.pop W341.here hx rfl (hb hby at_172) rfl rfl (XS.iload W341.here hx rfl (hb hby at_173) rfl (XS.iconst W341.here hx rfl (hb hby at_175) (XS.icmpYes W341.here hx rfl (pc0 := 176) (pc' := 196) rfl (hb hby at_176) rfl (XT.ii_lt_t (by decide +kernel)) (by decide +kernel) (by decide +kernel) (XS.iload W341.here hx rfl (hb hby at_196) rfl (XS.iconst W341.here hx rfl (hb hby at_198) (XS.icmpYes W341.here hx rfl (pc0 := 199) (pc' := 219) rfl (hb hby at_199) rfl (XT.ii_lt_t (by decide +kernel)) (by decide +kernel) (by decide +kernel) kk))))))) ?_
        refine W341.newO hx (hw _ (mI 84 rfl)) (hw _ (mI 85 rfl)) (hw _ (mI 86 rfl)) rfl (hb hby at_219) (by decide +kernel) (by decide +kernel) (fun T347 h347 b347 eb347 gb347 W347 K347 E347 D347 => ?_)
        have k348 : Fld Z h347 b347 "org/portcullis/acl/Outcome" "iLevels" "Ljava/util/List;" .null := D347 (Or.inr (hw _ (mI 121 rfl))) (ty := (.object "java/util/List")) (by decide +kernel)
        have k349 : Fld Z h347 b347 "org/portcullis/acl/Outcome" "iEntry" "Lorg/portcullis/acl/AccessControlEntry;" .null := D347 (Or.inr (hw _ (mI 123 rfl))) (ty := (.object "org/portcullis/acl/AccessControlEntry")) (by decide +kernel)
        refine gof T347 m 227 #[vi i0, vi i1, vi i2, vi i3, vi i4, vi 1, vi 0, vi y243, vi 1, vr b304, vr b309, vr b321, vr r327, vr b328, U0, U0, U0] [(.ref b321), (.ref b328), (.ref b347), (.ref b347)] (fun _ kk => XS.dup W347.here hx rfl (hb hby at_222) rfl rfl (XS.aload W347.here hx rfl (hb hby at_223) rfl rfl (XS.aload W347.here hx rfl (hb hby at_225) rfl rfl kk))) ?_
        have k351 := ((k342.keep K341).keep K347)
        have k352 := (Fe341.keep K347 nin0)
        have k353 := (Fs341.keep K347 nin0)
        have k354 := (A341.keep K347 nin0)
        have k355 := (Ex341.keep K347)
        have k356 := ((k346.keep K341).keep K347)
        refine W347.callP hx hEL rfl (hw _ (mI 87 rfl)) (hw _ (mI 88 rfl)) (hw _ (mI 86 rfl)) (hw _ (mI 89 rfl)) (by decide +kernel) (a := b347) (argsL := [(.ref b328), (.ref b321)]) (rest := [(.ref b347)]) (rm89 l Z a0 hw hEL zc SC hzc fm SF rfm b347 b328 t341 kt341 b333 (.ref b321) dfl el em mir gr de kdf h347 W347.old OD OS OL OM OI OG OE rfl k351 k352 k353 k354 k355 k356 E347 k348 k349 gb347.1) all0 (by decide +kernel) (Wd := 1) (by decide +kernel) (by decide +kernel) (by decide +kernel) (allS ⟨gb347.1, (Or.inr gb347.2)⟩ all0) rfl (by rw [hml]; rfl) (lenOf pd20 rfl) rfl (by show 2 * 0 + _ ≤ _; exact Nat.le_of_eq rfl) (hb hby at_227) (fun T350 h350 v350 P350 Ws350 K350 q350 => ?_)
        have W350 := Ws350 [] all0
        obtain ⟨rfl, Fi350⟩ := q350
        refine gof T350 m 234 #[vi i0, vi i1, vi i2, vi i3, vi i4, vi 1, vi 0, vi y243, vi 1, vr b304, vr b309, vr b321, vr r327, vr b328, vr b347, U0, U0] [(.ref b347)] (fun _ kk => XS.astore W350.here hx rfl (hb hby at_230) rfl rfl (l' := #[.val (.int i0), .val (.int i1), .val (.int i2), .val (.int i3), .val (.int i4), .val (.int 1), .val (.int 0), .val (.int y243), .val (.int 1), .val (.ref b304), .val (.ref b309), .val (.ref b321), .val (.ref r327), .val (.ref b328), .val (.ref b347), .unset, .unset]) rfl (XS.aload W350.here hx rfl (hb hby at_232) rfl rfl kk)) ?_
        have k358 := ((((((((((E321.keep K326).keep K327).keep K328).keep K332).keep K333).keep K336).keep K337).keep K341).keep K347).keep K350)
        have k359 := (((((((((Fg326.keep K327 nin0).keep K328 nin0).keep K332 (ninS (ne_of_born (Nat.le_of_eq eb328.symm) E321.lt (Nat.le_trans K326.1 K327.1)) nin0)).keep K333 nin0).keep K336 nin0).keep K337 (ninS (ne_of_born (Nat.le_of_eq eb333.symm) E321.lt (Nat.le_trans (Nat.le_trans (Nat.le_trans K326.1 K327.1) K328.1) K332.1)) nin0)).keep K341 (ninS (ne_of_born (Nat.le_of_eq eb328.symm) E321.lt (Nat.le_trans K326.1 K327.1)) nin0)).keep K347 nin0).keep K350 (ninS (ne_of_born (Nat.le_of_eq eb347.symm) E321.lt (Nat.le_trans (Nat.le_trans (Nat.le_trans (Nat.le_trans (Nat.le_trans (Nat.le_trans (Nat.le_trans K326.1 K327.1) K328.1) K332.1) K333.1) K336.1) K337.1) K341.1)) nin0))
        have k360 := (E347.keep K350)
        refine W350.callV hx hEL (hw _ (mI 124 rfl)) (hw _ (mI 125 rfl)) (hw _ (mI 127 rfl)) (hw _ (mI 126 rfl)) (hw _ (mI 86 rfl)) (hw _ (mI 128 rfl)) (by decide +kernel) k360 (a := b347) (argsL := []) (rest := []) (rm94 l Z a0 hw hEL zc SC hzc fm SF rfm b347 b321 dfl el em mir gr de kdf h350 W350.old OD OS OL OM OI OG OE Fi350 k358 k359) all0 (by decide +kernel) (Wd := 0) (by decide +kernel) (by decide +kernel) (by decide +kernel) all0 rfl (by rw [hml]; rfl) (lenOf pd21 rfl) rfl (by show 2 * 0 + _ ≤ _; exact Nat.le_of_eq rfl) (hb hby at_234) (fun T357 h357 v357 P357 Ws357 K357 q357 => ?_)
        have W357 := Ws357 [] all0
        obtain ⟨rfl, rfl⟩ := q357
        refine gof T357 m 255 #[vi i0, vi i1, vi i2, vi i3, vi i4, vi 1, vi 0, vi y243, vi 1, vr b304, vr b309, vr b321, vr r327, vr b328, vr b347, vr de, U0] [] (fun _ kk => XS.astore W357.here hx rfl (hb hby at_237) rfl rfl (l' := #[.val (.int i0), .val (.int i1), .val (.int i2), .val (.int i3), .val (.int i4), .val (.int 1), .val (.int 0), .val (.int y243), .val (.int 1), .val (.ref b304), .val (.ref b309), .val (.ref b321), .val (.ref r327), .val (.ref b328), .val (.ref b347), .val (.ref de), .unset]) rfl (XS.iload W357.here hx rfl (hb hby at_239) rfl (XS.ifNo W357.here hx rfl (hb hby at_241) rfl (XT.i0_eq_f (by decide +kernel)) (XS.iload W357.here hx rfl (hb hby at_244) rfl (XS.ifYes W357.here hx rfl (pc0 := 246) (pc' := 255) rfl (hb hby at_246) rfl (XT.i0_eq_t (by decide +kernel)) (by decide +kernel) (by decide +kernel) kk))))) ?_
        refine W357.getS hx (host := "") (Or.inl (hw _ (mI 132 rfl))) Via.refl OE rfl (hb hby at_255) (fun T361 W361 => ?_)
        refine gof T361 m 269 #[vi i0, vi i1, vi i2, vi i3, vi i4, vi 1, vi 0, vi y243, vi 1, vr b304, vr b309, vr b321, vr r327, vr b328, vr b347, vr de, vr de] [(.ref b347)] (fun _ kk => XS.astore W361.here hx rfl (hb hby at_258) rfl rfl (l' := #[.val (.int i0), .val (.int i1), .val (.int i2), .val (.int i3), .val (.int i4), .val (.int 1), .val (.int 0), .val (.int y243), .val (.int 1), .val (.ref b304), .val (.ref b309), .val (.ref b321), .val (.ref r327), .val (.ref b328), .val (.ref b347), .val (.ref de), .val (.ref de)]) rfl (XS.aload W361.here hx rfl (hb hby at_260) rfl rfl (XS.aload W361.here hx rfl (hb hby at_262) rfl rfl (XT.acmpNo (g := (mkF m 264 #[vi i0, vi i1, vi i2, vi i3, vi i4, vi 1, vi 0, vi y243, vi 1, vr b304, vr b309, vr b321, vr r327, vr b328, vr b347, vr de, vr de] [(.ref de), (.ref de)])) W361.here hx rfl (hb hby at_264) (x := (.ref de)) (y := (.ref de)) (rest := []) rfl rfl rfl (XT.aa_ne_f (x := (.ref de)) (y := (.ref de)) rfl) (XS.aload W361.here hx rfl (hb hby at_267) rfl rfl kk))))) ?_
        refine W361.callV hx hEL (hw _ (mI 124 rfl)) (hw _ (mI 125 rfl)) (hw _ (mI 127 rfl)) (hw _ (mI 126 rfl)) (hw _ (mI 86 rfl)) (hw _ (mI 128 rfl)) (by decide +kernel) k360 (a := b347) (argsL := []) (rest := []) (rm94 l Z a0 hw hEL zc SC hzc fm SF rfm b347 b321 dfl el em mir gr de kdf h350 W361.old OD OS OL OM OI OG OE Fi350 k358 k359) all0 (by decide +kernel) (Wd := 0) (by decide +kernel) (by decide +kernel) (by decide +kernel) all0 rfl (by rw [hml]; rfl) (lenOf pd21 rfl) rfl (by show 2 * 0 + _ ≤ _; exact Nat.le_of_eq rfl) (hb hby at_269) (fun T362 h362 v362 P362 Ws362 K362 q362 => ?_)
        have W362 := Ws362 [] all0
        obtain ⟨rfl, rfl⟩ := q362
        refine gof T362 m 282 #[vi i0, vi i1, vi i2, vi i3, vi i4, vi 1, vi 0, vi y243, vi 1, vr b304, vr b309, vr b321, vr r327, vr b328, vr b347, vr de, vr de] [(.int 1)] (fun _ kk => XS.aload W362.here hx rfl (hb hby at_272) rfl rfl (XT.acmpNo (g := (mkF m 274 #[vi i0, vi i1, vi i2, vi i3, vi i4, vi 1, vi 0, vi y243, vi 1, vr b304, vr b309, vr b321, vr r327, vr b328, vr b347, vr de, vr de] [(.ref de), (.ref de)])) W362.here hx rfl (hb hby at_274) (x := (.ref de)) (y := (.ref de)) (rest := []) rfl rfl rfl (XT.aa_ne_f (x := (.ref de)) (y := (.ref de)) rfl) (XS.iconst W362.here hx rfl (hb hby at_277) (XS.goto W362.here hx rfl (pc0 := 278) (pc' := 282) rfl (hb hby at_278) (by decide +kernel) (by decide +kernel) kk)))) ?_
        exact W362.retI hx hEL hs hlk (by decide +kernel) (by decide +kernel) hret (by simp) rfl (hb hby at_282) (fun S hS => rfl)
      · rw [z244]
        refine gof T0 m 60 #[vi i0, vi i1, vi i2, vi i3, vi i4, vi 1, vi 0, vi y243, vi 2, U0, U0, U0, U0, U0, U0, U0, U0] [(.int 2)] (fun _ kk => XS.istore W0.here hx rfl (hb hby at_44) rfl (l' := #[.val (.int i0), .val (.int i1), .val (.int i2), .val (.int i3), .val (.int i4), .val (.int 1), .val (.int 0), .val (.int y243), .val (.int 2), .unset, .unset, .unset, .unset, .unset, .unset, .unset, .unset]) rfl (XS.iload W0.here hx rfl (hb hby at_46) rfl (XS.ifNo W0.here hx rfl (hb hby at_48) rfl (XT.i0_eq_f (by decide +kernel)) (XS.iload W0.here hx rfl (hb hby at_51) rfl (XS.ifYes W0.here hx rfl (pc0 := 53) (pc' := 59) rfl (hb hby at_53) rfl (XT.i0_ne_t (by decide +kernel)) (by decide +kernel) (by decide +kernel) (XS.iconst W0.here hx rfl (hb hby at_59) kk)))))) ?_
        refine W0.newP hx (hw _ (mI 0 rfl)) rfl (hb hby at_60) rfl (by decide +kernel) (cap := 2) (by decide +kernel) (by decide +kernel) (by decide +kernel) (by decide +kernel) (fun T363 h363 b363 c363 eb363 gb363 W363 K363 A363 => ?_)
        have V363 : Arv Z h363 b363 c363 .char (2 : Int32) [(.int (0 : Int32)), (.int (0 : Int32))] (.int (0 : Int32)) := A363
        refine gof T363 m 73 #[vi i0, vi i1, vi i2, vi i3, vi i4, vi 1, vi 0, vi y243, vi 2, vr b363, U0, U0, U0, U0, U0, U0, U0] [(.int ((i3 &&& (255 : Int32)).toUInt32.toUInt16.toUInt32.toInt32)), (.int 0), (.ref b363)] (fun _ kk => XS.astore W363.here hx rfl (hb hby at_62) rfl rfl (l' := #[.val (.int i0), .val (.int i1), .val (.int i2), .val (.int i3), .val (.int i4), .val (.int 1), .val (.int 0), .val (.int y243), .val (.int 2), .val (.ref b363), .unset, .unset, .unset, .unset, .unset, .unset, .unset]) rfl (XS.aload W363.here hx rfl (hb hby at_64) rfl rfl (XS.iconst W363.here hx rfl (hb hby at_66) (XS.iloadN W363.here hx rfl (hb hby at_67) rfl (XS.sipush W363.here hx rfl (hb hby at_68) (XS.iand W363.here hx rfl (hb hby at_71) rfl (XS.i2c W363.here hx rfl (hb hby at_72) rfl kk))))))) ?_
        obtain ⟨q364, hq364, cq364, zq364⟩ := char255 i3
        rw [hq364]
        show Go p e below _ (T363.setTop (mkF m 73 #[vi i0, vi i1, vi i2, vi i3, vi i4, vi 1, vi 0, vi y243, vi 2, vr b363, U0, U0, U0, U0, U0, U0, U0] [(.int q364), (.int 0), (.ref b363)]))
        refine W363.stC hx V363 ⟨by decide, by decide⟩ 0 rfl (Nat.le_of_ble_eq_true rfl) gb363.1 (Or.inr gb363.2) rfl rfl (hb hby at_73) (fun T365 h365 W365 K365 A365 => ?_)
        have V365 : Arv Z h365 b363 c363 .char (2 : Int32) [(.int q364), (.int (0 : Int32))] (.int (0 : Int32)) := (by rw [(nar_char cq364)] at A365; exact A365)
        refine gof T365 m 84 #[vi i0, vi i1, vi i2, vi i3, vi i4, vi 1, vi 0, vi y243, vi 2, vr b363, U0, U0, U0, U0, U0, U0, U0] [(.int ((i4 &&& (255 : Int32)).toUInt32.toUInt16.toUInt32.toInt32)), (.int 1), (.ref b363)] (fun _ kk => XS.aload W365.here hx rfl (hb hby at_74) rfl rfl (XS.iconst W365.here hx rfl (hb hby at_76) (XS.iload W365.here hx rfl (hb hby at_77) rfl (XS.sipush W365.here hx rfl (hb hby at_79) (XS.iand W365.here hx rfl (hb hby at_82) rfl (XS.i2c W365.here hx rfl (hb hby at_83) rfl kk)))))) ?_
        obtain ⟨q366, hq366, cq366, zq366⟩ := char255 i4
        rw [hq366]
        show Go p e below _ (T365.setTop (mkF m 84 #[vi i0, vi i1, vi i2, vi i3, vi i4, vi 1, vi 0, vi y243, vi 2, vr b363, U0, U0, U0, U0, U0, U0, U0] [(.int q366), (.int 1), (.ref b363)]))
        refine W365.stC hx V365 ⟨by decide, by decide⟩ 1 rfl (Nat.le_of_ble_eq_true rfl) gb363.1 (Or.inr gb363.2) rfl rfl (hb hby at_84) (fun T367 h367 W367 K367 A367 => ?_)
        have V367 : Arv Z h367 b363 c363 .char (2 : Int32) [(.int q364), (.int q366)] (.int (0 : Int32)) := (by rw [(nar_char cq366)] at A367; exact A367)
        show Go p e below _ (T367.setTop (mkF m 85 #[vi i0, vi i1, vi i2, vi i3, vi i4, vi 1, vi 0, vi y243, vi 2, vr b363, U0, U0, U0, U0, U0, U0, U0] []))
        refine W367.newO hx (hw _ (mI 1 rfl)) (hw _ (mI 2 rfl)) (hw _ (mI 3 rfl)) rfl (hb hby at_85) (by decide +kernel) (by decide +kernel) (fun T368 h368 b368 eb368 gb368 W368 K368 E368 D368 => ?_)
        have k369 : Fld Z h368 b368 "org/portcullis/acl/Sid" "name" "Ljava/lang/String;" .null := D368 (Or.inr (hw _ (mI 43 rfl))) (ty := (.object "java/lang/String")) (by decide +kernel)
        have k370 : Fld Z h368 b368 "org/portcullis/acl/Sid" "principal" "Z" (.int (0 : Int32)) := D368 (Or.inr (hw _ (mI 45 rfl))) (ty := .boolean) (by decide +kernel)
        refine gof T368 m 89 #[vi i0, vi i1, vi i2, vi i3, vi i4, vi 1, vi 0, vi y243, vi 2, vr b363, U0, U0, U0, U0, U0, U0, U0] [(.ref b368), (.ref b368)] (fun _ kk => XS.dup W368.here hx rfl (hb hby at_88) rfl rfl kk) ?_
        refine W368.newO hx (hw _ (mI 4 rfl)) (hw _ (mI 5 rfl)) (hw _ (mI 6 rfl)) rfl (hb hby at_89) (by decide +kernel) (by decide +kernel) (fun T371 h371 b371 eb371 gb371 W371 K371 E371 D371 => ?_)
        have k372 : Fld Z h371 b371 "java/lang/String" "coder" "B" (.int (0 : Int32)) := D371 (Or.inr (hw _ (mI 30 rfl))) (ty := .byte) (by decide +kernel)
        have k373 : Fld Z h371 b371 "java/lang/String" "value" "[B" .null := D371 (Or.inr (hw _ (mI 32 rfl))) (ty := (.array .byte)) (by decide +kernel)
        refine gof T371 m 95 #[vi i0, vi i1, vi i2, vi i3, vi i4, vi 1, vi 0, vi y243, vi 2, vr b363, U0, U0, U0, U0, U0, U0, U0] [(.ref b363), (.ref b371), (.ref b371), (.ref b368), (.ref b368)] (fun _ kk => XS.dup W371.here hx rfl (hb hby at_92) rfl rfl (XS.aload W371.here hx rfl (hb hby at_93) rfl rfl kk)) ?_
        have k375 := ((V367.keep K368 nin0).keep K371 nin0)
        refine W371.newStr hx hws (hw _ (mI 5 rfl)) SC hzc (hw _ (mI 7 rfl)) (hw _ (mI 8 rfl)) (hw _ (mI 9 rfl)) E371 k373 k372 (cs := [q364, q366]) (n := 2) k375 rfl rfl (by decide +kernel) (by decide +kernel) (allSi cq364 (allSi cq366 all0i)) gb371.1 (Or.inr gb371.2) (mI 0 rfl) (by decide +kernel) (Wd := 3) (by decide +kernel) (by decide +kernel) (by decide +kernel) rfl (by rw [hml]; rfl) rfl (by show 2 * 0 + _ ≤ _; exact Nat.le_of_eq rfl) (hb hby at_95) (fun T374 h374 W374 K374 S374 => ?_)
        refine gof T374 m 100 #[vi i0, vi i1, vi i2, vi i3, vi i4, vi 1, vi 0, vi y243, vi 2, vr b363, U0, U0, U0, U0, U0, U0, U0] [(.int y243), (.ref b371), (.ref b368), (.ref b368)] (fun _ kk => XS.iload W374.here hx rfl (hb hby at_98) rfl kk) ?_
        have k377 := ((E368.keep K371).keep K374)
        have k378 := ((k369.keep K371 nin0).keep K374 (ninS (ne_of_born (Nat.le_of_eq eb371.symm) E368.lt (Nat.le_refl _)) nin0))
        have k379 := ((k370.keep K371 nin0).keep K374 (ninS (ne_of_born (Nat.le_of_eq eb371.symm) E368.lt (Nat.le_refl _)) nin0))
        refine W374.callP hx hEL rfl (hw _ (mI 33 rfl)) (hw _ (mI 34 rfl)) (hw _ (mI 3 rfl)) (hw _ (mI 35 rfl)) (by decide +kernel) (a := b368) (argsL := [(.ref b371), (.int y243)]) (rest := [(.ref b368)]) (rm11 l Z a0 hw hEL zc SC hzc fm SF rfm b368 b371 y243 h374 W374.old k377 k378 k379 gb368.1 nz_p fz_p) all0 (by decide +kernel) (Wd := 1) (by decide +kernel) (by decide +kernel) (by decide +kernel) (allS ⟨gb368.1, (Or.inr gb368.2)⟩ all0) rfl (by rw [hml]; rfl) (lenOf pd18 rfl) rfl (by show 2 * 0 + _ ≤ _; exact Nat.le_of_eq rfl) (hb hby at_100) (fun T376 h376 v376 P376 Ws376 K376 q376 => ?_)
        have W376 := Ws376 [] all0
        obtain rfl := q376
        refine gof T376 m 110 #[vi i0, vi i1, vi i2, vi i3, vi i4, vi 1, vi 0, vi y243, vi 2, vr b363, vr b368, U0, U0, U0, U0, U0, U0] [] (fun _ kk => XS.astore W376.here hx rfl (hb hby at_103) rfl rfl (l' := #[.val (.int i0), .val (.int i1), .val (.int i2), .val (.int i3), .val (.int i4), .val (.int 1), .val (.int 0), .val (.int y243), .val (.int 2), .val (.ref b363), .val (.ref b368), .unset, .unset, .unset, .unset, .unset, .unset]) rfl (XS.iload W376.here hx rfl (hb hby at_105) rfl (XS.ifNo W376.here hx rfl (hb hby at_107) rfl (XT.i0_eq_f (by decide +kernel)) kk))) ?_
        refine W376.newO hx (hw _ (mI 133 rfl)) (hw _ (mI 134 rfl)) (hw _ (mI 135 rfl)) rfl (hb hby at_110) (by decide +kernel) (by decide +kernel) (fun T380 h380 b380 eb380 gb380 W380 K380 E380 D380 => ?_)
        have k381 : Fld Z h380 b380 "org/portcullis/acl/AccessControlEntry" "order" "I" (.int (0 : Int32)) := D380 (Or.inr (hw _ (mI 141 rfl))) (ty := .int) (by decide +kernel)
        have k382 : Fld Z h380 b380 "org/portcullis/acl/AccessControlEntry" "sid" "Lorg/portcullis/acl/Sid;" .null := D380 (Or.inr (hw _ (mI 143 rfl))) (ty := (.object "org/portcullis/acl/Sid")) (by decide +kernel)
        have k383 : Fld Z h380 b380 "org/portcullis/acl/AccessControlEntry" "mask" "I" (.int (0 : Int32)) := D380 (Or.inr (hw _ (mI 145 rfl))) (ty := .int) (by decide +kernel)
        have k384 : Fld Z h380 b380 "org/portcullis/acl/AccessControlEntry" "granting" "Z" (.int (0 : Int32)) := D380 (Or.inr (hw _ (mI 147 rfl))) (ty := .boolean) (by decide +kernel)
        refine gof T380 m 120 #[vi i0, vi i1, vi i2, vi i3, vi i4, vi 1, vi 0, vi y243, vi 2, vr b363, vr b368, U0, U0, U0, U0, U0, U0] [(.int 0), (.int i2), (.ref b368), (.int i1), (.ref b380), (.ref b380)] (fun _ kk => XS.dup W380.here hx rfl (hb hby at_113) rfl rfl (XS.iloadN W380.here hx rfl (hb hby at_114) rfl (XS.aload W380.here hx rfl (hb hby at_115) rfl rfl (XS.iloadN W380.here hx rfl (hb hby at_117) rfl (XS.iload W380.here hx rfl (hb hby at_118) rfl kk))))) ?_
        refine W380.callP hx hEL rfl (hw _ (mI 136 rfl)) (hw _ (mI 137 rfl)) (hw _ (mI 135 rfl)) (hw _ (mI 138 rfl)) (by decide +kernel) (a := b380) (argsL := [(.int i1), (.ref b368), (.int i2), (.int (0 : Int32))]) (rest := [(.ref b380)]) (rm12 l Z a0 hw hEL zc SC hzc fm SF rfm b380 b368 i1 i2 h380 W380.old E380 k381 k382 k383 k384 gb380.1) all0 (by decide +kernel) (Wd := 1) (by decide +kernel) (by decide +kernel) (by decide +kernel) (allS ⟨gb380.1, (Or.inr gb380.2)⟩ all0) rfl (by rw [hml]; rfl) (lenOf pd24 rfl) rfl (by show 2 * 0 + _ ≤ _; exact Nat.le_of_eq rfl) (hb hby at_120) (fun T385 h385 v385 P385 Ws385 K385 q385 => ?_)
        have W385 := Ws385 [] all0
        obtain ⟨rfl, Fg385⟩ := q385
        refine gof T385 m 136 #[vi i0, vi i1, vi i2, vi i3, vi i4, vi 1, vi 0, vi y243, vi 2, vr b363, vr b368, vr b380, U0, U0, U0, U0, U0] [(.int ((i4 &&& (255 : Int32)).toUInt32.toUInt16.toUInt32.toInt32))] (fun _ kk => XS.goto W385.here hx rfl (pc0 := 123) (pc' := 127) rfl (hb hby at_123) (by decide +kernel) (by decide +kernel) (XS.astore W385.here hx rfl (hb hby at_127) rfl rfl (l' := #[.val (.int i0), .val (.int i1), .val (.int i2), .val (.int i3), .val (.int i4), .val (.int 1), .val (.int 0), .val (.int y243), .val (.int 2), .val (.ref b363), .val (.ref b368), .val (.ref b380), .unset, .unset, .unset, .unset, .unset]) rfl (XS.iload W385.here hx rfl (hb hby at_129) rfl (XS.sipush W385.here hx rfl (hb hby at_131) (XS.iand W385.here hx rfl (hb hby at_134) rfl (XS.i2c W385.here hx rfl (hb hby at_135) rfl kk)))))) ?_
        rw [hq366]
        show Go p e below _ (T385.setTop (mkF m 136 #[vi i0, vi i1, vi i2, vi i3, vi i4, vi 1, vi 0, vi y243, vi 2, vr b363, vr b368, vr b380, U0, U0, U0, U0, U0] [(.int q366)]))
        refine W385.callS hx hEL (hw _ (mI 46 rfl)) (hw _ (mI 47 rfl)) (hw _ (mI 6 rfl)) (hw _ (mI 48 rfl)) (by decide +kernel) (argsL := [(.int q366)]) (rest := []) (rm27 l Z a0 hw hEL zc SC hzc fm SF rfm q366 h385 W385.old cq366) all0 (by decide +kernel) (Wd := 0) (by decide +kernel) (by decide +kernel) (by decide +kernel) all0 rfl (by rw [hml]; rfl) (lenOf pd19 rfl) rfl (by show 2 * 0 + _ ≤ _; exact Nat.le_of_eq rfl) (hb hby at_136) (fun T386 h386 v386 P386 Ws386 K386 q386 => ?_)
        have W386 := Ws386 [] all0
        obtain ⟨r386, rfl, lr386, S386⟩ := q386
        have gr386 : n0 ≤ r386 ∧ s.heap.size ≤ r386 := ⟨Nat.le_trans W385.n0le lr386, Nat.le_trans W385.s0le lr386⟩
        have E386 := S386.exa
        refine gof T386 m 141 #[vi i0, vi i1, vi i2, vi i3, vi i4, vi 1, vi 0, vi y243, vi 2, vr b363, vr b368, vr b380, vr r386, U0, U0, U0, U0] [] (fun _ kk => XS.astore W386.here hx rfl (hb hby at_139) rfl rfl (l' := #[.val (.int i0), .val (.int i1), .val (.int i2), .val (.int i3), .val (.int i4), .val (.int 1), .val (.int 0), .val (.int y243), .val (.int 2), .val (.ref b363), .val (.ref b368), .val (.ref b380), .val (.ref r386), .unset, .unset, .unset, .unset]) rfl kk) ?_
        refine W386.newO hx (hw _ (mI 60 rfl)) (hw _ (mI 61 rfl)) (hw _ (mI 62 rfl)) rfl (hb hby at_141) (by decide +kernel) (by decide +kernel) (fun T387 h387 b387 eb387 gb387 W387 K387 E387 D387 => ?_)
        have k388 : Fld Z h387 b387 "java/util/AbstractList" "modCount" "I" (.int (0 : Int32)) := D387 (Or.inl (hw _ (mI 80 rfl))) (ty := .int) (by decide +kernel)
        have k389 : Fld Z h387 b387 "java/util/ArrayList" "elementData" "[Ljava/lang/Object;" .null := D387 (Or.inl (hw _ (mI 83 rfl))) (ty := (.array (.object "java/lang/Object"))) (by decide +kernel)
        have k390 : Fld Z h387 b387 "java/util/ArrayList" "size" "I" (.int (0 : Int32)) := D387 (Or.inl (hw _ (mI 115 rfl))) (ty := .int) (by decide +kernel)
        refine gof T387 m 145 #[vi i0, vi i1, vi i2, vi i3, vi i4, vi 1, vi 0, vi y243, vi 2, vr b363, vr b368, vr b380, vr r386, U0, U0, U0, U0] [(.ref b387), (.ref b387)] (fun _ kk => XS.dup W387.here hx rfl (hb hby at_144) rfl rfl kk) ?_
        refine W387.callP hx hEL rfl (hw _ (mI 63 rfl)) (hw _ (mI 64 rfl)) (hw _ (mI 62 rfl)) (hw _ (mI 65 rfl)) (by decide +kernel) (a := b387) (argsL := []) (rest := [(.ref b387)]) (rm19 l Z a0 hw hEL zc SC hzc fm SF rfm b387 dfl el em mir gr de kdf h387 W387.old OD OS OL OM OI OG OE E387 k388 k389 k390 gb387.1) all0 (by decide +kernel) (Wd := 1) (by decide +kernel) (by decide +kernel) (by decide +kernel) (allS ⟨gb387.1, (Or.inr gb387.2)⟩ all0) rfl (by rw [hml]; rfl) (lenOf pd3 rfl) rfl (by show 2 * 0 + _ ≤ _; exact Nat.le_of_eq rfl) (hb hby at_145) (fun T391 h391 v391 P391 Ws391 K391 q391 => ?_)
        have W391 := Ws391 [] all0
        obtain ⟨rfl, Fe391, Fs391, Fm391⟩ := q391
        refine gof T391 m 158 #[vi i0, vi i1, vi i2, vi i3, vi i4, vi 1, vi 0, vi y243, vi 2, vr b363, vr b368, vr b380, vr r386, vr b387, U0, U0, U0] [(.ref b387)] (fun _ kk => XS.astore W391.here hx rfl (hb hby at_148) rfl rfl (l' := #[.val (.int i0), .val (.int i1), .val (.int i2), .val (.int i3), .val (.int i4), .val (.int 1), .val (.int 0), .val (.int y243), .val (.int 2), .val (.ref b363), .val (.ref b368), .val (.ref b380), .val (.ref r386), .val (.ref b387), .unset, .unset, .unset]) rfl (XS.iload W391.here hx rfl (hb hby at_150) rfl (XS.iconst W391.here hx rfl (hb hby at_152) (XS.icmpNo W391.here hx rfl (hb hby at_153) rfl (XT.ii_lt_f (by decide +kernel)) (XS.aload W391.here hx rfl (hb hby at_156) rfl rfl kk))))) ?_
        refine W391.newO hx (hw _ (mI 148 rfl)) (hw _ (mI 149 rfl)) (hw _ (mI 150 rfl)) rfl (hb hby at_158) (by decide +kernel) (by decide +kernel) (fun T392 h392 b392 eb392 gb392 W392 K392 E392 D392 => ?_)
        have k393 : Fld Z h392 b392 "org/portcullis/acl/ObjectIdentity" "type" "Ljava/lang/String;" .null := D392 (Or.inr (hw _ (mI 159 rfl))) (ty := (.object "java/lang/String")) (by decide +kernel)
        have k394 : Fld Z h392 b392 "org/portcullis/acl/ObjectIdentity" "id" "Ljava/lang/String;" .null := D392 (Or.inr (hw _ (mI 161 rfl))) (ty := (.object "java/lang/String")) (by decide +kernel)
        refine gof T392 m 164 #[vi i0, vi i1, vi i2, vi i3, vi i4, vi 1, vi 0, vi y243, vi 2, vr b363, vr b368, vr b380, vr r386, vr b387, U0, U0, U0] [(.ref r386), (.ref b392), (.ref b392), (.ref b387)] (fun _ kk => XS.dup W392.here hx rfl (hb hby at_161) rfl rfl (XS.aload W392.here hx rfl (hb hby at_162) rfl rfl kk)) ?_
        refine W392.ldcO hx hEL (hw _ (mI 151 rfl)) hSA rfl (hb hby at_164) (n := 4) (by decide +kernel) (by decide +kernel) (by decide +kernel) (by decide +kernel) (fun T395 h395 b395 W395 K395 => ?_)
        show Go p e below _ (T395.setTop (mkF m 166 #[vi i0, vi i1, vi i2, vi i3, vi i4, vi 1, vi 0, vi y243, vi 2, vr b363, vr b368, vr b380, vr r386, vr b387, U0, U0, U0] [(.ref b395), (.ref r386), (.ref b392), (.ref b392), (.ref b387)]))
        have k397 := (E392.keep K395)
        have k398 := (k393.keep K395 nin0)
        have k399 := (k394.keep K395 nin0)
        refine W395.callP hx hEL rfl (hw _ (mI 154 rfl)) (hw _ (mI 155 rfl)) (hw _ (mI 150 rfl)) (hw _ (mI 156 rfl)) (by decide +kernel) (a := b392) (argsL := [(.ref r386), (.ref b395)]) (rest := [(.ref b392), (.ref b387)]) (rm14 l Z a0 hw hEL zc SC hzc fm SF rfm b392 r386 b395 h395 W395.old k397 k398 k399 gb392.1) all0 (by decide +kernel) (Wd := 2) (by decide +kernel) (by decide +kernel) (by decide +kernel) (allS ⟨gb392.1, (Or.inr gb392.2)⟩ all0) rfl (by rw [hml]; rfl) (lenOf pd22 rfl) rfl (by show 2 * 0 + _ ≤ _; exact Nat.le_of_eq rfl) (hb hby at_166) (fun T396 h396 v396 P396 Ws396 K396 q396 => ?_)
        have W396 := Ws396 [] all0
        obtain rfl := q396
        show Go p e below _ (T396.setTop (mkF m 169 #[vi i0, vi i1, vi i2, vi i3, vi i4, vi 1, vi 0, vi y243, vi 2, vr b363, vr b368, vr b380, vr r386, vr b387, U0, U0, U0] [(.ref b392), (.ref b387)]))
        have k401 := ((((E387.keep K391).keep K392).keep K395).keep K396)
        have k402 := (((Fe391.keep K392 nin0).keep K395 nin0).keep K396 (ninS (ne_of_born (Nat.le_of_eq eb392.symm) E387.lt K391.1) nin0))
        have k403 := (((Fs391.keep K392 nin0).keep K395 nin0).keep K396 (ninS (ne_of_born (Nat.le_of_eq eb392.symm) E387.lt K391.1) nin0))
        have k404 := (((Fm391.keep K392 nin0).keep K395 nin0).keep K396 (ninS (ne_of_born (Nat.le_of_eq eb392.symm) E387.lt K391.1) nin0))
        have k405 := (k397.keep K396)
        refine W396.callV hx hEL (hw _ (mI 162 rfl)) (hw _ (mI 163 rfl)) (hw _ (mI 165 rfl)) (hw _ (mI 164 rfl)) (hw _ (mI 62 rfl)) (hw _ (mI 166 rfl)) (by decide +kernel) k401 (a := b387) (argsL := [(.ref b392)]) (rest := []) (rm43 l Z a0 hw hEL zc SC hzc fm SF rfm b387 b392 (0 : Int32) dfl el em mir gr de kdf h396 W396.old OD OS OL OM OI OG OE k401 k402 k403 k404 k405 gb387.1) all0 (by decide +kernel) (Wd := 0) (by decide +kernel) (by decide +kernel) (by decide +kernel) (allS ⟨gb387.1, (Or.inr gb387.2)⟩ all0) rfl (by rw [hml]; rfl) (lenOf pd23 rfl) rfl (by show 2 * 0 + _ ≤ _; exact Nat.le_of_eq rfl) (hb hby at_169) (fun T400 h400 v400 P400 Ws400 K400 q400 => ?_)
        have W400 := Ws400 [] all0
        obtain ⟨t400, kt400, rfl, lt400, Fe400, Fs400, Fm400, A400, Ov400, Ex400⟩ := q400
        have gt400 : n0 ≤ t400 ∧ s.heap.size ≤ t400 := ⟨Nat.le_trans W396.n0le lt400, Nat.le_trans W396.s0le lt400⟩
        refine gof T400 m 181 #[vi i0, vi i1, vi i2, vi i3, vi i4, vi 1, vi 0, vi y243, vi 2, vr b363, vr b368, vr b380, vr r386, vr b387, U0, U0, U0] [(.ref b387)] (fun _ kk => XS.pop W400.here hx rfl (hb hby at_172) rfl rfl (XS.iload W400.here hx rfl (hb hby at_173) rfl (XS.iconst W400.here hx rfl (hb hby at_175) (XS.icmpNo W400.here hx rfl (hb hby at_176) rfl (XT.ii_lt_f (by decide +kernel)) (XS.aload W400.here hx rfl (hb hby at_179) rfl rfl kk))))) ?_
        refine W400.newO hx (hw _ (mI 148 rfl)) (hw _ (mI 149 rfl)) (hw _ (mI 150 rfl)) rfl (hb hby at_181) (by decide +kernel) (by decide +kernel) (fun T406 h406 b406 eb406 gb406 W406 K406 E406 D406 => ?_)
        have k407 : Fld Z h406 b406 "org/portcullis/acl/ObjectIdentity" "type" "Ljava/lang/String;" .null := D406 (Or.inr (hw _ (mI 159 rfl))) (ty := (.object "java/lang/String")) (by decide +kernel)
        have k408 : Fld Z h406 b406 "org/portcullis/acl/ObjectIdentity" "id" "Ljava/lang/String;" .null := D406 (Or.inr (hw _ (mI 161 rfl))) (ty := (.object "java/lang/String")) (by decide +kernel)
        refine gof T406 m 187 #[vi i0, vi i1, vi i2, vi i3, vi i4, vi 1, vi 0, vi y243, vi 2, vr b363, vr b368, vr b380, vr r386, vr b387, U0, U0, U0] [(.ref r386), (.ref b406), (.ref b406), (.ref b387)] (fun _ kk => XS.dup W406.here hx rfl (hb hby at_184) rfl rfl (XS.aload W406.here hx rfl (hb hby at_185) rfl rfl kk)) ?_
        refine W406.ldcO hx hEL (hw _ (mI 262 rfl)) hSA rfl (hb hby at_187) (n := 4) (by decide +kernel) (by decide +kernel) (by decide +kernel) (by decide +kernel) (fun T409 h409 b409 W409 K409 => ?_)
        show Go p e below _ (T409.setTop (mkF m 189 #[vi i0, vi i1, vi i2, vi i3, vi i4, vi 1, vi 0, vi y243, vi 2, vr b363, vr b368, vr b380, vr r386, vr b387, U0, U0, U0] [(.ref b409), (.ref r386), (.ref b406), (.ref b406), (.ref b387)]))
        have k411 := (E406.keep K409)
        have k412 := (k407.keep K409 nin0)
        have k413 := (k408.keep K409 nin0)
        refine W409.callP hx hEL rfl (hw _ (mI 154 rfl)) (hw _ (mI 155 rfl)) (hw _ (mI 150 rfl)) (hw _ (mI 156 rfl)) (by decide +kernel) (a := b406) (argsL := [(.ref r386), (.ref b409)]) (rest := [(.ref b406), (.ref b387)]) (rm14 l Z a0 hw hEL zc SC hzc fm SF rfm b406 r386 b409 h409 W409.old k411 k412 k413 gb406.1) all0 (by decide +kernel) (Wd := 2) (by decide +kernel) (by decide +kernel) (by decide +kernel) (allS ⟨gb406.1, (Or.inr gb406.2)⟩ all0) rfl (by rw [hml]; rfl) (lenOf pd22 rfl) rfl (by show 2 * 0 + _ ≤ _; exact Nat.le_of_eq rfl) (hb hby at_189) (fun T410 h410 v410 P410 Ws410 K410 q410 => ?_)
        have W410 := Ws410 [] all0
        obtain rfl := q410
        show Go p e below _ (T410.setTop (mkF m 192 #[vi i0, vi i1, vi i2, vi i3, vi i4, vi 1, vi 0, vi y243, vi 2, vr b363, vr b368, vr b380, vr r386, vr b387, U0, U0, U0] [(.ref b406), (.ref b387)]))
        have k415 := ((((k401.keep K400).keep K406).keep K409).keep K410)
        have k416 := (((Fe400.keep K406 nin0).keep K409 nin0).keep K410 (ninS (ne_of_born (Nat.le_of_eq eb406.symm) E387.lt (Nat.le_trans (Nat.le_trans (Nat.le_trans (Nat.le_trans K391.1 K392.1) K395.1) K396.1) K400.1)) nin0))
        have k417 := (((Fs400.keep K406 nin0).keep K409 nin0).keep K410 (ninS (ne_of_born (Nat.le_of_eq eb406.symm) E387.lt (Nat.le_trans (Nat.le_trans (Nat.le_trans (Nat.le_trans K391.1 K392.1) K395.1) K396.1) K400.1)) nin0))
        have k418 := (((Fm400.keep K406 nin0).keep K409 nin0).keep K410 (ninS (ne_of_born (Nat.le_of_eq eb406.symm) E387.lt (Nat.le_trans (Nat.le_trans (Nat.le_trans (Nat.le_trans K391.1 K392.1) K395.1) K396.1) K400.1)) nin0))
        have k419 := (((A400.keep K406 nin0).keep K409 nin0).keep K410 (ninS (ne_of_born (Nat.le_of_eq eb406.symm) A400.lt (Nat.le_refl _)) nin0))
        have k420 := (k411.keep K410)
        refine W410.callV hx hEL (hw _ (mI 162 rfl)) (hw _ (mI 163 rfl)) (hw _ (mI 165 rfl)) (hw _ (mI 164 rfl)) (hw _ (mI 62 rfl)) (hw _ (mI 166 rfl)) (by decide +kernel) k415 (a := b387) (argsL := [(.ref b406)]) (rest := []) (rm44 l Z a0 hw hEL zc SC hzc fm SF rfm b387 t400 kt400 ((0 : Int32) + (1 : Int32)) b392 b406 h410 W410.old k415 k416 k417 k418 k419 Ov400 k420 gb387.1 gt400.1 (ne_of_born lt400 E387.lt (Nat.le_trans (Nat.le_trans (Nat.le_trans K391.1 K392.1) K395.1) K396.1))) all0 (by decide +kernel) (Wd := 0) (by decide +kernel) (by decide +kernel) (by decide +kernel) (allS ⟨gb387.1, (Or.inr gb387.2)⟩ (allS ⟨gt400.1, (Or.inr gt400.2)⟩ all0)) rfl (by rw [hml]; rfl) (lenOf pd23 rfl) rfl (by show 2 * 0 + _ ≤ _; exact Nat.le_of_eq rfl) (hb hby at_192) (fun T414 h414 v414 P414 Ws414 K414 q414 => ?_)
        have W414 := Ws414 [] all0
        obtain ⟨rfl, Fe414, Fs414, Fm414, A414⟩ := q414
        refine gof T414 m 219 #[vi i0, vi i1, vi i2, vi i3, vi i4, vi 1, vi 0, vi y243, vi 2, vr b363, vr b368, vr b380, vr r386, vr b387, U0, U0, U0] [] (fun _ kk => XS.pop W414.here hx rfl (hb hby at_195) rfl rfl (XS.iload W414.here hx rfl (hb hby at_196) rfl (XS.iconst W414.here hx rfl (hb hby at_198) (XS.icmpYes W414.here hx rfl (pc0 := 199) (pc' := 219) rfl (hb hby at_199) rfl (XT.ii_lt_t (by decide +kernel)) (by decide +kernel) (by decide +kernel) kk)))) ?_
        refine W414.newO hx (hw _ (mI 84 rfl)) (hw _ (mI 85 rfl)) (hw _ (mI 86 rfl)) rfl (hb hby at_219) (by decide +kernel) (by decide +kernel) (fun T421 h421 b421 eb421 gb421 W421 K421 E421 D421 => ?_)
        have k422 : Fld Z h421 b421 "org/portcullis/acl/Outcome" "iLevels" "Ljava/util/List;" .null := D421 (Or.inr (hw _ (mI 121 rfl))) (ty := (.object "java/util/List")) (by decide +kernel)
        have k423 : Fld Z h421 b421 "org/portcullis/acl/Outcome" "iEntry" "Lorg/portcullis/acl/AccessControlEntry;" .null := D421 (Or.inr (hw _ (mI 123 rfl))) (ty := (.object "org/portcullis/acl/AccessControlEntry")) (by decide +kernel)
        refine gof T421 m 227 #[vi i0, vi i1, vi i2, vi i3, vi i4, vi 1, vi 0, vi y243, vi 2, vr b363, vr b368, vr b380, vr r386, vr b387, U0, U0, U0] [(.ref b380), (.ref b387), (.ref b421), (.ref b421)] (fun _ kk => XS.dup W421.here hx rfl (hb hby at_222) rfl rfl (XS.aload W421.here hx rfl (hb hby at_223) rfl rfl (XS.aload W421.here hx rfl (hb hby at_225) rfl rfl kk))) ?_
        have k425 := ((k415.keep K414).keep K421)
        have k426 := (Fe414.keep K421 nin0)
        have k427 := (Fs414.keep K421 nin0)
        have k428 := (A414.keep K421 nin0)
        have k429 := (((((Ex400.keep K406).keep K409).keep K410).keep K414).keep K421)
        have k430 := ((((((k405.keep K400).keep K406).keep K409).keep K410).keep K414).keep K421)
        have k431 := ((k420.keep K414).keep K421)
        refine W421.callP hx hEL rfl (hw _ (mI 87 rfl)) (hw _ (mI 88 rfl)) (hw _ (mI 86 rfl)) (hw _ (mI 89 rfl)) (by decide +kernel) (a := b421) (argsL := [(.ref b387), (.ref b380)]) (rest := [(.ref b421)]) (rm90 l Z a0 hw hEL zc SC hzc fm SF rfm b421 b387 t400 kt400 b392 b406 (.ref b380) dfl el em mir gr de kdf h421 W421.old OD OS OL OM OI OG OE rfl k425 k426 k427 k428 k429 k430 k431 E421 k422 k423 gb421.1) all0 (by decide +kernel) (Wd := 1) (by decide +kernel) (by decide +kernel) (by decide +kernel) (allS ⟨gb421.1, (Or.inr gb421.2)⟩ all0) rfl (by rw [hml]; rfl) (lenOf pd20 rfl) rfl (by show 2 * 0 + _ ≤ _; exact Nat.le_of_eq rfl) (hb hby at_227) (fun T424 h424 v424 P424 Ws424 K424 q424 => ?_)
        have W424 := Ws424 [] all0
        obtain ⟨rfl, Fi424⟩ := q424
        refine gof T424 m 234 #[vi i0, vi i1, vi i2, vi i3, vi i4, vi 1, vi 0, vi y243, vi 2, vr b363, vr b368, vr b380, vr r386, vr b387, vr b421, U0, U0] [(.ref b421)] (fun _ kk => XS.astore W424.here hx rfl (hb hby at_230) rfl rfl (l' := #[.val (.int i0), .val (.int i1), .val (.int i2), .val (.int i3), .val (.int i4), .val (.int 1), .val (.int 0), .val (.int y243), .val (.int 2), .val (.ref b363), .val (.ref b368), .val (.ref b380), .val (.ref r386), .val (.ref b387), .val (.ref b421), .unset, .unset]) rfl (XS.aload W424.here hx rfl (hb hby at_232) rfl rfl kk)) ?_
        have k433 := ((((((((((((((E380.keep K385).keep K386).keep K387).keep K391).keep K392).keep K395).keep K396).keep K400).keep K406).keep K409).keep K410).keep K414).keep K421).keep K424)
        have k434 := (((((((((((((Fg385.keep K386 nin0).keep K387 nin0).keep K391 (ninS (ne_of_born (Nat.le_of_eq eb387.symm) E380.lt (Nat.le_trans K385.1 K386.1)) nin0)).keep K392 nin0).keep K395 nin0).keep K396 (ninS (ne_of_born (Nat.le_of_eq eb392.symm) E380.lt (Nat.le_trans (Nat.le_trans (Nat.le_trans K385.1 K386.1) K387.1) K391.1)) nin0)).keep K400 (ninS (ne_of_born (Nat.le_of_eq eb387.symm) E380.lt (Nat.le_trans K385.1 K386.1)) nin0)).keep K406 nin0).keep K409 nin0).keep K410 (ninS (ne_of_born (Nat.le_of_eq eb406.symm) E380.lt (Nat.le_trans (Nat.le_trans (Nat.le_trans (Nat.le_trans (Nat.le_trans (Nat.le_trans (Nat.le_trans K385.1 K386.1) K387.1) K391.1) K392.1) K395.1) K396.1) K400.1)) nin0)).keep K414 (ninS (ne_of_born (Nat.le_of_eq eb387.symm) E380.lt (Nat.le_trans K385.1 K386.1)) (ninS (ne_of_born lt400 E380.lt (Nat.le_trans (Nat.le_trans (Nat.le_trans (Nat.le_trans (Nat.le_trans (Nat.le_trans K385.1 K386.1) K387.1) K391.1) K392.1) K395.1) K396.1)) nin0))).keep K421 nin0).keep K424 (ninS (ne_of_born (Nat.le_of_eq eb421.symm) E380.lt (Nat.le_trans (Nat.le_trans (Nat.le_trans (Nat.le_trans (Nat.le_trans (Nat.le_trans (Nat.le_trans (Nat.le_trans (Nat.le_trans (Nat.le_trans (Nat.le_trans K385.1 K386.1) K387.1) K391.1) K392.1) K395.1) K396.1) K400.1) K406.1) K409.1) K410.1) K414.1)) nin0))
        have k435 := (E421.keep K424)
        refine W424.callV hx hEL (hw _ (mI 124 rfl)) (hw _ (mI 125 rfl)) (hw _ (mI 127 rfl)) (hw _ (mI 126 rfl)) (hw _ (mI 86 rfl)) (hw _ (mI 128 rfl)) (by decide +kernel) k435 (a := b421) (argsL := []) (rest := []) (rm94 l Z a0 hw hEL zc SC hzc fm SF rfm b421 b380 dfl el em mir gr de kdf h424 W424.old OD OS OL OM OI OG OE Fi424 k433 k434) all0 (by decide +kernel) (Wd := 0) (by decide +kernel) (by decide +kernel) (by decide +kernel) all0 rfl (by rw [hml]; rfl) (lenOf pd21 rfl) rfl (by show 2 * 0 + _ ≤ _; exact Nat.le_of_eq rfl) (hb hby at_234) (fun T432 h432 v432 P432 Ws432 K432 q432 => ?_)
        have W432 := Ws432 [] all0
        obtain ⟨rfl, rfl⟩ := q432
        refine gof T432 m 255 #[vi i0, vi i1, vi i2, vi i3, vi i4, vi 1, vi 0, vi y243, vi 2, vr b363, vr b368, vr b380, vr r386, vr b387, vr b421, vr de, U0] [] (fun _ kk => XS.astore W432.here hx rfl (hb hby at_237) rfl rfl (l' := #[.val (.int i0), .val (.int i1), .val (.int i2), .val (.int i3), .val (.int i4), .val (.int 1), .val (.int 0), .val (.int y243), .val (.int 2), .val (.ref b363), .val (.ref b368), .val (.ref b380), .val (.ref r386), .val (.ref b387), .val (.ref b421), .val (.ref de), .unset]) rfl (XS.iload W432.here hx rfl (hb hby at_239) rfl (XS.ifNo W432.here hx rfl (hb hby at_241) rfl (XT.i0_eq_f (by decide +kernel)) (XS.iload W432.here hx rfl (hb hby at_244) rfl (XS.ifYes W432.here hx rfl (pc0 := 246) (pc' := 255) rfl (hb hby at_246) rfl (XT.i0_eq_t (by decide +kernel)) (by decide +kernel) (by decide +kernel) kk))))) ?_
        refine W432.getS hx (host := "") (Or.inl (hw _ (mI 132 rfl))) Via.refl OE rfl (hb hby at_255) (fun T436 W436 => ?_)
        refine gof T436 m 269 #[vi i0, vi i1, vi i2, vi i3, vi i4, vi 1, vi 0, vi y243, vi 2, vr b363, vr b368, vr b380, vr r386, vr b387, vr b421, vr de, vr de] [(.ref b421)] (fun _ kk => XS.astore W436.here hx rfl (hb hby at_258) rfl rfl (l' := #[.val (.int i0), .val (.int i1), .val (.int i2), .val (.int i3), .val (.int i4), .val (.int 1), .val (.int 0), .val (.int y243), .val (.int 2), .val (.ref b363), .val (.ref b368), .val (.ref b380), .val (.ref r386), .val (.ref b387), .val (.ref b421), .val (.ref de), .val (.ref de)]) rfl (XS.aload W436.here hx rfl (hb hby at_260) rfl rfl (XS.aload W436.here hx rfl (hb hby at_262) rfl rfl (XT.acmpNo (g := (mkF m 264 #[vi i0, vi i1, vi i2, vi i3, vi i4, vi 1, vi 0, vi y243, vi 2, vr b363, vr b368, vr b380, vr r386, vr b387, vr b421, vr de, vr de] [(.ref de), (.ref de)])) W436.here hx rfl (hb hby at_264) (x := (.ref de)) (y := (.ref de)) (rest := []) rfl rfl rfl (XT.aa_ne_f (x := (.ref de)) (y := (.ref de)) rfl) (XS.aload W436.here hx rfl (hb hby at_267) rfl rfl kk))))) ?_
        refine W436.callV hx hEL (hw _ (mI 124 rfl)) (hw _ (mI 125 rfl)) (hw _ (mI 127 rfl)) (hw _ (mI 126 rfl)) (hw _ (mI 86 rfl)) (hw _ (mI 128 rfl)) (by decide +kernel) k435 (a := b421) (argsL := []) (rest := []) (rm94 l Z a0 hw hEL zc SC hzc fm SF rfm b421 b380 dfl el em mir gr de kdf h424 W436.old OD OS OL OM OI OG OE Fi424 k433 k434) all0 (by decide +kernel) (Wd := 0) (by decide +kernel) (by decide +kernel) (by decide +kernel) all0 rfl (by rw [hml]; rfl) (lenOf pd21 rfl) rfl (by show 2 * 0 + _ ≤ _; exact Nat.le_of_eq rfl) (hb hby at_269) (fun T437 h437 v437 P437 Ws437 K437 q437 => ?_)
        have W437 := Ws437 [] all0
        obtain ⟨rfl, rfl⟩ := q437
        refine gof T437 m 282 #[vi i0, vi i1, vi i2, vi i3, vi i4, vi 1, vi 0, vi y243, vi 2, vr b363, vr b368, vr b380, vr r386, vr b387, vr b421, vr de, vr de] [(.int 1)] (fun _ kk => XS.aload W437.here hx rfl (hb hby at_272) rfl rfl (XT.acmpNo (g := (mkF m 274 #[vi i0, vi i1, vi i2, vi i3, vi i4, vi 1, vi 0, vi y243, vi 2, vr b363, vr b368, vr b380, vr r386, vr b387, vr b421, vr de, vr de] [(.ref de), (.ref de)])) W437.here hx rfl (hb hby at_274) (x := (.ref de)) (y := (.ref de)) (rest := []) rfl rfl rfl (XT.aa_ne_f (x := (.ref de)) (y := (.ref de)) rfl) (XS.iconst W437.here hx rfl (hb hby at_277) (XS.goto W437.here hx rfl (pc0 := 278) (pc' := 282) rfl (hb hby at_278) (by decide +kernel) (by decide +kernel) kk)))) ?_
        exact W437.retI hx hEL hs hlk (by decide +kernel) (by decide +kernel) hret (by simp) rfl (hb hby at_282) (fun S hS => rfl)
      · rw [z244]
        refine gof T0 m 60 #[vi i0, vi i1, vi i2, vi i3, vi i4, vi 1, vi 0, vi y243, vi 3, U0, U0, U0, U0, U0, U0, U0, U0] [(.int 2)] (fun _ kk => XS.istore W0.here hx rfl (hb hby at_44) rfl (l' := #[.val (.int i0), .val (.int i1), .val (.int i2), .val (.int i3), .val (.int i4), .val (.int 1), .val (.int 0), .val (.int y243), .val (.int 3), .unset, .unset, .unset, .unset, .unset, .unset, .unset, .unset]) rfl (XS.iload W0.here hx rfl (hb hby at_46) rfl (XS.ifNo W0.here hx rfl (hb hby at_48) rfl (XT.i0_eq_f (by decide +kernel)) (XS.iload W0.here hx rfl (hb hby at_51) rfl (XS.ifYes W0.here hx rfl (pc0 := 53) (pc' := 59) rfl (hb hby at_53) rfl (XT.i0_ne_t (by decide +kernel)) (by decide +kernel) (by decide +kernel) (XS.iconst W0.here hx rfl (hb hby at_59) kk)))))) ?_
        refine W0.newP hx (hw _ (mI 0 rfl)) rfl (hb hby at_60) rfl (by decide +kernel) (cap := 2) (by decide +kernel) (by decide +kernel) (by decide +kernel) (by decide +kernel) (fun T438 h438 b438 c438 eb438 gb438 W438 K438 A438 => ?_)
        have V438 : Arv Z h438 b438 c438 .char (2 : Int32) [(.int (0 : Int32)), (.int (0 : Int32))] (.int (0 : Int32)) := A438
        refine gof T438 m 73 #[vi i0, vi i1, vi i2, vi i3, vi i4, vi 1, vi 0, vi y243, vi 3, vr b438, U0, U0, U0, U0, U0, U0, U0] [(.int ((i3 &&& (255 : Int32)).toUInt32.toUInt16.toUInt32.toInt32)), (.int 0), (.ref b438)] (fun _ kk => XS.astore W438.here hx rfl (hb hby at_62) rfl rfl (l' := #[.val (.int i0), .val (.int i1), .val (.int i2), .val (.int i3), .val (.int i4), .val (.int 1), .val (.int 0), .val (.int y243), .val (.int 3), .val (.ref b438), .unset, .unset, .unset, .unset, .unset, .unset, .unset]) rfl (XS.aload W438.here hx rfl (hb hby at_64) rfl rfl (XS.iconst W438.here hx rfl (hb hby at_66) (XS.iloadN W438.here hx rfl (hb hby at_67) rfl (XS.sipush W438.here hx rfl (hb hby at_68) (XS.iand W438.here hx rfl (hb hby at_71) rfl (XS.i2c W438.here hx rfl (hb hby at_72) rfl kk))))))) ?_
        obtain ⟨q439, hq439, cq439, zq439⟩ := char255 i3
        rw [hq439]
        show Go p e below _ (T438.setTop (mkF m 73 #[vi i0, vi i1, vi i2, vi i3, vi i4, vi 1, vi 0, vi y243, vi 3, vr b438, U0, U0, U0, U0, U0, U0, U0] [(.int q439), (.int 0), (.ref b438)]))
        refine W438.stC hx V438 ⟨by decide, by decide⟩ 0 rfl (Nat.le_of_ble_eq_true rfl) gb438.1 (Or.inr gb438.2) rfl rfl (hb hby at_73) (fun T440 h440 W440 K440 A440 => ?_)
        have V440 : Arv Z h440 b438 c438 .char (2 : Int32) [(.int q439), (.int (0 : Int32))] (.int (0 : Int32)) := (by rw [(nar_char cq439)] at A440; exact A440)
        refine gof T440 m 84 #[vi i0, vi i1, vi i2, vi i3, vi i4, vi 1, vi 0, vi y243, vi 3, vr b438, U0, U0, U0, U0, U0, U0, U0] [(.int ((i4 &&& (255 : Int32)).toUInt32.toUInt16.toUInt32.toInt32)), (.int 1), (.ref b438)] (fun _ kk => XS.aload W440.here hx rfl (hb hby at_74) rfl rfl (XS.iconst W440.here hx rfl (hb hby at_76) (XS.iload W440.here hx rfl (hb hby at_77) rfl (XS.sipush W440.here hx rfl (hb hby at_79) (XS.iand W440.here hx rfl (hb hby at_82) rfl (XS.i2c W440.here hx rfl (hb hby at_83) rfl kk)))))) ?_
        obtain ⟨q441, hq441, cq441, zq441⟩ := char255 i4
        rw [hq441]
        show Go p e below _ (T440.setTop (mkF m 84 #[vi i0, vi i1, vi i2, vi i3, vi i4, vi 1, vi 0, vi y243, vi 3, vr b438, U0, U0, U0, U0, U0, U0, U0] [(.int q441), (.int 1), (.ref b438)]))
        refine W440.stC hx V440 ⟨by decide, by decide⟩ 1 rfl (Nat.le_of_ble_eq_true rfl) gb438.1 (Or.inr gb438.2) rfl rfl (hb hby at_84) (fun T442 h442 W442 K442 A442 => ?_)
        have V442 : Arv Z h442 b438 c438 .char (2 : Int32) [(.int q439), (.int q441)] (.int (0 : Int32)) := (by rw [(nar_char cq441)] at A442; exact A442)
        show Go p e below _ (T442.setTop (mkF m 85 #[vi i0, vi i1, vi i2, vi i3, vi i4, vi 1, vi 0, vi y243, vi 3, vr b438, U0, U0, U0, U0, U0, U0, U0] []))
        refine W442.newO hx (hw _ (mI 1 rfl)) (hw _ (mI 2 rfl)) (hw _ (mI 3 rfl)) rfl (hb hby at_85) (by decide +kernel) (by decide +kernel) (fun T443 h443 b443 eb443 gb443 W443 K443 E443 D443 => ?_)
        have k444 : Fld Z h443 b443 "org/portcullis/acl/Sid" "name" "Ljava/lang/String;" .null := D443 (Or.inr (hw _ (mI 43 rfl))) (ty := (.object "java/lang/String")) (by decide +kernel)
        have k445 : Fld Z h443 b443 "org/portcullis/acl/Sid" "principal" "Z" (.int (0 : Int32)) := D443 (Or.inr (hw _ (mI 45 rfl))) (ty := .boolean) (by decide +kernel)
        refine gof T443 m 89 #[vi i0, vi i1, vi i2, vi i3, vi i4, vi 1, vi 0, vi y243, vi 3, vr b438, U0, U0, U0, U0, U0, U0, U0] [(.ref b443), (.ref b443)] (fun _ kk => XS.dup W443.here hx rfl (hb hby at_88) rfl rfl kk) ?_
        refine W443.newO hx (hw _ (mI 4 rfl)) (hw _ (mI 5 rfl)) (hw _ (mI 6 rfl)) rfl (hb hby at_89) (by decide +kernel) (by decide +kernel) (fun T446 h446 b446 eb446 gb446 W446 K446 E446 D446 => ?_)
        have k447 : Fld Z h446 b446 "java/lang/String" "coder" "B" (.int (0 : Int32)) := D446 (Or.inr (hw _ (mI 30 rfl))) (ty := .byte) (by decide +kernel)
        have k448 : Fld Z h446 b446 "java/lang/String" "value" "[B" .null := D446 (Or.inr (hw _ (mI 32 rfl))) (ty := (.array .byte)) (by decide +kernel)
        refine gof T446 m 95 #[vi i0, vi i1, vi i2, vi i3, vi i4, vi 1, vi 0, vi y243, vi 3, vr b438, U0, U0, U0, U0, U0, U0, U0] [(.ref b438), (.ref b446), (.ref b446), (.ref b443), (.ref b443)] (fun _ kk => XS.dup W446.here hx rfl (hb hby at_92) rfl rfl (XS.aload W446.here hx rfl (hb hby at_93) rfl rfl kk)) ?_
        have k450 := ((V442.keep K443 nin0).keep K446 nin0)
        refine W446.newStr hx hws (hw _ (mI 5 rfl)) SC hzc (hw _ (mI 7 rfl)) (hw _ (mI 8 rfl)) (hw _ (mI 9 rfl)) E446 k448 k447 (cs := [q439, q441]) (n := 2) k450 rfl rfl (by decide +kernel) (by decide +kernel) (allSi cq439 (allSi cq441 all0i)) gb446.1 (Or.inr gb446.2) (mI 0 rfl) (by decide +kernel) (Wd := 3) (by decide +kernel) (by decide +kernel) (by decide +kernel) rfl (by rw [hml]; rfl) rfl (by show 2 * 0 + _ ≤ _; exact Nat.le_of_eq rfl) (hb hby at_95) (fun T449 h449 W449 K449 S449 => ?_)
        refine gof T449 m 100 #[vi i0, vi i1, vi i2, vi i3, vi i4, vi 1, vi 0, vi y243, vi 3, vr b438, U0, U0, U0, U0, U0, U0, U0] [(.int y243), (.ref b446), (.ref b443), (.ref b443)] (fun _ kk => XS.iload W449.here hx rfl (hb hby at_98) rfl kk) ?_
        have k452 := ((E443.keep K446).keep K449)
        have k453 := ((k444.keep K446 nin0).keep K449 (ninS (ne_of_born (Nat.le_of_eq eb446.symm) E443.lt (Nat.le_refl _)) nin0))
        have k454 := ((k445.keep K446 nin0).keep K449 (ninS (ne_of_born (Nat.le_of_eq eb446.symm) E443.lt (Nat.le_refl _)) nin0))
        refine W449.callP hx hEL rfl (hw _ (mI 33 rfl)) (hw _ (mI 34 rfl)) (hw _ (mI 3 rfl)) (hw _ (mI 35 rfl)) (by decide +kernel) (a := b443) (argsL := [(.ref b446), (.int y243)]) (rest := [(.ref b443)]) (rm11 l Z a0 hw hEL zc SC hzc fm SF rfm b443 b446 y243 h449 W449.old k452 k453 k454 gb443.1 nz_p fz_p) all0 (by decide +kernel) (Wd := 1) (by decide +kernel) (by decide +kernel) (by decide +kernel) (allS ⟨gb443.1, (Or.inr gb443.2)⟩ all0) rfl (by rw [hml]; rfl) (lenOf pd18 rfl) rfl (by show 2 * 0 + _ ≤ _; exact Nat.le_of_eq rfl) (hb hby at_100) (fun T451 h451 v451 P451 Ws451 K451 q451 => ?_)
        have W451 := Ws451 [] all0
        obtain rfl := q451
        refine gof T451 m 110 #[vi i0, vi i1, vi i2, vi i3, vi i4, vi 1, vi 0, vi y243, vi 3, vr b438, vr b443, U0, U0, U0, U0, U0, U0] [] (fun _ kk => XS.astore W451.here hx rfl (hb hby at_103) rfl rfl (l' := #[.val (.int i0), .val (.int i1), .val (.int i2), .val (.int i3), .val (.int i4), .val (.int 1), .val (.int 0), .val (.int y243), .val (.int 3), .val (.ref b438), .val (.ref b443), .unset, .unset, .unset, .unset, .unset, .unset]) rfl (XS.iload W451.here hx rfl (hb hby at_105) rfl (XS.ifNo W451.here hx rfl (hb hby at_107) rfl (XT.i0_eq_f (by decide +kernel)) kk))) ?_
        refine W451.newO hx (hw _ (mI 133 rfl)) (hw _ (mI 134 rfl)) (hw _ (mI 135 rfl)) rfl (hb hby at_110) (by decide +kernel) (by decide +kernel) (fun T455 h455 b455 eb455 gb455 W455 K455 E455 D455 => ?_)
        have k456 : Fld Z h455 b455 "org/portcullis/acl/AccessControlEntry" "order" "I" (.int (0 : Int32)) := D455 (Or.inr (hw _ (mI 141 rfl))) (ty := .int) (by decide +kernel)
        have k457 : Fld Z h455 b455 "org/portcullis/acl/AccessControlEntry" "sid" "Lorg/portcullis/acl/Sid;" .null := D455 (Or.inr (hw _ (mI 143 rfl))) (ty := (.object "org/portcullis/acl/Sid")) (by decide +kernel)
        have k458 : Fld Z h455 b455 "org/portcullis/acl/AccessControlEntry" "mask" "I" (.int (0 : Int32)) := D455 (Or.inr (hw _ (mI 145 rfl))) (ty := .int) (by decide +kernel)
        have k459 : Fld Z h455 b455 "org/portcullis/acl/AccessControlEntry" "granting" "Z" (.int (0 : Int32)) := D455 (Or.inr (hw _ (mI 147 rfl))) (ty := .boolean) (by decide +kernel)
        refine gof T455 m 120 #[vi i0, vi i1, vi i2, vi i3, vi i4, vi 1, vi 0, vi y243, vi 3, vr b438, vr b443, U0, U0, U0, U0, U0, U0] [(.int 0), (.int i2), (.ref b443), (.int i1), (.ref b455), (.ref b455)] (fun _ kk => XS.dup W455.here hx rfl (hb hby at_113) rfl rfl (XS.iloadN W455.here hx rfl (hb hby at_114) rfl (XS.aload W455.here hx rfl (hb hby at_115) rfl rfl (XS.iloadN W455.here hx rfl (hb hby at_117) rfl (XS.iload W455.here hx rfl (hb hby at_118) rfl kk))))) ?_
        refine W455.callP hx hEL rfl (hw _ (mI 136 rfl)) (hw _ (mI 137 rfl)) (hw _ (mI 135 rfl)) (hw _ (mI 138 rfl)) (by decide +kernel) (a := b455) (argsL := [(.int i1), (.ref b443), (.int i2), (.int (0 : Int32))]) (rest := [(.ref b455)]) (rm12 l Z a0 hw hEL zc SC hzc fm SF rfm b455 b443 i1 i2 h455 W455.old E455 k456 k457 k458 k459 gb455.1) all0 (by decide +kernel) (Wd := 1) (by decide +kernel) (by decide +kernel) (by decide +kernel) (allS ⟨gb455.1, (Or.inr gb455.2)⟩ all0) rfl (by rw [hml]; rfl) (lenOf pd24 rfl) rfl (by show 2 * 0 + _ ≤ _; exact Nat.le_of_eq rfl) (hb hby at_120) (fun T460 h460 v460 P460 Ws460 K460 q460 => ?_)
        have W460 := Ws460 [] all0
        obtain ⟨rfl, Fg460⟩ := q460
        refine gof T460 m 136 #[vi i0, vi i1, vi i2, vi i3, vi i4, vi 1, vi 0, vi y243, vi 3, vr b438, vr b443, vr b455, U0, U0, U0, U0, U0] [(.int ((i4 &&& (255 : Int32)).toUInt32.toUInt16.toUInt32.toInt32))] (fun _ kk => XS.goto W460.here hx rfl (pc0 := 123) (pc' := 127) rfl (hb hby at_123) (by decide +kernel) (by decide +kernel) (XS.astore W460.here hx rfl (hb hby at_127) rfl rfl (l' := #[.val (.int i0), .val (.int i1), .val (.int i2), .val (.int i3), .val (.int i4), .val (.int 1), .val (.int 0), .val (.int y243), .val (.int 3), .val (.ref b438), .val (.ref b443), .val (.ref b455), .unset, .unset, .unset, .unset, .unset]) rfl (XS.iload W460.here hx rfl (hb hby at_129) rfl (XS.sipush W460.here hx rfl (hb hby at_131) (XS.iand W460.here hx rfl (hb hby at_134) rfl (XS.i2c W460.here hx rfl (hb hby at_135) rfl kk)))))) ?_
        rw [hq441]
        show Go p e below _ (T460.setTop (mkF m 136 #[vi i0, vi i1, vi i2, vi i3, vi i4, vi 1, vi 0, vi y243, vi 3, vr b438, vr b443, vr b455, U0, U0, U0, U0, U0] [(.int q441)]))
        refine W460.callS hx hEL (hw _ (mI 46 rfl)) (hw _ (mI 47 rfl)) (hw _ (mI 6 rfl)) (hw _ (mI 48 rfl)) (by decide +kernel) (argsL := [(.int q441)]) (rest := []) (rm27 l Z a0 hw hEL zc SC hzc fm SF rfm q441 h460 W460.old cq441) all0 (by decide +kernel) (Wd := 0) (by decide +kernel) (by decide +kernel) (by decide +kernel) all0 rfl (by rw [hml]; rfl) (lenOf pd19 rfl) rfl (by show 2 * 0 + _ ≤ _; exact Nat.le_of_eq rfl) (hb hby at_136) (fun T461 h461 v461 P461 Ws461 K461 q461 => ?_)
        have W461 := Ws461 [] all0
        obtain ⟨r461, rfl, lr461, S461⟩ := q461
        have gr461 : n0 ≤ r461 ∧ s.heap.size ≤ r461 := ⟨Nat.le_trans W460.n0le lr461, Nat.le_trans W460.s0le lr461⟩
        have E461 := S461.exa
        refine gof T461 m 141 #[vi i0, vi i1, vi i2, vi i3, vi i4, vi 1, vi 0, vi y243, vi 3, vr b438, vr b443, vr b455, vr r461, U0, U0, U0, U0] [] (fun _ kk => XS.astore W461.here hx rfl (hb hby at_139) rfl rfl (l' := #[.val (.int i0), .val (.int i1), .val (.int i2), .val (.int i3), .val (.int i4), .val (.int 1), .val (.int 0), .val (.int y243), .val (.int 3), .val (.ref b438), .val (.ref b443), .val (.ref b455), .val (.ref r461), .unset, .unset, .unset, .unset]) rfl kk) ?_
        refine W461.newO hx (hw _ (mI 60 rfl)) (hw _ (mI 61 rfl)) (hw _ (mI 62 rfl)) rfl (hb hby at_141) (by decide +kernel) (by decide +kernel) (fun T462 h462 b462 eb462 gb462 W462 K462 E462 D462 => ?_)
        have k463 : Fld Z h462 b462 "java/util/AbstractList" "modCount" "I" (.int (0 : Int32)) := D462 (Or.inl (hw _ (mI 80 rfl))) (ty := .int) (by decide +kernel)
        have k464 : Fld Z h462 b462 "java/util/ArrayList" "elementData" "[Ljava/lang/Object;" .null := D462 (Or.inl (hw _ (mI 83 rfl))) (ty := (.array (.object "java/lang/Object"))) (by decide +kernel)
        have k465 : Fld Z h462 b462 "java/util/ArrayList" "size" "I" (.int (0 : Int32)) := D462 (Or.inl (hw _ (mI 115 rfl))) (ty := .int) (by decide +kernel)
        refine gof T462 m 145 #[vi i0, vi i1, vi i2, vi i3, vi i4, vi 1, vi 0, vi y243, vi 3, vr b438, vr b443, vr b455, vr r461, U0, U0, U0, U0] [(.ref b462), (.ref b462)] (fun _ kk => XS.dup W462.here hx rfl (hb hby at_144) rfl rfl kk) ?_
        refine W462.callP hx hEL rfl (hw _ (mI 63 rfl)) (hw _ (mI 64 rfl)) (hw _ (mI 62 rfl)) (hw _ (mI 65 rfl)) (by decide +kernel) (a := b462) (argsL := []) (rest := [(.ref b462)]) (rm19 l Z a0 hw hEL zc SC hzc fm SF rfm b462 dfl el em mir gr de kdf h462 W462.old OD OS OL OM OI OG OE E462 k463 k464 k465 gb462.1) all0 (by decide +kernel) (Wd := 1) (by decide +kernel) (by decide +kernel) (by decide +kernel) (allS ⟨gb462.1, (Or.inr gb462.2)⟩ all0) rfl (by rw [hml]; rfl) (lenOf pd3 rfl) rfl (by show 2 * 0 + _ ≤ _; exact Nat.le_of_eq rfl) (hb hby at_145) (fun T466 h466 v466 P466 Ws466 K466 q466 => ?_)
        have W466 := Ws466 [] all0
        obtain ⟨rfl, Fe466, Fs466, Fm466⟩ := q466
        refine gof T466 m 158 #[vi i0, vi i1, vi i2, vi i3, vi i4, vi 1, vi 0, vi y243, vi 3, vr b438, vr b443, vr b455, vr r461, vr b462, U0, U0, U0] [(.ref b462)] (fun _ kk => XS.astore W466.here hx rfl (hb hby at_148) rfl rfl (l' := #[.val (.int i0), .val (.int i1), .val (.int i2), .val (.int i3), .val (.int i4), .val (.int 1), .val (.int 0), .val (.int y243), .val (.int 3), .val (.ref b438), .val (.ref b443), .val (.ref b455), .val (.ref r461), .val (.ref b462), .unset, .unset, .unset]) rfl (XS.iload W466.here hx rfl (hb hby at_150) rfl (XS.iconst W466.here hx rfl (hb hby at_152) (XS.icmpNo W466.here hx rfl (hb hby at_153) rfl (XT.ii_lt_f (by decide +kernel)) (XS.aload W466.here hx rfl (hb hby at_156) rfl rfl kk))))) ?_
        refine W466.newO hx (hw _ (mI 148 rfl)) (hw _ (mI 149 rfl)) (hw _ (mI 150 rfl)) rfl (hb hby at_158) (by decide +kernel) (by decide +kernel) (fun T467 h467 b467 eb467 gb467 W467 K467 E467 D467 => ?_)
        have k468 : Fld Z h467 b467 "org/portcullis/acl/ObjectIdentity" "type" "Ljava/lang/String;" .null := D467 (Or.inr (hw _ (mI 159 rfl))) (ty := (.object "java/lang/String")) (by decide +kernel)
        have k469 : Fld Z h467 b467 "org/portcullis/acl/ObjectIdentity" "id" "Ljava/lang/String;" .null := D467 (Or.inr (hw _ (mI 161 rfl))) (ty := (.object "java/lang/String")) (by decide +kernel)
        refine gof T467 m 164 #[vi i0, vi i1, vi i2, vi i3, vi i4, vi 1, vi 0, vi y243, vi 3, vr b438, vr b443, vr b455, vr r461, vr b462, U0, U0, U0] [(.ref r461), (.ref b467), (.ref b467), (.ref b462)] (fun _ kk => XS.dup W467.here hx rfl (hb hby at_161) rfl rfl (XS.aload W467.here hx rfl (hb hby at_162) rfl rfl kk)) ?_
        refine W467.ldcO hx hEL (hw _ (mI 151 rfl)) hSA rfl (hb hby at_164) (n := 4) (by decide +kernel) (by decide +kernel) (by decide +kernel) (by decide +kernel) (fun T470 h470 b470 W470 K470 => ?_)
        show Go p e below _ (T470.setTop (mkF m 166 #[vi i0, vi i1, vi i2, vi i3, vi i4, vi 1, vi 0, vi y243, vi 3, vr b438, vr b443, vr b455, vr r461, vr b462, U0, U0, U0] [(.ref b470), (.ref r461), (.ref b467), (.ref b467), (.ref b462)]))
        have k472 := (E467.keep K470)
        have k473 := (k468.keep K470 nin0)
        have k474 := (k469.keep K470 nin0)
        refine W470.callP hx hEL rfl (hw _ (mI 154 rfl)) (hw _ (mI 155 rfl)) (hw _ (mI 150 rfl)) (hw _ (mI 156 rfl)) (by decide +kernel) (a := b467) (argsL := [(.ref r461), (.ref b470)]) (rest := [(.ref b467), (.ref b462)]) (rm14 l Z a0 hw hEL zc SC hzc fm SF rfm b467 r461 b470 h470 W470.old k472 k473 k474 gb467.1) all0 (by decide +kernel) (Wd := 2) (by decide +kernel) (by decide +kernel) (by decide +kernel) (allS ⟨gb467.1, (Or.inr gb467.2)⟩ all0) rfl (by rw [hml]; rfl) (lenOf pd22 rfl) rfl (by show 2 * 0 + _ ≤ _; exact Nat.le_of_eq rfl) (hb hby at_166) (fun T471 h471 v471 P471 Ws471 K471 q471 => ?_)
        have W471 := Ws471 [] all0
        obtain rfl := q471
        show Go p e below _ (T471.setTop (mkF m 169 #[vi i0, vi i1, vi i2, vi i3, vi i4, vi 1, vi 0, vi y243, vi 3, vr b438, vr b443, vr b455, vr r461, vr b462, U0, U0, U0] [(.ref b467), (.ref b462)]))
        have k476 := ((((E462.keep K466).keep K467).keep K470).keep K471)
        have k477 := (((Fe466.keep K467 nin0).keep K470 nin0).keep K471 (ninS (ne_of_born (Nat.le_of_eq eb467.symm) E462.lt K466.1) nin0))
        have k478 := (((Fs466.keep K467 nin0).keep K470 nin0).keep K471 (ninS (ne_of_born (Nat.le_of_eq eb467.symm) E462.lt K466.1) nin0))
        have k479 := (((Fm466.keep K467 nin0).keep K470 nin0).keep K471 (ninS (ne_of_born (Nat.le_of_eq eb467.symm) E462.lt K466.1) nin0))
        have k480 := (k472.keep K471)
        refine W471.callV hx hEL (hw _ (mI 162 rfl)) (hw _ (mI 163 rfl)) (hw _ (mI 165 rfl)) (hw _ (mI 164 rfl)) (hw _ (mI 62 rfl)) (hw _ (mI 166 rfl)) (by decide +kernel) k476 (a := b462) (argsL := [(.ref b467)]) (rest := []) (rm43 l Z a0 hw hEL zc SC hzc fm SF rfm b462 b467 (0 : Int32) dfl el em mir gr de kdf h471 W471.old OD OS OL OM OI OG OE k476 k477 k478 k479 k480 gb462.1) all0 (by decide +kernel) (Wd := 0) (by decide +kernel) (by decide +kernel) (by decide +kernel) (allS ⟨gb462.1, (Or.inr gb462.2)⟩ all0) rfl (by rw [hml]; rfl) (lenOf pd23 rfl) rfl (by show 2 * 0 + _ ≤ _; exact Nat.le_of_eq rfl) (hb hby at_169) (fun T475 h475 v475 P475 Ws475 K475 q475 => ?_)
        have W475 := Ws475 [] all0
        obtain ⟨t475, kt475, rfl, lt475, Fe475, Fs475, Fm475, A475, Ov475, Ex475⟩ := q475
        have gt475 : n0 ≤ t475 ∧ s.heap.size ≤ t475 := ⟨Nat.le_trans W471.n0le lt475, Nat.le_trans W471.s0le lt475⟩
        refine gof T475 m 181 #[vi i0, vi i1, vi i2, vi i3, vi i4, vi 1, vi 0, vi y243, vi 3, vr b438, vr b443, vr b455, vr r461, vr b462, U0, U0, U0] [(.ref b462)] (fun _ kk => XS.pop W475.here hx rfl (hb hby at_172) rfl rfl (XS.iload W475.here hx rfl (hb hby at_173) rfl (XS.iconst W475.here hx rfl (hb hby at_175) (XS.icmpNo W475.here hx rfl (hb hby at_176) rfl (XT.ii_lt_f (by decide +kernel)) (XS.aload W475.here hx rfl (hb hby at_179) rfl rfl kk))))) ?_
        refine W475.newO hx (hw _ (mI 148 rfl)) (hw _ (mI 149 rfl)) (hw _ (mI 150 rfl)) rfl (hb hby at_181) (by decide +kernel) (by decide +kernel) (fun T481 h481 b481 eb481 gb481 W481 K481 E481 D481 => ?_)
        have k482 : Fld Z h481 b481 "org/portcullis/acl/ObjectIdentity" "type" "Ljava/lang/String;" .null := D481 (Or.inr (hw _ (mI 159 rfl))) (ty := (.object "java/lang/String")) (by decide +kernel)
        have k483 : Fld Z h481 b481 "org/portcullis/acl/ObjectIdentity" "id" "Ljava/lang/String;" .null := D481 (Or.inr (hw _ (mI 161 rfl))) (ty := (.object "java/lang/String")) (by decide +kernel)
        refine gof T481 m 187 #[vi i0, vi i1, vi i2, vi i3, vi i4, vi 1, vi 0, vi y243, vi 3, vr b438, vr b443, vr b455, vr r461, vr b462, U0, U0, U0] [(.ref r461), (.ref b481), (.ref b481), (.ref b462)] (fun _ kk => XS.dup W481.here hx rfl (hb hby at_184) rfl rfl (XS.aload W481.here hx rfl (hb hby at_185) rfl rfl kk)) ?_
        refine W481.ldcO hx hEL (hw _ (mI 262 rfl)) hSA rfl (hb hby at_187) (n := 4) (by decide +kernel) (by decide +kernel) (by decide +kernel) (by decide +kernel) (fun T484 h484 b484 W484 K484 => ?_)
        show Go p e below _ (T484.setTop (mkF m 189 #[vi i0, vi i1, vi i2, vi i3, vi i4, vi 1, vi 0, vi y243, vi 3, vr b438, vr b443, vr b455, vr r461, vr b462, U0, U0, U0] [(.ref b484), (.ref r461), (.ref b481), (.ref b481), (.ref b462)]))
        have k486 := (E481.keep K484)
        have k487 := (k482.keep K484 nin0)
        have k488 := (k483.keep K484 nin0)
        refine W484.callP hx hEL rfl (hw _ (mI 154 rfl)) (hw _ (mI 155 rfl)) (hw _ (mI 150 rfl)) (hw _ (mI 156 rfl)) (by decide +kernel) (a := b481) (argsL := [(.ref r461), (.ref b484)]) (rest := [(.ref b481), (.ref b462)]) (rm14 l Z a0 hw hEL zc SC hzc fm SF rfm b481 r461 b484 h484 W484.old k486 k487 k488 gb481.1) all0 (by decide +kernel) (Wd := 2) (by decide +kernel) (by decide +kernel) (by decide +kernel) (allS ⟨gb481.1, (Or.inr gb481.2)⟩ all0) rfl (by rw [hml]; rfl) (lenOf pd22 rfl) rfl (by show 2 * 0 + _ ≤ _; exact Nat.le_of_eq rfl) (hb hby at_189) (fun T485 h485 v485 P485 Ws485 K485 q485 => ?_)
        have W485 := Ws485 [] all0
        obtain rfl := q485
        show Go p e below _ (T485.setTop (mkF m 192 #[vi i0, vi i1, vi i2, vi i3, vi i4, vi 1, vi 0, vi y243, vi 3, vr b438, vr b443, vr b455, vr r461, vr b462, U0, U0, U0] [(.ref b481), (.ref b462)]))
        have k490 := ((((k476.keep K475).keep K481).keep K484).keep K485)
        have k491 := (((Fe475.keep K481 nin0).keep K484 nin0).keep K485 (ninS (ne_of_born (Nat.le_of_eq eb481.symm) E462.lt (Nat.le_trans (Nat.le_trans (Nat.le_trans (Nat.le_trans K466.1 K467.1) K470.1) K471.1) K475.1)) nin0))
        have k492 := (((Fs475.keep K481 nin0).keep K484 nin0).keep K485 (ninS (ne_of_born (Nat.le_of_eq eb481.symm) E462.lt (Nat.le_trans (Nat.le_trans (Nat.le_trans (Nat.le_trans K466.1 K467.1) K470.1) K471.1) K475.1)) nin0))
        have k493 := (((Fm475.keep K481 nin0).keep K484 nin0).keep K485 (ninS (ne_of_born (Nat.le_of_eq eb481.symm) E462.lt (Nat.le_trans (Nat.le_trans (Nat.le_trans (Nat.le_trans K466.1 K467.1) K470.1) K471.1) K475.1)) nin0))
        have k494 := (((A475.keep K481 nin0).keep K484 nin0).keep K485 (ninS (ne_of_born (Nat.le_of_eq eb481.symm) A475.lt (Nat.le_refl _)) nin0))
        have k495 := (k486.keep K485)
        refine W485.callV hx hEL (hw _ (mI 162 rfl)) (hw _ (mI 163 rfl)) (hw _ (mI 165 rfl)) (hw _ (mI 164 rfl)) (hw _ (mI 62 rfl)) (hw _ (mI 166 rfl)) (by decide +kernel) k490 (a := b462) (argsL := [(.ref b481)]) (rest := []) (rm44 l Z a0 hw hEL zc SC hzc fm SF rfm b462 t475 kt475 ((0 : Int32) + (1 : Int32)) b467 b481 h485 W485.old k490 k491 k492 k493 k494 Ov475 k495 gb462.1 gt475.1 (ne_of_born lt475 E462.lt (Nat.le_trans (Nat.le_trans (Nat.le_trans K466.1 K467.1) K470.1) K471.1))) all0 (by decide +kernel) (Wd := 0) (by decide +kernel) (by decide +kernel) (by decide +kernel) (allS ⟨gb462.1, (Or.inr gb462.2)⟩ (allS ⟨gt475.1, (Or.inr gt475.2)⟩ all0)) rfl (by rw [hml]; rfl) (lenOf pd23 rfl) rfl (by show 2 * 0 + _ ≤ _; exact Nat.le_of_eq rfl) (hb hby at_192) (fun T489 h489 v489 P489 Ws489 K489 q489 => ?_)
        have W489 := Ws489 [] all0
        obtain ⟨rfl, Fe489, Fs489, Fm489, A489⟩ := q489
        refine gof T489 m 204 #[vi i0, vi i1, vi i2, vi i3, vi i4, vi 1, vi 0, vi y243, vi 3, vr b438, vr b443, vr b455, vr r461, vr b462, U0, U0, U0] [(.ref b462)] (fun _ kk => XS.pop W489.here hx rfl (hb hby at_195) rfl rfl (XS.iload W489.here hx rfl (hb hby at_196) rfl (XS.iconst W489.here hx rfl (hb hby at_198) (XS.icmpNo W489.here hx rfl (hb hby at_199) rfl (XT.ii_lt_f (by decide +kernel)) (XS.aload W489.here hx rfl (hb hby at_202) rfl rfl kk))))) ?_
        refine W489.newO hx (hw _ (mI 148 rfl)) (hw _ (mI 149 rfl)) (hw _ (mI 150 rfl)) rfl (hb hby at_204) (by decide +kernel) (by decide +kernel) (fun T496 h496 b496 eb496 gb496 W496 K496 E496 D496 => ?_)
        have k497 : Fld Z h496 b496 "org/portcullis/acl/ObjectIdentity" "type" "Ljava/lang/String;" .null := D496 (Or.inr (hw _ (mI 159 rfl))) (ty := (.object "java/lang/String")) (by decide +kernel)
        have k498 : Fld Z h496 b496 "org/portcullis/acl/ObjectIdentity" "id" "Ljava/lang/String;" .null := D496 (Or.inr (hw _ (mI 161 rfl))) (ty := (.object "java/lang/String")) (by decide +kernel)
        refine gof T496 m 210 #[vi i0, vi i1, vi i2, vi i3, vi i4, vi 1, vi 0, vi y243, vi 3, vr b438, vr b443, vr b455, vr r461, vr b462, U0, U0, U0] [(.ref r461), (.ref b496), (.ref b496), (.ref b462)] (fun _ kk => XS.dup W496.here hx rfl (hb hby at_207) rfl rfl (XS.aload W496.here hx rfl (hb hby at_208) rfl rfl kk)) ?_
        refine W496.ldcO hx hEL (hw _ (mI 263 rfl)) hSA rfl (hb hby at_210) (n := 4) (by decide +kernel) (by decide +kernel) (by decide +kernel) (by decide +kernel) (fun T499 h499 b499 W499 K499 => ?_)
        show Go p e below _ (T499.setTop (mkF m 212 #[vi i0, vi i1, vi i2, vi i3, vi i4, vi 1, vi 0, vi y243, vi 3, vr b438, vr b443, vr b455, vr r461, vr b462, U0, U0, U0] [(.ref b499), (.ref r461), (.ref b496), (.ref b496), (.ref b462)]))
        have k501 := (E496.keep K499)
        have k502 := (k497.keep K499 nin0)
        have k503 := (k498.keep K499 nin0)
        refine W499.callP hx hEL rfl (hw _ (mI 154 rfl)) (hw _ (mI 155 rfl)) (hw _ (mI 150 rfl)) (hw _ (mI 156 rfl)) (by decide +kernel) (a := b496) (argsL := [(.ref r461), (.ref b499)]) (rest := [(.ref b496), (.ref b462)]) (rm14 l Z a0 hw hEL zc SC hzc fm SF rfm b496 r461 b499 h499 W499.old k501 k502 k503 gb496.1) all0 (by decide +kernel) (Wd := 2) (by decide +kernel) (by decide +kernel) (by decide +kernel) (allS ⟨gb496.1, (Or.inr gb496.2)⟩ all0) rfl (by rw [hml]; rfl) (lenOf pd22 rfl) rfl (by show 2 * 0 + _ ≤ _; exact Nat.le_of_eq rfl) (hb hby at_212) (fun T500 h500 v500 P500 Ws500 K500 q500 => ?_)
        have W500 := Ws500 [] all0
        obtain rfl := q500
        show Go p e below _ (T500.setTop (mkF m 215 #[vi i0, vi i1, vi i2, vi i3, vi i4, vi 1, vi 0, vi y243, vi 3, vr b438, vr b443, vr b455, vr r461, vr b462, U0, U0, U0] [(.ref b496), (.ref b462)]))
        have k505 := ((((k490.keep K489).keep K496).keep K499).keep K500)
        have k506 := (((Fe489.keep K496 nin0).keep K499 nin0).keep K500 (ninS (ne_of_born (Nat.le_of_eq eb496.symm) E462.lt (Nat.le_trans (Nat.le_trans (Nat.le_trans (Nat.le_trans (Nat.le_trans (Nat.le_trans (Nat.le_trans (Nat.le_trans K466.1 K467.1) K470.1) K471.1) K475.1) K481.1) K484.1) K485.1) K489.1)) nin0))
        have k507 := (((Fs489.keep K496 nin0).keep K499 nin0).keep K500 (ninS (ne_of_born (Nat.le_of_eq eb496.symm) E462.lt (Nat.le_trans (Nat.le_trans (Nat.le_trans (Nat.le_trans (Nat.le_trans (Nat.le_trans (Nat.le_trans (Nat.le_trans K466.1 K467.1) K470.1) K471.1) K475.1) K481.1) K484.1) K485.1) K489.1)) nin0))
        have k508 := (((Fm489.keep K496 nin0).keep K499 nin0).keep K500 (ninS (ne_of_born (Nat.le_of_eq eb496.symm) E462.lt (Nat.le_trans (Nat.le_trans (Nat.le_trans (Nat.le_trans (Nat.le_trans (Nat.le_trans (Nat.le_trans (Nat.le_trans K466.1 K467.1) K470.1) K471.1) K475.1) K481.1) K484.1) K485.1) K489.1)) nin0))
        have k509 := (((A489.keep K496 nin0).keep K499 nin0).keep K500 (ninS (ne_of_born (Nat.le_of_eq eb496.symm) A475.lt (Nat.le_trans (Nat.le_trans (Nat.le_trans K481.1 K484.1) K485.1) K489.1)) nin0))
        have k510 := (k501.keep K500)
        refine W500.callV hx hEL (hw _ (mI 162 rfl)) (hw _ (mI 163 rfl)) (hw _ (mI 165 rfl)) (hw _ (mI 164 rfl)) (hw _ (mI 62 rfl)) (hw _ (mI 166 rfl)) (by decide +kernel) k505 (a := b462) (argsL := [(.ref b496)]) (rest := []) (rm45 l Z a0 hw hEL zc SC hzc fm SF rfm b462 t475 kt475 (((0 : Int32) + (1 : Int32)) + (1 : Int32)) b467 b481 b496 h500 W500.old k505 k506 k507 k508 k509 Ov475 k510 gb462.1 gt475.1 (ne_of_born lt475 E462.lt (Nat.le_trans (Nat.le_trans (Nat.le_trans K466.1 K467.1) K470.1) K471.1))) all0 (by decide +kernel) (Wd := 0) (by decide +kernel) (by decide +kernel) (by decide +kernel) (allS ⟨gb462.1, (Or.inr gb462.2)⟩ (allS ⟨gt475.1, (Or.inr gt475.2)⟩ all0)) rfl (by rw [hml]; rfl) (lenOf pd23 rfl) rfl (by show 2 * 0 + _ ≤ _; exact Nat.le_of_eq rfl) (hb hby at_215) (fun T504 h504 v504 P504 Ws504 K504 q504 => ?_)
        have W504 := Ws504 [] all0
        obtain ⟨rfl, Fe504, Fs504, Fm504, A504⟩ := q504
        refine gof T504 m 219 #[vi i0, vi i1, vi i2, vi i3, vi i4, vi 1, vi 0, vi y243, vi 3, vr b438, vr b443, vr b455, vr r461, vr b462, U0, U0, U0] [] (fun _ kk => XS.pop W504.here hx rfl (hb hby at_218) rfl rfl kk) ?_
        refine W504.newO hx (hw _ (mI 84 rfl)) (hw _ (mI 85 rfl)) (hw _ (mI 86 rfl)) rfl (hb hby at_219) (by decide +kernel) (by decide +kernel) (fun T511 h511 b511 eb511 gb511 W511 K511 E511 D511 => ?_)
        have k512 : Fld Z h511 b511 "org/portcullis/acl/Outcome" "iLevels" "Ljava/util/List;" .null := D511 (Or.inr (hw _ (mI 121 rfl))) (ty := (.object "java/util/List")) (by decide +kernel)
        have k513 : Fld Z h511 b511 "org/portcullis/acl/Outcome" "iEntry" "Lorg/portcullis/acl/AccessControlEntry;" .null := D511 (Or.inr (hw _ (mI 123 rfl))) (ty := (.object "org/portcullis/acl/AccessControlEntry")) (by decide +kernel)
        refine gof T511 m 227 #[vi i0, vi i1, vi i2, vi i3, vi i4, vi 1, vi 0, vi y243, vi 3, vr b438, vr b443, vr b455, vr r461, vr b462, U0, U0, U0] [(.ref b455), (.ref b462), (.ref b511), (.ref b511)] (fun _ kk => XS.dup W511.here hx rfl (hb hby at_222) rfl rfl (XS.aload W511.here hx rfl (hb hby at_223) rfl rfl (XS.aload W511.here hx rfl (hb hby at_225) rfl rfl kk))) ?_
        have k515 := ((k505.keep K504).keep K511)
        have k516 := (Fe504.keep K511 nin0)
        have k517 := (Fs504.keep K511 nin0)
        have k518 := (A504.keep K511 nin0)
        have k519 := (((((((((Ex475.keep K481).keep K484).keep K485).keep K489).keep K496).keep K499).keep K500).keep K504).keep K511)
        have k520 := ((((((((((k480.keep K475).keep K481).keep K484).keep K485).keep K489).keep K496).keep K499).keep K500).keep K504).keep K511)
        have k521 := ((((((k495.keep K489).keep K496).keep K499).keep K500).keep K504).keep K511)
        have k522 := ((k510.keep K504).keep K511)
        refine W511.callP hx hEL rfl (hw _ (mI 87 rfl)) (hw _ (mI 88 rfl)) (hw _ (mI 86 rfl)) (hw _ (mI 89 rfl)) (by decide +kernel) (a := b511) (argsL := [(.ref b462), (.ref b455)]) (rest := [(.ref b511)]) (rm91 l Z a0 hw hEL zc SC hzc fm SF rfm b511 b462 t475 kt475 b467 b481 b496 (.ref b455) dfl el em mir gr de kdf h511 W511.old OD OS OL OM OI OG OE rfl k515 k516 k517 k518 k519 k520 k521 k522 E511 k512 k513 gb511.1) all0 (by decide +kernel) (Wd := 1) (by decide +kernel) (by decide +kernel) (by decide +kernel) (allS ⟨gb511.1, (Or.inr gb511.2)⟩ all0) rfl (by rw [hml]; rfl) (lenOf pd20 rfl) rfl (by show 2 * 0 + _ ≤ _; exact Nat.le_of_eq rfl) (hb hby at_227) (fun T514 h514 v514 P514 Ws514 K514 q514 => ?_)
        have W514 := Ws514 [] all0
        obtain ⟨rfl, Fi514⟩ := q514
        refine gof T514 m 234 #[vi i0, vi i1, vi i2, vi i3, vi i4, vi 1, vi 0, vi y243, vi 3, vr b438, vr b443, vr b455, vr r461, vr b462, vr b511, U0, U0] [(.ref b511)] (fun _ kk => XS.astore W514.here hx rfl (hb hby at_230) rfl rfl (l' := #[.val (.int i0), .val (.int i1), .val (.int i2), .val (.int i3), .val (.int i4), .val (.int 1), .val (.int 0), .val (.int y243), .val (.int 3), .val (.ref b438), .val (.ref b443), .val (.ref b455), .val (.ref r461), .val (.ref b462), .val (.ref b511), .unset, .unset]) rfl (XS.aload W514.here hx rfl (hb hby at_232) rfl rfl kk)) ?_
        have k524 := ((((((((((((((((((E455.keep K460).keep K461).keep K462).keep K466).keep K467).keep K470).keep K471).keep K475).keep K481).keep K484).keep K485).keep K489).keep K496).keep K499).keep K500).keep K504).keep K511).keep K514)
        have k525 := (((((((((((((((((Fg460.keep K461 nin0).keep K462 nin0).keep K466 (ninS (ne_of_born (Nat.le_of_eq eb462.symm) E455.lt (Nat.le_trans K460.1 K461.1)) nin0)).keep K467 nin0).keep K470 nin0).keep K471 (ninS (ne_of_born (Nat.le_of_eq eb467.symm) E455.lt (Nat.le_trans (Nat.le_trans (Nat.le_trans K460.1 K461.1) K462.1) K466.1)) nin0)).keep K475 (ninS (ne_of_born (Nat.le_of_eq eb462.symm) E455.lt (Nat.le_trans K460.1 K461.1)) nin0)).keep K481 nin0).keep K484 nin0).keep K485 (ninS (ne_of_born (Nat.le_of_eq eb481.symm) E455.lt (Nat.le_trans (Nat.le_trans (Nat.le_trans (Nat.le_trans (Nat.le_trans (Nat.le_trans (Nat.le_trans K460.1 K461.1) K462.1) K466.1) K467.1) K470.1) K471.1) K475.1)) nin0)).keep K489 (ninS (ne_of_born (Nat.le_of_eq eb462.symm) E455.lt (Nat.le_trans K460.1 K461.1)) (ninS (ne_of_born lt475 E455.lt (Nat.le_trans (Nat.le_trans (Nat.le_trans (Nat.le_trans (Nat.le_trans (Nat.le_trans K460.1 K461.1) K462.1) K466.1) K467.1) K470.1) K471.1)) nin0))).keep K496 nin0).keep K499 nin0).keep K500 (ninS (ne_of_born (Nat.le_of_eq eb496.symm) E455.lt (Nat.le_trans (Nat.le_trans (Nat.le_trans (Nat.le_trans (Nat.le_trans (Nat.le_trans (Nat.le_trans (Nat.le_trans (Nat.le_trans (Nat.le_trans (Nat.le_trans K460.1 K461.1) K462.1) K466.1) K467.1) K470.1) K471.1) K475.1) K481.1) K484.1) K485.1) K489.1)) nin0)).keep K504 (ninS (ne_of_born (Nat.le_of_eq eb462.symm) E455.lt (Nat.le_trans K460.1 K461.1)) (ninS (ne_of_born lt475 E455.lt (Nat.le_trans (Nat.le_trans (Nat.le_trans (Nat.le_trans (Nat.le_trans (Nat.le_trans K460.1 K461.1) K462.1) K466.1) K467.1) K470.1) K471.1)) nin0))).keep K511 nin0).keep K514 (ninS (ne_of_born (Nat.le_of_eq eb511.symm) E455.lt (Nat.le_trans (Nat.le_trans (Nat.le_trans (Nat.le_trans (Nat.le_trans (Nat.le_trans (Nat.le_trans (Nat.le_trans (Nat.le_trans (Nat.le_trans (Nat.le_trans (Nat.le_trans (Nat.le_trans (Nat.le_trans (Nat.le_trans K460.1 K461.1) K462.1) K466.1) K467.1) K470.1) K471.1) K475.1) K481.1) K484.1) K485.1) K489.1) K496.1) K499.1) K500.1) K504.1)) nin0))
        have k526 := (E511.keep K514)
        refine W514.callV hx hEL (hw _ (mI 124 rfl)) (hw _ (mI 125 rfl)) (hw _ (mI 127 rfl)) (hw _ (mI 126 rfl)) (hw _ (mI 86 rfl)) (hw _ (mI 128 rfl)) (by decide +kernel) k526 (a := b511) (argsL := []) (rest := []) (rm94 l Z a0 hw hEL zc SC hzc fm SF rfm b511 b455 dfl el em mir gr de kdf h514 W514.old OD OS OL OM OI OG OE Fi514 k524 k525) all0 (by decide +kernel) (Wd := 0) (by decide +kernel) (by decide +kernel) (by decide +kernel) all0 rfl (by rw [hml]; rfl) (lenOf pd21 rfl) rfl (by show 2 * 0 + _ ≤ _; exact Nat.le_of_eq rfl) (hb hby at_234) (fun T523 h523 v523 P523 Ws523 K523 q523 => ?_)
        have W523 := Ws523 [] all0
        obtain ⟨rfl, rfl⟩ := q523
        refine gof T523 m 255 #[vi i0, vi i1, vi i2, vi i3, vi i4, vi 1, vi 0, vi y243, vi 3, vr b438, vr b443, vr b455, vr r461, vr b462, vr b511, vr de, U0] [] (fun _ kk => XS.astore W523.here hx rfl (hb hby at_237) rfl rfl (l' := #[.val (.int i0), .val (.int i1), .val (.int i2), .val (.int i3), .val (.int i4), .val (.int 1), .val (.int 0), .val (.int y243), .val (.int 3), .val (.ref b438), .val (.ref b443), .val (.ref b455), .val (.ref r461), .val (.ref b462), .val (.ref b511), .val (.ref de), .unset]) rfl (XS.iload W523.here hx rfl (hb hby at_239) rfl (XS.ifNo W523.here hx rfl (hb hby at_241) rfl (XT.i0_eq_f (by decide +kernel)) (XS.iload W523.here hx rfl (hb hby at_244) rfl (XS.ifYes W523.here hx rfl (pc0 := 246) (pc' := 255) rfl (hb hby at_246) rfl (XT.i0_eq_t (by decide +kernel)) (by decide +kernel) (by decide +kernel) kk))))) ?_
        refine W523.getS hx (host := "") (Or.inl (hw _ (mI 132 rfl))) Via.refl OE rfl (hb hby at_255) (fun T527 W527 => ?_)
        refine gof T527 m 269 #[vi i0, vi i1, vi i2, vi i3, vi i4, vi 1, vi 0, vi y243, vi 3, vr b438, vr b443, vr b455, vr r461, vr b462, vr b511, vr de, vr de] [(.ref b511)] (fun _ kk => XS.astore W527.here hx rfl (hb hby at_258) rfl rfl (l' := #[.val (.int i0), .val (.int i1), .val (.int i2), .val (.int i3), .val (.int i4), .val (.int 1), .val (.int 0), .val (.int y243), .val (.int 3), .val (.ref b438), .val (.ref b443), .val (.ref b455), .val (.ref r461), .val (.ref b462), .val (.ref b511), .val (.ref de), .val (.ref de)]) rfl (XS.aload W527.here hx rfl (hb hby at_260) rfl rfl (XS.aload W527.here hx rfl (hb hby at_262) rfl rfl (XT.acmpNo (g := (mkF m 264 #[vi i0, vi i1, vi i2, vi i3, vi i4, vi 1, vi 0, vi y243, vi 3, vr b438, vr b443, vr b455, vr r461, vr b462, vr b511, vr de, vr de] [(.ref de), (.ref de)])) W527.here hx rfl (hb hby at_264) (x := (.ref de)) (y := (.ref de)) (rest := []) rfl rfl rfl (XT.aa_ne_f (x := (.ref de)) (y := (.ref de)) rfl) (XS.aload W527.here hx rfl (hb hby at_267) rfl rfl kk))))) ?_
        refine W527.callV hx hEL (hw _ (mI 124 rfl)) (hw _ (mI 125 rfl)) (hw _ (mI 127 rfl)) (hw _ (mI 126 rfl)) (hw _ (mI 86 rfl)) (hw _ (mI 128 rfl)) (by decide +kernel) k526 (a := b511) (argsL := []) (rest := []) (rm94 l Z a0 hw hEL zc SC hzc fm SF rfm b511 b455 dfl el em mir gr de kdf h514 W527.old OD OS OL OM OI OG OE Fi514 k524 k525) all0 (by decide +kernel) (Wd := 0) (by decide +kernel) (by decide +kernel) (by decide +kernel) all0 rfl (by rw [hml]; rfl) (lenOf pd21 rfl) rfl (by show 2 * 0 + _ ≤ _; exact Nat.le_of_eq rfl) (hb hby at_269) (fun T528 h528 v528 P528 Ws528 K528 q528 => ?_)
        have W528 := Ws528 [] all0
        obtain ⟨rfl, rfl⟩ := q528
        refine gof T528 m 282 #[vi i0, vi i1, vi i2, vi i3, vi i4, vi 1, vi 0, vi y243, vi 3, vr b438, vr b443, vr b455, vr r461, vr b462, vr b511, vr de, vr de] [(.int 1)] (fun _ kk => XS.aload W528.here hx rfl (hb hby at_272) rfl rfl (XT.acmpNo (g := (mkF m 274 #[vi i0, vi i1, vi i2, vi i3, vi i4, vi 1, vi 0, vi y243, vi 3, vr b438, vr b443, vr b455, vr r461, vr b462, vr b511, vr de, vr de] [(.ref de), (.ref de)])) W528.here hx rfl (hb hby at_274) (x := (.ref de)) (y := (.ref de)) (rest := []) rfl rfl rfl (XT.aa_ne_f (x := (.ref de)) (y := (.ref de)) rfl) (XS.iconst W528.here hx rfl (hb hby at_277) (XS.goto W528.here hx rfl (pc0 := 278) (pc' := 282) rfl (hb hby at_278) (by decide +kernel) (by decide +kernel) kk)))) ?_
        exact W528.retI hx hEL hs hlk (by decide +kernel) (by decide +kernel) hret (by simp) rfl (hb hby at_282) (fun S hS => rfl)
    · refine gof T0 m 29 #[vi i0, vi i1, vi i2, vi i3, vi i4, vi 1, vi 1, U0, U0, U0, U0, U0, U0, U0, U0, U0, U0] [(.int (i0 &&& (4 : Int32)))] (fun _ kk => XS.ifNo W0.here hx rfl (hb hby at_16) rfl (XT.i0_eq_f c241) (XS.iconst W0.here hx rfl (hb hby at_19) (XS.goto W0.here hx rfl (pc0 := 20) (pc' := 24) rfl (hb hby at_20) (by decide +kernel) (by decide +kernel) (XS.istore W0.here hx rfl (hb hby at_24) rfl (l' := #[.val (.int i0), .val (.int i1), .val (.int i2), .val (.int i3), .val (.int i4), .val (.int 1), .val (.int 1), .unset, .unset, .unset, .unset, .unset, .unset, .unset, .unset, .unset, .unset]) rfl (XS.iloadN W0.here hx rfl (hb hby at_26) rfl (XS.iconst W0.here hx rfl (hb hby at_27) (XS.iand W0.here hx rfl (hb hby at_28) rfl kk))))))) ?_
      refine gof T0 m 37 #[vi i0, vi i1, vi i2, vi i3, vi i4, vi 1, vi 1, U0, U0, U0, U0, U0, U0, U0, U0, U0, U0] [(.int (if (i0 &&& (4 : Int32)) = (0 : Int32) then (0 : Int32) else (1 : Int32)))] (fun _ kk => ?_) ?_
      · show Steps p.tables e below (T0.setTop (mkF m 29 #[vi i0, vi i1, vi i2, vi i3, vi i4, vi 1, vi 1, U0, U0, U0, U0, U0, U0, U0, U0, U0, U0] [(.int (i0 &&& (4 : Int32)))])) _
        by_cases c529 : (i0 &&& (4 : Int32)) = (0 : Int32)
        · try simp only [if_pos c529] at kk
          refine XS.ifYes W0.here hx rfl (pc0 := 29) (pc' := 36) rfl (hb hby at_29) rfl (XT.i0_eq_t c529) (by decide +kernel) (by decide +kernel) ?_
          show Steps p.tables e below (T0.setTop (mkF m 36 #[vi i0, vi i1, vi i2, vi i3, vi i4, vi 1, vi 1, U0, U0, U0, U0, U0, U0, U0, U0, U0, U0] [])) _
          refine XS.iconst W0.here hx rfl (hb hby at_36) ?_
          show Steps p.tables e below (T0.setTop (mkF m 37 #[vi i0, vi i1, vi i2, vi i3, vi i4, vi 1, vi 1, U0, U0, U0, U0, U0, U0, U0, U0, U0, U0] [(.int 0)])) _
          exact kk
        · try simp only [if_neg c529] at kk
          refine XS.ifNo W0.here hx rfl (hb hby at_29) rfl (XT.i0_eq_f c529) ?_
          show Steps p.tables e below (T0.setTop (mkF m 32 #[vi i0, vi i1, vi i2, vi i3, vi i4, vi 1, vi 1, U0, U0, U0, U0, U0, U0, U0, U0, U0, U0] [])) _
          refine XS.iconst W0.here hx rfl (hb hby at_32) ?_
          show Steps p.tables e below (T0.setTop (mkF m 33 #[vi i0, vi i1, vi i2, vi i3, vi i4, vi 1, vi 1, U0, U0, U0, U0, U0, U0, U0, U0, U0, U0] [(.int 1)])) _
          refine XS.goto W0.here hx rfl (pc0 := 33) (pc' := 37) rfl (hb hby at_33) (by decide +kernel) (by decide +kernel) ?_
          show Steps p.tables e below (T0.setTop (mkF m 37 #[vi i0, vi i1, vi i2, vi i3, vi i4, vi 1, vi 1, U0, U0, U0, U0, U0, U0, U0, U0, U0, U0] [(.int 1)])) _
          exact kk
      obtain ⟨y530, hy530⟩ : ∃ z : Int32, (if (i0 &&& (4 : Int32)) = (0 : Int32) then (0 : Int32) else (1 : Int32)) = z := ⟨_, rfl⟩
      rw [hy530]
      show Go p e below _ (T0.setTop (mkF m 37 #[vi i0, vi i1, vi i2, vi i3, vi i4, vi 1, vi 1, U0, U0, U0, U0, U0, U0, U0, U0, U0, U0] [(.int y530)]))
      have nz_p : narrow .boolean (.int y530) = .int y530 := by rw [← hy530]; split <;> rfl
      have fz_p : fits .boolean (.int y530) = true := by rw [← hy530]; split <;> rfl
      refine gof T0 m 44 #[vi i0, vi i1, vi i2, vi i3, vi i4, vi 1, vi 1, vi y530, U0, U0, U0, U0, U0, U0, U0, U0, U0] [(.int (((i0.toUInt32 >>> ((3 : Int32) &&& 31).toUInt32).toInt32) &&& (3 : Int32)))] (fun _ kk => XS.istore W0.here hx rfl (hb hby at_37) rfl (l' := #[.val (.int i0), .val (.int i1), .val (.int i2), .val (.int i3), .val (.int i4), .val (.int 1), .val (.int 1), .val (.int y530), .unset, .unset, .unset, .unset, .unset, .unset, .unset, .unset, .unset]) rfl (XS.iloadN W0.here hx rfl (hb hby at_39) rfl (XS.iconst W0.here hx rfl (hb hby at_40) (XS.iushr W0.here hx rfl (hb hby at_41) rfl (XS.iconst W0.here hx rfl (hb hby at_42) (XS.iand W0.here hx rfl (hb hby at_43) rfl kk)))))) ?_
      rcases and3 ((i0.toUInt32 >>> ((3 : Int32) &&& 31).toUInt32).toInt32) with z531 | z531 | z531 | z531
      · rw [z531]
        refine gof T0 m 60 #[vi i0, vi i1, vi i2, vi i3, vi i4, vi 1, vi 1, vi y530, vi 1, U0, U0, U0, U0, U0, U0, U0, U0] [(.int 2)] (fun _ kk => XS.istore W0.here hx rfl (hb hby at_44) rfl (l' := #[.val (.int i0), .val (.int i1), .val (.int i2), .val (.int i3), .val (.int i4), .val (.int 1), .val (.int 1), .val (.int y530), .val (.int 0), .unset, .unset, .unset, .unset, .unset, .unset, .unset, .unset]) rfl (XS.iload W0.here hx rfl (hb hby at_46) rfl (XS.ifNo W0.here hx rfl (hb hby at_48) rfl (XT.i0_eq_f (by decide +kernel)) (XS.iload W0.here hx rfl (hb hby at_51) rfl (XS.ifNo W0.here hx rfl (hb hby at_53) rfl (XT.i0_ne_f (by decide +kernel)) (XS.iconst W0.here hx rfl (hb hby at_56) (XS.istore W0.here hx rfl (hb hby at_57) rfl (l' := #[.val (.int i0), .val (.int i1), .val (.int i2), .val (.int i3), .val (.int i4), .val (.int 1), .val (.int 1), .val (.int y530), .val (.int 1), .unset, .unset, .unset, .unset, .unset, .unset, .unset, .unset]) rfl (XS.iconst W0.here hx rfl (hb hby at_59) kk)))))))) ?_
        refine W0.newP hx (hw _ (mI 0 rfl)) rfl (hb hby at_60) rfl (by decide +kernel) (cap := 2) (by decide +kernel) (by decide +kernel) (by decide +kernel) (by decide +kernel) (fun T532 h532 b532 c532 eb532 gb532 W532 K532 A532 => ?_)
        have V532 : Arv Z h532 b532 c532 .char (2 : Int32) [(.int (0 : Int32)), (.int (0 : Int32))] (.int (0 : Int32)) := A532
        refine gof T532 m 73 #[vi i0, vi i1, vi i2, vi i3, vi i4, vi 1, vi 1, vi y530, vi 1, vr b532, U0, U0, U0, U0, U0, U0, U0] [(.int ((i3 &&& (255 : Int32)).toUInt32.toUInt16.toUInt32.toInt32)), (.int 0), (.ref b532)] (fun _ kk => XS.astore W532.here hx rfl (hb hby at_62) rfl rfl (l' := #[.val (.int i0), .val (.int i1), .val (.int i2), .val (.int i3), .val (.int i4), .val (.int 1), .val (.int 1), .val (.int y530), .val (.int 1), .val (.ref b532), .unset, .unset, .unset, .unset, .unset, .unset, .unset]) rfl (XS.aload W532.here hx rfl (hb hby at_64) rfl rfl (XS.iconst W532.here hx rfl (hb hby at_66) (XS.iloadN W532.here hx rfl (hb hby at_67) rfl (XS.sipush W532.here hx rfl (hb hby at_68) (XS.iand W532.here hx rfl (hb hby at_71) rfl (XS.i2c W532.here hx rfl (hb hby at_72) rfl kk))))))) ?_
        obtain ⟨q533, hq533, cq533, zq533⟩ := char255 i3
        rw [hq533]
        show Go p e below _ (T532.setTop (mkF m 73 #[vi i0, vi i1, vi i2, vi i3, vi i4, vi 1, vi 1, vi y530, vi 1, vr b532, U0, U0, U0, U0, U0, U0, U0] [(.int q533), (.int 0), (.ref b532)]))
        refine W532.stC hx V532 ⟨by decide, by decide⟩ 0 rfl (Nat.le_of_ble_eq_true rfl) gb532.1 (Or.inr gb532.2) rfl rfl (hb hby at_73) (fun T534 h534 W534 K534 A534 => ?_)
        have V534 : Arv Z h534 b532 c532 .char (2 : Int32) [(.int q533), (.int (0 : Int32))] (.int (0 : Int32)) := (by rw [(nar_char cq533)] at A534; exact A534)
        refine gof T534 m 84 #[vi i0, vi i1, vi i2, vi i3, vi i4, vi 1, vi 1, vi y530, vi 1, vr b532, U0, U0, U0, U0, U0, U0, U0] [(.int ((i4 &&& (255 : Int32)).toUInt32.toUInt16.toUInt32.toInt32)), (.int 1), (.ref b532)] (fun _ kk => XS.aload W534.here hx rfl (hb hby at_74) rfl rfl (XS.iconst W534.here hx rfl (hb hby at_76) (XS.iload W534.here hx rfl (hb hby at_77) rfl (XS.sipush W534.here hx rfl (hb hby at_79) (XS.iand W534.here hx rfl (hb hby at_82) rfl (XS.i2c W534.here hx rfl (hb hby at_83) rfl kk)))))) ?_
        obtain ⟨q535, hq535, cq535, zq535⟩ := char255 i4
        rw [hq535]
        show Go p e below _ (T534.setTop (mkF m 84 #[vi i0, vi i1, vi i2, vi i3, vi i4, vi 1, vi 1, vi y530, vi 1, vr b532, U0, U0, U0, U0, U0, U0, U0] [(.int q535), (.int 1), (.ref b532)]))
        refine W534.stC hx V534 ⟨by decide, by decide⟩ 1 rfl (Nat.le_of_ble_eq_true rfl) gb532.1 (Or.inr gb532.2) rfl rfl (hb hby at_84) (fun T536 h536 W536 K536 A536 => ?_)
        have V536 : Arv Z h536 b532 c532 .char (2 : Int32) [(.int q533), (.int q535)] (.int (0 : Int32)) := (by rw [(nar_char cq535)] at A536; exact A536)
        show Go p e below _ (T536.setTop (mkF m 85 #[vi i0, vi i1, vi i2, vi i3, vi i4, vi 1, vi 1, vi y530, vi 1, vr b532, U0, U0, U0, U0, U0, U0, U0] []))
        refine W536.newO hx (hw _ (mI 1 rfl)) (hw _ (mI 2 rfl)) (hw _ (mI 3 rfl)) rfl (hb hby at_85) (by decide +kernel) (by decide +kernel) (fun T537 h537 b537 eb537 gb537 W537 K537 E537 D537 => ?_)
        have k538 : Fld Z h537 b537 "org/portcullis/acl/Sid" "name" "Ljava/lang/String;" .null := D537 (Or.inr (hw _ (mI 43 rfl))) (ty := (.object "java/lang/String")) (by decide +kernel)
        have k539 : Fld Z h537 b537 "org/portcullis/acl/Sid" "principal" "Z" (.int (0 : Int32)) := D537 (Or.inr (hw _ (mI 45 rfl))) (ty := .boolean) (by decide +kernel)
        refine gof T537 m 89 #[vi i0, vi i1, vi i2, vi i3, vi i4, vi 1, vi 1, vi y530, vi 1, vr b532, U0, U0, U0, U0, U0, U0, U0] [(.ref b537), (.ref b537)] (fun _ kk => XS.dup W537.here hx rfl (hb hby at_88) rfl rfl kk) ?_
        refine W537.newO hx (hw _ (mI 4 rfl)) (hw _ (mI 5 rfl)) (hw _ (mI 6 rfl)) rfl (hb hby at_89) (by decide +kernel) (by decide +kernel) (fun T540 h540 b540 eb540 gb540 W540 K540 E540 D540 => ?_)
        have k541 : Fld Z h540 b540 "java/lang/String" "coder" "B" (.int (0 : Int32)) := D540 (Or.inr (hw _ (mI 30 rfl))) (ty := .byte) (by decide +kernel)
        have k542 : Fld Z h540 b540 "java/lang/String" "value" "[B" .null := D540 (Or.inr (hw _ (mI 32 rfl))) (ty := (.array .byte)) (by decide +kernel)
        refine gof T540 m 95 #[vi i0, vi i1, vi i2, vi i3, vi i4, vi 1, vi 1, vi y530, vi 1, vr b532, U0, U0, U0, U0, U0, U0, U0] [(.ref b532), (.ref b540), (.ref b540), (.ref b537), (.ref b537)] (fun _ kk => XS.dup W540.here hx rfl (hb hby at_92) rfl rfl (XS.aload W540.here hx rfl (hb hby at_93) rfl rfl kk)) ?_
        have k544 := ((V536.keep K537 nin0).keep K540 nin0)
        refine W540.newStr hx hws (hw _ (mI 5 rfl)) SC hzc (hw _ (mI 7 rfl)) (hw _ (mI 8 rfl)) (hw _ (mI 9 rfl)) E540 k542 k541 (cs := [q533, q535]) (n := 2) k544 rfl rfl (by decide +kernel) (by decide +kernel) (allSi cq533 (allSi cq535 all0i)) gb540.1 (Or.inr gb540.2) (mI 0 rfl) (by decide +kernel) (Wd := 3) (by decide +kernel) (by decide +kernel) (by decide +kernel) rfl (by rw [hml]; rfl) rfl (by show 2 * 0 + _ ≤ _; exact Nat.le_of_eq rfl) (hb hby at_95) (fun T543 h543 W543 K543 S543 => ?_)
        refine gof T543 m 100 #[vi i0, vi i1, vi i2, vi i3, vi i4, vi 1, vi 1, vi y530, vi 1, vr b532, U0, U0, U0, U0, U0, U0, U0] [(.int y530), (.ref b540), (.ref b537), (.ref b537)] (fun _ kk => XS.iload W543.here hx rfl (hb hby at_98) rfl kk) ?_
        have k546 := ((E537.keep K540).keep K543)
        have k547 := ((k538.keep K540 nin0).keep K543 (ninS (ne_of_born (Nat.le_of_eq eb540.symm) E537.lt (Nat.le_refl _)) nin0))
        have k548 := ((k539.keep K540 nin0).keep K543 (ninS (ne_of_born (Nat.le_of_eq eb540.symm) E537.lt (Nat.le_refl _)) nin0))
        refine W543.callP hx hEL rfl (hw _ (mI 33 rfl)) (hw _ (mI 34 rfl)) (hw _ (mI 3 rfl)) (hw _ (mI 35 rfl)) (by decide +kernel) (a := b537) (argsL := [(.ref b540), (.int y530)]) (rest := [(.ref b537)]) (rm11 l Z a0 hw hEL zc SC hzc fm SF rfm b537 b540 y530 h543 W543.old k546 k547 k548 gb537.1 nz_p fz_p) all0 (by decide +kernel) (Wd := 1) (by decide +kernel) (by decide +kernel) (by decide +kernel) (allS ⟨gb537.1, (Or.inr gb537.2)⟩ all0) rfl (by rw [hml]; rfl) (lenOf pd18 rfl) rfl (by show 2 * 0 + _ ≤ _; exact Nat.le_of_eq rfl) (hb hby at_100) (fun T545 h545 v545 P545 Ws545 K545 q545 => ?_)
        have W545 := Ws545 [] all0
        obtain rfl := q545
        refine gof T545 m 110 #[vi i0, vi i1, vi i2, vi i3, vi i4, vi 1, vi 1, vi y530, vi 1, vr b532, vr b537, U0, U0, U0, U0, U0, U0] [] (fun _ kk => XS.astore W545.here hx rfl (hb hby at_103) rfl rfl (l' := #[.val (.int i0), .val (.int i1), .val (.int i2), .val (.int i3), .val (.int i4), .val (.int 1), .val (.int 1), .val (.int y530), .val (.int 1), .val (.ref b532), .val (.ref b537), .unset, .unset, .unset, .unset, .unset, .unset]) rfl (XS.iload W545.here hx rfl (hb hby at_105) rfl (XS.ifNo W545.here hx rfl (hb hby at_107) rfl (XT.i0_eq_f (by decide +kernel)) kk))) ?_
        refine W545.newO hx (hw _ (mI 133 rfl)) (hw _ (mI 134 rfl)) (hw _ (mI 135 rfl)) rfl (hb hby at_110) (by decide +kernel) (by decide +kernel) (fun T549 h549 b549 eb549 gb549 W549 K549 E549 D549 => ?_)
        have k550 : Fld Z h549 b549 "org/portcullis/acl/AccessControlEntry" "order" "I" (.int (0 : Int32)) := D549 (Or.inr (hw _ (mI 141 rfl))) (ty := .int) (by decide +kernel)
        have k551 : Fld Z h549 b549 "org/portcullis/acl/AccessControlEntry" "sid" "Lorg/portcullis/acl/Sid;" .null := D549 (Or.inr (hw _ (mI 143 rfl))) (ty := (.object "org/portcullis/acl/Sid")) (by decide +kernel)
        have k552 : Fld Z h549 b549 "org/portcullis/acl/AccessControlEntry" "mask" "I" (.int (0 : Int32)) := D549 (Or.inr (hw _ (mI 145 rfl))) (ty := .int) (by decide +kernel)
        have k553 : Fld Z h549 b549 "org/portcullis/acl/AccessControlEntry" "granting" "Z" (.int (0 : Int32)) := D549 (Or.inr (hw _ (mI 147 rfl))) (ty := .boolean) (by decide +kernel)
        refine gof T549 m 120 #[vi i0, vi i1, vi i2, vi i3, vi i4, vi 1, vi 1, vi y530, vi 1, vr b532, vr b537, U0, U0, U0, U0, U0, U0] [(.int 1), (.int i2), (.ref b537), (.int i1), (.ref b549), (.ref b549)] (fun _ kk => XS.dup W549.here hx rfl (hb hby at_113) rfl rfl (XS.iloadN W549.here hx rfl (hb hby at_114) rfl (XS.aload W549.here hx rfl (hb hby at_115) rfl rfl (XS.iloadN W549.here hx rfl (hb hby at_117) rfl (XS.iload W549.here hx rfl (hb hby at_118) rfl kk))))) ?_
        refine W549.callP hx hEL rfl (hw _ (mI 136 rfl)) (hw _ (mI 137 rfl)) (hw _ (mI 135 rfl)) (hw _ (mI 138 rfl)) (by decide +kernel) (a := b549) (argsL := [(.int i1), (.ref b537), (.int i2), (.int (1 : Int32))]) (rest := [(.ref b549)]) (rm13 l Z a0 hw hEL zc SC hzc fm SF rfm b549 b537 i1 i2 h549 W549.old E549 k550 k551 k552 k553 gb549.1) all0 (by decide +kernel) (Wd := 1) (by decide +kernel) (by decide +kernel) (by decide +kernel) (allS ⟨gb549.1, (Or.inr gb549.2)⟩ all0) rfl (by rw [hml]; rfl) (lenOf pd24 rfl) rfl (by show 2 * 0 + _ ≤ _; exact Nat.le_of_eq rfl) (hb hby at_120) (fun T554 h554 v554 P554 Ws554 K554 q554 => ?_)
        have W554 := Ws554 [] all0
        obtain ⟨rfl, Fg554⟩ := q554
        refine gof T554 m 136 #[vi i0, vi i1, vi i2, vi i3, vi i4, vi 1, vi 1, vi y530, vi 1, vr b532, vr b537, vr b549, U0, U0, U0, U0, U0] [(.int ((i4 &&& (255 : Int32)).toUInt32.toUInt16.toUInt32.toInt32))] (fun _ kk => XS.goto W554.here hx rfl (pc0 := 123) (pc' := 127) rfl (hb hby at_123) (by decide +kernel) (by decide +kernel) (XS.astore W554.here hx rfl (hb hby at_127) rfl rfl (l' := #[.val (.int i0), .val (.int i1), .val (.int i2), .val (.int i3), .val (.int i4), .val (.int 1), .val (.int 1), .val (.int y530), .val (.int 1), .val (.ref b532), .val (.ref b537), .val (.ref b549), .unset, .unset, .unset, .unset, .unset]) rfl (XS.iload W554.here hx rfl (hb hby at_129) rfl (XS.sipush W554.here hx rfl (hb hby at_131) (XS.iand W554.here hx rfl (hb hby at_134) rfl (XS.i2c W554.here hx rfl (hb hby at_135) rfl kk)))))) ?_
        rw [hq535]
        show Go p e below _ (T554.setTop (mkF m 136 #[vi i0, vi i1, vi i2, vi i3, vi i4, vi 1, vi 1, vi y530, vi 1, vr b532, vr b537, vr b549, U0, U0, U0, U0, U0] [(.int q535)]))
        refine W554.callS hx hEL (hw _ (mI 46 rfl)) (hw _ (mI 47 rfl)) (hw _ (mI 6 rfl)) (hw _ (mI 48 rfl)) (by decide +kernel) (argsL := [(.int q535)]) (rest := []) (rm27 l Z a0 hw hEL zc SC hzc fm SF rfm q535 h554 W554.old cq535) all0 (by decide +kernel) (Wd := 0) (by decide +kernel) (by decide +kernel) (by decide +kernel) all0 rfl (by rw [hml]; rfl) (lenOf pd19 rfl) rfl (by show 2 * 0 + _ ≤ _; exact Nat.le_of_eq rfl) (hb hby at_136) (fun T555 h555 v555 P555 Ws555 K555 q555 => ?_)
        have W555 := Ws555 [] all0
        obtain ⟨r555, rfl, lr555, S555⟩ := q555
        have gr555 : n0 ≤ r555 ∧ s.heap.size ≤ r555 := ⟨Nat.le_trans W554.n0le lr555, Nat.le_trans W554.s0le lr555⟩
        have E555 := S555.exa
        refine gof T555 m 141 #[vi i0, vi i1, vi i2, vi i3, vi i4, vi 1, vi 1, vi y530, vi 1, vr b532, vr b537, vr b549, vr r555, U0, U0, U0, U0] [] (fun _ kk => XS.astore W555.here hx rfl (hb hby at_139) rfl rfl (l' := #[.val (.int i0), .val (.int i1), .val (.int i2), .val (.int i3), .val (.int i4), .val (.int 1), .val (.int 1), .val (.int y530), .val (.int 1), .val (.ref b532), .val (.ref b537), .val (.ref b549), .val (.ref r555), .unset, .unset, .unset, .unset]) rfl kk) ?_
        refine W555.newO hx (hw _ (mI 60 rfl)) (hw _ (mI 61 rfl)) (hw _ (mI 62 rfl)) rfl (hb hby at_141) (by decide +kernel) (by decide +kernel) (fun T556 h556 b556 eb556 gb556 W556 K556 E556 D556 => ?_)
        have k557 : Fld Z h556 b556 "java/util/AbstractList" "modCount" "I" (.int (0 : Int32)) := D556 (Or.inl (hw _ (mI 80 rfl))) (ty := .int) (by decide +kernel)
        have k558 : Fld Z h556 b556 "java/util/ArrayList" "elementData" "[Ljava/lang/Object;" .null := D556 (Or.inl (hw _ (mI 83 rfl))) (ty := (.array (.object "java/lang/Object"))) (by decide +kernel)
        have k559 : Fld Z h556 b556 "java/util/ArrayList" "size" "I" (.int (0 : Int32)) := D556 (Or.inl (hw _ (mI 115 rfl))) (ty := .int) (by decide +kernel)
        refine gof T556 m 145 #[vi i0, vi i1, vi i2, vi i3, vi i4, vi 1, vi 1, vi y530, vi 1, vr b532, vr b537, vr b549, vr r555, U0, U0, U0, U0] [(.ref b556), (.ref b556)] (fun _ kk => XS.dup W556.here hx rfl (hb hby at_144) rfl rfl kk) ?_
        refine W556.callP hx hEL rfl (hw _ (mI 63 rfl)) (hw _ (mI 64 rfl)) (hw _ (mI 62 rfl)) (hw _ (mI 65 rfl)) (by decide +kernel) (a := b556) (argsL := []) (rest := [(.ref b556)]) (rm19 l Z a0 hw hEL zc SC hzc fm SF rfm b556 dfl el em mir gr de kdf h556 W556.old OD OS OL OM OI OG OE E556 k557 k558 k559 gb556.1) all0 (by decide +kernel) (Wd := 1) (by decide +kernel) (by decide +kernel) (by decide +kernel) (allS ⟨gb556.1, (Or.inr gb556.2)⟩ all0) rfl (by rw [hml]; rfl) (lenOf pd3 rfl) rfl (by show 2 * 0 + _ ≤ _; exact Nat.le_of_eq rfl) (hb hby at_145) (fun T560 h560 v560 P560 Ws560 K560 q560 => ?_)
        have W560 := Ws560 [] all0
        obtain ⟨rfl, Fe560, Fs560, Fm560⟩ := q560
        refine gof T560 m 158 #[vi i0, vi i1, vi i2, vi i3, vi i4, vi 1, vi 1, vi y530, vi 1, vr b532, vr b537, vr b549, vr r555, vr b556, U0, U0, U0] [(.ref b556)] (fun _ kk => XS.astore W560.here hx rfl (hb hby at_148) rfl rfl (l' := #[.val (.int i0), .val (.int i1), .val (.int i2), .val (.int i3), .val (.int i4), .val (.int 1), .val (.int 1), .val (.int y530), .val (.int 1), .val (.ref b532), .val (.ref b537), .val (.ref b549), .val (.ref r555), .val (.ref b556), .unset, .unset, .unset]) rfl (XS.iload W560.here hx rfl (hb hby at_150) rfl (XS.iconst W560.here hx rfl (hb hby at_152) (XS.icmpNo W560.here hx rfl (hb hby at_153) rfl (XT.ii_lt_f (by decide +kernel)) (XS.aload W560.here hx rfl (hb hby at_156) rfl rfl kk))))) ?_
        refine W560.newO hx (hw _ (mI 148 rfl)) (hw _ (mI 149 rfl)) (hw _ (mI 150 rfl)) rfl (hb hby at_158) (by decide +kernel) (by decide +kernel) (fun T561 h561 b561 eb561 gb561 W561 K561 E561 D561 => ?_)
        have k562 : Fld Z h561 b561 "org/portcullis/acl/ObjectIdentity" "type" "Ljava/lang/String;" .null := D561 (Or.inr (hw _ (mI 159 rfl))) (ty := (.object "java/lang/String")) (by decide +kernel)
        have k563 : Fld Z h561 b561 "org/portcullis/acl/ObjectIdentity" "id" "Ljava/lang/String;" .null := D561 (Or.inr (hw _ (mI 161 rfl))) (ty := (.object "java/lang/String")) (by decide +kernel)
        refine gof T561 m 164 #[vi i0, vi i1, vi i2, vi i3, vi i4, vi 1, vi 1, vi y530, vi 1, vr b532, vr b537, vr b549, vr r555, vr b556, U0, U0, U0] [(.ref r555), (.ref b561), (.ref b561), (.ref b556)] (fun _ kk => XS.dup W561.here hx rfl (hb hby at_161) rfl rfl (XS.aload W561.here hx rfl (hb hby at_162) rfl rfl kk)) ?_
        refine W561.ldcO hx hEL (hw _ (mI 151 rfl)) hSA rfl (hb hby at_164) (n := 4) (by decide +kernel) (by decide +kernel) (by decide +kernel) (by decide +kernel) (fun T564 h564 b564 W564 K564 => ?_)
        show Go p e below _ (T564.setTop (mkF m 166 #[vi i0, vi i1, vi i2, vi i3, vi i4, vi 1, vi 1, vi y530, vi 1, vr b532, vr b537, vr b549, vr r555, vr b556, U0, U0, U0] [(.ref b564), (.ref r555), (.ref b561), (.ref b561), (.ref b556)]))
        have k566 := (E561.keep K564)
        have k567 := (k562.keep K564 nin0)
        have k568 := (k563.keep K564 nin0)
        refine W564.callP hx hEL rfl (hw _ (mI 154 rfl)) (hw _ (mI 155 rfl)) (hw _ (mI 150 rfl)) (hw _ (mI 156 rfl)) (by decide +kernel) (a := b561) (argsL := [(.ref r555), (.ref b564)]) (rest := [(.ref b561), (.ref b556)]) (rm14 l Z a0 hw hEL zc SC hzc fm SF rfm b561 r555 b564 h564 W564.old k566 k567 k568 gb561.1) all0 (by decide +kernel) (Wd := 2) (by decide +kernel) (by decide +kernel) (by decide +kernel) (allS ⟨gb561.1, (Or.inr gb561.2)⟩ all0) rfl (by rw [hml]; rfl) (lenOf pd22 rfl) rfl (by show 2 * 0 + _ ≤ _; exact Nat.le_of_eq rfl) (hb hby at_166) (fun T565 h565 v565 P565 Ws565 K565 q565 => ?_)
        have W565 := Ws565 [] all0
        obtain rfl := q565
        show Go p e below _ (T565.setTop (mkF m 169 #[vi i0, vi i1, vi i2, vi i3, vi i4, vi 1, vi 1, vi y530, vi 1, vr b532, vr b537, vr b549, vr r555, vr b556, U0, U0, U0] [(.ref b561), (.ref b556)]))
        have k570 := ((((E556.keep K560).keep K561).keep K564).keep K565)
        have k571 := (((Fe560.keep K561 nin0).keep K564 nin0).keep K565 (ninS (ne_of_born (Nat.le_of_eq eb561.symm) E556.lt K560.1) nin0))
        have k572 := (((Fs560.keep K561 nin0).keep K564 nin0).keep K565 (ninS (ne_of_born (Nat.le_of_eq eb561.symm) E556.lt K560.1) nin0))
        have k573 := (((Fm560.keep K561 nin0).keep K564 nin0).keep K565 (ninS (ne_of_born (Nat.le_of_eq eb561.symm) E556.lt K560.1) nin0))
        have k574 := (k566.keep K565)
        refine W565.callV hx hEL (hw _ (mI 162 rfl)) (hw _ (mI 163 rfl)) (hw _ (mI 165 rfl)) (hw _ (mI 164 rfl)) (hw _ (mI 62 rfl)) (hw _ (mI 166 rfl)) (by decide +kernel) k570 (a := b556) (argsL := [(.ref b561)]) (rest := []) (rm43 l Z a0 hw hEL zc SC hzc fm SF rfm b556 b561 (0 : Int32) dfl el em mir gr de kdf h565 W565.old OD OS OL OM OI OG OE k570 k571 k572 k573 k574 gb556.1) all0 (by decide +kernel) (Wd := 0) (by decide +kernel) (by decide +kernel) (by decide +kernel) (allS ⟨gb556.1, (Or.inr gb556.2)⟩ all0) rfl (by rw [hml]; rfl) (lenOf pd23 rfl) rfl (by show 2 * 0 + _ ≤ _; exact Nat.le_of_eq rfl) (hb hby at_169) (fun T569 h569 v569 P569 Ws569 K569 q569 => ?_)
        have W569 := Ws569 [] all0
        obtain ⟨t569, kt569, rfl, lt569, Fe569, Fs569, Fm569, A569, Ov569, Ex569⟩ := q569
        have gt569 : n0 ≤ t569 ∧ s.heap.size ≤ t569 := ⟨Nat.le_trans W565.n0le lt569, Nat.le_trans W565.s0le lt569⟩
        refine gof T569 m 219 #[vi i0, vi i1, vi i2, vi i3, vi i4, vi 1, vi 1, vi y530, vi 1, vr b532, vr b537, vr b549, vr r555, vr b556, U0, U0, U0] [] (fun _ kk => XS.pop W569.here hx rfl (hb hby at_172) rfl rfl (XS.iload W569.here hx rfl (hb hby at_173) rfl (XS.iconst W569.here hx rfl (hb hby at_175) (XS.icmpYes W569.here hx rfl (pc0 := 176) (pc' := 196) rfl (hb hby at_176) rfl (XT.ii_lt_t (by decide +kernel)) (by decide +kernel) (by decide +kernel) (XS.iload W569.here hx rfl (hb hby at_196) rfl (XS.iconst W569.here hx rfl (hb hby at_198) (XS.icmpYes W569.here hx rfl (pc0 := 199) (pc' := 219) rfl (hb hby at_199) rfl (XT.ii_lt_t (by decide +kernel)) (by decide +kernel) (by decide +kernel) kk))))))) ?_
        refine W569.newO hx (hw _ (mI 84 rfl)) (hw _ (mI 85 rfl)) (hw _ (mI 86 rfl)) rfl (hb hby at_219) (by decide +kernel) (by decide +kernel) (fun T575 h575 b575 eb575 gb575 W575 K575 E575 D575 => ?_)
        have k576 : Fld Z h575 b575 "org/portcullis/acl/Outcome" "iLevels" "Ljava/util/List;" .null := D575 (Or.inr (hw _ (mI 121 rfl))) (ty := (.object "java/util/List")) (by decide +kernel)
        have k577 : Fld Z h575 b575 "org/portcullis/acl/Outcome" "iEntry" "Lorg/portcullis/acl/AccessControlEntry;" .null := D575 (Or.inr (hw _ (mI 123 rfl))) (ty := (.object "org/portcullis/acl/AccessControlEntry")) (by decide +kernel)
        refine gof T575 m 227 #[vi i0, vi i1, vi i2, vi i3, vi i4, vi 1, vi 1, vi y530, vi 1, vr b532, vr b537, vr b549, vr r555, vr b556, U0, U0, U0] [(.ref b549), (.ref b556), (.ref b575), (.ref b575)] (fun _ kk => XS.dup W575.here hx rfl (hb hby at_222) rfl rfl (XS.aload W575.here hx rfl (hb hby at_223) rfl rfl (XS.aload W575.here hx rfl (hb hby at_225) rfl rfl kk))) ?_
        have k579 := ((k570.keep K569).keep K575)
        have k580 := (Fe569.keep K575 nin0)
        have k581 := (Fs569.keep K575 nin0)
        have k582 := (A569.keep K575 nin0)
        have k583 := (Ex569.keep K575)
        have k584 := ((k574.keep K569).keep K575)
        refine W575.callP hx hEL rfl (hw _ (mI 87 rfl)) (hw _ (mI 88 rfl)) (hw _ (mI 86 rfl)) (hw _ (mI 89 rfl)) (by decide +kernel) (a := b575) (argsL := [(.ref b556), (.ref b549)]) (rest := [(.ref b575)]) (rm89 l Z a0 hw hEL zc SC hzc fm SF rfm b575 b556 t569 kt569 b561 (.ref b549) dfl el em mir gr de kdf h575 W575.old OD OS OL OM OI OG OE rfl k579 k580 k581 k582 k583 k584 E575 k576 k577 gb575.1) all0 (by decide +kernel) (Wd := 1) (by decide +kernel) (by decide +kernel) (by decide +kernel) (allS ⟨gb575.1, (Or.inr gb575.2)⟩ all0) rfl (by rw [hml]; rfl) (lenOf pd20 rfl) rfl (by show 2 * 0 + _ ≤ _; exact Nat.le_of_eq rfl) (hb hby at_227) (fun T578 h578 v578 P578 Ws578 K578 q578 => ?_)
        have W578 := Ws578 [] all0
        obtain ⟨rfl, Fi578⟩ := q578
        refine gof T578 m 234 #[vi i0, vi i1, vi i2, vi i3, vi i4, vi 1, vi 1, vi y530, vi 1, vr b532, vr b537, vr b549, vr r555, vr b556, vr b575, U0, U0] [(.ref b575)] (fun _ kk => XS.astore W578.here hx rfl (hb hby at_230) rfl rfl (l' := #[.val (.int i0), .val (.int i1), .val (.int i2), .val (.int i3), .val (.int i4), .val (.int 1), .val (.int 1), .val (.int y530), .val (.int 1), .val (.ref b532), .val (.ref b537), .val (.ref b549), .val (.ref r555), .val (.ref b556), .val (.ref b575), .unset, .unset]) rfl (XS.aload W578.here hx rfl (hb hby at_232) rfl rfl kk)) ?_
        have k586 := ((((((((((E549.keep K554).keep K555).keep K556).keep K560).keep K561).keep K564).keep K565).keep K569).keep K575).keep K578)
        have k587 := (((((((((Fg554.keep K555 nin0).keep K556 nin0).keep K560 (ninS (ne_of_born (Nat.le_of_eq eb556.symm) E549.lt (Nat.le_trans K554.1 K555.1)) nin0)).keep K561 nin0).keep K564 nin0).keep K565 (ninS (ne_of_born (Nat.le_of_eq eb561.symm) E549.lt (Nat.le_trans (Nat.le_trans (Nat.le_trans K554.1 K555.1) K556.1) K560.1)) nin0)).keep K569 (ninS (ne_of_born (Nat.le_of_eq eb556.symm) E549.lt (Nat.le_trans K554.1 K555.1)) nin0)).keep K575 nin0).keep K578 (ninS (ne_of_born (Nat.le_of_eq eb575.symm) E549.lt (Nat.le_trans (Nat.le_trans (Nat.le_trans (Nat.le_trans (Nat.le_trans (Nat.le_trans (Nat.le_trans K554.1 K555.1) K556.1) K560.1) K561.1) K564.1) K565.1) K569.1)) nin0))
        have k588 := (E575.keep K578)
        refine W578.callV hx hEL (hw _ (mI 124 rfl)) (hw _ (mI 125 rfl)) (hw _ (mI 127 rfl)) (hw _ (mI 126 rfl)) (hw _ (mI 86 rfl)) (hw _ (mI 128 rfl)) (by decide +kernel) k588 (a := b575) (argsL := []) (rest := []) (rm95 l Z a0 hw hEL zc SC hzc fm SF rfm b575 b549 dfl el em mir gr de kdf h578 W578.old OD OS OL OM OI OG OE Fi578 k586 k587) all0 (by decide +kernel) (Wd := 0) (by decide +kernel) (by decide +kernel) (by decide +kernel) all0 rfl (by rw [hml]; rfl) (lenOf pd21 rfl) rfl (by show 2 * 0 + _ ≤ _; exact Nat.le_of_eq rfl) (hb hby at_234) (fun T585 h585 v585 P585 Ws585 K585 q585 => ?_)
        have W585 := Ws585 [] all0
        obtain ⟨rfl, rfl⟩ := q585
        refine gof T585 m 249 #[vi i0, vi i1, vi i2, vi i3, vi i4, vi 1, vi 1, vi y530, vi 1, vr b532, vr b537, vr b549, vr r555, vr b556, vr b575, vr gr, U0] [] (fun _ kk => XS.astore W585.here hx rfl (hb hby at_237) rfl rfl (l' := #[.val (.int i0), .val (.int i1), .val (.int i2), .val (.int i3), .val (.int i4), .val (.int 1), .val (.int 1), .val (.int y530), .val (.int 1), .val (.ref b532), .val (.ref b537), .val (.ref b549), .val (.ref r555), .val (.ref b556), .val (.ref b575), .val (.ref gr), .unset]) rfl (XS.iload W585.here hx rfl (hb hby at_239) rfl (XS.ifNo W585.here hx rfl (hb hby at_241) rfl (XT.i0_eq_f (by decide +kernel)) (XS.iload W585.here hx rfl (hb hby at_244) rfl (XS.ifNo W585.here hx rfl (hb hby at_246) rfl (XT.i0_eq_f (by decide +kernel)) kk))))) ?_
        refine W585.getS hx (host := "") (Or.inl (hw _ (mI 261 rfl))) Via.refl OG rfl (hb hby at_249) (fun T589 W589 => ?_)
        refine gof T589 m 269 #[vi i0, vi i1, vi i2, vi i3, vi i4, vi 1, vi 1, vi y530, vi 1, vr b532, vr b537, vr b549, vr r555, vr b556, vr b575, vr gr, vr gr] [(.ref b575)] (fun _ kk => XS.goto W589.here hx rfl (pc0 := 252) (pc' := 258) rfl (hb hby at_252) (by decide +kernel) (by decide +kernel) (XS.astore W589.here hx rfl (hb hby at_258) rfl rfl (l' := #[.val (.int i0), .val (.int i1), .val (.int i2), .val (.int i3), .val (.int i4), .val (.int 1), .val (.int 1), .val (.int y530), .val (.int 1), .val (.ref b532), .val (.ref b537), .val (.ref b549), .val (.ref r555), .val (.ref b556), .val (.ref b575), .val (.ref gr), .val (.ref gr)]) rfl (XS.aload W589.here hx rfl (hb hby at_260) rfl rfl (XS.aload W589.here hx rfl (hb hby at_262) rfl rfl (XT.acmpNo (g := (mkF m 264 #[vi i0, vi i1, vi i2, vi i3, vi i4, vi 1, vi 1, vi y530, vi 1, vr b532, vr b537, vr b549, vr r555, vr b556, vr b575, vr gr, vr gr] [(.ref gr), (.ref gr)])) W589.here hx rfl (hb hby at_264) (x := (.ref gr)) (y := (.ref gr)) (rest := []) rfl rfl rfl (XT.aa_ne_f (x := (.ref gr)) (y := (.ref gr)) rfl) (XS.aload W589.here hx rfl (hb hby at_267) rfl rfl kk)))))) ?_
        refine W589.callV hx hEL (hw _ (mI 124 rfl)) (hw _ (mI 125 rfl)) (hw _ (mI 127 rfl)) (hw _ (mI 126 rfl)) (hw _ (mI 86 rfl)) (hw _ (mI 128 rfl)) (by decide +kernel) k588 (a := b575) (argsL := []) (rest := []) (rm95 l Z a0 hw hEL zc SC hzc fm SF rfm b575 b549 dfl el em mir gr de kdf h578 W589.old OD OS OL OM OI OG OE Fi578 k586 k587) all0 (by decide +kernel) (Wd := 0) (by decide +kernel) (by decide +kernel) (by decide +kernel) all0 rfl (by rw [hml]; rfl) (lenOf pd21 rfl) rfl (by show 2 * 0 + _ ≤ _; exact Nat.le_of_eq rfl) (hb hby at_269) (fun T590 h590 v590 P590 Ws590 K590 q590 => ?_)
        have W590 := Ws590 [] all0
        obtain ⟨rfl, rfl⟩ := q590
        refine gof T590 m 282 #[vi i0, vi i1, vi i2, vi i3, vi i4, vi 1, vi 1, vi y530, vi 1, vr b532, vr b537, vr b549, vr r555, vr b556, vr b575, vr gr, vr gr] [(.int 1)] (fun _ kk => XS.aload W590.here hx rfl (hb hby at_272) rfl rfl (XT.acmpNo (g := (mkF m 274 #[vi i0, vi i1, vi i2, vi i3, vi i4, vi 1, vi 1, vi y530, vi 1, vr b532, vr b537, vr b549, vr r555, vr b556, vr b575, vr gr, vr gr] [(.ref gr), (.ref gr)])) W590.here hx rfl (hb hby at_274) (x := (.ref gr)) (y := (.ref gr)) (rest := []) rfl rfl rfl (XT.aa_ne_f (x := (.ref gr)) (y := (.ref gr)) rfl) (XS.iconst W590.here hx rfl (hb hby at_277) (XS.goto W590.here hx rfl (pc0 := 278) (pc' := 282) rfl (hb hby at_278) (by decide +kernel) (by decide +kernel) kk)))) ?_
        exact W590.retI hx hEL hs hlk (by decide +kernel) (by decide +kernel) hret (by simp) rfl (hb hby at_282) (fun S hS => rfl)
      · rw [z531]
        refine gof T0 m 60 #[vi i0, vi i1, vi i2, vi i3, vi i4, vi 1, vi 1, vi y530, vi 1, U0, U0, U0, U0, U0, U0, U0, U0] [(.int 2)] (fun _ kk => XS.istore W0.here hx rfl (hb hby at_44) rfl (l' := #[.val (.int i0), .val (.int i1), .val (.int i2), .val (.int i3), .val (.int i4), .val (.int 1), .val (.int 1), .val (.int y530), .val (.int 1), .unset, .unset, .unset, .unset, .unset, .unset, .unset, .unset]) rfl (XS.iload W0.here hx rfl (hb hby at_46) rfl (XS.ifNo W0.here hx rfl (hb hby at_48) rfl (XT.i0_eq_f (by decide +kernel)) (XS.iload W0.here hx rfl (hb hby at_51) rfl (XS.ifYes W0.here hx rfl (pc0 := 53) (pc' := 59) rfl (hb hby at_53) rfl (XT.i0_ne_t (by decide +kernel)) (by decide +kernel) (by decide +kernel) (XS.iconst W0.here hx rfl (hb hby at_59) kk)))))) ?_
        refine W0.newP hx (hw _ (mI 0 rfl)) rfl (hb hby at_60) rfl (by decide +kernel) (cap := 2) (by decide +kernel) (by decide +kernel) (by decide +kernel) (by decide +kernel) (fun T591 h591 b591 c591 eb591 gb591 W591 K591 A591 => ?_)
        have V591 : Arv Z h591 b591 c591 .char (2 : Int32) [(.int (0 : Int32)), (.int (0 : Int32))] (.int (0 : Int32)) := A591
        refine gof T591 m 73 #[vi i0, vi i1, vi i2, vi i3, vi i4, vi 1, vi 1, vi y530, vi 1, vr b591, U0, U0, U0, U0, U0, U0, U0] [(.int ((i3 &&& (255 : Int32)).toUInt32.toUInt16.toUInt32.toInt32)), (.int 0), (.ref b591)] (fun _ kk => XS.astore W591.here hx rfl (hb hby at_62) rfl rfl (l' := #[.val (.int i0), .val (.int i1), .val (.int i2), .val (.int i3), .val (.int i4), .val (.int 1), .val (.int 1), .val (.int y530), .val (.int 1), .val (.ref b591), .unset, .unset, .unset, .unset, .unset, .unset, .unset]) rfl (XS.aload W591.here hx rfl (hb hby at_64) rfl rfl (XS.iconst W591.here hx rfl (hb hby at_66) (XS.iloadN W591.here hx rfl (hb hby at_67) rfl (XS.sipush W591.here hx rfl (hb hby at_68) (XS.iand W591.here hx rfl (hb hby at_71) rfl (XS.i2c W591.here hx rfl (hb hby at_72) rfl kk))))))) ?_
        obtain ⟨q592, hq592, cq592, zq592⟩ := char255 i3
        rw [hq592]
        show Go p e below _ (T591.setTop (mkF m 73 #[vi i0, vi i1, vi i2, vi i3, vi i4, vi 1, vi 1, vi y530, vi 1, vr b591, U0, U0, U0, U0, U0, U0, U0] [(.int q592), (.int 0), (.ref b591)]))
        refine W591.stC hx V591 ⟨by decide, by decide⟩ 0 rfl (Nat.le_of_ble_eq_true rfl) gb591.1 (Or.inr gb591.2) rfl rfl (hb hby at_73) (fun T593 h593 W593 K593 A593 => ?_)
        have V593 : Arv Z h593 b591 c591 .char (2 : Int32) [(.int q592), (.int (0 : Int32))] (.int (0 : Int32)) := (by rw [(nar_char cq592)] at A593; exact A593)
        refine gof T593 m 84 #[vi i0, vi i1, vi i2, vi i3, vi i4, vi 1, vi 1, vi y530, vi 1, vr b591, U0, U0, U0, U0, U0, U0, U0] [(.int ((i4 &&& (255 : Int32)).toUInt32.toUInt16.toUInt32.toInt32)), (.int 1), (.ref b591)] (fun _ kk => XS.aload W593.here hx rfl (hb hby at_74) rfl rfl (XS.iconst W593.here hx rfl (hb hby at_76) (XS.iload W593.here hx rfl (hb hby at_77) rfl (XS.sipush W593.here hx rfl (hb hby at_79) (XS.iand W593.here hx rfl (hb hby at_82) rfl (XS.i2c W593.here hx rfl (hb hby at_83) rfl kk)))))) ?_
        obtain ⟨q594, hq594, cq594, zq594⟩ := char255 i4
        rw [hq594]
        show Go p e below _ (T593.setTop (mkF m 84 #[vi i0, vi i1, vi i2, vi i3, vi i4, vi 1, vi 1, vi y530, vi 1, vr b591, U0, U0, U0, U0, U0, U0, U0] [(.int q594), (.int 1), (.ref b591)]))
        refine W593.stC hx V593 ⟨by decide, by decide⟩ 1 rfl (Nat.le_of_ble_eq_true rfl) gb591.1 (Or.inr gb591.2) rfl rfl (hb hby at_84) (fun T595 h595 W595 K595 A595 => ?_)
        have V595 : Arv Z h595 b591 c591 .char (2 : Int32) [(.int q592), (.int q594)] (.int (0 : Int32)) := (by rw [(nar_char cq594)] at A595; exact A595)
        show Go p e below _ (T595.setTop (mkF m 85 #[vi i0, vi i1, vi i2, vi i3, vi i4, vi 1, vi 1, vi y530, vi 1, vr b591, U0, U0, U0, U0, U0, U0, U0] []))
        refine W595.newO hx (hw _ (mI 1 rfl)) (hw _ (mI 2 rfl)) (hw _ (mI 3 rfl)) rfl (hb hby at_85) (by decide +kernel) (by decide +kernel) (fun T596 h596 b596 eb596 gb596 W596 K596 E596 D596 => ?_)
        have k597 : Fld Z h596 b596 "org/portcullis/acl/Sid" "name" "Ljava/lang/String;" .null := D596 (Or.inr (hw _ (mI 43 rfl))) (ty := (.object "java/lang/String")) (by decide +kernel)
        have k598 : Fld Z h596 b596 "org/portcullis/acl/Sid" "principal" "Z" (.int (0 : Int32)) := D596 (Or.inr (hw _ (mI 45 rfl))) (ty := .boolean) (by decide +kernel)
        refine gof T596 m 89 #[vi i0, vi i1, vi i2, vi i3, vi i4, vi 1, vi 1, vi y530, vi 1, vr b591, U0, U0, U0, U0, U0, U0, U0] [(.ref b596), (.ref b596)] (fun _ kk => XS.dup W596.here hx rfl (hb hby at_88) rfl rfl kk) ?_
        refine W596.newO hx (hw _ (mI 4 rfl)) (hw _ (mI 5 rfl)) (hw _ (mI 6 rfl)) rfl (hb hby at_89) (by decide +kernel) (by decide +kernel) (fun T599 h599 b599 eb599 gb599 W599 K599 E599 D599 => ?_)
        have k600 : Fld Z h599 b599 "java/lang/String" "coder" "B" (.int (0 : Int32)) := D599 (Or.inr (hw _ (mI 30 rfl))) (ty := .byte) (by decide +kernel)
        have k601 : Fld Z h599 b599 "java/lang/String" "value" "[B" .null := D599 (Or.inr (hw _ (mI 32 rfl))) (ty := (.array .byte)) (by decide +kernel)
        refine gof T599 m 95 #[vi i0, vi i1, vi i2, vi i3, vi i4, vi 1, vi 1, vi y530, vi 1, vr b591, U0, U0, U0, U0, U0, U0, U0] [(.ref b591), (.ref b599), (.ref b599), (.ref b596), (.ref b596)] (fun _ kk => XS.dup W599.here hx rfl (hb hby at_92) rfl rfl (XS.aload W599.here hx rfl (hb hby at_93) rfl rfl kk)) ?_
        have k603 := ((V595.keep K596 nin0).keep K599 nin0)
        refine W599.newStr hx hws (hw _ (mI 5 rfl)) SC hzc (hw _ (mI 7 rfl)) (hw _ (mI 8 rfl)) (hw _ (mI 9 rfl)) E599 k601 k600 (cs := [q592, q594]) (n := 2) k603 rfl rfl (by decide +kernel) (by decide +kernel) (allSi cq592 (allSi cq594 all0i)) gb599.1 (Or.inr gb599.2) (mI 0 rfl) (by decide +kernel) (Wd := 3) (by decide +kernel) (by decide +kernel) (by decide +kernel) rfl (by rw [hml]; rfl) rfl (by show 2 * 0 + _ ≤ _; exact Nat.le_of_eq rfl) (hb hby at_95) (fun T602 h602 W602 K602 S602 => ?_)
        refine gof T602 m 100 #[vi i0, vi i1, vi i2, vi i3, vi i4, vi 1, vi 1, vi y530, vi 1, vr b591, U0, U0, U0, U0, U0, U0, U0] [(.int y530), (.ref b599), (.ref b596), (.ref b596)] (fun _ kk => XS.iload W602.here hx rfl (hb hby at_98) rfl kk) ?_
        have k605 := ((E596.keep K599).keep K602)
        have k606 := ((k597.keep K599 nin0).keep K602 (ninS (ne_of_born (Nat.le_of_eq eb599.symm) E596.lt (Nat.le_refl _)) nin0))
        have k607 := ((k598.keep K599 nin0).keep K602 (ninS (ne_of_born (Nat.le_of_eq eb599.symm) E596.lt (Nat.le_refl _)) nin0))
        refine W602.callP hx hEL rfl (hw _ (mI 33 rfl)) (hw _ (mI 34 rfl)) (hw _ (mI 3 rfl)) (hw _ (mI 35 rfl)) (by decide +kernel) (a := b596) (argsL := [(.ref b599), (.int y530)]) (rest := [(.ref b596)]) (rm11 l Z a0 hw hEL zc SC hzc fm SF rfm b596 b599 y530 h602 W602.old k605 k606 k607 gb596.1 nz_p fz_p) all0 (by decide +kernel) (Wd := 1) (by decide +kernel) (by decide +kernel) (by decide +kernel) (allS ⟨gb596.1, (Or.inr gb596.2)⟩ all0) rfl (by rw [hml]; rfl) (lenOf pd18 rfl) rfl (by show 2 * 0 + _ ≤ _; exact Nat.le_of_eq rfl) (hb hby at_100) (fun T604 h604 v604 P604 Ws604 K604 q604 => ?_)
        have W604 := Ws604 [] all0
        obtain rfl := q604
        refine gof T604 m 110 #[vi i0, vi i1, vi i2, vi i3, vi i4, vi 1, vi 1, vi y530, vi 1, vr b591, vr b596, U0, U0, U0, U0, U0, U0] [] (fun _ kk => XS.astore W604.here hx rfl (hb hby at_103) rfl rfl (l' := #[.val (.int i0), .val (.int i1), .val (.int i2), .val (.int i3), .val (.int i4), .val (.int 1), .val (.int 1), .val (.int y530), .val (.int 1), .val (.ref b591), .val (.ref b596), .unset, .unset, .unset, .unset, .unset, .unset]) rfl (XS.iload W604.here hx rfl (hb hby at_105) rfl (XS.ifNo W604.here hx rfl (hb hby at_107) rfl (XT.i0_eq_f (by decide +kernel)) kk))) ?_
        refine W604.newO hx (hw _ (mI 133 rfl)) (hw _ (mI 134 rfl)) (hw _ (mI 135 rfl)) rfl (hb hby at_110) (by decide +kernel) (by decide +kernel) (fun T608 h608 b608 eb608 gb608 W608 K608 E608 D608 => ?_)
        have k609 : Fld Z h608 b608 "org/portcullis/acl/AccessControlEntry" "order" "I" (.int (0 : Int32)) := D608 (Or.inr (hw _ (mI 141 rfl))) (ty := .int) (by decide +kernel)
        have k610 : Fld Z h608 b608 "org/portcullis/acl/AccessControlEntry" "sid" "Lorg/portcullis/acl/Sid;" .null := D608 (Or.inr (hw _ (mI 143 rfl))) (ty := (.object "org/portcullis/acl/Sid")) (by decide +kernel)
        have k611 : Fld Z h608 b608 "org/portcullis/acl/AccessControlEntry" "mask" "I" (.int (0 : Int32)) := D608 (Or.inr (hw _ (mI 145 rfl))) (ty := .int) (by decide +kernel)
        have k612 : Fld Z h608 b608 "org/portcullis/acl/AccessControlEntry" "granting" "Z" (.int (0 : Int32)) := D608 (Or.inr (hw _ (mI 147 rfl))) (ty := .boolean) (by decide +kernel)
        refine gof T608 m 120 #[vi i0, vi i1, vi i2, vi i3, vi i4, vi 1, vi 1, vi y530, vi 1, vr b591, vr b596, U0, U0, U0, U0, U0, U0] [(.int 1), (.int i2), (.ref b596), (.int i1), (.ref b608), (.ref b608)] (fun _ kk => XS.dup W608.here hx rfl (hb hby at_113) rfl rfl (XS.iloadN W608.here hx rfl (hb hby at_114) rfl (XS.aload W608.here hx rfl (hb hby at_115) rfl rfl (XS.iloadN W608.here hx rfl (hb hby at_117) rfl (XS.iload W608.here hx rfl (hb hby at_118) rfl kk))))) ?_
        refine W608.callP hx hEL rfl (hw _ (mI 136 rfl)) (hw _ (mI 137 rfl)) (hw _ (mI 135 rfl)) (hw _ (mI 138 rfl)) (by decide +kernel) (a := b608) (argsL := [(.int i1), (.ref b596), (.int i2), (.int (1 : Int32))]) (rest := [(.ref b608)]) (rm13 l Z a0 hw hEL zc SC hzc fm SF rfm b608 b596 i1 i2 h608 W608.old E608 k609 k610 k611 k612 gb608.1) all0 (by decide +kernel) (Wd := 1) (by decide +kernel) (by decide +kernel) (by decide +kernel) (allS ⟨gb608.1, (Or.inr gb608.2)⟩ all0) rfl (by rw [hml]; rfl) (lenOf pd24 rfl) rfl (by show 2 * 0 + _ ≤ _; exact Nat.le_of_eq rfl) (hb hby at_120) (fun T613 h613 v613 P613 Ws613 K613 q613 => ?_)
        have W613 := Ws613 [] all0
        obtain ⟨rfl, Fg613⟩ := q613
        refine gof T613 m 136 #[vi i0, vi i1, vi i2, vi i3, vi i4, vi 1, vi 1, vi y530, vi 1, vr b591, vr b596, vr b608, U0, U0, U0, U0, U0] [(.int ((i4 &&& (255 : Int32)).toUInt32.toUInt16.toUInt32.toInt32))] (fun _ kk => XS.goto W613.here hx rfl (pc0 := 123) (pc' := 127) rfl (hb hby at_123) (by decide +kernel) (by decide +kernel) (XS.astore W613.here hx rfl (hb hby at_127) rfl rfl (l' := #[.val (.int i0), .val (.int i1), .val (.int i2), .val (.int i3), .val (.int i4), .val (.int 1), .val (.int 1), .val (.int y530), .val (.int 1), .val (.ref b591), .val (.ref b596), .val (.ref b608), .unset, .unset, .unset, .unset, .unset]) rfl (XS.iload W613.here hx rfl (hb hby at_129) rfl (XS.sipush W613.here hx rfl (hb hby at_131) (XS.iand W613.here hx rfl (hb hby at_134) rfl (XS.i2c W613.here hx rfl (hb hby at_135) rfl kk)))))) ?_
        rw [hq594]
        show Go p e below _ (T613.setTop (mkF m 136 #[vi i0, vi i1, vi i2, vi i3, vi i4, vi 1, vi 1, vi y530, vi 1, vr b591, vr b596, vr b608, U0, U0, U0, U0, U0] [(.int q594)]))
        refine W613.callS hx hEL (hw _ (mI 46 rfl)) (hw _ (mI 47 rfl)) (hw _ (mI 6 rfl)) (hw _ (mI 48 rfl)) (by decide +kernel) (argsL := [(.int q594)]) (rest := []) (rm27 l Z a0 hw hEL zc SC hzc fm SF rfm q594 h613 W613.old cq594) all0 (by decide +kernel) (Wd := 0) (by decide +kernel) (by decide +kernel) (by decide +kernel) all0 rfl (by rw [hml]; rfl) (lenOf pd19 rfl) rfl (by show 2 * 0 + _ ≤ _; exact Nat.le_of_eq rfl) (hb hby at_136) (fun T614 h614 v614 P614 Ws614 K614 q614 => ?_)
        have W614 := Ws614 [] all0
        obtain ⟨r614, rfl, lr614, S614⟩ := q614
        have gr614 : n0 ≤ r614 ∧ s.heap.size ≤ r614 := ⟨Nat.le_trans W613.n0le lr614, Nat.le_trans W613.s0le lr614⟩
        have E614 := S614.exa
        refine gof T614 m 141 #[vi i0, vi i1, vi i2, vi i3, vi i4, vi 1, vi 1, vi y530, vi 1, vr b591, vr b596, vr b608, vr r614, U0, U0, U0, U0] [] (fun _ kk => XS.astore W614.here hx rfl (hb hby at_139) rfl rfl (l' := #[.val (.int i0), .val (.int i1), .val (.int i2), .val (.int i3), .val (.int i4), .val (.int 1), .val (.int 1), .val (.int y530), .val (.int 1), .val (.ref b591), .val (.ref b596), .val (.ref b608), .val (.ref r614), .unset, .unset, .unset, .unset]) rfl kk) ?_
        refine W614.newO hx (hw _ (mI 60 rfl)) (hw _ (mI 61 rfl)) (hw _ (mI 62 rfl)) rfl (hb hby at_141) (by decide +kernel) (by decide +kernel) (fun T615 h615 b615 eb615 gb615 W615 K615 E615 D615 => ?_)
        have k616 : Fld Z h615 b615 "java/util/AbstractList" "modCount" "I" (.int (0 : Int32)) := D615 (Or.inl (hw _ (mI 80 rfl))) (ty := .int) (by decide +kernel)
        have k617 : Fld Z h615 b615 "java/util/ArrayList" "elementData" "[Ljava/lang/Object;" .null := D615 (Or.inl (hw _ (mI 83 rfl))) (ty := (.array (.object "java/lang/Object"))) (by decide +kernel)
        have k618 : Fld Z h615 b615 "java/util/ArrayList" "size" "I" (.int (0 : Int32)) := D615 (Or.inl (hw _ (mI 115 rfl))) (ty := .int) (by decide +kernel)
        refine gof T615 m 145 #[vi i0, vi i1, vi i2, vi i3, vi i4, vi 1, vi 1, vi y530, vi 1, vr b591, vr b596, vr b608, vr r614, U0, U0, U0, U0] [(.ref b615), (.ref b615)] (fun _ kk => XS.dup W615.here hx rfl (hb hby at_144) rfl rfl kk) ?_
        refine W615.callP hx hEL rfl (hw _ (mI 63 rfl)) (hw _ (mI 64 rfl)) (hw _ (mI 62 rfl)) (hw _ (mI 65 rfl)) (by decide +kernel) (a := b615) (argsL := []) (rest := [(.ref b615)]) (rm19 l Z a0 hw hEL zc SC hzc fm SF rfm b615 dfl el em mir gr de kdf h615 W615.old OD OS OL OM OI OG OE E615 k616 k617 k618 gb615.1) all0 (by decide +kernel) (Wd := 1) (by decide +kernel) (by decide +kernel) (by decide +kernel) (allS ⟨gb615.1, (Or.inr gb615.2)⟩ all0) rfl (by rw [hml]; rfl) (lenOf pd3 rfl) rfl (by show 2 * 0 + _ ≤ _; exact Nat.le_of_eq rfl) (hb hby at_145) (fun T619 h619 v619 P619 Ws619 K619 q619 => ?_)
        have W619 := Ws619 [] all0
        obtain ⟨rfl, Fe619, Fs619, Fm619⟩ := q619
        refine gof T619 m 158 #[vi i0, vi i1, vi i2, vi i3, vi i4, vi 1, vi 1, vi y530, vi 1, vr b591, vr b596, vr b608, vr r614, vr b615, U0, U0, U0] [(.ref b615)] (fun _ kk => XS.astore W619.here hx rfl (hb hby at_148) rfl rfl (l' := #[.val (.int i0), .val (.int i1), .val (.int i2), .val (.int i3), .val (.int i4), .val (.int 1), .val (.int 1), .val (.int y530), .val (.int 1), .val (.ref b591), .val (.ref b596), .val (.ref b608), .val (.ref r614), .val (.ref b615), .unset, .unset, .unset]) rfl (XS.iload W619.here hx rfl (hb hby at_150) rfl (XS.iconst W619.here hx rfl (hb hby at_152) (XS.icmpNo W619.here hx rfl (hb hby at_153) rfl (XT.ii_lt_f (by decide +kernel)) (XS.aload W619.here hx rfl (hb hby at_156) rfl rfl kk))))) ?_
        refine W619.newO hx (hw _ (mI 148 rfl)) (hw _ (mI 149 rfl)) (hw _ (mI 150 rfl)) rfl (hb hby at_158) (by decide +kernel) (by decide +kernel) (fun T620 h620 b620 eb620 gb620 W620 K620 E620 D620 => ?_)
        have k621 : Fld Z h620 b620 "org/portcullis/acl/ObjectIdentity" "type" "Ljava/lang/String;" .null := D620 (Or.inr (hw _ (mI 159 rfl))) (ty := (.object "java/lang/String")) (by decide +kernel)
        have k622 : Fld Z h620 b620 "org/portcullis/acl/ObjectIdentity" "id" "Ljava/lang/String;" .null := D620 (Or.inr (hw _ (mI 161 rfl))) (ty := (.object "java/lang/String")) (by decide +kernel)
        refine gof T620 m 164 #[vi i0, vi i1, vi i2, vi i3, vi i4, vi 1, vi 1, vi y530, vi 1, vr b591, vr b596, vr b608, vr r614, vr b615, U0, U0, U0] [(.ref r614), (.ref b620), (.ref b620), (.ref b615)] (fun _ kk => XS.dup W620.here hx rfl (hb hby at_161) rfl rfl (XS.aload W620.here hx rfl (hb hby at_162) rfl rfl kk)) ?_
        refine W620.ldcO hx hEL (hw _ (mI 151 rfl)) hSA rfl (hb hby at_164) (n := 4) (by decide +kernel) (by decide +kernel) (by decide +kernel) (by decide +kernel) (fun T623 h623 b623 W623 K623 => ?_)
        show Go p e below _ (T623.setTop (mkF m 166 #[vi i0, vi i1, vi i2, vi i3, vi i4, vi 1, vi 1, vi y530, vi 1, vr b591, vr b596, vr b608, vr r614, vr b615, U0, U0, U0] [(.ref b623), (.ref r614), (.ref b620), (.ref b620), (.ref b615)]))
        have k625 := (E620.keep K623)
        have k626 := (k621.keep K623 nin0)
        have k627 := (k622.keep K623 nin0)
        refine W623.callP hx hEL rfl (hw _ (mI 154 rfl)) (hw _ (mI 155 rfl)) (hw _ (mI 150 rfl)) (hw _ (mI 156 rfl)) (by decide +kernel) (a := b620) (argsL := [(.ref r614), (.ref b623)]) (rest := [(.ref b620), (.ref b615)]) (rm14 l Z a0 hw hEL zc SC hzc fm SF rfm b620 r614 b623 h623 W623.old k625 k626 k627 gb620.1) all0 (by decide +kernel) (Wd := 2) (by decide +kernel) (by decide +kernel) (by decide +kernel) (allS ⟨gb620.1, (Or.inr gb620.2)⟩ all0) rfl (by rw [hml]; rfl) (lenOf pd22 rfl) rfl (by show 2 * 0 + _ ≤ _; exact Nat.le_of_eq rfl) (hb hby at_166) (fun T624 h624 v624 P624 Ws624 K624 q624 => ?_)
        have W624 := Ws624 [] all0
        obtain rfl := q624
        show Go p e below _ (T624.setTop (mkF m 169 #[vi i0, vi i1, vi i2, vi i3, vi i4, vi 1, vi 1, vi y530, vi 1, vr b591, vr b596, vr b608, vr r614, vr b615, U0, U0, U0] [(.ref b620), (.ref b615)]))
        have k629 := ((((E615.keep K619).keep K620).keep K623).keep K624)
        have k630 := (((Fe619.keep K620 nin0).keep K623 nin0).keep K624 (ninS (ne_of_born (Nat.le_of_eq eb620.symm) E615.lt K619.1) nin0))
        have k631 := (((Fs619.keep K620 nin0).keep K623 nin0).keep K624 (ninS (ne_of_born (Nat.le_of_eq eb620.symm) E615.lt K619.1) nin0))
        have k632 := (((Fm619.keep K620 nin0).keep K623 nin0).keep K624 (ninS (ne_of_born (Nat.le_of_eq eb620.symm) E615.lt K619.1) nin0))
        have k633 := (k625.keep K624)
        refine W624.callV hx hEL (hw _ (mI 162 rfl)) (hw _ (mI 163 rfl)) (hw _ (mI 165 rfl)) (hw _ (mI 164 rfl)) (hw _ (mI 62 rfl)) (hw _ (mI 166 rfl)) (by decide +kernel) k629 (a := b615) (argsL := [(.ref b620)]) (rest := []) (rm43 l Z a0 hw hEL zc SC hzc fm SF rfm b615 b620 (0 : Int32) dfl el em mir gr de kdf h624 W624.old OD OS OL OM OI OG OE k629 k630 k631 k632 k633 gb615.1) all0 (by decide +kernel) (Wd := 0) (by decide +kernel) (by decide +kernel) (by decide +kernel) (allS ⟨gb615.1, (Or.inr gb615.2)⟩ all0) rfl (by rw [hml]; rfl) (lenOf pd23 rfl) rfl (by show 2 * 0 + _ ≤ _; exact Nat.le_of_eq rfl) (hb hby at_169) (fun T628 h628 v628 P628 Ws628 K628 q628 => ?_)
        have W628 := Ws628 [] all0
        obtain ⟨t628, kt628, rfl, lt628, Fe628, Fs628, Fm628, A628, Ov628, Ex628⟩ := q628
        have gt628 : n0 ≤ t628 ∧ s.heap.size ≤ t628 := ⟨Nat.le_trans W624.n0le lt628, Nat.le_trans W624.s0le lt628⟩
        refine gof T628 m 219 #[vi i0, vi i1, vi i2, vi i3, vi i4, vi 1, vi 1, vi y530, vi 1, vr b591, vr b596, vr b608, vr r614, vr b615, U0, U0, U0] [] (fun _ kk => XS.pop W628.here hx rfl (hb hby at_172) rfl rfl (XS.iload W628.here hx rfl (hb hby at_173) rfl (XS.iconst W628.here hx rfl (hb hby at_175) (XS.icmpYes W628.here hx rfl (pc0 := 176) (pc' := 196) rfl (hb hby at_176) rfl (XT.ii_lt_t (by decide +kernel)) (by decide +kernel) (by decide +kernel) (XS.iload W628.here hx rfl (hb hby at_196) rfl (XS.iconst W628.here hx rfl (hb hby at_198) (XS.icmpYes W628.here hx rfl (pc0 := 199) (pc' := 219) rfl (hb hby at_199) rfl (XT.ii_lt_t (by decide +kernel)) (by decide +kernel) (by decide +kernel) kk))))))) ?_
        refine W628.newO hx (hw _ (mI 84 rfl)) (hw _ (mI 85 rfl)) (hw _ (mI 86 rfl)) rfl (hb hby at_219) (by decide +kernel) (by decide +kernel) (fun T634 h634 b634 eb634 gb634 W634 K634 E634 D634 => ?_)
        have k635 : Fld Z h634 b634 "org/portcullis/acl/Outcome" "iLevels" "Ljava/util/List;" .null := D634 (Or.inr (hw _ (mI 121 rfl))) (ty := (.object "java/util/List")) (by decide +kernel)
        have k636 : Fld Z h634 b634 "org/portcullis/acl/Outcome" "iEntry" "Lorg/portcullis/acl/AccessControlEntry;" .null := D634 (Or.inr (hw _ (mI 123 rfl))) (ty := (.object "org/portcullis/acl/AccessControlEntry")) (by decide +kernel)
        refine gof T634 m 227 #[vi i0, vi i1, vi i2, vi i3, vi i4, vi 1, vi 1, vi y530, vi 1, vr b591, vr b596, vr b608, vr r614, vr b615, U0, U0, U0] [(.ref b608), (.ref b615), (.ref b634), (.ref b634)] (fun _ kk => XS.dup W634.here hx rfl (hb hby at_222) rfl rfl (XS.aload W634.here hx rfl (hb hby at_223) rfl rfl (XS.aload W634.here hx rfl (hb hby at_225) rfl rfl kk))) ?_
        have k638 := ((k629.keep K628).keep K634)
        have k639 := (Fe628.keep K634 nin0)
        have k640 := (Fs628.keep K634 nin0)
        have k641 := (A628.keep K634 nin0)
        have k642 := (Ex628.keep K634)
        have k643 := ((k633.keep K628).keep K634)
        refine W634.callP hx hEL rfl (hw _ (mI 87 rfl)) (hw _ (mI 88 rfl)) (hw _ (mI 86 rfl)) (hw _ (mI 89 rfl)) (by decide +kernel) (a := b634) (argsL := [(.ref b615), (.ref b608)]) (rest := [(.ref b634)]) (rm89 l Z a0 hw hEL zc SC hzc fm SF rfm b634 b615 t628 kt628 b620 (.ref b608) dfl el em mir gr de kdf h634 W634.old OD OS OL OM OI OG OE rfl k638 k639 k640 k641 k642 k643 E634 k635 k636 gb634.1) all0 (by decide +kernel) (Wd := 1) (by decide +kernel) (by decide +kernel) (by decide +kernel) (allS ⟨gb634.1, (Or.inr gb634.2)⟩ all0) rfl (by rw [hml]; rfl) (lenOf pd20 rfl) rfl (by show 2 * 0 + _ ≤ _; exact Nat.le_of_eq rfl) (hb hby at_227) (fun T637 h637 v637 P637 Ws637 K637 q637 => ?_)
        have W637 := Ws637 [] all0
        obtain ⟨rfl, Fi637⟩ := q637
        refine gof T637 m 234 #[vi i0, vi i1, vi i2, vi i3, vi i4, vi 1, vi 1, vi y530, vi 1, vr b591, vr b596, vr b608, vr r614, vr b615, vr b634, U0, U0] [(.ref b634)] (fun _ kk => XS.astore W637.here hx rfl (hb hby at_230) rfl rfl (l' := #[.val (.int i0), .val (.int i1), .val (.int i2), .val (.int i3), .val (.int i4), .val (.int 1), .val (.int 1), .val (.int y530), .val (.int 1), .val (.ref b591), .val (.ref b596), .val (.ref b608), .val (.ref r614), .val (.ref b615), .val (.ref b634), .unset, .unset]) rfl (XS.aload W637.here hx rfl (hb hby at_232) rfl rfl kk)) ?_
        have k645 := ((((((((((E608.keep K613).keep K614).keep K615).keep K619).keep K620).keep K623).keep K624).keep K628).keep K634).keep K637)
        have k646 := (((((((((Fg613.keep K614 nin0).keep K615 nin0).keep K619 (ninS (ne_of_born (Nat.le_of_eq eb615.symm) E608.lt (Nat.le_trans K613.1 K614.1)) nin0)).keep K620 nin0).keep K623 nin0).keep K624 (ninS (ne_of_born (Nat.le_of_eq eb620.symm) E608.lt (Nat.le_trans (Nat.le_trans (Nat.le_trans K613.1 K614.1) K615.1) K619.1)) nin0)).keep K628 (ninS (ne_of_born (Nat.le_of_eq eb615.symm) E608.lt (Nat.le_trans K613.1 K614.1)) nin0)).keep K634 nin0).keep K637 (ninS (ne_of_born (Nat.le_of_eq eb634.symm) E608.lt (Nat.le_trans (Nat.le_trans (Nat.le_trans (Nat.le_trans (Nat.le_trans (Nat.le_trans (Nat.le_trans K613.1 K614.1) K615.1) K619.1) K620.1) K623.1) K624.1) K628.1)) nin0))
        have k647 := (E634.keep K637)
        refine W637.callV hx hEL (hw _ (mI 124 rfl)) (hw _ (mI 125 rfl)) (hw _ (mI 127 rfl)) (hw _ (mI 126 rfl)) (hw _ (mI 86 rfl)) (hw _ (mI 128 rfl)) (by decide +kernel) k647 (a := b634) (argsL := []) (rest := []) (rm95 l Z a0 hw hEL zc SC hzc fm SF rfm b634 b608 dfl el em mir gr de kdf h637 W637.old OD OS OL OM OI OG OE Fi637 k645 k646) all0 (by decide +kernel) (Wd := 0) (by decide +kernel) (by decide +kernel) (by decide +kernel) all0 rfl (by rw [hml]; rfl) (lenOf pd21 rfl) rfl (by show 2 * 0 + _ ≤ _; exact Nat.le_of_eq rfl) (hb hby at_234) (fun T644 h644 v644 P644 Ws644 K644 q644 => ?_)
        have W644 := Ws644 [] all0
        obtain ⟨rfl, rfl⟩ := q644
        refine gof T644 m 249 #[vi i0, vi i1, vi i2, vi i3, vi i4, vi 1, vi 1, vi y530, vi 1, vr b591, vr b596, vr b608, vr r614, vr b615, vr b634, vr gr, U0] [] (fun _ kk => XS.astore W644.here hx rfl (hb hby at_237) rfl rfl (l' := #[.val (.int i0), .val (.int i1), .val (.int i2), .val (.int i3), .val (.int i4), .val (.int 1), .val (.int 1), .val (.int y530), .val (.int 1), .val (.ref b591), .val (.ref b596), .val (.ref b608), .val (.ref r614), .val (.ref b615), .val (.ref b634), .val (.ref gr), .unset]) rfl (XS.iload W644.here hx rfl (hb hby at_239) rfl (XS.ifNo W644.here hx rfl (hb hby at_241) rfl (XT.i0_eq_f (by decide +kernel)) (XS.iload W644.here hx rfl (hb hby at_244) rfl (XS.ifNo W644.here hx rfl (hb hby at_246) rfl (XT.i0_eq_f (by decide +kernel)) kk))))) ?_
        refine W644.getS hx (host := "") (Or.inl (hw _ (mI 261 rfl))) Via.refl OG rfl (hb hby at_249) (fun T648 W648 => ?_)
        refine gof T648 m 269 #[vi i0, vi i1, vi i2, vi i3, vi i4, vi 1, vi 1, vi y530, vi 1, vr b591, vr b596, vr b608, vr r614, vr b615, vr b634, vr gr, vr gr] [(.ref b634)] (fun _ kk => XS.goto W648.here hx rfl (pc0 := 252) (pc' := 258) rfl (hb hby at_252) (by decide +kernel) (by decide +kernel) (XS.astore W648.here hx rfl (hb hby at_258) rfl rfl (l' := #[.val (.int i0), .val (.int i1), .val (.int i2), .val (.int i3), .val (.int i4), .val (.int 1), .val (.int 1), .val (.int y530), .val (.int 1), .val (.ref b591), .val (.ref b596), .val (.ref b608), .val (.ref r614), .val (.ref b615), .val (.ref b634), .val (.ref gr), .val (.ref gr)]) rfl (XS.aload W648.here hx rfl (hb hby at_260) rfl rfl (XS.aload W648.here hx rfl (hb hby at_262) rfl rfl (XT.acmpNo (g := (mkF m 264 #[vi i0, vi i1, vi i2, vi i3, vi i4, vi 1, vi 1, vi y530, vi 1, vr b591, vr b596, vr b608, vr r614, vr b615, vr b634, vr gr, vr gr] [(.ref gr), (.ref gr)])) W648.here hx rfl (hb hby at_264) (x := (.ref gr)) (y := (.ref gr)) (rest := []) rfl rfl rfl (XT.aa_ne_f (x := (.ref gr)) (y := (.ref gr)) rfl) (XS.aload W648.here hx rfl (hb hby at_267) rfl rfl kk)))))) ?_
        refine W648.callV hx hEL (hw _ (mI 124 rfl)) (hw _ (mI 125 rfl)) (hw _ (mI 127 rfl)) (hw _ (mI 126 rfl)) (hw _ (mI 86 rfl)) (hw _ (mI 128 rfl)) (by decide +kernel) k647 (a := b634) (argsL := []) (rest := []) (rm95 l Z a0 hw hEL zc SC hzc fm SF rfm b634 b608 dfl el em mir gr de kdf h637 W648.old OD OS OL OM OI OG OE Fi637 k645 k646) all0 (by decide +kernel) (Wd := 0) (by decide +kernel) (by decide +kernel) (by decide +kernel) all0 rfl (by rw [hml]; rfl) (lenOf pd21 rfl) rfl (by show 2 * 0 + _ ≤ _; exact Nat.le_of_eq rfl) (hb hby at_269) (fun T649 h649 v649 P649 Ws649 K649 q649 => ?_)
        have W649 := Ws649 [] all0
        obtain ⟨rfl, rfl⟩ := q649
        refine gof T649 m 282 #[vi i0, vi i1, vi i2, vi i3, vi i4, vi 1, vi 1, vi y530, vi 1, vr b591, vr b596, vr b608, vr r614, vr b615, vr b634, vr gr, vr gr] [(.int 1)] (fun _ kk => XS.aload W649.here hx rfl (hb hby at_272) rfl rfl (XT.acmpNo (g := (mkF m 274 #[vi i0, vi i1, vi i2, vi i3, vi i4, vi 1, vi 1, vi y530, vi 1, vr b591, vr b596, vr b608, vr r614, vr b615, vr b634, vr gr, vr gr] [(.ref gr), (.ref gr)])) W649.here hx rfl (hb hby at_274) (x := (.ref gr)) (y := (.ref gr)) (rest := []) rfl rfl rfl (XT.aa_ne_f (x := (.ref gr)) (y := (.ref gr)) rfl) (XS.iconst W649.here hx rfl (hb hby at_277) (XS.goto W649.here hx rfl (pc0 := 278) (pc' := 282) rfl (hb hby at_278) (by decide +kernel) (by decide +kernel) kk)))) ?_
        exact W649.retI hx hEL hs hlk (by decide +kernel) (by decide +kernel) hret (by simp) rfl (hb hby at_282) (fun S hS => rfl)
      · rw [z531]
        refine gof T0 m 60 #[vi i0, vi i1, vi i2, vi i3, vi i4, vi 1, vi 1, vi y530, vi 2, U0, U0, U0, U0, U0, U0, U0, U0] [(.int 2)] (fun _ kk => XS.istore W0.here hx rfl (hb hby at_44) rfl (l' := #[.val (.int i0), .val (.int i1), .val (.int i2), .val (.int i3), .val (.int i4), .val (.int 1), .val (.int 1), .val (.int y530), .val (.int 2), .unset, .unset, .unset, .unset, .unset, .unset, .unset, .unset]) rfl (XS.iload W0.here hx rfl (hb hby at_46) rfl (XS.ifNo W0.here hx rfl (hb hby at_48) rfl (XT.i0_eq_f (by decide +kernel)) (XS.iload W0.here hx rfl (hb hby at_51) rfl (XS.ifYes W0.here hx rfl (pc0 := 53) (pc' := 59) rfl (hb hby at_53) rfl (XT.i0_ne_t (by decide +kernel)) (by decide +kernel) (by decide +kernel) (XS.iconst W0.here hx rfl (hb hby at_59) kk)))))) ?_
        refine W0.newP hx (hw _ (mI 0 rfl)) rfl (hb hby at_60) rfl (by decide +kernel) (cap := 2) (by decide +kernel) (by decide +kernel) (by decide +kernel) (by decide +kernel) (fun T650 h650 b650 c650 eb650 gb650 W650 K650 A650 => ?_)
        have V650 : Arv Z h650 b650 c650 .char (2 : Int32) [(.int (0 : Int32)), (.int (0 : Int32))] (.int (0 : Int32)) := A650
        refine gof T650 m 73 #[vi i0, vi i1, vi i2, vi i3, vi i4, vi 1, vi 1, vi y530, vi 2, vr b650, U0, U0, U0, U0, U0, U0, U0] [(.int ((i3 &&& (255 : Int32)).toUInt32.toUInt16.toUInt32.toInt32)), (.int 0), (.ref b650)] (fun _ kk => XS.astore W650.here hx rfl (hb hby at_62) rfl rfl (l' := #[.val (.int i0), .val (.int i1), .val (.int i2), .val (.int i3), .val (.int i4), .val (.int 1), .val (.int 1), .val (.int y530), .val (.int 2), .val (.ref b650), .unset, .unset, .unset, .unset, .unset, .unset, .unset]) rfl (XS.aload W650.here hx rfl (hb hby at_64) rfl rfl (XS.iconst W650.here hx rfl (hb hby at_66) (XS.iloadN W650.here hx rfl (hb hby at_67) rfl (XS.sipush W650.here hx rfl (hb hby at_68) (XS.iand W650.here hx rfl (hb hby at_71) rfl (XS.i2c W650.here hx rfl (hb hby at_72) rfl kk))))))) ?_
        obtain ⟨q651, hq651, cq651, zq651⟩ := char255 i3
        rw [hq651]
        show Go p e below _ (T650.setTop (mkF m 73 #[vi i0, vi i1, vi i2, vi i3, vi i4, vi 1, vi 1, vi y530, vi 2, vr b650, U0, U0, U0, U0, U0, U0, U0] [(.int q651), (.int 0), (.ref b650)]))
        refine W650.stC hx V650 ⟨by decide, by decide⟩ 0 rfl (Nat.le_of_ble_eq_true rfl) gb650.1 (Or.inr gb650.2) rfl rfl (hb hby at_73) (fun T652 h652 W652 K652 A652 => ?_)
        have V652 : Arv Z h652 b650 c650 .char (2 : Int32) [(.int q651), (.int (0 : Int32))] (.int (0 : Int32)) := (by rw [(nar_char cq651)] at A652; exact A652)
        refine gof T652 m 84 #[vi i0, vi i1, vi i2, vi i3, vi i4, vi 1, vi 1, vi y530, vi 2, vr b650, U0, U0, U0, U0, U0, U0, U0] [(.int ((i4 &&& (255 : Int32)).toUInt32.toUInt16.toUInt32.toInt32)), (.int 1), (.ref b650)] (fun _ kk => XS.aload W652.here hx rfl (hb hby at_74) rfl rfl (XS.iconst W652.here hx rfl (hb hby at_76) (XS.iload W652.here hx rfl (hb hby at_77) rfl (XS.sipush W652.here hx rfl (hb hby at_79) (XS.iand W652.here hx rfl (hb hby at_82) rfl (XS.i2c W652.here hx rfl (hb hby at_83) rfl kk)))))) ?_
        obtain ⟨q653, hq653, cq653, zq653⟩ := char255 i4
        rw [hq653]
        show Go p e below _ (T652.setTop (mkF m 84 #[vi i0, vi i1, vi i2, vi i3, vi i4, vi 1, vi 1, vi y530, vi 2, vr b650, U0, U0, U0, U0, U0, U0, U0] [(.int q653), (.int 1), (.ref b650)]))
        refine W652.stC hx V652 ⟨by decide, by decide⟩ 1 rfl (Nat.le_of_ble_eq_true rfl) gb650.1 (Or.inr gb650.2) rfl rfl (hb hby at_84) (fun T654 h654 W654 K654 A654 => ?_)
        have V654 : Arv Z h654 b650 c650 .char (2 : Int32) [(.int q651), (.int q653)] (.int (0 : Int32)) := (by rw [(nar_char cq653)] at A654; exact A654)
        show Go p e below _ (T654.setTop (mkF m 85 #[vi i0, vi i1, vi i2, vi i3, vi i4, vi 1, vi 1, vi y530, vi 2, vr b650, U0, U0, U0, U0, U0, U0, U0] []))
        refine W654.newO hx (hw _ (mI 1 rfl)) (hw _ (mI 2 rfl)) (hw _ (mI 3 rfl)) rfl (hb hby at_85) (by decide +kernel) (by decide +kernel) (fun T655 h655 b655 eb655 gb655 W655 K655 E655 D655 => ?_)
        have k656 : Fld Z h655 b655 "org/portcullis/acl/Sid" "name" "Ljava/lang/String;" .null := D655 (Or.inr (hw _ (mI 43 rfl))) (ty := (.object "java/lang/String")) (by decide +kernel)
        have k657 : Fld Z h655 b655 "org/portcullis/acl/Sid" "principal" "Z" (.int (0 : Int32)) := D655 (Or.inr (hw _ (mI 45 rfl))) (ty := .boolean) (by decide +kernel)
        refine gof T655 m 89 #[vi i0, vi i1, vi i2, vi i3, vi i4, vi 1, vi 1, vi y530, vi 2, vr b650, U0, U0, U0, U0, U0, U0, U0] [(.ref b655), (.ref b655)] (fun _ kk => XS.dup W655.here hx rfl (hb hby at_88) rfl rfl kk) ?_
        refine W655.newO hx (hw _ (mI 4 rfl)) (hw _ (mI 5 rfl)) (hw _ (mI 6 rfl)) rfl (hb hby at_89) (by decide +kernel) (by decide +kernel) (fun T658 h658 b658 eb658 gb658 W658 K658 E658 D658 => ?_)
        have k659 : Fld Z h658 b658 "java/lang/String" "coder" "B" (.int (0 : Int32)) := D658 (Or.inr (hw _ (mI 30 rfl))) (ty := .byte) (by decide +kernel)
        have k660 : Fld Z h658 b658 "java/lang/String" "value" "[B" .null := D658 (Or.inr (hw _ (mI 32 rfl))) (ty := (.array .byte)) (by decide +kernel)
        refine gof T658 m 95 #[vi i0, vi i1, vi i2, vi i3, vi i4, vi 1, vi 1, vi y530, vi 2, vr b650, U0, U0, U0, U0, U0, U0, U0] [(.ref b650), (.ref b658), (.ref b658), (.ref b655), (.ref b655)] (fun _ kk => XS.dup W658.here hx rfl (hb hby at_92) rfl rfl (XS.aload W658.here hx rfl (hb hby at_93) rfl rfl kk)) ?_
        have k662 := ((V654.keep K655 nin0).keep K658 nin0)
        refine W658.newStr hx hws (hw _ (mI 5 rfl)) SC hzc (hw _ (mI 7 rfl)) (hw _ (mI 8 rfl)) (hw _ (mI 9 rfl)) E658 k660 k659 (cs := [q651, q653]) (n := 2) k662 rfl rfl (by decide +kernel) (by decide +kernel) (allSi cq651 (allSi cq653 all0i)) gb658.1 (Or.inr gb658.2) (mI 0 rfl) (by decide +kernel) (Wd := 3) (by decide +kernel) (by decide +kernel) (by decide +kernel) rfl (by rw [hml]; rfl) rfl (by show 2 * 0 + _ ≤ _; exact Nat.le_of_eq rfl) (hb hby at_95) (fun T661 h661 W661 K661 S661 => ?_)
        refine gof T661 m 100 #[vi i0, vi i1, vi i2, vi i3, vi i4, vi 1, vi 1, vi y530, vi 2, vr b650, U0, U0, U0, U0, U0, U0, U0] [(.int y530), (.ref b658), (.ref b655), (.ref b655)] (fun _ kk => XS.iload W661.here hx rfl (hb hby at_98) rfl kk) ?_
        have k664 := ((E655.keep K658).keep K661)
        have k665 := ((k656.keep K658 nin0).keep K661 (ninS (ne_of_born (Nat.le_of_eq eb658.symm) E655.lt (Nat.le_refl _)) nin0))
        have k666 := ((k657.keep K658 nin0).keep K661 (ninS (ne_of_born (Nat.le_of_eq eb658.symm) E655.lt (Nat.le_refl _)) nin0))
        refine W661.callP hx hEL rfl (hw _ (mI 33 rfl)) (hw _ (mI 34 rfl)) (hw _ (mI 3 rfl)) (hw _ (mI 35 rfl)) (by decide +kernel) (a := b655) (argsL := [(.ref b658), (.int y530)]) (rest := [(.ref b655)]) (rm11 l Z a0 hw hEL zc SC hzc fm SF rfm b655 b658 y530 h661 W661.old k664 k665 k666 gb655.1 nz_p fz_p) all0 (by decide +kernel) (Wd := 1) (by decide +kernel) (by decide +kernel) (by decide +kernel) (allS ⟨gb655.1, (Or.inr gb655.2)⟩ all0) rfl (by rw [hml]; rfl) (lenOf pd18 rfl) rfl (by show 2 * 0 + _ ≤ _; exact Nat.le_of_eq rfl) (hb hby at_100) (fun T663 h663 v663 P663 Ws663 K663 q663 => ?_)
        have W663 := Ws663 [] all0
        obtain rfl := q663
        refine gof T663 m 110 #[vi i0, vi i1, vi i2, vi i3, vi i4, vi 1, vi 1, vi y530, vi 2, vr b650, vr b655, U0, U0, U0, U0, U0, U0] [] (fun _ kk => XS.astore W663.here hx rfl (hb hby at_103) rfl rfl (l' := #[.val (.int i0), .val (.int i1), .val (.int i2), .val (.int i3), .val (.int i4), .val (.int 1), .val (.int 1), .val (.int y530), .val (.int 2), .val (.ref b650), .val (.ref b655), .unset, .unset, .unset, .unset, .unset, .unset]) rfl (XS.iload W663.here hx rfl (hb hby at_105) rfl (XS.ifNo W663.here hx rfl (hb hby at_107) rfl (XT.i0_eq_f (by decide +kernel)) kk))) ?_
        refine W663.newO hx (hw _ (mI 133 rfl)) (hw _ (mI 134 rfl)) (hw _ (mI 135 rfl)) rfl (hb hby at_110) (by decide +kernel) (by decide +kernel) (fun T667 h667 b667 eb667 gb667 W667 K667 E667 D667 => ?_)
        have k668 : Fld Z h667 b667 "org/portcullis/acl/AccessControlEntry" "order" "I" (.int (0 : Int32)) := D667 (Or.inr (hw _ (mI 141 rfl))) (ty := .int) (by decide +kernel)
        have k669 : Fld Z h667 b667 "org/portcullis/acl/AccessControlEntry" "sid" "Lorg/portcullis/acl/Sid;" .null := D667 (Or.inr (hw _ (mI 143 rfl))) (ty := (.object "org/portcullis/acl/Sid")) (by decide +kernel)
        have k670 : Fld Z h667 b667 "org/portcullis/acl/AccessControlEntry" "mask" "I" (.int (0 : Int32)) := D667 (Or.inr (hw _ (mI 145 rfl))) (ty := .int) (by decide +kernel)
        have k671 : Fld Z h667 b667 "org/portcullis/acl/AccessControlEntry" "granting" "Z" (.int (0 : Int32)) := D667 (Or.inr (hw _ (mI 147 rfl))) (ty := .boolean) (by decide +kernel)
        refine gof T667 m 120 #[vi i0, vi i1, vi i2, vi i3, vi i4, vi 1, vi 1, vi y530, vi 2, vr b650, vr b655, U0, U0, U0, U0, U0, U0] [(.int 1), (.int i2), (.ref b655), (.int i1), (.ref b667), (.ref b667)] (fun _ kk => XS.dup W667.here hx rfl (hb hby at_113) rfl rfl (XS.iloadN W667.here hx rfl (hb hby at_114) rfl (XS.aload W667.here hx rfl (hb hby at_115) rfl rfl (XS.iloadN W667.here hx rfl (hb hby at_117) rfl (XS.iload W667.here hx rfl (hb hby at_118) rfl kk))))) ?_
        refine W667.callP hx hEL rfl (hw _ (mI 136 rfl)) (hw _ (mI 137 rfl)) (hw _ (mI 135 rfl)) (hw _ (mI 138 rfl)) (by decide +kernel) (a := b667) (argsL := [(.int i1), (.ref b655), (.int i2), (.int (1 : Int32))]) (rest := [(.ref b667)]) (rm13 l Z a0 hw hEL zc SC hzc fm SF rfm b667 b655 i1 i2 h667 W667.old E667 k668 k669 k670 k671 gb667.1) all0 (by decide +kernel) (Wd := 1) (by decide +kernel) (by decide +kernel) (by decide +kernel) (allS ⟨gb667.1, (Or.inr gb667.2)⟩ all0) rfl (by rw [hml]; rfl) (lenOf pd24 rfl) rfl (by show 2 * 0 + _ ≤ _; exact Nat.le_of_eq rfl) (hb hby at_120) (fun T672 h672 v672 P672 Ws672 K672 q672 => ?_)
        have W672 := Ws672 [] all0
        obtain ⟨rfl, Fg672⟩ := q672
        refine gof T672 m 136 #[vi i0, vi i1, vi i2, vi i3, vi i4, vi 1, vi 1, vi y530, vi 2, vr b650, vr b655, vr b667, U0, U0, U0, U0, U0] [(.int ((i4 &&& (255 : Int32)).toUInt32.toUInt16.toUInt32.toInt32))] (fun _ kk => XS.goto W672.here hx rfl (pc0 := 123) (pc' := 127) rfl (hb hby at_123) (by decide +kernel) (by decide +kernel) (XS.astore W672.here hx rfl (hb hby at_127) rfl rfl (l' := #[.val (.int i0), .val (.int i1), .val (.int i2), .val (.int i3), .val (.int i4), .val (.int 1), .val (.int 1), .val (.int y530), .val (.int 2), .val (.ref b650), .val (.ref b655), .val (.ref b667), .unset, .unset, .unset, .unset, .unset]) rfl (XS.iload W672.here hx rfl (hb hby at_129) rfl (XS.sipush W672.here hx rfl (hb hby at_131) (XS.iand W672.here hx rfl (hb hby at_134) rfl (XS.i2c W672.here hx rfl (hb hby at_135) rfl kk)))))) ?_
        rw [hq653]
        show Go p e below _ (T672.setTop (mkF m 136 #[vi i0, vi i1, vi i2, vi i3, vi i4, vi 1, vi 1, vi y530, vi 2, vr b650, vr b655, vr b667, U0, U0, U0, U0, U0] [(.int q653)]))
        refine W672.callS hx hEL (hw _ (mI 46 rfl)) (hw _ (mI 47 rfl)) (hw _ (mI 6 rfl)) (hw _ (mI 48 rfl)) (by decide +kernel) (argsL := [(.int q653)]) (rest := []) (rm27 l Z a0 hw hEL zc SC hzc fm SF rfm q653 h672 W672.old cq653) all0 (by decide +kernel) (Wd := 0) (by decide +kernel) (by decide +kernel) (by decide +kernel) all0 rfl (by rw [hml]; rfl) (lenOf pd19 rfl) rfl (by show 2 * 0 + _ ≤ _; exact Nat.le_of_eq rfl) (hb hby at_136) (fun T673 h673 v673 P673 Ws673 K673 q673 => ?_)
        have W673 := Ws673 [] all0
        obtain ⟨r673, rfl, lr673, S673⟩ := q673
        have gr673 : n0 ≤ r673 ∧ s.heap.size ≤ r673 := ⟨Nat.le_trans W672.n0le lr673, Nat.le_trans W672.s0le lr673⟩
        have E673 := S673.exa
        refine gof T673 m 141 #[vi i0, vi i1, vi i2, vi i3, vi i4, vi 1, vi 1, vi y530, vi 2, vr b650, vr b655, vr b667, vr r673, U0, U0, U0, U0] [] (fun _ kk => XS.astore W673.here hx rfl (hb hby at_139) rfl rfl (l' := #[.val (.int i0), .val (.int i1), .val (.int i2), .val (.int i3), .val (.int i4), .val (.int 1), .val (.int 1), .val (.int y530), .val (.int 2), .val (.ref b650), .val (.ref b655), .val (.ref b667), .val (.ref r673), .unset, .unset, .unset, .unset]) rfl kk) ?_
        refine W673.newO hx (hw _ (mI 60 rfl)) (hw _ (mI 61 rfl)) (hw _ (mI 62 rfl)) rfl (hb hby at_141) (by decide +kernel) (by decide +kernel) (fun T674 h674 b674 eb674 gb674 W674 K674 E674 D674 => ?_)
        have k675 : Fld Z h674 b674 "java/util/AbstractList" "modCount" "I" (.int (0 : Int32)) := D674 (Or.inl (hw _ (mI 80 rfl))) (ty := .int) (by decide +kernel)
        have k676 : Fld Z h674 b674 "java/util/ArrayList" "elementData" "[Ljava/lang/Object;" .null := D674 (Or.inl (hw _ (mI 83 rfl))) (ty := (.array (.object "java/lang/Object"))) (by decide +kernel)
        have k677 : Fld Z h674 b674 "java/util/ArrayList" "size" "I" (.int (0 : Int32)) := D674 (Or.inl (hw _ (mI 115 rfl))) (ty := .int) (by decide +kernel)
        refine gof T674 m 145 #[vi i0, vi i1, vi i2, vi i3, vi i4, vi 1, vi 1, vi y530, vi 2, vr b650, vr b655, vr b667, vr r673, U0, U0, U0, U0] [(.ref b674), (.ref b674)] (fun _ kk => XS.dup W674.here hx rfl (hb hby at_144) rfl rfl kk) ?_
        refine W674.callP hx hEL rfl (hw _ (mI 63 rfl)) (hw _ (mI 64 rfl)) (hw _ (mI 62 rfl)) (hw _ (mI 65 rfl)) (by decide +kernel) (a := b674) (argsL := []) (rest := [(.ref b674)]) (rm19 l Z a0 hw hEL zc SC hzc fm SF rfm b674 dfl el em mir gr de kdf h674 W674.old OD OS OL OM OI OG OE E674 k675 k676 k677 gb674.1) all0 (by decide +kernel) (Wd := 1) (by decide +kernel) (by decide +kernel) (by decide +kernel) (allS ⟨gb674.1, (Or.inr gb674.2)⟩ all0) rfl (by rw [hml]; rfl) (lenOf pd3 rfl) rfl (by show 2 * 0 + _ ≤ _; exact Nat.le_of_eq rfl) (hb hby at_145) (fun T678 h678 v678 P678 Ws678 K678 q678 => ?_)
        have W678 := Ws678 [] all0
        obtain ⟨rfl, Fe678, Fs678, Fm678⟩ := q678
        refine gof T678 m 158 #[vi i0, vi i1, vi i2, vi i3, vi i4, vi 1, vi 1, vi y530, vi 2, vr b650, vr b655, vr b667, vr r673, vr b674, U0, U0, U0] [(.ref b674)] (fun _ kk => XS.astore W678.here hx rfl (hb hby at_148) rfl rfl (l' := #[.val (.int i0), .val (.int i1), .val (.int i2), .val (.int i3), .val (.int i4), .val (.int 1), .val (.int 1), .val (.int y530), .val (.int 2), .val (.ref b650), .val (.ref b655), .val (.ref b667), .val (.ref r673), .val (.ref b674), .unset, .unset, .unset]) rfl (XS.iload W678.here hx rfl (hb hby at_150) rfl (XS.iconst W678.here hx rfl (hb hby at_152) (XS.icmpNo W678.here hx rfl (hb hby at_153) rfl (XT.ii_lt_f (by decide +kernel)) (XS.aload W678.here hx rfl (hb hby at_156) rfl rfl kk))))) ?_
        refine W678.newO hx (hw _ (mI 148 rfl)) (hw _ (mI 149 rfl)) (hw _ (mI 150 rfl)) rfl (hb hby at_158) (by decide +kernel) (by decide +kernel) (fun T679 h679 b679 eb679 gb679 W679 K679 E679 D679 => ?_)
        have k680 : Fld Z h679 b679 "org/portcullis/acl/ObjectIdentity" "type" "Ljava/lang/String;" .null := D679 (Or.inr (hw _ (mI 159 rfl))) (ty := (.object "java/lang/String")) (by decide +kernel)
        have k681 : Fld Z h679 b679 "org/portcullis/acl/ObjectIdentity" "id" "Ljava/lang/String;" .null := D679 (Or.inr (hw _ (mI 161 rfl))) (ty := (.object "java/lang/String")) (by decide +kernel)
        refine gof T679 m 164 #[vi i0, vi i1, vi i2, vi i3, vi i4, vi 1, vi 1, vi y530, vi 2, vr b650, vr b655, vr b667, vr r673, vr b674, U0, U0, U0] [(.ref r673), (.ref b679), (.ref b679), (.ref b674)] (fun _ kk => XS.dup W679.here hx rfl (hb hby at_161) rfl rfl (XS.aload W679.here hx rfl (hb hby at_162) rfl rfl kk)) ?_
        refine W679.ldcO hx hEL (hw _ (mI 151 rfl)) hSA rfl (hb hby at_164) (n := 4) (by decide +kernel) (by decide +kernel) (by decide +kernel) (by decide +kernel) (fun T682 h682 b682 W682 K682 => ?_)
        show Go p e below _ (T682.setTop (mkF m 166 #[vi i0, vi i1, vi i2, vi i3, vi i4, vi 1, vi 1, vi y530, vi 2, vr b650, vr b655, vr b667, vr r673, vr b674, U0, U0, U0] [(.ref b682), (.ref r673), (.ref b679), (.ref b679), (.ref b674)]))
        have k684 := (E679.keep K682)
        have k685 := (k680.keep K682 nin0)
        have k686 := (k681.keep K682 nin0)
        refine W682.callP hx hEL rfl (hw _ (mI 154 rfl)) (hw _ (mI 155 rfl)) (hw _ (mI 150 rfl)) (hw _ (mI 156 rfl)) (by decide +kernel) (a := b679) (argsL := [(.ref r673), (.ref b682)]) (rest := [(.ref b679), (.ref b674)]) (rm14 l Z a0 hw hEL zc SC hzc fm SF rfm b679 r673 b682 h682 W682.old k684 k685 k686 gb679.1) all0 (by decide +kernel) (Wd := 2) (by decide +kernel) (by decide +kernel) (by decide +kernel) (allS ⟨gb679.1, (Or.inr gb679.2)⟩ all0) rfl (by rw [hml]; rfl) (lenOf pd22 rfl) rfl (by show 2 * 0 + _ ≤ _; exact Nat.le_of_eq rfl) (hb hby at_166) (fun T683 h683 v683 P683 Ws683 K683 q683 => ?_)
        have W683 := Ws683 [] all0
        obtain rfl := q683
        show Go p e below _ (T683.setTop (mkF m 169 #[vi i0, vi i1, vi i2, vi i3, vi i4, vi 1, vi 1, vi y530, vi 2, vr b650, vr b655, vr b667, vr r673, vr b674, U0, U0, U0] [(.ref b679), (.ref b674)]))
        have k688 := ((((E674.keep K678).keep K679).keep K682).keep K683)
        have k689 := (((Fe678.keep K679 nin0).keep K682 nin0).keep K683 (ninS (ne_of_born (Nat.le_of_eq eb679.symm) E674.lt K678.1) nin0))
        have k690 := (((Fs678.keep K679 nin0).keep K682 nin0).keep K683 (ninS (ne_of_born (Nat.le_of_eq eb679.symm) E674.lt K678.1) nin0))
        have k691 := (((Fm678.keep K679 nin0).keep K682 nin0).keep K683 (ninS (ne_of_born (Nat.le_of_eq eb679.symm) E674.lt K678.1) nin0))
        have k692 := (k684.keep K683)
        refine W683.callV hx hEL (hw _ (mI 162 rfl)) (hw _ (mI 163 rfl)) (hw _ (mI 165 rfl)) (hw _ (mI 164 rfl)) (hw _ (mI 62 rfl)) (hw _ (mI 166 rfl)) (by decide +kernel) k688 (a := b674) (argsL := [(.ref b679)]) (rest := []) (rm43 l Z a0 hw hEL zc SC hzc fm SF rfm b674 b679 (0 : Int32) dfl el em mir gr de kdf h683 W683.old OD OS OL OM OI OG OE k688 k689 k690 k691 k692 gb674.1) all0 (by decide +kernel) (Wd := 0) (by decide +kernel) (by decide +kernel) (by decide +kernel) (allS ⟨gb674.1, (Or.inr gb674.2)⟩ all0) rfl (by rw [hml]; rfl) (lenOf pd23 rfl) rfl (by show 2 * 0 + _ ≤ _; exact Nat.le_of_eq rfl) (hb hby at_169) (fun T687 h687 v687 P687 Ws687 K687 q687 => ?_)
        have W687 := Ws687 [] all0
        obtain ⟨t687, kt687, rfl, lt687, Fe687, Fs687, Fm687, A687, Ov687, Ex687⟩ := q687
        have gt687 : n0 ≤ t687 ∧ s.heap.size ≤ t687 := ⟨Nat.le_trans W683.n0le lt687, Nat.le_trans W683.s0le lt687⟩
        refine gof T687 m 181 #[vi i0, vi i1, vi i2, vi i3, vi i4, vi 1, vi 1, vi y530, vi 2, vr b650, vr b655, vr b667, vr r673, vr b674, U0, U0, U0] [(.ref b674)] (fun _ kk => XS.pop W687.here hx rfl (hb hby at_172) rfl rfl (XS.iload W687.here hx rfl (hb hby at_173) rfl (XS.iconst W687.here hx rfl (hb hby at_175) (XS.icmpNo W687.here hx rfl (hb hby at_176) rfl (XT.ii_lt_f (by decide +kernel)) (XS.aload W687.here hx rfl (hb hby at_179) rfl rfl kk))))) ?_
        refine W687.newO hx (hw _ (mI 148 rfl)) (hw _ (mI 149 rfl)) (hw _ (mI 150 rfl)) rfl (hb hby at_181) (by decide +kernel) (by decide +kernel) (fun T693 h693 b693 eb693 gb693 W693 K693 E693 D693 => ?_)
        have k694 : Fld Z h693 b693 "org/portcullis/acl/ObjectIdentity" "type" "Ljava/lang/String;" .null := D693 (Or.inr (hw _ (mI 159 rfl))) (ty := (.object "java/lang/String")) (by decide +kernel)
        have k695 : Fld Z h693 b693 "org/portcullis/acl/ObjectIdentity" "id" "Ljava/lang/String;" .null := D693 (Or.inr (hw _ (mI 161 rfl))) (ty := (.object "java/lang/String")) (by decide +kernel)
        refine gof T693 m 187 #[vi i0, vi i1, vi i2, vi i3, vi i4, vi 1, vi 1, vi y530, vi 2, vr b650, vr b655, vr b667, vr r673, vr b674, U0, U0, U0] [(.ref r673), (.ref b693), (.ref b693), (.ref b674)] (fun _ kk => XS.dup W693.here hx rfl (hb hby at_184) rfl rfl (XS.aload W693.here hx rfl (hb hby at_185) rfl rfl kk)) ?_
        refine W693.ldcO hx hEL (hw _ (mI 262 rfl)) hSA rfl (hb hby at_187) (n := 4) (by decide +kernel) (by decide +kernel) (by decide +kernel) (by decide +kernel) (fun T696 h696 b696 W696 K696 => ?_)
        show Go p e below _ (T696.setTop (mkF m 189 #[vi i0, vi i1, vi i2, vi i3, vi i4, vi 1, vi 1, vi y530, vi 2, vr b650, vr b655, vr b667, vr r673, vr b674, U0, U0, U0] [(.ref b696), (.ref r673), (.ref b693), (.ref b693), (.ref b674)]))
        have k698 := (E693.keep K696)
        have k699 := (k694.keep K696 nin0)
        have k700 := (k695.keep K696 nin0)
        refine W696.callP hx hEL rfl (hw _ (mI 154 rfl)) (hw _ (mI 155 rfl)) (hw _ (mI 150 rfl)) (hw _ (mI 156 rfl)) (by decide +kernel) (a := b693) (argsL := [(.ref r673), (.ref b696)]) (rest := [(.ref b693), (.ref b674)]) (rm14 l Z a0 hw hEL zc SC hzc fm SF rfm b693 r673 b696 h696 W696.old k698 k699 k700 gb693.1) all0 (by decide +kernel) (Wd := 2) (by decide +kernel) (by decide +kernel) (by decide +kernel) (allS ⟨gb693.1, (Or.inr gb693.2)⟩ all0) rfl (by rw [hml]; rfl) (lenOf pd22 rfl) rfl (by show 2 * 0 + _ ≤ _; exact Nat.le_of_eq rfl) (hb hby at_189) (fun T697 h697 v697 P697 Ws697 K697 q697 => ?_)
        have W697 := Ws697 [] all0
        obtain rfl := q697
        show Go p e below _ (T697.setTop (mkF m 192 #[vi i0, vi i1, vi i2, vi i3, vi i4, vi 1, vi 1, vi y530, vi 2, vr b650, vr b655, vr b667, vr r673, vr b674, U0, U0, U0] [(.ref b693), (.ref b674)]))
        have k702 := ((((k688.keep K687).keep K693).keep K696).keep K697)
        have k703 := (((Fe687.keep K693 nin0).keep K696 nin0).keep K697 (ninS (ne_of_born (Nat.le_of_eq eb693.symm) E674.lt (Nat.le_trans (Nat.le_trans (Nat.le_trans (Nat.le_trans K678.1 K679.1) K682.1) K683.1) K687.1)) nin0))
        have k704 := (((Fs687.keep K693 nin0).keep K696 nin0).keep K697 (ninS (ne_of_born (Nat.le_of_eq eb693.symm) E674.lt (Nat.le_trans (Nat.le_trans (Nat.le_trans (Nat.le_trans K678.1 K679.1) K682.1) K683.1) K687.1)) nin0))
        have k705 := (((Fm687.keep K693 nin0).keep K696 nin0).keep K697 (ninS (ne_of_born (Nat.le_of_eq eb693.symm) E674.lt (Nat.le_trans (Nat.le_trans (Nat.le_trans (Nat.le_trans K678.1 K679.1) K682.1) K683.1) K687.1)) nin0))
        have k706 := (((A687.keep K693 nin0).keep K696 nin0).keep K697 (ninS (ne_of_born (Nat.le_of_eq eb693.symm) A687.lt (Nat.le_refl _)) nin0))
        have k707 := (k698.keep K697)
        refine W697.callV hx hEL (hw _ (mI 162 rfl)) (hw _ (mI 163 rfl)) (hw _ (mI 165 rfl)) (hw _ (mI 164 rfl)) (hw _ (mI 62 rfl)) (hw _ (mI 166 rfl)) (by decide +kernel) k702 (a := b674) (argsL := [(.ref b693)]) (rest := []) (rm44 l Z a0 hw hEL zc SC hzc fm SF rfm b674 t687 kt687 ((0 : Int32) + (1 : Int32)) b679 b693 h697 W697.old k702 k703 k704 k705 k706 Ov687 k707 gb674.1 gt687.1 (ne_of_born lt687 E674.lt (Nat.le_trans (Nat.le_trans (Nat.le_trans K678.1 K679.1) K682.1) K683.1))) all0 (by decide +kernel) (Wd := 0) (by decide +kernel) (by decide +kernel) (by decide +kernel) (allS ⟨gb674.1, (Or.inr gb674.2)⟩ (allS ⟨gt687.1, (Or.inr gt687.2)⟩ all0)) rfl (by rw [hml]; rfl) (lenOf pd23 rfl) rfl (by show 2 * 0 + _ ≤ _; exact Nat.le_of_eq rfl) (hb hby at_192) (fun T701 h701 v701 P701 Ws701 K701 q701 => ?_)
        have W701 := Ws701 [] all0
        obtain ⟨rfl, Fe701, Fs701, Fm701, A701⟩ := q701
        refine gof T701 m 219 #[vi i0, vi i1, vi i2, vi i3, vi i4, vi 1, vi 1, vi y530, vi 2, vr b650, vr b655, vr b667, vr r673, vr b674, U0, U0, U0] [] (fun _ kk => XS.pop W701.here hx rfl (hb hby at_195) rfl rfl (XS.iload W701.here hx rfl (hb hby at_196) rfl (XS.iconst W701.here hx rfl (hb hby at_198) (XS.icmpYes W701.here hx rfl (pc0 := 199) (pc' := 219) rfl (hb hby at_199) rfl (XT.ii_lt_t (by decide +kernel)) (by decide +kernel) (by decide +kernel) kk)))) ?_
        refine W701.newO hx (hw _ (mI 84 rfl)) (hw _ (mI 85 rfl)) (hw _ (mI 86 rfl)) rfl (hb hby at_219) (by decide +kernel) (by decide +kernel) (fun T708 h708 b708 eb708 gb708 W708 K708 E708 D708 => ?_)
        have k709 : Fld Z h708 b708 "org/portcullis/acl/Outcome" "iLevels" "Ljava/util/List;" .null := D708 (Or.inr (hw _ (mI 121 rfl))) (ty := (.object "java/util/List")) (by decide +kernel)
        have k710 : Fld Z h708 b708 "org/portcullis/acl/Outcome" "iEntry" "Lorg/portcullis/acl/AccessControlEntry;" .null := D708 (Or.inr (hw _ (mI 123 rfl))) (ty := (.object "org/portcullis/acl/AccessControlEntry")) (by decide +kernel)
        refine gof T708 m 227 #[vi i0, vi i1, vi i2, vi i3, vi i4, vi 1, vi 1, vi y530, vi 2, vr b650, vr b655, vr b667, vr r673, vr b674, U0, U0, U0] [(.ref b667), (.ref b674), (.ref b708), (.ref b708)] (fun _ kk => XS.dup W708.here hx rfl (hb hby at_222) rfl rfl (XS.aload W708.here hx rfl (hb hby at_223) rfl rfl (XS.aload W708.here hx rfl (hb hby at_225) rfl rfl kk))) ?_
        have k712 := ((k702.keep K701).keep K708)
        have k713 := (Fe701.keep K708 nin0)
        have k714 := (Fs701.keep K708 nin0)
        have k715 := (A701.keep K708 nin0)
        have k716 := (((((Ex687.keep K693).keep K696).keep K697).keep K701).keep K708)
        have k717 := ((((((k692.keep K687).keep K693).keep K696).keep K697).keep K701).keep K708)
        have k718 := ((k707.keep K701).keep K708)
        refine W708.callP hx hEL rfl (hw _ (mI 87 rfl)) (hw _ (mI 88 rfl)) (hw _ (mI 86 rfl)) (hw _ (mI 89 rfl)) (by decide +kernel) (a := b708) (argsL := [(.ref b674), (.ref b667)]) (rest := [(.ref b708)]) (rm90 l Z a0 hw hEL zc SC hzc fm SF rfm b708 b674 t687 kt687 b679 b693 (.ref b667) dfl el em mir gr de kdf h708 W708.old OD OS OL OM OI OG OE rfl k712 k713 k714 k715 k716 k717 k718 E708 k709 k710 gb708.1) all0 (by decide +kernel) (Wd := 1) (by decide +kernel) (by decide +kernel) (by decide +kernel) (allS ⟨gb708.1, (Or.inr gb708.2)⟩ all0) rfl (by rw [hml]; rfl) (lenOf pd20 rfl) rfl (by show 2 * 0 + _ ≤ _; exact Nat.le_of_eq rfl) (hb hby at_227) (fun T711 h711 v711 P711 Ws711 K711 q711 => ?_)
        have W711 := Ws711 [] all0
        obtain ⟨rfl, Fi711⟩ := q711
        refine gof T711 m 234 #[vi i0, vi i1, vi i2, vi i3, vi i4, vi 1, vi 1, vi y530, vi 2, vr b650, vr b655, vr b667, vr r673, vr b674, vr b708, U0, U0] [(.ref b708)] (fun _ kk => XS.astore W711.here hx rfl (hb hby at_230) rfl rfl (l' := #[.val (.int i0), .val (.int i1), .val (.int i2), .val (.int i3), .val (.int i4), .val (.int 1), .val (.int 1), .val (.int y530), .val (.int 2), .val (.ref b650), .val (.ref b655), .val (.ref b667), .val (.ref r673), .val (.ref b674), .val (.ref b708), .unset, .unset]) rfl (XS.aload W711.here hx rfl (hb hby at_232) rfl rfl kk)) ?_
        have k720 := ((((((((((((((E667.keep K672).keep K673).keep K674).keep K678).keep K679).keep K682).keep K683).keep K687).keep K693).keep K696).keep K697).keep K701).keep K708).keep K711)
        have k721 := (((((((((((((Fg672.keep K673 nin0).keep K674 nin0).keep K678 (ninS (ne_of_born (Nat.le_of_eq eb674.symm) E667.lt (Nat.le_trans K672.1 K673.1)) nin0)).keep K679 nin0).keep K682 nin0).keep K683 (ninS (ne_of_born (Nat.le_of_eq eb679.symm) E667.lt (Nat.le_trans (Nat.le_trans (Nat.le_trans K672.1 K673.1) K674.1) K678.1)) nin0)).keep K687 (ninS (ne_of_born (Nat.le_of_eq eb674.symm) E667.lt (Nat.le_trans K672.1 K673.1)) nin0)).keep K693 nin0).keep K696 nin0).keep K697 (ninS (ne_of_born (Nat.le_of_eq eb693.symm) E667.lt (Nat.le_trans (Nat.le_trans (Nat.le_trans (Nat.le_trans (Nat.le_trans (Nat.le_trans (Nat.le_trans K672.1 K673.1) K674.1) K678.1) K679.1) K682.1) K683.1) K687.1)) nin0)).keep K701 (ninS (ne_of_born (Nat.le_of_eq eb674.symm) E667.lt (Nat.le_trans K672.1 K673.1)) (ninS (ne_of_born lt687 E667.lt (Nat.le_trans (Nat.le_trans (Nat.le_trans (Nat.le_trans (Nat.le_trans (Nat.le_trans K672.1 K673.1) K674.1) K678.1) K679.1) K682.1) K683.1)) nin0))).keep K708 nin0).keep K711 (ninS (ne_of_born (Nat.le_of_eq eb708.symm) E667.lt (Nat.le_trans (Nat.le_trans (Nat.le_trans (Nat.le_trans (Nat.le_trans (Nat.le_trans (Nat.le_trans (Nat.le_trans (Nat.le_trans (Nat.le_trans (Nat.le_trans K672.1 K673.1) K674.1) K678.1) K679.1) K682.1) K683.1) K687.1) K693.1) K696.1) K697.1) K701.1)) nin0))
        have k722 := (E708.keep K711)
        refine W711.callV hx hEL (hw _ (mI 124 rfl)) (hw _ (mI 125 rfl)) (hw _ (mI 127 rfl)) (hw _ (mI 126 rfl)) (hw _ (mI 86 rfl)) (hw _ (mI 128 rfl)) (by decide +kernel) k722 (a := b708) (argsL := []) (rest := []) (rm95 l Z a0 hw hEL zc SC hzc fm SF rfm b708 b667 dfl el em mir gr de kdf h711 W711.old OD OS OL OM OI OG OE Fi711 k720 k721) all0 (by decide +kernel) (Wd := 0) (by decide +kernel) (by decide +kernel) (by decide +kernel) all0 rfl (by rw [hml]; rfl) (lenOf pd21 rfl) rfl (by show 2 * 0 + _ ≤ _; exact Nat.le_of_eq rfl) (hb hby at_234) (fun T719 h719 v719 P719 Ws719 K719 q719 => ?_)
        have W719 := Ws719 [] all0
        obtain ⟨rfl, rfl⟩ := q719
        refine gof T719 m 249 #[vi i0, vi i1, vi i2, vi i3, vi i4, vi 1, vi 1, vi y530, vi 2, vr b650, vr b655, vr b667, vr r673, vr b674, vr b708, vr gr, U0] [] (fun _ kk => XS.astore W719.here hx rfl (hb hby at_237) rfl rfl (l' := #[.val (.int i0), .val (.int i1), .val (.int i2), .val (.int i3), .val (.int i4), .val (.int 1), .val (.int 1), .val (.int y530), .val (.int 2), .val (.ref b650), .val (.ref b655), .val (.ref b667), .val (.ref r673), .val (.ref b674), .val (.ref b708), .val (.ref gr), .unset]) rfl (XS.iload W719.here hx rfl (hb hby at_239) rfl (XS.ifNo W719.here hx rfl (hb hby at_241) rfl (XT.i0_eq_f (by decide +kernel)) (XS.iload W719.here hx rfl (hb hby at_244) rfl (XS.ifNo W719.here hx rfl (hb hby at_246) rfl (XT.i0_eq_f (by decide +kernel)) kk))))) ?_
        refine W719.getS hx (host := "") (Or.inl (hw _ (mI 261 rfl))) Via.refl OG rfl (hb hby at_249) (fun T723 W723 => ?_)
        refine gof T723 m 269 #[vi i0, vi i1, vi i2, vi i3, vi i4, vi 1, vi 1, vi y530, vi 2, vr b650, vr b655, vr b667, vr r673, vr b674, vr b708, vr gr, vr gr] [(.ref b708)] (fun _ kk => XS.goto W723.here hx rfl (pc0 := 252) (pc' := 258) rfl (hb hby at_252) (by decide +kernel) (by decide +kernel) (XS.astore W723.here hx rfl (hb hby at_258) rfl rfl (l' := #[.val (.int i0), .val (.int i1), .val (.int i2), .val (.int i3), .val (.int i4), .val (.int 1), .val (.int 1), .val (.int y530), .val (.int 2), .val (.ref b650), .val (.ref b655), .val (.ref b667), .val (.ref r673), .val (.ref b674), .val (.ref b708), .val (.ref gr), .val (.ref gr)]) rfl (XS.aload W723.here hx rfl (hb hby at_260) rfl rfl (XS.aload W723.here hx rfl (hb hby at_262) rfl rfl (XT.acmpNo (g := (mkF m 264 #[vi i0, vi i1, vi i2, vi i3, vi i4, vi 1, vi 1, vi y530, vi 2, vr b650, vr b655, vr b667, vr r673, vr b674, vr b708, vr gr, vr gr] [(.ref gr), (.ref gr)])) W723.here hx rfl (hb hby at_264) (x := (.ref gr)) (y := (.ref gr)) (rest := []) rfl rfl rfl (XT.aa_ne_f (x := (.ref gr)) (y := (.ref gr)) rfl) (XS.aload W723.here hx rfl (hb hby at_267) rfl rfl kk)))))) ?_
        refine W723.callV hx hEL (hw _ (mI 124 rfl)) (hw _ (mI 125 rfl)) (hw _ (mI 127 rfl)) (hw _ (mI 126 rfl)) (hw _ (mI 86 rfl)) (hw _ (mI 128 rfl)) (by decide +kernel) k722 (a := b708) (argsL := []) (rest := []) (rm95 l Z a0 hw hEL zc SC hzc fm SF rfm b708 b667 dfl el em mir gr de kdf h711 W723.old OD OS OL OM OI OG OE Fi711 k720 k721) all0 (by decide +kernel) (Wd := 0) (by decide +kernel) (by decide +kernel) (by decide +kernel) all0 rfl (by rw [hml]; rfl) (lenOf pd21 rfl) rfl (by show 2 * 0 + _ ≤ _; exact Nat.le_of_eq rfl) (hb hby at_269) (fun T724 h724 v724 P724 Ws724 K724 q724 => ?_)
        have W724 := Ws724 [] all0
        obtain ⟨rfl, rfl⟩ := q724
        refine gof T724 m 282 #[vi i0, vi i1, vi i2, vi i3, vi i4, vi 1, vi 1, vi y530, vi 2, vr b650, vr b655, vr b667, vr r673, vr b674, vr b708, vr gr, vr gr] [(.int 1)] (fun _ kk => XS.aload W724.here hx rfl (hb hby at_272) rfl rfl (XT.acmpNo (g := (mkF m 274 #[vi i0, vi i1, vi i2, vi i3, vi i4, vi 1, vi 1, vi y530, vi 2, vr b650, vr b655, vr b667, vr r673, vr b674, vr b708, vr gr, vr gr] [(.ref gr), (.ref gr)])) W724.here hx rfl (hb hby at_274) (x := (.ref gr)) (y := (.ref gr)) (rest := []) rfl rfl rfl (XT.aa_ne_f (x := (.ref gr)) (y := (.ref gr)) rfl) (XS.iconst W724.here hx rfl (hb hby at_277) (XS.goto W724.here hx rfl (pc0 := 278) (pc' := 282) rfl (hb hby at_278) (by decide +kernel) (by decide +kernel) kk)))) ?_
        exact W724.retI hx hEL hs hlk (by decide +kernel) (by decide +kernel) hret (by simp) rfl (hb hby at_282) (fun S hS => rfl)
      · rw [z531]
        refine gof T0 m 60 #[vi i0, vi i1, vi i2, vi i3, vi i4, vi 1, vi 1, vi y530, vi 3, U0, U0, U0, U0, U0, U0, U0, U0] [(.int 2)] (fun _ kk => XS.istore W0.here hx rfl (hb hby at_44) rfl (l' := #[.val (.int i0), .val (.int i1), .val (.int i2), .val (.int i3), .val (.int i4), .val (.int 1), .val (.int 1), .val (.int y530), .val (.int 3), .unset, .unset, .unset, .unset, .unset, .unset, .unset, .unset]) rfl (XS.iload W0.here hx rfl (hb hby at_46) rfl (XS.ifNo W0.here hx rfl (hb hby at_48) rfl (XT.i0_eq_f (by decide +kernel)) (XS.iload W0.here hx rfl (hb hby at_51) rfl (XS.ifYes W0.here hx rfl (pc0 := 53) (pc' := 59) rfl (hb hby at_53) rfl (XT.i0_ne_t (by decide +kernel)) (by decide +kernel) (by decide +kernel) (XS.iconst W0.here hx rfl (hb hby at_59) kk)))))) ?_
        refine W0.newP hx (hw _ (mI 0 rfl)) rfl (hb hby at_60) rfl (by decide +kernel) (cap := 2) (by decide +kernel) (by decide +kernel) (by decide +kernel) (by decide +kernel) (fun T725 h725 b725 c725 eb725 gb725 W725 K725 A725 => ?_)
        have V725 : Arv Z h725 b725 c725 .char (2 : Int32) [(.int (0 : Int32)), (.int (0 : Int32))] (.int (0 : Int32)) := A725
        refine gof T725 m 73 #[vi i0, vi i1, vi i2, vi i3, vi i4, vi 1, vi 1, vi y530, vi 3, vr b725, U0, U0, U0, U0, U0, U0, U0] [(.int ((i3 &&& (255 : Int32)).toUInt32.toUInt16.toUInt32.toInt32)), (.int 0), (.ref b725)] (fun _ kk => XS.astore W725.here hx rfl (hb hby at_62) rfl rfl (l' := #[.val (.int i0), .val (.int i1), .val (.int i2), .val (.int i3), .val (.int i4), .val (.int 1), .val (.int 1), .val (.int y530), .val (.int 3), .val (.ref b725), .unset, .unset, .unset, .unset, .unset, .unset, .unset]) rfl (XS.aload W725.here hx rfl (hb hby at_64) rfl rfl (XS.iconst W725.here hx rfl (hb hby at_66) (XS.iloadN W725.here hx rfl (hb hby at_67) rfl (XS.sipush W725.here hx rfl (hb hby at_68) (XS.iand W725.here hx rfl (hb hby at_71) rfl (XS.i2c W725.here hx rfl (hb hby at_72) rfl kk))))))) ?_
        obtain ⟨q726, hq726, cq726, zq726⟩ := char255 i3
        rw [hq726]
        show Go p e below _ (T725.setTop (mkF m 73 #[vi i0, vi i1, vi i2, vi i3, vi i4, vi 1, vi 1, vi y530, vi 3, vr b725, U0, U0, U0, U0, U0, U0, U0] [(.int q726), (.int 0), (.ref b725)]))
        refine W725.stC hx V725 ⟨by decide, by decide⟩ 0 rfl (Nat.le_of_ble_eq_true rfl) gb725.1 (Or.inr gb725.2) rfl rfl (hb hby at_73) (fun T727 h727 W727 K727 A727 => ?_)
        have V727 : Arv Z h727 b725 c725 .char (2 : Int32) [(.int q726), (.int (0 : Int32))] (.int (0 : Int32)) := (by rw [(nar_char cq726)] at A727; exact A727)
        refine gof T727 m 84 #[vi i0, vi i1, vi i2, vi i3, vi i4, vi 1, vi 1, vi y530, vi 3, vr b725, U0, U0, U0, U0, U0, U0, U0] [(.int ((i4 &&& (255 : Int32)).toUInt32.toUInt16.toUInt32.toInt32)), (.int 1), (.ref b725)] (fun _ kk => XS.aload W727.here hx rfl (hb hby at_74) rfl rfl (XS.iconst W727.here hx rfl (hb hby at_76) (XS.iload W727.here hx rfl (hb hby at_77) rfl (XS.sipush W727.here hx rfl (hb hby at_79) (XS.iand W727.here hx rfl (hb hby at_82) rfl (XS.i2c W727.here hx rfl (hb hby at_83) rfl kk)))))) ?_
        obtain ⟨q728, hq728, cq728, zq728⟩ := char255 i4
        rw [hq728]
        show Go p e below _ (T727.setTop (mkF m 84 #[vi i0, vi i1, vi i2, vi i3, vi i4, vi 1, vi 1, vi y530, vi 3, vr b725, U0, U0, U0, U0, U0, U0, U0] [(.int q728), (.int 1), (.ref b725)]))
        refine W727.stC hx V727 ⟨by decide, by decide⟩ 1 rfl (Nat.le_of_ble_eq_true rfl) gb725.1 (Or.inr gb725.2) rfl rfl (hb hby at_84) (fun T729 h729 W729 K729 A729 => ?_)
        have V729 : Arv Z h729 b725 c725 .char (2 : Int32) [(.int q726), (.int q728)] (.int (0 : Int32)) := (by rw [(nar_char cq728)] at A729; exact A729)
        show Go p e below _ (T729.setTop (mkF m 85 #[vi i0, vi i1, vi i2, vi i3, vi i4, vi 1, vi 1, vi y530, vi 3, vr b725, U0, U0, U0, U0, U0, U0, U0] []))
        refine W729.newO hx (hw _ (mI 1 rfl)) (hw _ (mI 2 rfl)) (hw _ (mI 3 rfl)) rfl (hb hby at_85) (by decide +kernel) (by decide +kernel) (fun T730 h730 b730 eb730 gb730 W730 K730 E730 D730 => ?_)
        have k731 : Fld Z h730 b730 "org/portcullis/acl/Sid" "name" "Ljava/lang/String;" .null := D730 (Or.inr (hw _ (mI 43 rfl))) (ty := (.object "java/lang/String")) (by decide +kernel)
        have k732 : Fld Z h730 b730 "org/portcullis/acl/Sid" "principal" "Z" (.int (0 : Int32)) := D730 (Or.inr (hw _ (mI 45 rfl))) (ty := .boolean) (by decide +kernel)
        refine gof T730 m 89 #[vi i0, vi i1, vi i2, vi i3, vi i4, vi 1, vi 1, vi y530, vi 3, vr b725, U0, U0, U0, U0, U0, U0, U0] [(.ref b730), (.ref b730)] (fun _ kk => XS.dup W730.here hx rfl (hb hby at_88) rfl rfl kk) ?_
        refine W730.newO hx (hw _ (mI 4 rfl)) (hw _ (mI 5 rfl)) (hw _ (mI 6 rfl)) rfl (hb hby at_89) (by decide +kernel) (by decide +kernel) (fun T733 h733 b733 eb733 gb733 W733 K733 E733 D733 => ?_)
        have k734 : Fld Z h733 b733 "java/lang/String" "coder" "B" (.int (0 : Int32)) := D733 (Or.inr (hw _ (mI 30 rfl))) (ty := .byte) (by decide +kernel)
        have k735 : Fld Z h733 b733 "java/lang/String" "value" "[B" .null := D733 (Or.inr (hw _ (mI 32 rfl))) (ty := (.array .byte)) (by decide +kernel)
        refine gof T733 m 95 #[vi i0, vi i1, vi i2, vi i3, vi i4, vi 1, vi 1, vi y530, vi 3, vr b725, U0, U0, U0, U0, U0, U0, U0] [(.ref b725), (.ref b733), (.ref b733), (.ref b730), (.ref b730)] (fun _ kk => XS.dup W733.here hx rfl (hb hby at_92) rfl rfl (XS.aload W733.here hx rfl (hb hby at_93) rfl rfl kk)) ?_
        have k737 := ((V729.keep K730 nin0).keep K733 nin0)
        refine W733.newStr hx hws (hw _ (mI 5 rfl)) SC hzc (hw _ (mI 7 rfl)) (hw _ (mI 8 rfl)) (hw _ (mI 9 rfl)) E733 k735 k734 (cs := [q726, q728]) (n := 2) k737 rfl rfl (by decide +kernel) (by decide +kernel) (allSi cq726 (allSi cq728 all0i)) gb733.1 (Or.inr gb733.2) (mI 0 rfl) (by decide +kernel) (Wd := 3) (by decide +kernel) (by decide +kernel) (by decide +kernel) rfl (by rw [hml]; rfl) rfl (by show 2 * 0 + _ ≤ _; exact Nat.le_of_eq rfl) (hb hby at_95) (fun T736 h736 W736 K736 S736 => ?_)
        refine gof T736 m 100 #[vi i0, vi i1, vi i2, vi i3, vi i4, vi 1, vi 1, vi y530, vi 3, vr b725, U0, U0, U0, U0, U0, U0, U0] [(.int y530), (.ref b733), (.ref b730), (.ref b730)] (fun _ kk => XS.iload W736.here hx rfl (hb hby at_98) rfl kk) ?_
        have k739 := ((E730.keep K733).keep K736)
        have k740 := ((k731.keep K733 nin0).keep K736 (ninS (ne_of_born (Nat.le_of_eq eb733.symm) E730.lt (Nat.le_refl _)) nin0))
        have k741 := ((k732.keep K733 nin0).keep K736 (ninS (ne_of_born (Nat.le_of_eq eb733.symm) E730.lt (Nat.le_refl _)) nin0))
        refine W736.callP hx hEL rfl (hw _ (mI 33 rfl)) (hw _ (mI 34 rfl)) (hw _ (mI 3 rfl)) (hw _ (mI 35 rfl)) (by decide +kernel) (a := b730) (argsL := [(.ref b733), (.int y530)]) (rest := [(.ref b730)]) (rm11 l Z a0 hw hEL zc SC hzc fm SF rfm b730 b733 y530 h736 W736.old k739 k740 k741 gb730.1 nz_p fz_p) all0 (by decide +kernel) (Wd := 1) (by decide +kernel) (by decide +kernel) (by decide +kernel) (allS ⟨gb730.1, (Or.inr gb730.2)⟩ all0) rfl (by rw [hml]; rfl) (lenOf pd18 rfl) rfl (by show 2 * 0 + _ ≤ _; exact Nat.le_of_eq rfl) (hb hby at_100) (fun T738 h738 v738 P738 Ws738 K738 q738 => ?_)
        have W738 := Ws738 [] all0
        obtain rfl := q738
        refine gof T738 m 110 #[vi i0, vi i1, vi i2, vi i3, vi i4, vi 1, vi 1, vi y530, vi 3, vr b725, vr b730, U0, U0, U0, U0, U0, U0] [] (fun _ kk => XS.astore W738.here hx rfl (hb hby at_103) rfl rfl (l' := #[.val (.int i0), .val (.int i1), .val (.int i2), .val (.int i3), .val (.int i4), .val (.int 1), .val (.int 1), .val (.int y530), .val (.int 3), .val (.ref b725), .val (.ref b730), .unset, .unset, .unset, .unset, .unset, .unset]) rfl (XS.iload W738.here hx rfl (hb hby at_105) rfl (XS.ifNo W738.here hx rfl (hb hby at_107) rfl (XT.i0_eq_f (by decide +kernel)) kk))) ?_
        refine W738.newO hx (hw _ (mI 133 rfl)) (hw _ (mI 134 rfl)) (hw _ (mI 135 rfl)) rfl (hb hby at_110) (by decide +kernel) (by decide +kernel) (fun T742 h742 b742 eb742 gb742 W742 K742 E742 D742 => ?_)
        have k743 : Fld Z h742 b742 "org/portcullis/acl/AccessControlEntry" "order" "I" (.int (0 : Int32)) := D742 (Or.inr (hw _ (mI 141 rfl))) (ty := .int) (by decide +kernel)
        have k744 : Fld Z h742 b742 "org/portcullis/acl/AccessControlEntry" "sid" "Lorg/portcullis/acl/Sid;" .null := D742 (Or.inr (hw _ (mI 143 rfl))) (ty := (.object "org/portcullis/acl/Sid")) (by decide +kernel)
        have k745 : Fld Z h742 b742 "org/portcullis/acl/AccessControlEntry" "mask" "I" (.int (0 : Int32)) := D742 (Or.inr (hw _ (mI 145 rfl))) (ty := .int) (by decide +kernel)
        have k746 : Fld Z h742 b742 "org/portcullis/acl/AccessControlEntry" "granting" "Z" (.int (0 : Int32)) := D742 (Or.inr (hw _ (mI 147 rfl))) (ty := .boolean) (by decide +kernel)
        refine gof T742 m 120 #[vi i0, vi i1, vi i2, vi i3, vi i4, vi 1, vi 1, vi y530, vi 3, vr b725, vr b730, U0, U0, U0, U0, U0, U0] [(.int 1), (.int i2), (.ref b730), (.int i1), (.ref b742), (.ref b742)] (fun _ kk => XS.dup W742.here hx rfl (hb hby at_113) rfl rfl (XS.iloadN W742.here hx rfl (hb hby at_114) rfl (XS.aload W742.here hx rfl (hb hby at_115) rfl rfl (XS.iloadN W742.here hx rfl (hb hby at_117) rfl (XS.iload W742.here hx rfl (hb hby at_118) rfl kk))))) ?_
        refine W742.callP hx hEL rfl (hw _ (mI 136 rfl)) (hw _ (mI 137 rfl)) (hw _ (mI 135 rfl)) (hw _ (mI 138 rfl)) (by decide +kernel) (a := b742) (argsL := [(.int i1), (.ref b730), (.int i2), (.int (1 : Int32))]) (rest := [(.ref b742)]) (rm13 l Z a0 hw hEL zc SC hzc fm SF rfm b742 b730 i1 i2 h742 W742.old E742 k743 k744 k745 k746 gb742.1) all0 (by decide +kernel) (Wd := 1) (by decide +kernel) (by decide +kernel) (by decide +kernel) (allS ⟨gb742.1, (Or.inr gb742.2)⟩ all0) rfl (by rw [hml]; rfl) (lenOf pd24 rfl) rfl (by show 2 * 0 + _ ≤ _; exact Nat.le_of_eq rfl) (hb hby at_120) (fun T747 h747 v747 P747 Ws747 K747 q747 => ?_)
        have W747 := Ws747 [] all0
        obtain ⟨rfl, Fg747⟩ := q747
        refine gof T747 m 136 #[vi i0, vi i1, vi i2, vi i3, vi i4, vi 1, vi 1, vi y530, vi 3, vr b725, vr b730, vr b742, U0, U0, U0, U0, U0] [(.int ((i4 &&& (255 : Int32)).toUInt32.toUInt16.toUInt32.toInt32))] (fun _ kk => XS.goto W747.here hx rfl (pc0 := 123) (pc' := 127) rfl (hb hby at_123) (by decide +kernel) (by decide +kernel) (XS.astore W747.here hx rfl (hb hby at_127) rfl rfl (l' := #[.val (.int i0), .val (.int i1), .val (.int i2), .val (.int i3), .val (.int i4), .val (.int 1), .val (.int 1), .val (.int y530), .val (.int 3), .val (.ref b725), .val (.ref b730), .val (.ref b742), .unset, .unset, .unset, .unset, .unset]) rfl (XS.iload W747.here hx rfl (hb hby at_129) rfl (XS.sipush W747.here hx rfl (hb hby at_131) (XS.iand W747.here hx rfl (hb hby at_134) rfl (XS.i2c W747.here hx rfl (hb hby at_135) rfl kk)))))) ?_
        rw [hq728]
        show Go p e below _ (T747.setTop (mkF m 136 #[vi i0, vi i1, vi i2, vi i3, vi i4, vi 1, vi 1, vi y530, vi 3, vr b725, vr b730, vr b742, U0, U0, U0, U0, U0] [(.int q728)]))
        refine W747.callS hx hEL (hw _ (mI 46 rfl)) (hw _ (mI 47 rfl)) (hw _ (mI 6 rfl)) (hw _ (mI 48 rfl)) (by decide +kernel) (argsL := [(.int q728)]) (rest := []) (rm27 l Z a0 hw hEL zc SC hzc fm SF rfm q728 h747 W747.old cq728) all0 (by decide +kernel) (Wd := 0) (by decide +kernel) (by decide +kernel) (by decide +kernel) all0 rfl (by rw [hml]; rfl) (lenOf pd19 rfl) rfl (by show 2 * 0 + _ ≤ _; exact Nat.le_of_eq rfl) (hb hby at_136) (fun T748 h748 v748 P748 Ws748 K748 q748 => ?_)
        have W748 := Ws748 [] all0
        obtain ⟨r748, rfl, lr748, S748⟩ := q748
        have gr748 : n0 ≤ r748 ∧ s.heap.size ≤ r748 := ⟨Nat.le_trans W747.n0le lr748, Nat.le_trans W747.s0le lr748⟩
        have E748 := S748.exa
        refine gof T748 m 141 #[vi i0, vi i1, vi i2, vi i3, vi i4, vi 1, vi 1, vi y530, vi 3, vr b725, vr b730, vr b742, vr r748, U0, U0, U0, U0] [] (fun _ kk => XS.astore W748.here hx rfl (hb hby at_139) rfl rfl (l' := #[.val (.int i0), .val (.int i1), .val (.int i2), .val (.int i3), .val (.int i4), .val (.int 1), .val (.int 1), .val (.int y530), .val (.int 3), .val (.ref b725), .val (.ref b730), .val (.ref b742), .val (.ref r748), .unset, .unset, .unset, .unset]) rfl kk) ?_
        refine W748.newO hx (hw _ (mI 60 rfl)) (hw _ (mI 61 rfl)) (hw _ (mI 62 rfl)) rfl (hb hby at_141) (by decide +kernel) (by decide +kernel) (fun T749 h749 b749 eb749 gb749 W749 K749 E749 D749 => ?_)
        have k750 : Fld Z h749 b749 "java/util/AbstractList" "modCount" "I" (.int (0 : Int32)) := D749 (Or.inl (hw _ (mI 80 rfl))) (ty := .int) (by decide +kernel)
        have k751 : Fld Z h749 b749 "java/util/ArrayList" "elementData" "[Ljava/lang/Object;" .null := D749 (Or.inl (hw _ (mI 83 rfl))) (ty := (.array (.object "java/lang/Object"))) (by decide +kernel)
        have k752 : Fld Z h749 b749 "java/util/ArrayList" "size" "I" (.int (0 : Int32)) := D749 (Or.inl (hw _ (mI 115 rfl))) (ty := .int) (by decide +kernel)
        refine gof T749 m 145 #[vi i0, vi i1, vi i2, vi i3, vi i4, vi 1, vi 1, vi y530, vi 3, vr b725, vr b730, vr b742, vr r748, U0, U0, U0, U0] [(.ref b749), (.ref b749)] (fun _ kk => XS.dup W749.here hx rfl (hb hby at_144) rfl rfl kk) ?_
        refine W749.callP hx hEL rfl (hw _ (mI 63 rfl)) (hw _ (mI 64 rfl)) (hw _ (mI 62 rfl)) (hw _ (mI 65 rfl)) (by decide +kernel) (a := b749) (argsL := []) (rest := [(.ref b749)]) (rm19 l Z a0 hw hEL zc SC hzc fm SF rfm b749 dfl el em mir gr de kdf h749 W749.old OD OS OL OM OI OG OE E749 k750 k751 k752 gb749.1) all0 (by decide +kernel) (Wd := 1) (by decide +kernel) (by decide +kernel) (by decide +kernel) (allS ⟨gb749.1, (Or.inr gb749.2)⟩ all0) rfl (by rw [hml]; rfl) (lenOf pd3 rfl) rfl (by show 2 * 0 + _ ≤ _; exact Nat.le_of_eq rfl) (hb hby at_145) (fun T753 h753 v753 P753 Ws753 K753 q753 => ?_)
        have W753 := Ws753 [] all0
        obtain ⟨rfl, Fe753, Fs753, Fm753⟩ := q753
        refine gof T753 m 158 #[vi i0, vi i1, vi i2, vi i3, vi i4, vi 1, vi 1, vi y530, vi 3, vr b725, vr b730, vr b742, vr r748, vr b749, U0, U0, U0] [(.ref b749)] (fun _ kk => XS.astore W753.here hx rfl (hb hby at_148) rfl rfl (l' := #[.val (.int i0), .val (.int i1), .val (.int i2), .val (.int i3), .val (.int i4), .val (.int 1), .val (.int 1), .val (.int y530), .val (.int 3), .val (.ref b725), .val (.ref b730), .val (.ref b742), .val (.ref r748), .val (.ref b749), .unset, .unset, .unset]) rfl (XS.iload W753.here hx rfl (hb hby at_150) rfl (XS.iconst W753.here hx rfl (hb hby at_152) (XS.icmpNo W753.here hx rfl (hb hby at_153) rfl (XT.ii_lt_f (by decide +kernel)) (XS.aload W753.here hx rfl (hb hby at_156) rfl rfl kk))))) ?_
        refine W753.newO hx (hw _ (mI 148 rfl)) (hw _ (mI 149 rfl)) (hw _ (mI 150 rfl)) rfl (hb hby at_158) (by decide +kernel) (by decide +kernel) (fun T754 h754 b754 eb754 gb754 W754 K754 E754 D754 => ?_)
        have k755 : Fld Z h754 b754 "org/portcullis/acl/ObjectIdentity" "type" "Ljava/lang/String;" .null := D754 (Or.inr (hw _ (mI 159 rfl))) (ty := (.object "java/lang/String")) (by decide +kernel)
        have k756 : Fld Z h754 b754 "org/portcullis/acl/ObjectIdentity" "id" "Ljava/lang/String;" .null := D754 (Or.inr (hw _ (mI 161 rfl))) (ty := (.object "java/lang/String")) (by decide +kernel)
        refine gof T754 m 164 #[vi i0, vi i1, vi i2, vi i3, vi i4, vi 1, vi 1, vi y530, vi 3, vr b725, vr b730, vr b742, vr r748, vr b749, U0, U0, U0] [(.ref r748), (.ref b754), (.ref b754), (.ref b749)] (fun _ kk => XS.dup W754.here hx rfl (hb hby at_161) rfl rfl (XS.aload W754.here hx rfl (hb hby at_162) rfl rfl kk)) ?_
        refine W754.ldcO hx hEL (hw _ (mI 151 rfl)) hSA rfl (hb hby at_164) (n := 4) (by decide +kernel) (by decide +kernel) (by decide +kernel) (by decide +kernel) (fun T757 h757 b757 W757 K757 => ?_)
        show Go p e below _ (T757.setTop (mkF m 166 #[vi i0, vi i1, vi i2, vi i3, vi i4, vi 1, vi 1, vi y530, vi 3, vr b725, vr b730, vr b742, vr r748, vr b749, U0, U0, U0] [(.ref b757), (.ref r748), (.ref b754), (.ref b754), (.ref b749)]))
        have k759 := (E754.keep K757)
        have k760 := (k755.keep K757 nin0)
        have k761 := (k756.keep K757 nin0)
        refine W757.callP hx hEL rfl (hw _ (mI 154 rfl)) (hw _ (mI 155 rfl)) (hw _ (mI 150 rfl)) (hw _ (mI 156 rfl)) (by decide +kernel) (a := b754) (argsL := [(.ref r748), (.ref b757)]) (rest := [(.ref b754), (.ref b749)]) (rm14 l Z a0 hw hEL zc SC hzc fm SF rfm b754 r748 b757 h757 W757.old k759 k760 k761 gb754.1) all0 (by decide +kernel) (Wd := 2) (by decide +kernel) (by decide +kernel) (by decide +kernel) (allS ⟨gb754.1, (Or.inr gb754.2)⟩ all0) rfl (by rw [hml]; rfl) (lenOf pd22 rfl) rfl (by show 2 * 0 + _ ≤ _; exact Nat.le_of_eq rfl) (hb hby at_166) (fun T758 h758 v758 P758 Ws758 K758 q758 => ?_)
        have W758 := Ws758 [] all0
        obtain rfl := q758
        show Go p e below _ (T758.setTop (mkF m 169 #[vi i0, vi i1, vi i2, vi i3, vi i4, vi 1, vi 1, vi y530, vi 3, vr b725, vr b730, vr b742, vr r748, vr b749, U0, U0, U0] [(.ref b754), (.ref b749)]))
        have k763 := ((((E749.keep K753).keep K754).keep K757).keep K758)
        have k764 := (((Fe753.keep K754 nin0).keep K757 nin0).keep K758 (ninS (ne_of_born (Nat.le_of_eq eb754.symm) E749.lt K753.1) nin0))
        have k765 := (((Fs753.keep K754 nin0).keep K757 nin0).keep K758 (ninS (ne_of_born (Nat.le_of_eq eb754.symm) E749.lt K753.1) nin0))
        have k766 := (((Fm753.keep K754 nin0).keep K757 nin0).keep K758 (ninS (ne_of_born (Nat.le_of_eq eb754.symm) E749.lt K753.1) nin0))
        have k767 := (k759.keep K758)
        refine W758.callV hx hEL (hw _ (mI 162 rfl)) (hw _ (mI 163 rfl)) (hw _ (mI 165 rfl)) (hw _ (mI 164 rfl)) (hw _ (mI 62 rfl)) (hw _ (mI 166 rfl)) (by decide +kernel) k763 (a := b749) (argsL := [(.ref b754)]) (rest := []) (rm43 l Z a0 hw hEL zc SC hzc fm SF rfm b749 b754 (0 : Int32) dfl el em mir gr de kdf h758 W758.old OD OS OL OM OI OG OE k763 k764 k765 k766 k767 gb749.1) all0 (by decide +kernel) (Wd := 0) (by decide +kernel) (by decide +kernel) (by decide +kernel) (allS ⟨gb749.1, (Or.inr gb749.2)⟩ all0) rfl (by rw [hml]; rfl) (lenOf pd23 rfl) rfl (by show 2 * 0 + _ ≤ _; exact Nat.le_of_eq rfl) (hb hby at_169) (fun T762 h762 v762 P762 Ws762 K762 q762 => ?_)
        have W762 := Ws762 [] all0
        obtain ⟨t762, kt762, rfl, lt762, Fe762, Fs762, Fm762, A762, Ov762, Ex762⟩ := q762
        have gt762 : n0 ≤ t762 ∧ s.heap.size ≤ t762 := ⟨Nat.le_trans W758.n0le lt762, Nat.le_trans W758.s0le lt762⟩
        refine gof T762 m 181 #[vi i0, vi i1, vi i2, vi i3, vi i4, vi 1, vi 1, vi y530, vi 3, vr b725, vr b730, vr b742, vr r748, vr b749, U0, U0, U0] [(.ref b749)] (fun _ kk => XS.pop W762.here hx rfl (hb hby at_172) rfl rfl (XS.iload W762.here hx rfl (hb hby at_173) rfl (XS.iconst W762.here hx rfl (hb hby at_175) (XS.icmpNo W762.here hx rfl (hb hby at_176) rfl (XT.ii_lt_f (by decide +kernel)) (XS.aload W762.here hx rfl (hb hby at_179) rfl rfl kk))))) ?_
        refine W762.newO hx (hw _ (mI 148 rfl)) (hw _ (mI 149 rfl)) (hw _ (mI 150 rfl)) rfl (hb hby at_181) (by decide +kernel) (by decide +kernel) (fun T768 h768 b768 eb768 gb768 W768 K768 E768 D768 => ?_)
        have k769 : Fld Z h768 b768 "org/portcullis/acl/ObjectIdentity" "type" "Ljava/lang/String;" .null := D768 (Or.inr (hw _ (mI 159 rfl))) (ty := (.object "java/lang/String")) (by decide +kernel)
        have k770 : Fld Z h768 b768 "org/portcullis/acl/ObjectIdentity" "id" "Ljava/lang/String;" .null := D768 (Or.inr (hw _ (mI 161 rfl))) (ty := (.object "java/lang/String")) (by decide +kernel)
        refine gof T768 m 187 #[vi i0, vi i1, vi i2, vi i3, vi i4, vi 1, vi 1, vi y530, vi 3, vr b725, vr b730, vr b742, vr r748, vr b749, U0, U0, U0] [(.ref r748), (.ref b768), (.ref b768), (.ref b749)] (fun _ kk => XS.dup W768.here hx rfl (hb hby at_184) rfl rfl (XS.aload W768.here hx rfl (hb hby at_185) rfl rfl kk)) ?_
        refine W768.ldcO hx hEL (hw _ (mI 262 rfl)) hSA rfl (hb hby at_187) (n := 4) (by decide +kernel) (by decide +kernel) (by decide +kernel) (by decide +kernel) (fun T771 h771 b771 W771 K771 => ?_)
        show Go p e below _ (T771.setTop (mkF m 189 #[vi i0, vi i1, vi i2, vi i3, vi i4, vi 1, vi 1, vi y530, vi 3, vr b725, vr b730, vr b742, vr r748, vr b749, U0, U0, U0] [(.ref b771), (.ref r748), (.ref b768), (.ref b768), (.ref b749)]))
        have k773 := (E768.keep K771)
        have k774 := (k769.keep K771 nin0)
        have k775 := (k770.keep K771 nin0)
        refine W771.callP hx hEL rfl (hw _ (mI 154 rfl)) (hw _ (mI 155 rfl)) (hw _ (mI 150 rfl)) (hw _ (mI 156 rfl)) (by decide +kernel) (a := b768) (argsL := [(.ref r748), (.ref b771)]) (rest := [(.ref b768), (.ref b749)]) (rm14 l Z a0 hw hEL zc SC hzc fm SF rfm b768 r748 b771 h771 W771.old k773 k774 k775 gb768.1) all0 (by decide +kernel) (Wd := 2) (by decide +kernel) (by decide +kernel) (by decide +kernel) (allS ⟨gb768.1, (Or.inr gb768.2)⟩ all0) rfl (by rw [hml]; rfl) (lenOf pd22 rfl) rfl (by show 2 * 0 + _ ≤ _; exact Nat.le_of_eq rfl) (hb hby at_189) (fun T772 h772 v772 P772 Ws772 K772 q772 => ?_)
        have W772 := Ws772 [] all0
        obtain rfl := q772
        show Go p e below _ (T772.setTop (mkF m 192 #[vi i0, vi i1, vi i2, vi i3, vi i4, vi 1, vi 1, vi y530, vi 3, vr b725, vr b730, vr b742, vr r748, vr b749, U0, U0, U0] [(.ref b768), (.ref b749)]))
        have k777 := ((((k763.keep K762).keep K768).keep K771).keep K772)
        have k778 := (((Fe762.keep K768 nin0).keep K771 nin0).keep K772 (ninS (ne_of_born (Nat.le_of_eq eb768.symm) E749.lt (Nat.le_trans (Nat.le_trans (Nat.le_trans (Nat.le_trans K753.1 K754.1) K757.1) K758.1) K762.1)) nin0))
        have k779 := (((Fs762.keep K768 nin0).keep K771 nin0).keep K772 (ninS (ne_of_born (Nat.le_of_eq eb768.symm) E749.lt (Nat.le_trans (Nat.le_trans (Nat.le_trans (Nat.le_trans K753.1 K754.1) K757.1) K758.1) K762.1)) nin0))
        have k780 := (((Fm762.keep K768 nin0).keep K771 nin0).keep K772 (ninS (ne_of_born (Nat.le_of_eq eb768.symm) E749.lt (Nat.le_trans (Nat.le_trans (Nat.le_trans (Nat.le_trans K753.1 K754.1) K757.1) K758.1) K762.1)) nin0))
        have k781 := (((A762.keep K768 nin0).keep K771 nin0).keep K772 (ninS (ne_of_born (Nat.le_of_eq eb768.symm) A762.lt (Nat.le_refl _)) nin0))
        have k782 := (k773.keep K772)
        refine W772.callV hx hEL (hw _ (mI 162 rfl)) (hw _ (mI 163 rfl)) (hw _ (mI 165 rfl)) (hw _ (mI 164 rfl)) (hw _ (mI 62 rfl)) (hw _ (mI 166 rfl)) (by decide +kernel) k777 (a := b749) (argsL := [(.ref b768)]) (rest := []) (rm44 l Z a0 hw hEL zc SC hzc fm SF rfm b749 t762 kt762 ((0 : Int32) + (1 : Int32)) b754 b768 h772 W772.old k777 k778 k779 k780 k781 Ov762 k782 gb749.1 gt762.1 (ne_of_born lt762 E749.lt (Nat.le_trans (Nat.le_trans (Nat.le_trans K753.1 K754.1) K757.1) K758.1))) all0 (by decide +kernel) (Wd := 0) (by decide +kernel) (by decide +kernel) (by decide +kernel) (allS ⟨gb749.1, (Or.inr gb749.2)⟩ (allS ⟨gt762.1, (Or.inr gt762.2)⟩ all0)) rfl (by rw [hml]; rfl) (lenOf pd23 rfl) rfl (by show 2 * 0 + _ ≤ _; exact Nat.le_of_eq rfl) (hb hby at_192) (fun T776 h776 v776 P776 Ws776 K776 q776 => ?_)
        have W776 := Ws776 [] all0
        obtain ⟨rfl, Fe776, Fs776, Fm776, A776⟩ := q776
        refine gof T776 m 204 #[vi i0, vi i1, vi i2, vi i3, vi i4, vi 1, vi 1, vi y530, vi 3, vr b725, vr b730, vr b742, vr r748, vr b749, U0, U0, U0] [(.ref b749)] (fun _ kk => XS.pop W776.here hx rfl (hb hby at_195) rfl rfl (XS.iload W776.here hx rfl (hb hby at_196) rfl (XS.iconst W776.here hx rfl (hb hby at_198) (XS.icmpNo W776.here hx rfl (hb hby at_199) rfl (XT.ii_lt_f (by decide +kernel)) (XS.aload W776.here hx rfl (hb hby at_202) rfl rfl kk))))) ?_
        refine W776.newO hx (hw _ (mI 148 rfl)) (hw _ (mI 149 rfl)) (hw _ (mI 150 rfl)) rfl (hb hby at_204) (by decide +kernel) (by decide +kernel) (fun T783 h783 b783 eb783 gb783 W783 K783 E783 D783 => ?_)
        have k784 : Fld Z h783 b783 "org/portcullis/acl/ObjectIdentity" "type" "Ljava/lang/String;" .null := D783 (Or.inr (hw _ (mI 159 rfl))) (ty := (.object "java/lang/String")) (by decide +kernel)
        have k785 : Fld Z h783 b783 "org/portcullis/acl/ObjectIdentity" "id" "Ljava/lang/String;" .null := D783 (Or.inr (hw _ (mI 161 rfl))) (ty := (.object "java/lang/String")) (by decide +kernel)
        refine gof T783 m 210 #[vi i0, vi i1, vi i2, vi i3, vi i4, vi 1, vi 1, vi y530, vi 3, vr b725, vr b730, vr b742, vr r748, vr b749, U0, U0, U0] [(.ref r748), (.ref b783), (.ref b783), (.ref b749)] (fun _ kk => XS.dup W783.here hx rfl (hb hby at_207) rfl rfl (XS.aload W783.here hx rfl (hb hby at_208) rfl rfl kk)) ?_
        refine W783.ldcO hx hEL (hw _ (mI 263 rfl)) hSA rfl (hb hby at_210) (n := 4) (by decide +kernel) (by decide +kernel) (by decide +kernel) (by decide +kernel) (fun T786 h786 b786 W786 K786 => ?_)
        show Go p e below _ (T786.setTop (mkF m 212 #[vi i0, vi i1, vi i2, vi i3, vi i4, vi 1, vi 1, vi y530, vi 3, vr b725, vr b730, vr b742, vr r748, vr b749, U0, U0, U0] [(.ref b786), (.ref r748), (.ref b783), (.ref b783), (.ref b749)]))
        have k788 := (E783.keep K786)
        have k789 := (k784.keep K786 nin0)
        have k790 := (k785.keep K786 nin0)
        refine W786.callP hx hEL rfl (hw _ (mI 154 rfl)) (hw _ (mI 155 rfl)) (hw _ (mI 150 rfl)) (hw _ (mI 156 rfl)) (by decide +kernel) (a := b783) (argsL := [(.ref r748), (.ref b786)]) (rest := [(.ref b783), (.ref b749)]) (rm14 l Z a0 hw hEL zc SC hzc fm SF rfm b783 r748 b786 h786 W786.old k788 k789 k790 gb783.1) all0 (by decide +kernel) (Wd := 2) (by decide +kernel) (by decide +kernel) (by decide +kernel) (allS ⟨gb783.1, (Or.inr gb783.2)⟩ all0) rfl (by rw [hml]; rfl) (lenOf pd22 rfl) rfl (by show 2 * 0 + _ ≤ _; exact Nat.le_of_eq rfl) (hb hby at_212) (fun T787 h787 v787 P787 Ws787 K787 q787 => ?_)
        have W787 := Ws787 [] all0
        obtain rfl := q787
        show Go p e below _ (T787.setTop (mkF m 215 #[vi i0, vi i1, vi i2, vi i3, vi i4, vi 1, vi 1, vi y530, vi 3, vr b725, vr b730, vr b742, vr r748, vr b749, U0, U0, U0] [(.ref b783), (.ref b749)]))
        have k792 := ((((k777.keep K776).keep K783).keep K786).keep K787)
        have k793 := (((Fe776.keep K783 nin0).keep K786 nin0).keep K787 (ninS (ne_of_born (Nat.le_of_eq eb783.symm) E749.lt (Nat.le_trans (Nat.le_trans (Nat.le_trans (Nat.le_trans (Nat.le_trans (Nat.le_trans (Nat.le_trans (Nat.le_trans K753.1 K754.1) K757.1) K758.1) K762.1) K768.1) K771.1) K772.1) K776.1)) nin0))
        have k794 := (((Fs776.keep K783 nin0).keep K786 nin0).keep K787 (ninS (ne_of_born (Nat.le_of_eq eb783.symm) E749.lt (Nat.le_trans (Nat.le_trans (Nat.le_trans (Nat.le_trans (Nat.le_trans (Nat.le_trans (Nat.le_trans (Nat.le_trans K753.1 K754.1) K757.1) K758.1) K762.1) K768.1) K771.1) K772.1) K776.1)) nin0))
        have k795 := (((Fm776.keep K783 nin0).keep K786 nin0).keep K787 (ninS (ne_of_born (Nat.le_of_eq eb783.symm) E749.lt (Nat.le_trans (Nat.le_trans (Nat.le_trans (Nat.le_trans (Nat.le_trans (Nat.le_trans (Nat.le_trans (Nat.le_trans K753.1 K754.1) K757.1) K758.1) K762.1) K768.1) K771.1) K772.1) K776.1)) nin0))
        have k796 := (((A776.keep K783 nin0).keep K786 nin0).keep K787 (ninS (ne_of_born (Nat.le_of_eq eb783.symm) A762.lt (Nat.le_trans (Nat.le_trans (Nat.le_trans K768.1 K771.1) K772.1) K776.1)) nin0))
        have k797 := (k788.keep K787)
        refine W787.callV hx hEL (hw _ (mI 162 rfl)) (hw _ (mI 163 rfl)) (hw _ (mI 165 rfl)) (hw _ (mI 164 rfl)) (hw _ (mI 62 rfl)) (hw _ (mI 166 rfl)) (by decide +kernel) k792 (a := b749) (argsL := [(.ref b783)]) (rest := []) (rm45 l Z a0 hw hEL zc SC hzc fm SF rfm b749 t762 kt762 (((0 : Int32) + (1 : Int32)) + (1 : Int32)) b754 b768 b783 h787 W787.old k792 k793 k794 k795 k796 Ov762 k797 gb749.1 gt762.1 (ne_of_born lt762 E749.lt (Nat.le_trans (Nat.le_trans (Nat.le_trans K753.1 K754.1) K757.1) K758.1))) all0 (by decide +kernel) (Wd := 0) (by decide +kernel) (by decide +kernel) (by decide +kernel) (allS ⟨gb749.1, (Or.inr gb749.2)⟩ (allS ⟨gt762.1, (Or.inr gt762.2)⟩ all0)) rfl (by rw [hml]; rfl) (lenOf pd23 rfl) rfl (by show 2 * 0 + _ ≤ _; exact Nat.le_of_eq rfl) (hb hby at_215) (fun T791 h791 v791 P791 Ws791 K791 q791 => ?_)
        have W791 := Ws791 [] all0
        obtain ⟨rfl, Fe791, Fs791, Fm791, A791⟩ := q791
        refine gof T791 m 219 #[vi i0, vi i1, vi i2, vi i3, vi i4, vi 1, vi 1, vi y530, vi 3, vr b725, vr b730, vr b742, vr r748, vr b749, U0, U0, U0] [] (fun _ kk => XS.pop W791.here hx rfl (hb hby at_218) rfl rfl kk) ?_
        refine W791.newO hx (hw _ (mI 84 rfl)) (hw _ (mI 85 rfl)) (hw _ (mI 86 rfl)) rfl (hb hby at_219) (by decide +kernel) (by decide +kernel) (fun T798 h798 b798 eb798 gb798 W798 K798 E798 D798 => ?_)
        have k799 : Fld Z h798 b798 "org/portcullis/acl/Outcome" "iLevels" "Ljava/util/List;" .null := D798 (Or.inr (hw _ (mI 121 rfl))) (ty := (.object "java/util/List")) (by decide +kernel)
        have k800 : Fld Z h798 b798 "org/portcullis/acl/Outcome" "iEntry" "Lorg/portcullis/acl/AccessControlEntry;" .null := D798 (Or.inr (hw _ (mI 123 rfl))) (ty := (.object "org/portcullis/acl/AccessControlEntry")) (by decide +kernel)
        refine gof T798 m 227 #[vi i0, vi i1, vi i2, vi i3, vi i4, vi 1, vi 1, vi y530, vi 3, vr b725, vr b730, vr b742, vr r748, vr b749, U0, U0, U0] [(.ref b742), (.ref b749), (.ref b798), (.ref b798)] (fun _ kk => XS.dup W798.here hx rfl (hb hby at_222) rfl rfl (XS.aload W798.here hx rfl (hb hby at_223) rfl rfl (XS.aload W798.here hx rfl (hb hby at_225) rfl rfl kk))) ?_
        have k802 := ((k792.keep K791).keep K798)
        have k803 := (Fe791.keep K798 nin0)
        have k804 := (Fs791.keep K798 nin0)
        have k805 := (A791.keep K798 nin0)
        have k806 := (((((((((Ex762.keep K768).keep K771).keep K772).keep K776).keep K783).keep K786).keep K787).keep K791).keep K798)
        have k807 := ((((((((((k767.keep K762).keep K768).keep K771).keep K772).keep K776).keep K783).keep K786).keep K787).keep K791).keep K798)
        have k808 := ((((((k782.keep K776).keep K783).keep K786).keep K787).keep K791).keep K798)
        have k809 := ((k797.keep K791).keep K798)
        refine W798.callP hx hEL rfl (hw _ (mI 87 rfl)) (hw _ (mI 88 rfl)) (hw _ (mI 86 rfl)) (hw _ (mI 89 rfl)) (by decide +kernel) (a := b798) (argsL := [(.ref b749), (.ref b742)]) (rest := [(.ref b798)]) (rm91 l Z a0 hw hEL zc SC hzc fm SF rfm b798 b749 t762 kt762 b754 b768 b783 (.ref b742) dfl el em mir gr de kdf h798 W798.old OD OS OL OM OI OG OE rfl k802 k803 k804 k805 k806 k807 k808 k809 E798 k799 k800 gb798.1) all0 (by decide +kernel) (Wd := 1) (by decide +kernel) (by decide +kernel) (by decide +kernel) (allS ⟨gb798.1, (Or.inr gb798.2)⟩ all0) rfl (by rw [hml]; rfl) (lenOf pd20 rfl) rfl (by show 2 * 0 + _ ≤ _; exact Nat.le_of_eq rfl) (hb hby at_227) (fun T801 h801 v801 P801 Ws801 K801 q801 => ?_)
        have W801 := Ws801 [] all0
        obtain ⟨rfl, Fi801⟩ := q801
        refine gof T801 m 234 #[vi i0, vi i1, vi i2, vi i3, vi i4, vi 1, vi 1, vi y530, vi 3, vr b725, vr b730, vr b742, vr r748, vr b749, vr b798, U0, U0] [(.ref b798)] (fun _ kk => XS.astore W801.here hx rfl (hb hby at_230) rfl rfl (l' := #[.val (.int i0), .val (.int i1), .val (.int i2), .val (.int i3), .val (.int i4), .val (.int 1), .val (.int 1), .val (.int y530), .val (.int 3), .val (.ref b725), .val (.ref b730), .val (.ref b742), .val (.ref r748), .val (.ref b749), .val (.ref b798), .unset, .unset]) rfl (XS.aload W801.here hx rfl (hb hby at_232) rfl rfl kk)) ?_
        have k811 := ((((((((((((((((((E742.keep K747).keep K748).keep K749).keep K753).keep K754).keep K757).keep K758).keep K762).keep K768).keep K771).keep K772).keep K776).keep K783).keep K786).keep K787).keep K791).keep K798).keep K801)
        have k812 := (((((((((((((((((Fg747.keep K748 nin0).keep K749 nin0).keep K753 (ninS (ne_of_born (Nat.le_of_eq eb749.symm) E742.lt (Nat.le_trans K747.1 K748.1)) nin0)).keep K754 nin0).keep K757 nin0).keep K758 (ninS (ne_of_born (Nat.le_of_eq eb754.symm) E742.lt (Nat.le_trans (Nat.le_trans (Nat.le_trans K747.1 K748.1) K749.1) K753.1)) nin0)).keep K762 (ninS (ne_of_born (Nat.le_of_eq eb749.symm) E742.lt (Nat.le_trans K747.1 K748.1)) nin0)).keep K768 nin0).keep K771 nin0).keep K772 (ninS (ne_of_born (Nat.le_of_eq eb768.symm) E742.lt (Nat.le_trans (Nat.le_trans (Nat.le_trans (Nat.le_trans (Nat.le_trans (Nat.le_trans (Nat.le_trans K747.1 K748.1) K749.1) K753.1) K754.1) K757.1) K758.1) K762.1)) nin0)).keep K776 (ninS (ne_of_born (Nat.le_of_eq eb749.symm) E742.lt (Nat.le_trans K747.1 K748.1)) (ninS (ne_of_born lt762 E742.lt (Nat.le_trans (Nat.le_trans (Nat.le_trans (Nat.le_trans (Nat.le_trans (Nat.le_trans K747.1 K748.1) K749.1) K753.1) K754.1) K757.1) K758.1)) nin0))).keep K783 nin0).keep K786 nin0).keep K787 (ninS (ne_of_born (Nat.le_of_eq eb783.symm) E742.lt (Nat.le_trans (Nat.le_trans (Nat.le_trans (Nat.le_trans (Nat.le_trans (Nat.le_trans (Nat.le_trans (Nat.le_trans (Nat.le_trans (Nat.le_trans (Nat.le_trans K747.1 K748.1) K749.1) K753.1) K754.1) K757.1) K758.1) K762.1) K768.1) K771.1) K772.1) K776.1)) nin0)).keep K791 (ninS (ne_of_born (Nat.le_of_eq eb749.symm) E742.lt (Nat.le_trans K747.1 K748.1)) (ninS (ne_of_born lt762 E742.lt (Nat.le_trans (Nat.le_trans (Nat.le_trans (Nat.le_trans (Nat.le_trans (Nat.le_trans K747.1 K748.1) K749.1) K753.1) K754.1) K757.1) K758.1)) nin0))).keep K798 nin0).keep K801 (ninS (ne_of_born (Nat.le_of_eq eb798.symm) E742.lt (Nat.le_trans (Nat.le_trans (Nat.le_trans (Nat.le_trans (Nat.le_trans (Nat.le_trans (Nat.le_trans (Nat.le_trans (Nat.le_trans (Nat.le_trans (Nat.le_trans (Nat.le_trans (Nat.le_trans (Nat.le_trans (Nat.le_trans K747.1 K748.1) K749.1) K753.1) K754.1) K757.1) K758.1) K762.1) K768.1) K771.1) K772.1) K776.1) K783.1) K786.1) K787.1) K791.1)) nin0))
        have k813 := (E798.keep K801)
        refine W801.callV hx hEL (hw _ (mI 124 rfl)) (hw _ (mI 125 rfl)) (hw _ (mI 127 rfl)) (hw _ (mI 126 rfl)) (hw _ (mI 86 rfl)) (hw _ (mI 128 rfl)) (by decide +kernel) k813 (a := b798) (argsL := []) (rest := []) (rm95 l Z a0 hw hEL zc SC hzc fm SF rfm b798 b742 dfl el em mir gr de kdf h801 W801.old OD OS OL OM OI OG OE Fi801 k811 k812) all0 (by decide +kernel) (Wd := 0) (by decide +kernel) (by decide +kernel) (by decide +kernel) all0 rfl (by rw [hml]; rfl) (lenOf pd21 rfl) rfl (by show 2 * 0 + _ ≤ _; exact Nat.le_of_eq rfl) (hb hby at_234) (fun T810 h810 v810 P810 Ws810 K810 q810 => ?_)
        have W810 := Ws810 [] all0
        obtain ⟨rfl, rfl⟩ := q810
        refine gof T810 m 249 #[vi i0, vi i1, vi i2, vi i3, vi i4, vi 1, vi 1, vi y530, vi 3, vr b725, vr b730, vr b742, vr r748, vr b749, vr b798, vr gr, U0] [] (fun _ kk => XS.astore W810.here hx rfl (hb hby at_237) rfl rfl (l' := #[.val (.int i0), .val (.int i1), .val (.int i2), .val (.int i3), .val (.int i4), .val (.int 1), .val (.int 1), .val (.int y530), .val (.int 3), .val (.ref b725), .val (.ref b730), .val (.ref b742), .val (.ref r748), .val (.ref b749), .val (.ref b798), .val (.ref gr), .unset]) rfl (XS.iload W810.here hx rfl (hb hby at_239) rfl (XS.ifNo W810.here hx rfl (hb hby at_241) rfl (XT.i0_eq_f (by decide +kernel)) (XS.iload W810.here hx rfl (hb hby at_244) rfl (XS.ifNo W810.here hx rfl (hb hby at_246) rfl (XT.i0_eq_f (by decide +kernel)) kk))))) ?_
        refine W810.getS hx (host := "") (Or.inl (hw _ (mI 261 rfl))) Via.refl OG rfl (hb hby at_249) (fun T814 W814 => ?_)
        refine gof T814 m 269 #[vi i0, vi i1, vi i2, vi i3, vi i4, vi 1, vi 1, vi y530, vi 3, vr b725, vr b730, vr b742, vr r748, vr b749, vr b798, vr gr, vr gr] [(.ref b798)] (fun _ kk => XS.goto W814.here hx rfl (pc0 := 252) (pc' := 258) rfl (hb hby at_252) (by decide +kernel) (by decide +kernel) (XS.astore W814.here hx rfl (hb hby at_258) rfl rfl (l' := #[.val (.int i0), .val (.int i1), .val (.int i2), .val (.int i3), .val (.int i4), .val (.int 1), .val (.int 1), .val (.int y530), .val (.int 3), .val (.ref b725), .val (.ref b730), .val (.ref b742), .val (.ref r748), .val (.ref b749), .val (.ref b798), .val (.ref gr), .val (.ref gr)]) rfl (XS.aload W814.here hx rfl (hb hby at_260) rfl rfl (XS.aload W814.here hx rfl (hb hby at_262) rfl rfl (XT.acmpNo (g := (mkF m 264 #[vi i0, vi i1, vi i2, vi i3, vi i4, vi 1, vi 1, vi y530, vi 3, vr b725, vr b730, vr b742, vr r748, vr b749, vr b798, vr gr, vr gr] [(.ref gr), (.ref gr)])) W814.here hx rfl (hb hby at_264) (x := (.ref gr)) (y := (.ref gr)) (rest := []) rfl rfl rfl (XT.aa_ne_f (x := (.ref gr)) (y := (.ref gr)) rfl) (XS.aload W814.here hx rfl (hb hby at_267) rfl rfl kk)))))) ?_
        refine W814.callV hx hEL (hw _ (mI 124 rfl)) (hw _ (mI 125 rfl)) (hw _ (mI 127 rfl)) (hw _ (mI 126 rfl)) (hw _ (mI 86 rfl)) (hw _ (mI 128 rfl)) (by decide +kernel) k813 (a := b798) (argsL := []) (rest := []) (rm95 l Z a0 hw hEL zc SC hzc fm SF rfm b798 b742 dfl el em mir gr de kdf h801 W814.old OD OS OL OM OI OG OE Fi801 k811 k812) all0 (by decide +kernel) (Wd := 0) (by decide +kernel) (by decide +kernel) (by decide +kernel) all0 rfl (by rw [hml]; rfl) (lenOf pd21 rfl) rfl (by show 2 * 0 + _ ≤ _; exact Nat.le_of_eq rfl) (hb hby at_269) (fun T815 h815 v815 P815 Ws815 K815 q815 => ?_)
        have W815 := Ws815 [] all0
        obtain ⟨rfl, rfl⟩ := q815
        refine gof T815 m 282 #[vi i0, vi i1, vi i2, vi i3, vi i4, vi 1, vi 1, vi y530, vi 3, vr b725, vr b730, vr b742, vr r748, vr b749, vr b798, vr gr, vr gr] [(.int 1)] (fun _ kk => XS.aload W815.here hx rfl (hb hby at_272) rfl rfl (XT.acmpNo (g := (mkF m 274 #[vi i0, vi i1, vi i2, vi i3, vi i4, vi 1, vi 1, vi y530, vi 3, vr b725, vr b730, vr b742, vr r748, vr b749, vr b798, vr gr, vr gr] [(.ref gr), (.ref gr)])) W815.here hx rfl (hb hby at_274) (x := (.ref gr)) (y := (.ref gr)) (rest := []) rfl rfl rfl (XT.aa_ne_f (x := (.ref gr)) (y := (.ref gr)) rfl) (XS.iconst W815.here hx rfl (hb hby at_277) (XS.goto W815.here hx rfl (pc0 := 278) (pc' := 282) rfl (hb hby at_278) (by decide +kernel) (by decide +kernel) kk)))) ?_
        exact W815.retI hx hEL hs hlk (by decide +kernel) (by decide +kernel) hret (by simp) rfl (hb hby at_282) (fun S hS => rfl)
set_option maxRecDepth 65536 in
set_option maxHeartbeats 40000000 in
theorem comes_1 {Post : Tables → Env → Array Value → State → Outcome → State → Prop} (hpost : ∀ tb e args s v u, (limb_1_1.after args s (.returned v) u = true ∧ limb_1_2.after args s (.returned v) u = true ∧ True) → FramedW s (.returned v) u (Jvm.fieldLocs frame_1_writes args s ++ Jvm.arrayLocs frame_1_arrays args s ++ Jvm.staticLocs frame_1_statics s) 48 3264 → Post tb e args s (.returned v) u) :
    ArmFor flags0 classFile x code maxLocals ret World_1 tables_1 room_1 Calls_1 rest_1 Pre_1 Post := by
  intro l hfl _ _ p e ha hc hk s m args below hf hA hF happ hP
  obtain ⟨hcalls, hrest, hpre⟩ := hP
  obtain ⟨-, -, -, hnamed, -, -, -, hat⟩ := (Spec.applies_iff hf).mp happ
  obtain ⟨hg, hn⟩ := and_e (Cond.before_iff.mp (show (Jvm.Cond.and given_1 narrow_1).before args s = true from hpre))
  obtain ⟨hy0, hz0⟩ := and_e hg
  obtain ⟨hy1, hz1⟩ := and_e hz0
  obtain ⟨hy2, hz2⟩ := and_e hz1
  obtain ⟨hy3, hz3⟩ := and_e hz2
  obtain ⟨hy4, hz4⟩ := and_e hz3
  obtain ⟨w0, w1, w2, w3, w4, rfl⟩ : ∃ w0 w1 w2 w3 w4 : Value, args = #[w0, w1, w2, w3, w4] := by
    have hs : args.size = 5 := by simpa [Cond.value, given_1] using hy0
    obtain ⟨L⟩ := args
    match L, hs with
    | [w0, w1, w2, w3, w4], _ => exact ⟨w0, w1, w2, w3, w4, rfl⟩
  have hw := fun d (hd : d ∈ tables_1) => atoms_spec (ws := Jvm.Cond.code x code maxLocals ret :: tables_1) hat d (List.mem_cons_of_mem _ hd)
  obtain ⟨hsets, hown0⟩ := atoms_of _ (rest_1_c_eq ▸ (show rest_1_c.before _ s = true from hrest))
  have hfit : Fit s := fun {y c} hc i hi => by
    obtain ⟨ha, rfl⟩ := Array.getElem?_eq_some_iff.mp hc
    have q := List.all_eq_true.mp ((Array.all_eq_true_iff_forall_mem.mp hF) _ (Array.getElem_mem ha)) i (List.mem_range.mpr hi)
    simpa [Array.getElem?_eq_getElem hi] using q
  have nzc := not_v (Cond.before_iff.mp (hsets _ (mI 2 rfl)))
  obtain ⟨i0, ei0⟩ := is_v hy1
  obtain rfl : w0 = (.int i0) := Option.some.inj ei0
  obtain ⟨i1, ei1⟩ := is_v hy2
  obtain rfl : w1 = (.int i1) := Option.some.inj ei1
  obtain ⟨i2, ei2⟩ := is_v hy3
  obtain rfl : w2 = (.int i2) := Option.some.inj ei2
  obtain ⟨i3, ei3⟩ := is_v hy4
  obtain rfl : w3 = (.int i3) := Option.some.inj ei3
  obtain ⟨i4, ei4⟩ := is_v hz4
  obtain rfl : w4 = (.int i4) := Option.some.inj ei4
  obtain ⟨zc, ezc⟩ := is_v (Cond.before_iff.mp (hsets _ (mI 1 rfl)))
  have SC : Sta s s.heap "java/lang/String" "COMPACT_STRINGS" "Z" (.int zc) := Sta.start ezc (Or.inl (hsets _ (mI 0 rfl)))
  obtain ⟨fm, efm, rfm⟩ := isR_v (Cond.before_iff.mp (hsets _ (mI 8 rfl)))
  have SF : Sta s s.heap "jdk/internal/util/Preconditions" "SIOOBE_FORMATTER" "Ljava/util/function/BiFunction;" fm := Sta.start efm (Or.inl (hsets _ (mI 7 rfl)))
  have hzc : ¬ (zc = (0 : Int32)) := gotF (Cond.eq_ints ezc (Term.int_eval (0))) nzc
  have hEL : EW s #[(.int i0), (.int i1), (.int i2), (.int i3), (.int i4)] EL0 := EW.nil
  obtain ⟨nw0, hn⟩ := and_e hn
  have nw1 := hn
  obtain ⟨gr, evgr⟩ := exa_v nw1
  have OG : Sta s s.heap "org/portcullis/acl/Decision" "GRANTED" "Lorg/portcullis/acl/Decision;" (.ref gr) := Sta.start evgr (Or.inr ⟨(hw _ (mI 130 rfl)), (hw _ (mI 260 rfl))⟩)
  obtain ⟨de, evde⟩ := exa_v nw0
  have OE : Sta s s.heap "org/portcullis/acl/Decision" "DENIED" "Lorg/portcullis/acl/Decision;" (.ref de) := Sta.start evde (Or.inr ⟨(hw _ (mI 130 rfl)), (hw _ (mI 131 rfl))⟩)
  obtain ⟨dfl, evd⟩ := arr_v (Cond.before_iff.mp (hsets _ (mI 15 rfl)))
  have OS : Sta s s.heap "java/util/ArrayList" "DEFAULTCAPACITY_EMPTY_ELEMENTDATA" "[Ljava/lang/Object;" (.ref dfl) := Sta.start evd (Or.inr ⟨(hw _ (mI 62 rfl)), (hsets _ (mI 11 rfl))⟩)
  obtain ⟨kdf, OD, -⟩ := arvStart (vs := []) (dv := .null) hfit evd (Cond.before_iff.mp (hsets _ (mI 15 rfl))) (Cond.before_iff.mp (hsets _ (mI 17 rfl))) (by decide) (by decide) (fun c hA => trivial)
  obtain ⟨el, evl⟩ := exa_v (Cond.before_iff.mp (hsets _ (mI 20 rfl)))
  have OL : Sta s s.heap "java/util/ImmutableCollections" "EMPTY_LIST" "Ljava/util/ImmutableCollections$ListN;" (.ref el) := Sta.start evl (Or.inl (hsets _ (mI 19 rfl)))
  obtain ⟨em, evm⟩ := exa_v (Cond.before_iff.mp (hsets _ (mI 27 rfl)))
  have OM : Sta s s.heap "java/util/ImmutableCollections" "EMPTY" "Ljava/lang/Object;" (.ref em) := Sta.start evm (Or.inl (hsets _ (mI 26 rfl)))
  obtain ⟨cmi, kmi, mir, mi1, mi2, mi3⟩ := hcalls.1
  have OI : (Term.mirror "[Ljava/lang/Object;").eval #[(.int i0), (.int i1), (.int i2), (.int i3), (.int i4)] s none [] s = some (.ref mir) := by simp [Term.eval, mi1, mi2, mi3]
  have hCH : CHv s EL0 s.vm s.heap := (fun q hq => nomatch hq)
  obtain ⟨n, o, h1, h2, h3, _, L, rfl, ⟨q1, N, K⟩, -, hq1, hq2, hq3, hq4⟩ := rm0 l s _ hw hEL zc SC hzc fm SF rfm i0 i1 i2 i3 i4 dfl el em mir gr de kdf s.heap (Old.start s) OD OS OL OM OI OG OE p e ha hc hk s m _ below hf ((Spec.applies_iff_loose hf).mp happ).1 ⟨rfl, State.Warmed39.refl s, rfl, hCH, all0⟩ trivial
  cases q1
  refine ⟨n, _, h1, h2, h3, hpost _ _ _ _ _ _ ⟨Cond.after_iff.mpr rfl, Cond.after_iff.mpr (eq_i res_at (Term.int_eval (1)) rfl), trivial⟩ ⟨hq1, hq2, hq3, (hq4.sift fun y hy => Or.inr (N y hy)).mono (by decide +kernel) (by decide +kernel)⟩⟩
theorem main_1_1 : Claimed_1_1 := comes_1 fun _ _ _ _ _ _ h hF => ⟨h.1, hF⟩
theorem main_1_2 : Claimed_1_2 := comes_1 fun _ _ _ _ _ _ h hF => ⟨h.2.1, hF⟩
end Jvm.Pilot.@@N@@
namespace Jvm.Pilot.@@N@@
open Jvm Jvm.ClassFile Sem Op Lib Jvm.Free Jvm.Stand Jvm.Pilot.@@N@@.Jvm.D
/-! MADE BY PROGRAM (witnessworld.py) out of the Statement's table words and the real class files: 45 classes; the members and pool entries that the words name. The judged class is class 1, her method 1. -/
namespace start1
open Jvm.ClassFile
def u (s : String) : CpInfo := .utf8 (stringToUtf16 s)
/-- a pool by its gaps: so many unusable entries, then the entry; so many at the end -/
def gap : Nat → List CpInfo → List CpInfo
  | 0, r => r
  | n + 1, r => .unusable :: gap n r
def poolList (es : List (Nat × CpInfo)) (last : Nat) : List CpInfo := es.foldr (fun e r => gap e.1 (e.2 :: r)) (gap last [])
def pool (es : List (Nat × CpInfo)) (last : Nat) : Array CpInfo := ⟨poolList es last⟩
def fileOf (pool : Array CpInfo) (this : Nat) (attrs : Array Attribute := #[]) (ms : Array MethodInfo := #[]) (fl : Nat := 33) (sup : Nat := 0) (ifs : Array Nat := #[]) (fds : Array FieldInfo := #[]) : ClassFile where
  minorVersion := 0
  majorVersion := 65
  constantPool := pool
  accessFlags := fl
  thisClass := this
  superClass := sup
  interfaces := ifs
  fields := fds
  methods := ms
  attributes := attrs
def plain (name : String) (sup : Option ClassId) : Class where
  name := name
  kind := .ordinary
  loader := none
  accessFlags := 33
  super := sup
  interfaces := #[]
  cf := none
  fields := #[]
  methods := #[]
  instanceTypes := #[]
  staticTypes := #[]
  resolved := #[]
  callSites := []
  init := .initialized
  statics := none
  mirror := none

def pool0 : Array CpInfo := pool [(5, u "<init>"), (0, u "()V"), (1, .class_ 10), (1, u "java/lang/Object"), (0, u "getClass"), (0, u "()Ljava/lang/Class;")] 111

def k0c0 : Code := { maxStack := 0, maxLocals := 1, code := object_method_1_code, exceptionTable := #[], attributes := #[] }
def k0m0 : Method := { name := "<init>", desc := "()V", sig := { parameters := [], returnType := none }, accessFlags := 1, code := some k0c0 }
def k0m1 : Method := { name := "getClass", desc := "()Ljava/lang/Class;", sig := { parameters := [], returnType := some (.object "java/lang/Class") }, accessFlags := 273, code := none }
/-- java/lang/Object -/
def k0 : Class := { plain "java/lang/Object" none with
  accessFlags := 33
  interfaces := #[]
  cf := some (fileOf pool0 8 #[] #[{ accessFlags := 1, nameIndex := 5, descriptorIndex := 6, attributes := #[] }, { accessFlags := 273, nameIndex := 11, descriptorIndex := 12, attributes := #[] }] 33 0 #[] #[])
  fields := #[]
  methods := #[k0m0, k0m1]
  instanceTypes := #[]
  staticTypes := #[]
  resolved := Array.replicate 124 none
  statics := none }

def pool1 : Array CpInfo := pool [(2, .class_ 4), (0, .nameAndType 5 6), (0, u "java/lang/Object"), (0, u "<init>"), (0, u "()V"), (0, .class_ 8), (0, u "org/portcullis/acl/Sid"), (0, .class_ 10), (0, u "java/lang/String"), (0, .methodref 9 12), (0, .nameAndType 5 13), (0, u "([C)V"), (0, .methodref 7 15), (0, .nameAndType 5 16), (0, u "(Ljava/lang/String;Z)V"), (0, .class_ 18), (0, u "org/portcullis/acl/AccessControlEntry"), (0, .methodref 17 20), (0, .nameAndType 5 21), (0, u "(ILorg/portcullis/acl/Sid;IZ)V"), (0, .methodref 9 23), (0, .nameAndType 24 25), (0, u "valueOf"), (0, u "(C)Ljava/lang/String;"), (0, .class_ 27), (0, u "java/util/ArrayList"), (0, .methodref 26 3), (0, .class_ 30), (0, u "org/portcullis/acl/ObjectIdentity"), (0, .string 32), (0, u "a"), (0, .methodref 29 34), (0, .nameAndType 5 35), (0, u "(Ljava/lang/String;Ljava/lang/String;)V"), (0, .methodref 26 37), (0, .nameAndType 38 39), (0, u "add"), (0, u "(Ljava/lang/Object;)Z"), (0, .string 41), (0, u "b"), (0, .string 43), (0, u "c"), (0, .class_ 45), (0, u "org/portcullis/acl/Outcome"), (0, .methodref 44 47), (0, .nameAndType 5 48), (0, u "(Ljava/util/Collection;Lorg/portcullis/acl/AccessControlEntry;)V"), (0, .methodref 44 50), (0, .nameAndType 51 52), (0, u "getDecision"), (0, u "()Lorg/portcullis/acl/Decision;"), (0, .fieldref 54 55), (0, .class_ 56), (0, .nameAndType 57 58), (0, u "org/portcullis/acl/Decision"), (0, u "GRANTED"), (0, u "Lorg/portcullis/acl/Decision;"), (0, .fieldref 54 60), (0, .nameAndType 61 58), (0, u "DENIED"), (0, .class_ 63), (0, u "org/portcullis/acl/OutcomeGetDecisionPinLaw"), (2, u "law"), (0, u "(IIIII)Z")] 5

def k1m0 : Method := { name := "<init>", desc := "()V", sig := { parameters := [], returnType := none }, accessFlags := 1, code := none }
def k1c1 : Code := { maxStack := 6, maxLocals := 17, code := code, exceptionTable := #[], attributes := #[] }
def k1m1 : Method := { name := "law", desc := "(IIIII)Z", sig := { parameters := [.int, .int, .int, .int, .int], returnType := some .boolean }, accessFlags := 9, code := some k1c1 }
/-- org/portcullis/acl/OutcomeGetDecisionPinLaw -/
def k1 : Class := { plain "org/portcullis/acl/OutcomeGetDecisionPinLaw" (some 0) with
  accessFlags := 49
  interfaces := #[]
  cf := some (fileOf pool1 62 #[] #[{ accessFlags := 1, nameIndex := 5, descriptorIndex := 6, attributes := #[] }, { accessFlags := 9, nameIndex := 66, descriptorIndex := 67, attributes := #[] }] 49 2 #[] #[])
  fields := #[]
  methods := #[k1m0, k1m1]
  instanceTypes := #[]
  staticTypes := #[]
  resolved := Array.replicate 73 none
  statics := none }

def pool2 : Array CpInfo := pool [(1, .methodref 2 3), (0, .class_ 4), (0, .nameAndType 5 6), (0, u "java/lang/Object"), (0, u "<init>"), (0, u "()V"), (0, .class_ 8), (0, u "java/lang/Record")] 13

def k2c0 : Code := { maxStack := 1, maxLocals := 1, code := jdk_30_method_1_code, exceptionTable := #[], attributes := #[] }
def k2m0 : Method := { name := "<init>", desc := "()V", sig := { parameters := [], returnType := none }, accessFlags := 4, code := some k2c0 }
/-- java/lang/Record -/
def k2 : Class := { plain "java/lang/Record" (some 0) with
  accessFlags := 1057
  interfaces := #[]
  cf := some (fileOf pool2 7 #[] #[{ accessFlags := 4, nameIndex := 5, descriptorIndex := 6, attributes := #[] }] 1057 2 #[] #[])
  fields := #[]
  methods := #[k2m0]
  instanceTypes := #[]
  staticTypes := #[]
  resolved := Array.replicate 22 none
  statics := none }

def pool3 : Array CpInfo := pool [(1, .methodref 2 3), (0, .class_ 4), (0, .nameAndType 5 6), (0, u "java/lang/Record"), (0, u "<init>"), (0, u "()V"), (7, .fieldref 15 16), (0, .class_ 17), (0, .nameAndType 18 19), (0, u "org/portcullis/acl/Sid"), (0, u "name"), (0, u "Ljava/lang/String;"), (0, .fieldref 15 21), (0, .nameAndType 22 23), (0, u "principal"), (0, u "Z"), (2, u "(Ljava/lang/String;Z)V")] 46

def k3c0 : Code := { maxStack := 3, maxLocals := 3, code := prog_13_method_1_code, exceptionTable := #[], attributes := #[] }
def k3m0 : Method := { name := "<init>", desc := "(Ljava/lang/String;Z)V", sig := { parameters := [(.object "java/lang/String"), .boolean], returnType := none }, accessFlags := 1, code := some k3c0 }
/-- org/portcullis/acl/Sid -/
def k3 : Class := { plain "org/portcullis/acl/Sid" (some 2) with
  accessFlags := 49
  interfaces := #[]
  cf := some (fileOf pool3 15 #[] #[{ accessFlags := 1, nameIndex := 5, descriptorIndex := 26, attributes := #[] }] 49 2 #[] #[{ accessFlags := 18, nameIndex := 18, descriptorIndex := 19, attributes := #[] }, { accessFlags := 18, nameIndex := 22, descriptorIndex := 23, attributes := #[] }])
  fields := #[{ name := "name", type := (.object "java/lang/String"), accessFlags := 18, slot := 0, constantValue := 0 }, { name := "principal", type := .boolean, accessFlags := 18, slot := 1, constantValue := 0 }]
  methods := #[k3m0]
  instanceTypes := #[(.object "java/lang/String"), .boolean]
  staticTypes := #[]
  resolved := Array.replicate 73 none
  statics := none }

def pool4 : Array CpInfo := pool [(1, .class_ 2), (0, u "java/io/Serializable"), (0, .class_ 4), (0, u "java/lang/Object")] 2

/-- java/io/Serializable -/
def k4 : Class := { plain "java/io/Serializable" (some 0) with
  accessFlags := 1537
  interfaces := #[]
  cf := some (fileOf pool4 1 #[] #[] 1537 3 #[] #[])
  fields := #[]
  methods := #[]
  instanceTypes := #[]
  staticTypes := #[]
  resolved := Array.replicate 7 none
  statics := none }

def pool5 : Array CpInfo := pool [(1, .class_ 2), (0, u "java/lang/Comparable"), (0, .class_ 4), (0, u "java/lang/Object")] 7

/-- java/lang/Comparable -/
def k5 : Class := { plain "java/lang/Comparable" (some 0) with
  accessFlags := 1537
  interfaces := #[]
  cf := some (fileOf pool5 1 #[] #[] 1537 3 #[] #[])
  fields := #[]
  methods := #[]
  instanceTypes := #[]
  staticTypes := #[]
  resolved := Array.replicate 12 none
  statics := none }

def pool6 : Array CpInfo := pool [(2, .class_ 4), (1, u "java/lang/CharSequence"), (42, .class_ 48), (0, u "java/lang/CharSequence$1CodePointIterator"), (10, .class_ 60), (0, u "java/lang/CharSequence$1CharIterator"), (5, .class_ 67), (0, u "java/lang/Object")] 63

/-- java/lang/CharSequence -/
def k6 : Class := { plain "java/lang/CharSequence" (some 0) with
  accessFlags := 1537
  interfaces := #[]
  cf := some (fileOf pool6 2 #[.nestMembers #[47, 59]] #[] 1537 66 #[] #[])
  fields := #[]
  methods := #[]
  instanceTypes := #[]
  staticTypes := #[]
  resolved := Array.replicate 131 none
  statics := none }

def pool7 : Array CpInfo := pool [(1, .class_ 2), (0, u "java/lang/constant/Constable"), (0, .class_ 4), (0, u "java/lang/Object")] 6

/-- java/lang/constant/Constable -/
def k7 : Class := { plain "java/lang/constant/Constable" (some 0) with
  accessFlags := 1537
  interfaces := #[]
  cf := some (fileOf pool7 1 #[] #[] 1537 3 #[] #[])
  fields := #[]
  methods := #[]
  instanceTypes := #[]
  staticTypes := #[]
  resolved := Array.replicate 11 none
  statics := none }

def pool8 : Array CpInfo := pool [(1, .class_ 2), (0, u "java/lang/constant/ConstantDesc"), (0, .class_ 4), (0, u "java/lang/Object")] 32

/-- java/lang/constant/ConstantDesc -/
def k8 : Class := { plain "java/lang/constant/ConstantDesc" (some 0) with
  accessFlags := 1537
  interfaces := #[]
  cf := some (fileOf pool8 1 #[] #[] 1537 3 #[] #[])
  fields := #[]
  methods := #[]
  instanceTypes := #[]
  staticTypes := #[]
  resolved := Array.replicate 37 none
  statics := none }

def pool9 : Array CpInfo := pool [(1, .methodref 2 3), (0, .class_ 4), (0, .nameAndType 5 6), (0, u "java/lang/Object"), (0, u "<init>"), (0, u "()V"), (2, .fieldref 10 11), (0, .class_ 12), (0, .nameAndType 13 14), (0, u "java/lang/String"), (0, u "value"), (0, u "[B"), (0, .fieldref 10 16), (0, .nameAndType 17 18), (0, u "coder"), (0, u "B"), (2, u "hash"), (0, u "I"), (2, u "hashIsZero"), (0, u "Z"), (0, .methodref 10 28), (0, .nameAndType 5 29), (0, u "([CIILjava/lang/Void;)V"), (8, .fieldref 10 39), (0, .nameAndType 40 26), (0, u "COMPACT_STRINGS"), (1, .class_ 44), (1, u "java/lang/StringUTF16"), (0, u "compress"), (1, .methodref 42 48), (0, .nameAndType 49 50), (0, u "coderFromArrayLen"), (0, u "([BI)B"), (2, u "toBytes"), (53, .class_ 109), (1, u "java/lang/StringLatin1"), (67, .methodref 42 178), (0, .nameAndType 45 179), (0, u "([CII)[B"), (29, .methodref 10 210), (0, .nameAndType 5 211), (0, u "([BB)V"), (157, u "(C)Z"), (205, .class_ 576), (0, u "java/lang/CharSequence"), (22, u "CASE_INSENSITIVE_ORDER"), (0, u "Ljava/util/Comparator;"), (181, u "valueOf"), (0, u "(C)Ljava/lang/String;"), (226, u "([C)V"), (4, .methodref 107 1016), (0, .nameAndType 1017 369), (0, u "canEncode"), (0, .methodref 107 1019), (0, .nameAndType 53 1020), (0, u "(C)[B"), (80, u "serialPersistentFields"), (0, u "[Ljava/io/ObjectStreamField;"), (0, .class_ 1104), (0, u "java/lang/String$CaseInsensitiveComparator"), (1, .class_ 1107), (0, u "java/io/Serializable"), (0, .class_ 1109), (0, u "java/lang/Comparable"), (0, .class_ 1111), (0, u "java/lang/constant/Constable"), (0, .class_ 1113), (0, u "java/lang/constant/ConstantDesc"), (2, u "serialVersionUID"), (0, u "J"), (3, u "REPL"), (0, u "C"), (2, u "LATIN1"), (1, u "UTF16")] 323

def k9m0 : Method := { name := "<init>", desc := "()V", sig := { parameters := [], returnType := none }, accessFlags := 1, code := none }
def k9c1 : Code := { maxStack := 5, maxLocals := 2, code := jdk_42_method_3_code, exceptionTable := #[], attributes := #[] }
def k9m1 : Method := { name := "<init>", desc := "([C)V", sig := { parameters := [(.array .char)], returnType := none }, accessFlags := 1, code := some k9c1 }
def k9c2 : Code := { maxStack := 4, maxLocals := 1, code := jdk_42_method_139_code, exceptionTable := #[], attributes := #[] }
def k9m2 : Method := { name := "valueOf", desc := "(C)Ljava/lang/String;", sig := { parameters := [.char], returnType := some (.object "java/lang/String") }, accessFlags := 9, code := some k9c2 }
def k9c3 : Code := { maxStack := 4, maxLocals := 6, code := jdk_42_method_149_code, exceptionTable := #[], attributes := #[] }
def k9m3 : Method := { name := "<init>", desc := "([CIILjava/lang/Void;)V", sig := { parameters := [(.array .char), .int, .int, (.object "java/lang/Void")], returnType := none }, accessFlags := 2, code := some k9c3 }
def k9c4 : Code := { maxStack := 2, maxLocals := 3, code := jdk_42_method_151_code, exceptionTable := #[], attributes := #[] }
def k9m4 : Method := { name := "<init>", desc := "([BB)V", sig := { parameters := [(.array .byte), .byte], returnType := none }, accessFlags := 0, code := some k9c4 }
/-- java/lang/String -/
def k9 : Class := { plain "java/lang/String" (some 0) with
  accessFlags := 49
  interfaces := #[4, 5, 6, 7, 8]
  cf := some (fileOf pool9 10 #[.nestMembers #[1103]] #[{ accessFlags := 1, nameIndex := 5, descriptorIndex := 6, attributes := #[] }, { accessFlags := 1, nameIndex := 5, descriptorIndex := 1010, attributes := #[] }, { accessFlags := 9, nameIndex := 782, descriptorIndex := 783, attributes := #[] }, { accessFlags := 2, nameIndex := 5, descriptorIndex := 29, attributes := #[] }, { accessFlags := 0, nameIndex := 5, descriptorIndex := 211, attributes := #[] }] 49 2 #[1106, 1108, 575, 1110, 1112] #[{ accessFlags := 18, nameIndex := 13, descriptorIndex := 14, attributes := #[] }, { accessFlags := 18, nameIndex := 17, descriptorIndex := 18, attributes := #[] }, { accessFlags := 2, nameIndex := 21, descriptorIndex := 22, attributes := #[] }, { accessFlags := 2, nameIndex := 25, descriptorIndex := 26, attributes := #[] }, { accessFlags := 26, nameIndex := 1116, descriptorIndex := 1117, attributes := #[] }, { accessFlags := 24, nameIndex := 40, descriptorIndex := 26, attributes := #[] }, { accessFlags := 26, nameIndex := 1101, descriptorIndex := 1102, attributes := #[] }, { accessFlags := 26, nameIndex := 1121, descriptorIndex := 1122, attributes := #[] }, { accessFlags := 25, nameIndex := 599, descriptorIndex := 600, attributes := #[] }, { accessFlags := 24, nameIndex := 1125, descriptorIndex := 18, attributes := #[] }, { accessFlags := 24, nameIndex := 1127, descriptorIndex := 18, attributes := #[] }])
  fields := #[{ name := "value", type := (.array .byte), accessFlags := 18, slot := 0, constantValue := 0 }, { name := "coder", type := .byte, accessFlags := 18, slot := 1, constantValue := 0 }, { name := "hash", type := .int, accessFlags := 2, slot := 2, constantValue := 0 }, { name := "hashIsZero", type := .boolean, accessFlags := 2, slot := 3, constantValue := 0 }, { name := "serialVersionUID", type := .long, accessFlags := 26, slot := 0, constantValue := 0 }, { name := "COMPACT_STRINGS", type := .boolean, accessFlags := 24, slot := 1, constantValue := 0 }, { name := "serialPersistentFields", type := (.array (.object "java/io/ObjectStreamField")), accessFlags := 26, slot := 2, constantValue := 0 }, { name := "REPL", type := .char, accessFlags := 26, slot := 3, constantValue := 0 }, { name := "CASE_INSENSITIVE_ORDER", type := (.object "java/util/Comparator"), accessFlags := 25, slot := 4, constantValue := 0 }, { name := "LATIN1", type := .byte, accessFlags := 24, slot := 5, constantValue := 0 }, { name := "UTF16", type := .byte, accessFlags := 24, slot := 6, constantValue := 0 }]
  methods := #[k9m0, k9m1, k9m2, k9m3, k9m4]
  instanceTypes := #[(.array .byte), .byte, .int, .boolean]
  staticTypes := #[.long, .boolean, (.array (.object "java/io/ObjectStreamField")), .char, (.object "java/util/Comparator"), .byte, .byte]
  resolved := Array.replicate 1451 none
  statics := some 0 }

def pool10 : Array CpInfo := pool [(6, .class_ 8), (1, u "java/lang/Object"), (0, u "<init>"), (0, u "()V"), (1, .class_ 14), (1, u "java/lang/StringUTF16"), (31, u "$assertionsDisabled"), (0, u "Z"), (13, u "HI_BYTE_SHIFT"), (0, u "I"), (2, u "LO_BYTE_SHIFT"), (49, .methodref 12 116), (0, .nameAndType 117 118), (0, u "compress"), (0, u "([CI[BII)I"), (3, u "([CII)[B"), (138, u "coderFromArrayLen"), (0, u "([BI)B"), (106, .class_ 371), (1, u "java/lang/StringUTF16$LinesSpliterator"), (58, u "MAX_LENGTH"), (196, .class_ 628), (0, u "java/lang/StringUTF16$CodePointsSpliterator"), (0, .class_ 630), (0, u "java/lang/StringUTF16$CharsSpliterator")] 4

def k10m0 : Method := { name := "<init>", desc := "()V", sig := { parameters := [], returnType := none }, accessFlags := 0, code := none }
def k10c1 : Code := { maxStack := 2, maxLocals := 2, code := jdk_52_method_15_code, exceptionTable := #[], attributes := #[] }
def k10m1 : Method := { name := "coderFromArrayLen", desc := "([BI)B", sig := { parameters := [(.array .byte), .int], returnType := some .byte }, accessFlags := 8, code := some k10c1 }
def k10c2 : Code := { maxStack := 5, maxLocals := 6, code := jdk_52_method_16_code, exceptionTable := #[], attributes := #[] }
def k10m2 : Method := { name := "compress", desc := "([CII)[B", sig := { parameters := [(.array .char), .int, .int], returnType := some (.array .byte) }, accessFlags := 9, code := some k10c2 }
def k10c3 : Code := { maxStack := 3, maxLocals := 7, code := jdk_52_method_21_code, exceptionTable := #[], attributes := #[] }
def k10m3 : Method := { name := "compress", desc := "([CI[BII)I", sig := { parameters := [(.array .char), .int, (.array .byte), .int, .int], returnType := some .int }, accessFlags := 9, code := some k10c3 }
/-- java/lang/StringUTF16 -/
def k10 : Class := { plain "java/lang/StringUTF16" (some 0) with
  accessFlags := 48
  interfaces := #[]
  cf := some (fileOf pool10 12 #[.nestMembers #[627, 629, 369]] #[{ accessFlags := 0, nameIndex := 9, descriptorIndex := 10, attributes := #[] }, { accessFlags := 8, nameIndex := 261, descriptorIndex := 262, attributes := #[] }, { accessFlags := 9, nameIndex := 117, descriptorIndex := 122, attributes := #[] }, { accessFlags := 9, nameIndex := 117, descriptorIndex := 118, attributes := #[] }] 48 6 #[] #[{ accessFlags := 26, nameIndex := 61, descriptorIndex := 62, attributes := #[] }, { accessFlags := 26, nameIndex := 65, descriptorIndex := 62, attributes := #[] }, { accessFlags := 24, nameIndex := 430, descriptorIndex := 62, attributes := #[] }, { accessFlags := 4120, nameIndex := 46, descriptorIndex := 47, attributes := #[] }])
  fields := #[{ name := "HI_BYTE_SHIFT", type := .int, accessFlags := 26, slot := 0, constantValue := 0 }, { name := "LO_BYTE_SHIFT", type := .int, accessFlags := 26, slot := 1, constantValue := 0 }, { name := "MAX_LENGTH", type := .int, accessFlags := 24, slot := 2, constantValue := 0 }, { name := "$assertionsDisabled", type := .boolean, accessFlags := 4120, slot := 3, constantValue := 0 }]
  methods := #[k10m0, k10m1, k10m2, k10m3]
  instanceTypes := #[]
  staticTypes := #[.int, .int, .int, .boolean]
  resolved := Array.replicate 635 none
  statics := none }

def pool11 : Array CpInfo := pool [(4, .class_ 6), (1, u "java/lang/Object"), (0, u "<init>"), (0, u "()V"), (5, .class_ 16), (1, u "java/lang/StringLatin1"), (73, u "canEncode"), (14, u "(C)Z"), (15, u "$assertionsDisabled"), (0, u "Z"), (98, .class_ 223), (1, u "java/lang/StringLatin1$LinesSpliterator"), (156, u "toBytes"), (1, u "(C)[B"), (7, .class_ 391), (0, u "java/lang/StringLatin1$CharsSpliterator")] 3

def k11m0 : Method := { name := "<init>", desc := "()V", sig := { parameters := [], returnType := none }, accessFlags := 0, code := none }
def k11c1 : Code := { maxStack := 2, maxLocals := 1, code := jdk_43_method_3_code, exceptionTable := #[], attributes := #[] }
def k11m1 : Method := { name := "canEncode", desc := "(C)Z", sig := { parameters := [.char], returnType := some .boolean }, accessFlags := 9, code := some k11c1 }
def k11c2 : Code := { maxStack := 4, maxLocals := 1, code := jdk_43_method_46_code, exceptionTable := #[], attributes := #[] }
def k11m2 : Method := { name := "toBytes", desc := "(C)[B", sig := { parameters := [.char], returnType := some (.array .byte) }, accessFlags := 9, code := some k11c2 }
/-- java/lang/StringLatin1 -/
def k11 : Class := { plain "java/lang/StringLatin1" (some 0) with
  accessFlags := 48
  interfaces := #[]
  cf := some (fileOf pool11 14 #[.nestMembers #[390, 221]] #[{ accessFlags := 0, nameIndex := 7, descriptorIndex := 8, attributes := #[] }, { accessFlags := 9, nameIndex := 90, descriptorIndex := 105, attributes := #[] }, { accessFlags := 9, nameIndex := 380, descriptorIndex := 382, attributes := #[] }] 48 4 #[] #[{ accessFlags := 4120, nameIndex := 121, descriptorIndex := 122, attributes := #[] }])
  fields := #[{ name := "$assertionsDisabled", type := .boolean, accessFlags := 4120, slot := 0, constantValue := 0 }]
  methods := #[k11m0, k11m1, k11m2]
  instanceTypes := #[]
  staticTypes := #[.boolean]
  resolved := Array.replicate 395 none
  statics := none }

def pool12 : Array CpInfo := pool [(8, .class_ 10), (1, u "java/lang/Iterable"), (24, .class_ 36), (0, u "java/lang/Object")] 25

/-- java/lang/Iterable -/
def k12 : Class := { plain "java/lang/Iterable" (some 0) with
  accessFlags := 1537
  interfaces := #[]
  cf := some (fileOf pool12 8 #[] #[] 1537 35 #[] #[])
  fields := #[]
  methods := #[]
  instanceTypes := #[]
  staticTypes := #[]
  resolved := Array.replicate 62 none
  statics := none }

def pool13 : Array CpInfo := pool [(10, .class_ 12), (1, u "java/util/Collection"), (0, u "toArray"), (16, u "()Z"), (29, .class_ 61), (0, u "java/lang/Object"), (0, .class_ 63), (0, u "java/lang/Iterable"), (2, u "isEmpty"), (3, u "()[Ljava/lang/Object;")] 44

def k13m0 : Method := { name := "isEmpty", desc := "()Z", sig := { parameters := [], returnType := some .boolean }, accessFlags := 1025, code := none }
def k13m1 : Method := { name := "toArray", desc := "()[Ljava/lang/Object;", sig := { parameters := [], returnType := some (.array (.object "java/lang/Object")) }, accessFlags := 1025, code := none }
/-- java/util/Collection -/
def k13 : Class := { plain "java/util/Collection" (some 0) with
  accessFlags := 1537
  interfaces := #[12]
  cf := some (fileOf pool13 10 #[] #[{ accessFlags := 1025, nameIndex := 66, descriptorIndex := 30, attributes := #[] }, { accessFlags := 1025, nameIndex := 13, descriptorIndex := 70, attributes := #[] }] 1537 60 #[62] #[])
  fields := #[]
  methods := #[k13m0, k13m1]
  instanceTypes := #[]
  staticTypes := #[]
  resolved := Array.replicate 115 none
  statics := none }

def pool14 : Array CpInfo := pool [(1, .methodref 2 3), (0, .class_ 4), (0, .nameAndType 5 6), (0, u "java/lang/Object"), (0, u "<init>"), (0, u "()V"), (1, .class_ 10), (1, u "java/util/AbstractCollection"), (66, .class_ 78), (0, u "java/util/Collection")] 81

def k14c0 : Code := { maxStack := 1, maxLocals := 1, code := jdk_22_method_1_code, exceptionTable := #[], attributes := #[] }
def k14m0 : Method := { name := "<init>", desc := "()V", sig := { parameters := [], returnType := none }, accessFlags := 4, code := some k14c0 }
/-- java/util/AbstractCollection -/
def k14 : Class := { plain "java/util/AbstractCollection" (some 0) with
  accessFlags := 1057
  interfaces := #[13]
  cf := some (fileOf pool14 8 #[] #[{ accessFlags := 4, nameIndex := 5, descriptorIndex := 6, attributes := #[] }] 1057 2 #[77] #[])
  fields := #[]
  methods := #[k14m0]
  instanceTypes := #[]
  staticTypes := #[]
  resolved := Array.replicate 160 none
  statics := none }

def pool15 : Array CpInfo := pool [(8, .class_ 10), (1, u "java/util/SequencedCollection"), (15, .class_ 27), (0, u "java/lang/Object"), (0, .class_ 29), (0, u "java/util/Collection")] 27

/-- java/util/SequencedCollection -/
def k15 : Class := { plain "java/util/SequencedCollection" (some 0) with
  accessFlags := 1537
  interfaces := #[13]
  cf := some (fileOf pool15 8 #[] #[] 1537 26 #[28] #[])
  fields := #[]
  methods := #[]
  instanceTypes := #[]
  staticTypes := #[]
  resolved := Array.replicate 57 none
  statics := none }

def pool16 : Array CpInfo := pool [(8, .class_ 10), (1, u "java/util/List"), (20, u "(Ljava/lang/Object;)V"), (16, u "<init>"), (39, u "of"), (1, .fieldref 91 92), (0, .class_ 93), (0, .nameAndType 94 95), (0, u "java/util/ImmutableCollections"), (0, u "EMPTY_LIST"), (0, u "Ljava/util/ImmutableCollections$ListN;"), (0, .class_ 97), (0, u "java/util/ImmutableCollections$List12"), (0, .methodref 96 99), (0, .nameAndType 48 31), (0, .methodref 96 101), (0, .nameAndType 48 102), (0, u "(Ljava/lang/Object;Ljava/lang/Object;)V"), (0, .class_ 104), (0, u "java/lang/Object"), (3, u "([Ljava/lang/Object;)Ljava/util/List;"), (0, .methodref 91 110), (0, .nameAndType 111 108), (0, u "listFromArray"), (0, .methodref 91 113), (0, .nameAndType 114 115), (0, u "listCopy"), (0, u "(Ljava/util/Collection;)Ljava/util/List;"), (3, u "()Ljava/util/List;"), (0, .class_ 121), (0, u "java/util/SequencedCollection"), (112, u "copyOf")] 16

def k16c0 : Code := { maxStack := 1, maxLocals := 0, code := jdk_40_method_36_code, exceptionTable := #[], attributes := #[] }
def k16m0 : Method := { name := "of", desc := "()Ljava/util/List;", sig := { parameters := [], returnType := some (.object "java/util/List") }, accessFlags := 9, code := some k16c0 }
def k16c1 : Code := { maxStack := 5, maxLocals := 2, code := jdk_40_method_47_code, exceptionTable := #[], attributes := #[] }
def k16m1 : Method := { name := "of", desc := "([Ljava/lang/Object;)Ljava/util/List;", sig := { parameters := [(.array (.object "java/lang/Object"))], returnType := some (.object "java/util/List") }, accessFlags := 137, code := some k16c1 }
def k16c2 : Code := { maxStack := 1, maxLocals := 1, code := jdk_40_method_48_code, exceptionTable := #[], attributes := #[] }
def k16m2 : Method := { name := "copyOf", desc := "(Ljava/util/Collection;)Ljava/util/List;", sig := { parameters := [(.object "java/util/Collection")], returnType := some (.object "java/util/List") }, accessFlags := 9, code := some k16c2 }
/-- java/util/List -/
def k16 : Class := { plain "java/util/List" (some 0) with
  accessFlags := 1537
  interfaces := #[15]
  cf := some (fileOf pool16 8 #[] #[{ accessFlags := 9, nameIndex := 88, descriptorIndex := 119, attributes := #[] }, { accessFlags := 137, nameIndex := 88, descriptorIndex := 108, attributes := #[] }, { accessFlags := 9, nameIndex := 234, descriptorIndex := 115, attributes := #[] }] 1537 103 #[120] #[])
  fields := #[]
  methods := #[k16m0, k16m1, k16m2]
  instanceTypes := #[]
  staticTypes := #[]
  resolved := Array.replicate 251 none
  statics := none }

def pool17 : Array CpInfo := pool [(1, .methodref 2 3), (0, .class_ 4), (0, .nameAndType 5 6), (0, u "java/util/AbstractCollection"), (0, u "<init>"), (0, u "()V"), (0, .fieldref 8 9), (0, .class_ 10), (0, .nameAndType 11 12), (0, u "java/util/AbstractList"), (0, u "modCount"), (0, u "I"), (64, .class_ 78), (0, u "java/util/AbstractList$Itr"), (3, .class_ 83), (0, u "java/util/AbstractList$ListItr"), (9, .class_ 94), (0, u "java/util/AbstractList$RandomAccessSubList"), (3, .class_ 99), (0, u "java/util/AbstractList$SubList"), (33, .class_ 134), (0, u "java/util/List"), (73, .class_ 209), (0, u "java/util/AbstractList$SubList$1"), (0, .class_ 211), (0, u "java/util/AbstractList$RandomAccessSpliterator")] 6

def k17c0 : Code := { maxStack := 2, maxLocals := 1, code := jdk_39_method_1_code, exceptionTable := #[], attributes := #[] }
def k17m0 : Method := { name := "<init>", desc := "()V", sig := { parameters := [], returnType := none }, accessFlags := 4, code := some k17c0 }
/-- java/util/AbstractList -/
def k17 : Class := { plain "java/util/AbstractList" (some 14) with
  accessFlags := 1057
  interfaces := #[16]
  cf := some (fileOf pool17 8 #[.nestMembers #[93, 98, 208, 210, 82, 77]] #[{ accessFlags := 4, nameIndex := 5, descriptorIndex := 6, attributes := #[] }] 1057 2 #[133] #[{ accessFlags := 132, nameIndex := 11, descriptorIndex := 12, attributes := #[] }])
  fields := #[{ name := "modCount", type := .int, accessFlags := 132, slot := 0, constantValue := 0 }]
  methods := #[k17m0]
  instanceTypes := #[.int]
  staticTypes := #[]
  resolved := Array.replicate 218 none
  statics := none }

def pool18 : Array CpInfo := pool [(1, .class_ 2), (0, u "java/util/RandomAccess"), (0, .class_ 4), (0, u "java/lang/Object")] 2

/-- java/util/RandomAccess -/
def k18 : Class := { plain "java/util/RandomAccess" (some 0) with
  accessFlags := 1537
  interfaces := #[]
  cf := some (fileOf pool18 1 #[] #[] 1537 3 #[] #[])
  fields := #[]
  methods := #[]
  instanceTypes := #[]
  staticTypes := #[]
  resolved := Array.replicate 7 none
  statics := none }

def pool19 : Array CpInfo := pool [(1, .class_ 2), (0, u "java/lang/Cloneable"), (0, .class_ 4), (0, u "java/lang/Object")] 2

/-- java/lang/Cloneable -/
def k19 : Class := { plain "java/lang/Cloneable" (some 0) with
  accessFlags := 1537
  interfaces := #[]
  cf := some (fileOf pool19 1 #[] #[] 1537 3 #[] #[])
  fields := #[]
  methods := #[]
  instanceTypes := #[]
  staticTypes := #[]
  resolved := Array.replicate 7 none
  statics := none }

def pool20 : Array CpInfo := pool [(1, .methodref 2 3), (0, .class_ 4), (0, .nameAndType 5 6), (0, u "java/util/AbstractList"), (0, u "<init>"), (0, u "()V"), (0, .class_ 8), (0, u "java/lang/Object"), (0, .fieldref 10 11), (0, .class_ 12), (0, .nameAndType 13 14), (0, u "java/util/ArrayList"), (0, u "elementData"), (0, u "[Ljava/lang/Object;"), (2, u "EMPTY_ELEMENTDATA"), (21, .fieldref 10 40), (0, .nameAndType 41 14), (0, u "DEFAULTCAPACITY_EMPTY_ELEMENTDATA"), (4, u "toArray"), (0, u "()[Ljava/lang/Object;"), (0, .fieldref 10 49), (0, .nameAndType 50 51), (0, u "size"), (0, u "I"), (6, .class_ 60), (1, u "java/util/Arrays"), (0, u "copyOf"), (1, .fieldref 10 64), (0, .nameAndType 65 51), (0, u "modCount"), (0, .methodref 58 67), (0, .nameAndType 61 68), (0, u "([Ljava/lang/Object;I)[Ljava/lang/Object;"), (0, .methodref 10 70), (0, .nameAndType 71 72), (0, u "grow"), (0, u "(I)[Ljava/lang/Object;"), (6, .methodref 80 81), (0, .class_ 82), (0, .nameAndType 83 84), (0, u "java/lang/Math"), (0, u "max"), (0, u "(II)I"), (11, u "(Ljava/lang/Object;)Z"), (32, .methodref 10 130), (0, .nameAndType 71 47), (0, .methodref 10 132), (0, .nameAndType 133 134), (0, u "add"), (0, u "(Ljava/lang/Object;[Ljava/lang/Object;I)V"), (13, .class_ 149), (0, u "java/util/List"), (23, u "()Z"), (88, .class_ 263), (0, u "java/util/ArrayList$ListItr"), (3, .class_ 268), (0, u "java/util/ArrayList$Itr"), (7, .class_ 277), (0, u "java/util/ArrayList$SubList"), (12, .class_ 291), (0, u "java/util/ArrayList$ArrayListSpliterator"), (37, .class_ 330), (0, u "java/util/RandomAccess"), (0, .class_ 332), (0, u "java/lang/Cloneable"), (0, .class_ 334), (0, u "java/io/Serializable"), (0, u "serialVersionUID"), (0, u "J"), (3, u "DEFAULT_CAPACITY"), (22, u "isEmpty"), (136, .class_ 501), (0, u "java/util/ArrayList$SubList$2"), (0, .class_ 503), (0, u "java/util/ArrayList$SubList$1")] 5

def k20c0 : Code := { maxStack := 2, maxLocals := 1, code := jdk_38_method_2_code, exceptionTable := #[], attributes := #[] }
def k20m0 : Method := { name := "<init>", desc := "()V", sig := { parameters := [], returnType := none }, accessFlags := 1, code := some k20c0 }
def k20c1 : Code := { maxStack := 4, maxLocals := 4, code := jdk_38_method_6_code, exceptionTable := #[], attributes := #[] }
def k20m1 : Method := { name := "grow", desc := "(I)[Ljava/lang/Object;", sig := { parameters := [.int], returnType := some (.array (.object "java/lang/Object")) }, accessFlags := 2, code := some k20c1 }
def k20c2 : Code := { maxStack := 3, maxLocals := 1, code := jdk_38_method_7_code, exceptionTable := #[], attributes := #[] }
def k20m2 : Method := { name := "grow", desc := "()[Ljava/lang/Object;", sig := { parameters := [], returnType := some (.array (.object "java/lang/Object")) }, accessFlags := 2, code := some k20c2 }
def k20c3 : Code := { maxStack := 1, maxLocals := 1, code := jdk_38_method_9_code, exceptionTable := #[], attributes := #[] }
def k20m3 : Method := { name := "isEmpty", desc := "()Z", sig := { parameters := [], returnType := some .boolean }, accessFlags := 1, code := some k20c3 }
def k20c4 : Code := { maxStack := 2, maxLocals := 1, code := jdk_38_method_16_code, exceptionTable := #[], attributes := #[] }
def k20m4 : Method := { name := "toArray", desc := "()[Ljava/lang/Object;", sig := { parameters := [], returnType := some (.array (.object "java/lang/Object")) }, accessFlags := 1, code := some k20c4 }
def k20c5 : Code := { maxStack := 3, maxLocals := 4, code := jdk_38_method_24_code, exceptionTable := #[], attributes := #[] }
def k20m5 : Method := { name := "add", desc := "(Ljava/lang/Object;[Ljava/lang/Object;I)V", sig := { parameters := [(.object "java/lang/Object"), (.array (.object "java/lang/Object")), .int], returnType := none }, accessFlags := 2, code := some k20c5 }
def k20c6 : Code := { maxStack := 4, maxLocals := 2, code := jdk_38_method_25_code, exceptionTable := #[], attributes := #[] }
def k20m6 : Method := { name := "add", desc := "(Ljava/lang/Object;)Z", sig := { parameters := [(.object "java/lang/Object")], returnType := some .boolean }, accessFlags := 1, code := some k20c6 }
/-- java/util/ArrayList -/
def k20 : Class := { plain "java/util/ArrayList" (some 17) with
  accessFlags := 33
  interfaces := #[16, 18, 19, 4]
  cf := some (fileOf pool20 10 #[.nestMembers #[290, 276, 500, 502, 262, 267]] #[{ accessFlags := 1, nameIndex := 5, descriptorIndex := 6, attributes := #[] }, { accessFlags := 2, nameIndex := 71, descriptorIndex := 72, attributes := #[] }, { accessFlags := 2, nameIndex := 71, descriptorIndex := 47, attributes := #[] }, { accessFlags := 1, nameIndex := 363, descriptorIndex := 173, attributes := #[] }, { accessFlags := 1, nameIndex := 46, descriptorIndex := 47, attributes := #[] }, { accessFlags := 2, nameIndex := 133, descriptorIndex := 134, attributes := #[] }, { accessFlags := 1, nameIndex := 133, descriptorIndex := 96, attributes := #[] }] 33 2 #[148, 329, 331, 333] #[{ accessFlags := 26, nameIndex := 335, descriptorIndex := 336, attributes := #[] }, { accessFlags := 26, nameIndex := 340, descriptorIndex := 51, attributes := #[] }, { accessFlags := 26, nameIndex := 17, descriptorIndex := 14, attributes := #[] }, { accessFlags := 26, nameIndex := 41, descriptorIndex := 14, attributes := #[] }, { accessFlags := 128, nameIndex := 13, descriptorIndex := 14, attributes := #[] }, { accessFlags := 2, nameIndex := 50, descriptorIndex := 51, attributes := #[] }])
  fields := #[{ name := "serialVersionUID", type := .long, accessFlags := 26, slot := 0, constantValue := 0 }, { name := "DEFAULT_CAPACITY", type := .int, accessFlags := 26, slot := 1, constantValue := 0 }, { name := "EMPTY_ELEMENTDATA", type := (.array (.object "java/lang/Object")), accessFlags := 26, slot := 2, constantValue := 0 }, { name := "DEFAULTCAPACITY_EMPTY_ELEMENTDATA", type := (.array (.object "java/lang/Object")), accessFlags := 26, slot := 3, constantValue := 0 }, { name := "elementData", type := (.array (.object "java/lang/Object")), accessFlags := 128, slot := 1, constantValue := 0 }, { name := "size", type := .int, accessFlags := 2, slot := 2, constantValue := 0 }]
  methods := #[k20m0, k20m1, k20m2, k20m3, k20m4, k20m5, k20m6]
  instanceTypes := #[.int, (.array (.object "java/lang/Object")), .int]
  staticTypes := #[.long, .int, (.array (.object "java/lang/Object")), (.array (.object "java/lang/Object"))]
  resolved := Array.replicate 509 none
  statics := some 1 }

def pool21 : Array CpInfo := pool [(1, .methodref 2 3), (0, .class_ 4), (0, .nameAndType 5 6), (0, u "java/lang/Object"), (0, u "<init>"), (0, u "()V"), (0, .interfaceMethodref 8 9), (0, .class_ 10), (0, .nameAndType 11 12), (0, u "java/util/List"), (0, u "copyOf"), (0, u "(Ljava/util/Collection;)Ljava/util/List;"), (0, .fieldref 14 15), (0, .class_ 16), (0, .nameAndType 17 18), (0, u "org/portcullis/acl/Outcome"), (0, u "iLevels"), (0, u "Ljava/util/List;"), (0, .fieldref 14 20), (0, .nameAndType 21 22), (0, u "iEntry"), (0, u "Lorg/portcullis/acl/AccessControlEntry;"), (0, .methodref 24 25), (0, .class_ 26), (0, .nameAndType 27 28), (0, u "org/portcullis/acl/AccessControlEntry"), (0, u "granting"), (0, u "()Z"), (0, .fieldref 30 31), (0, .class_ 32), (0, .nameAndType 33 34), (0, u "org/portcullis/acl/Decision"), (0, u "GRANTED"), (0, u "Lorg/portcullis/acl/Decision;"), (0, .fieldref 30 36), (0, .nameAndType 37 34), (0, u "DENIED"), (8, u "(Ljava/util/Collection;Lorg/portcullis/acl/AccessControlEntry;)V"), (3, u "getDecision"), (0, u "()Lorg/portcullis/acl/Decision;")] 9

def k21c0 : Code := { maxStack := 2, maxLocals := 3, code := prog_10_method_1_code, exceptionTable := #[], attributes := #[] }
def k21m0 : Method := { name := "<init>", desc := "(Ljava/util/Collection;Lorg/portcullis/acl/AccessControlEntry;)V", sig := { parameters := [(.object "java/util/Collection"), (.object "org/portcullis/acl/AccessControlEntry")], returnType := none }, accessFlags := 0, code := some k21c0 }
def k21c1 : Code := { maxStack := 1, maxLocals := 1, code := prog_10_method_2_code, exceptionTable := #[], attributes := #[] }
def k21m1 : Method := { name := "getDecision", desc := "()Lorg/portcullis/acl/Decision;", sig := { parameters := [], returnType := some (.object "org/portcullis/acl/Decision") }, accessFlags := 1, code := some k21c1 }
/-- org/portcullis/acl/Outcome -/
def k21 : Class := { plain "org/portcullis/acl/Outcome" (some 0) with
  accessFlags := 49
  interfaces := #[]
  cf := some (fileOf pool21 14 #[] #[{ accessFlags := 0, nameIndex := 5, descriptorIndex := 46, attributes := #[] }, { accessFlags := 1, nameIndex := 50, descriptorIndex := 51, attributes := #[] }] 49 2 #[] #[{ accessFlags := 18, nameIndex := 17, descriptorIndex := 18, attributes := #[] }, { accessFlags := 18, nameIndex := 21, descriptorIndex := 22, attributes := #[] }])
  fields := #[{ name := "iLevels", type := (.object "java/util/List"), accessFlags := 18, slot := 0, constantValue := 0 }, { name := "iEntry", type := (.object "org/portcullis/acl/AccessControlEntry"), accessFlags := 18, slot := 1, constantValue := 0 }]
  methods := #[k21m0, k21m1]
  instanceTypes := #[(.object "java/util/List"), (.object "org/portcullis/acl/AccessControlEntry")]
  staticTypes := #[]
  resolved := Array.replicate 61 none
  statics := none }

def pool22 : Array CpInfo := pool [(2, .class_ 4), (1, u "java/lang/Object"), (0, u "<init>"), (0, u "()V"), (3, .class_ 11), (0, u "java/util/ImmutableCollections$List12"), (0, .class_ 13), (0, u "java/util/ImmutableCollections$ListN"), (3, u "Z"), (0, .class_ 19), (0, u "java/util/List"), (0, .interfaceMethodref 21 22), (0, .class_ 23), (0, .nameAndType 24 25), (0, u "java/util/Collection"), (0, u "isEmpty"), (0, u "()Z"), (0, .interfaceMethodref 18 27), (0, .nameAndType 28 29), (0, u "of"), (0, u "()Ljava/util/List;"), (0, .interfaceMethodref 21 31), (0, .nameAndType 32 33), (0, u "toArray"), (0, u "()[Ljava/lang/Object;"), (0, .interfaceMethodref 18 35), (0, .nameAndType 28 36), (0, u "([Ljava/lang/Object;)Ljava/util/List;"), (0, .methodref 38 39), (0, .class_ 40), (0, .nameAndType 41 42), (0, u "java/util/Objects"), (0, u "requireNonNull"), (0, u "(Ljava/lang/Object;)Ljava/lang/Object;"), (0, .methodref 12 44), (0, .nameAndType 5 45), (0, u "([Ljava/lang/Object;Z)V"), (1, .class_ 49), (1, u "java/util/ImmutableCollections"), (0, u "$assertionsDisabled"), (5, u "[Ljava/lang/Object;"), (5, u "EMPTY_LIST"), (0, u "Ljava/util/ImmutableCollections$ListN;"), (8, u "EMPTY_LIST_NULLS"), (22, u "SALT32L"), (0, u "J"), (2, u "REVERSE"), (6, u "archivedObjects"), (2, u "EMPTY"), (0, u "Ljava/lang/Object;"), (0, .class_ 112), (0, u "java/util/ImmutableCollections$SetN"), (5, u "EMPTY_SET"), (0, u "Ljava/util/ImmutableCollections$SetN;"), (0, .class_ 121), (0, u "java/util/ImmutableCollections$MapN"), (3, u "EMPTY_MAP"), (0, u "Ljava/util/ImmutableCollections$MapN;"), (4, u "EXPAND_FACTOR"), (0, u "I"), (9, u "listCopy"), (0, u "(Ljava/util/Collection;)Ljava/util/List;"), (7, u "listFromArray"), (17, .class_ 170), (0, u "java/util/ImmutableCollections$MapN$MapNIterator"), (0, .class_ 172), (0, u "java/util/ImmutableCollections$MapN$1"), (0, .class_ 174), (0, u "java/util/ImmutableCollections$Map1"), (0, .class_ 176), (0, u "java/util/ImmutableCollections$AbstractImmutableMap"), (0, .class_ 178), (0, u "java/util/ImmutableCollections$SetN$SetNIterator"), (0, .class_ 180), (0, u "java/util/ImmutableCollections$Set12"), (0, .class_ 182), (0, u "java/util/ImmutableCollections$Set12$1"), (0, .class_ 184), (0, u "java/util/ImmutableCollections$AbstractImmutableSet"), (0, .class_ 186), (0, u "java/util/ImmutableCollections$SubList"), (0, .class_ 188), (0, u "java/util/ImmutableCollections$ListItr"), (0, .class_ 190), (0, u "java/util/ImmutableCollections$AbstractImmutableList"), (0, .class_ 192), (0, u "java/util/ImmutableCollections$AbstractImmutableCollection"), (0, .class_ 194), (0, u "java/util/ImmutableCollections$Access"), (0, .class_ 196), (0, u "java/util/ImmutableCollections$Access$1")] 16

def k22m0 : Method := { name := "<init>", desc := "()V", sig := { parameters := [], returnType := none }, accessFlags := 2, code := none }
def k22c1 : Code := { maxStack := 1, maxLocals := 2, code := jdk_56_method_3_code, exceptionTable := #[], attributes := #[] }
def k22m1 : Method := { name := "listCopy", desc := "(Ljava/util/Collection;)Ljava/util/List;", sig := { parameters := [(.object "java/util/Collection")], returnType := some (.object "java/util/List") }, accessFlags := 8, code := some k22c1 }
def k22c2 : Code := { maxStack := 4, maxLocals := 3, code := jdk_56_method_4_code, exceptionTable := #[], attributes := #[] }
def k22m2 : Method := { name := "listFromArray", desc := "([Ljava/lang/Object;)Ljava/util/List;", sig := { parameters := [(.array (.object "java/lang/Object"))], returnType := some (.object "java/util/List") }, accessFlags := 136, code := some k22c2 }
/-- java/util/ImmutableCollections -/
def k22 : Class := { plain "java/util/ImmutableCollections" (some 0) with
  accessFlags := 32
  interfaces := #[]
  cf := some (fileOf pool22 47 #[.nestMembers #[120, 169, 171, 173, 175, 111, 177, 179, 181, 183, 12, 10, 185, 187, 189, 191, 193, 195]] #[{ accessFlags := 2, nameIndex := 5, descriptorIndex := 6, attributes := #[] }, { accessFlags := 8, nameIndex := 142, descriptorIndex := 143, attributes := #[] }, { accessFlags := 136, nameIndex := 151, descriptorIndex := 36, attributes := #[] }] 32 2 #[] #[{ accessFlags := 26, nameIndex := 95, descriptorIndex := 96, attributes := #[] }, { accessFlags := 26, nameIndex := 99, descriptorIndex := 17, attributes := #[] }, { accessFlags := 10, nameIndex := 106, descriptorIndex := 56, attributes := #[] }, { accessFlags := 26, nameIndex := 109, descriptorIndex := 110, attributes := #[] }, { accessFlags := 24, nameIndex := 62, descriptorIndex := 63, attributes := #[] }, { accessFlags := 24, nameIndex := 72, descriptorIndex := 63, attributes := #[] }, { accessFlags := 24, nameIndex := 118, descriptorIndex := 119, attributes := #[] }, { accessFlags := 24, nameIndex := 125, descriptorIndex := 126, attributes := #[] }, { accessFlags := 24, nameIndex := 131, descriptorIndex := 132, attributes := #[] }, { accessFlags := 4120, nameIndex := 50, descriptorIndex := 17, attributes := #[] }])
  fields := #[{ name := "SALT32L", type := .long, accessFlags := 26, slot := 0, constantValue := 0 }, { name := "REVERSE", type := .boolean, accessFlags := 26, slot := 1, constantValue := 0 }, { name := "archivedObjects", type := (.array (.object "java/lang/Object")), accessFlags := 10, slot := 2, constantValue := 0 }, { name := "EMPTY", type := (.object "java/lang/Object"), accessFlags := 26, slot := 3, constantValue := 0 }, { name := "EMPTY_LIST", type := (.object "java/util/ImmutableCollections$ListN"), accessFlags := 24, slot := 4, constantValue := 0 }, { name := "EMPTY_LIST_NULLS", type := (.object "java/util/ImmutableCollections$ListN"), accessFlags := 24, slot := 5, constantValue := 0 }, { name := "EMPTY_SET", type := (.object "java/util/ImmutableCollections$SetN"), accessFlags := 24, slot := 6, constantValue := 0 }, { name := "EMPTY_MAP", type := (.object "java/util/ImmutableCollections$MapN"), accessFlags := 24, slot := 7, constantValue := 0 }, { name := "EXPAND_FACTOR", type := .int, accessFlags := 24, slot := 8, constantValue := 0 }, { name := "$assertionsDisabled", type := .boolean, accessFlags := 4120, slot := 9, constantValue := 0 }]
  methods := #[k22m0, k22m1, k22m2]
  instanceTypes := #[]
  staticTypes := #[.long, .boolean, (.array (.object "java/lang/Object")), (.object "java/lang/Object"), (.object "java/util/ImmutableCollections$ListN"), (.object "java/util/ImmutableCollections$ListN"), (.object "java/util/ImmutableCollections$SetN"), (.object "java/util/ImmutableCollections$MapN"), .int, .boolean]
  resolved := Array.replicate 213 none
  statics := some 2 }

def pool23 : Array CpInfo := pool [(1, .methodref 2 3), (0, .class_ 4), (0, .nameAndType 5 6), (0, u "java/util/AbstractCollection"), (0, u "<init>"), (0, u "()V"), (1, .class_ 10), (1, u "java/util/ImmutableCollections"), (2, .class_ 14), (0, u "java/util/ImmutableCollections$AbstractImmutableCollection")] 41

def k23c0 : Code := { maxStack := 1, maxLocals := 1, code := jdk_47_method_1_code, exceptionTable := #[], attributes := #[] }
def k23m0 : Method := { name := "<init>", desc := "()V", sig := { parameters := [], returnType := none }, accessFlags := 0, code := some k23c0 }
/-- java/util/ImmutableCollections$AbstractImmutableCollection -/
def k23 : Class := { plain "java/util/ImmutableCollections$AbstractImmutableCollection" (some 14) with
  accessFlags := 1056
  interfaces := #[]
  cf := some (fileOf pool23 13 #[.nestHost 8] #[{ accessFlags := 0, nameIndex := 5, descriptorIndex := 6, attributes := #[] }] 1056 2 #[] #[])
  fields := #[]
  methods := #[k23m0]
  instanceTypes := #[]
  staticTypes := #[]
  resolved := Array.replicate 56 none
  statics := none }

def pool24 : Array CpInfo := pool [(1, .methodref 2 3), (0, .class_ 4), (0, .nameAndType 5 6), (0, u "java/util/ImmutableCollections$AbstractImmutableCollection"), (0, u "<init>"), (0, u "()V"), (1, .class_ 10), (1, u "java/util/ImmutableCollections"), (3, .class_ 16), (1, u "java/util/ImmutableCollections$AbstractImmutableList"), (60, .class_ 78), (0, u "java/util/List"), (45, .class_ 125), (0, u "java/util/RandomAccess")] 70

def k24c0 : Code := { maxStack := 1, maxLocals := 1, code := jdk_46_method_1_code, exceptionTable := #[], attributes := #[] }
def k24m0 : Method := { name := "<init>", desc := "()V", sig := { parameters := [], returnType := none }, accessFlags := 0, code := some k24c0 }
/-- java/util/ImmutableCollections$AbstractImmutableList -/
def k24 : Class := { plain "java/util/ImmutableCollections$AbstractImmutableList" (some 23) with
  accessFlags := 1056
  interfaces := #[16, 18]
  cf := some (fileOf pool24 14 #[.nestHost 8] #[{ accessFlags := 0, nameIndex := 5, descriptorIndex := 6, attributes := #[] }] 1056 2 #[77, 124] #[])
  fields := #[]
  methods := #[k24m0]
  instanceTypes := #[]
  staticTypes := #[]
  resolved := Array.replicate 196 none
  statics := none }

def pool25 : Array CpInfo := pool [(1, .methodref 2 3), (0, .class_ 4), (0, .nameAndType 5 6), (0, u "java/util/ImmutableCollections$AbstractImmutableList"), (0, u "<init>"), (0, u "()V"), (0, .methodref 8 9), (0, .class_ 10), (0, .nameAndType 11 12), (0, u "java/util/Objects"), (0, u "requireNonNull"), (0, u "(Ljava/lang/Object;)Ljava/lang/Object;"), (0, .fieldref 14 15), (0, .class_ 16), (0, .nameAndType 17 18), (0, u "java/util/ImmutableCollections$List12"), (0, u "e0"), (0, u "Ljava/lang/Object;"), (0, .fieldref 20 21), (0, .class_ 22), (0, .nameAndType 23 18), (0, u "java/util/ImmutableCollections"), (0, u "EMPTY"), (0, .fieldref 14 25), (0, .nameAndType 26 18), (0, u "e1"), (43, .class_ 71), (0, u "java/io/Serializable"), (4, u "(Ljava/lang/Object;)V"), (8, u "(Ljava/lang/Object;Ljava/lang/Object;)V")] 39

def k25c0 : Code := { maxStack := 2, maxLocals := 2, code := jdk_44_method_1_code, exceptionTable := #[], attributes := #[] }
def k25m0 : Method := { name := "<init>", desc := "(Ljava/lang/Object;)V", sig := { parameters := [(.object "java/lang/Object")], returnType := none }, accessFlags := 0, code := some k25c0 }
def k25c1 : Code := { maxStack := 2, maxLocals := 3, code := jdk_44_method_2_code, exceptionTable := #[], attributes := #[] }
def k25m1 : Method := { name := "<init>", desc := "(Ljava/lang/Object;Ljava/lang/Object;)V", sig := { parameters := [(.object "java/lang/Object"), (.object "java/lang/Object")], returnType := none }, accessFlags := 0, code := some k25c1 }
/-- java/util/ImmutableCollections$List12 -/
def k25 : Class := { plain "java/util/ImmutableCollections$List12" (some 24) with
  accessFlags := 48
  interfaces := #[4]
  cf := some (fileOf pool25 14 #[.nestHost 20] #[{ accessFlags := 0, nameIndex := 5, descriptorIndex := 76, attributes := #[] }, { accessFlags := 0, nameIndex := 5, descriptorIndex := 85, attributes := #[] }] 48 2 #[70] #[{ accessFlags := 18, nameIndex := 17, descriptorIndex := 18, attributes := #[] }, { accessFlags := 18, nameIndex := 26, descriptorIndex := 18, attributes := #[] }])
  fields := #[{ name := "e0", type := (.object "java/lang/Object"), accessFlags := 18, slot := 0, constantValue := 0 }, { name := "e1", type := (.object "java/lang/Object"), accessFlags := 18, slot := 1, constantValue := 0 }]
  methods := #[k25m0, k25m1]
  instanceTypes := #[(.object "java/lang/Object"), (.object "java/lang/Object")]
  staticTypes := #[]
  resolved := Array.replicate 125 none
  statics := none }

def pool26 : Array CpInfo := pool [(1, .methodref 2 3), (0, .class_ 4), (0, .nameAndType 5 6), (0, u "java/util/ImmutableCollections$AbstractImmutableList"), (0, u "<init>"), (0, u "()V"), (0, .fieldref 8 9), (0, .class_ 10), (0, .nameAndType 11 12), (0, u "java/util/ImmutableCollections$ListN"), (0, u "elements"), (0, u "[Ljava/lang/Object;"), (0, .fieldref 8 14), (0, .nameAndType 15 16), (0, u "allowNulls"), (0, u "Z"), (42, .class_ 60), (0, u "java/io/Serializable"), (4, u "([Ljava/lang/Object;Z)V"), (48, .class_ 115), (0, u "java/util/ImmutableCollections")] 3

def k26c0 : Code := { maxStack := 2, maxLocals := 3, code := jdk_45_method_1_code, exceptionTable := #[], attributes := #[] }
def k26m0 : Method := { name := "<init>", desc := "([Ljava/lang/Object;Z)V", sig := { parameters := [(.array (.object "java/lang/Object")), .boolean], returnType := none }, accessFlags := 2, code := some k26c0 }
/-- java/util/ImmutableCollections$ListN -/
def k26 : Class := { plain "java/util/ImmutableCollections$ListN" (some 24) with
  accessFlags := 48
  interfaces := #[4]
  cf := some (fileOf pool26 8 #[.nestHost 114] #[{ accessFlags := 2, nameIndex := 5, descriptorIndex := 65, attributes := #[] }] 48 2 #[59] #[{ accessFlags := 18, nameIndex := 11, descriptorIndex := 12, attributes := #[] }, { accessFlags := 18, nameIndex := 15, descriptorIndex := 16, attributes := #[] }])
  fields := #[{ name := "elements", type := (.array (.object "java/lang/Object")), accessFlags := 18, slot := 0, constantValue := 0 }, { name := "allowNulls", type := .boolean, accessFlags := 18, slot := 1, constantValue := 0 }]
  methods := #[k26m0]
  instanceTypes := #[(.array (.object "java/lang/Object")), .boolean]
  staticTypes := #[]
  resolved := Array.replicate 119 none
  statics := none }

def pool27 : Array CpInfo := pool [(2, .class_ 4), (1, u "java/lang/Enum"), (0, u "name"), (0, u "Ljava/lang/String;"), (2, u "ordinal"), (0, u "I"), (1, .class_ 14), (1, u "java/lang/Object"), (4, u "hash"), (86, .class_ 108), (1, u "java/lang/Enum$EnumDesc"), (2, .class_ 112), (0, u "java/lang/constant/Constable"), (0, .class_ 114), (0, u "java/lang/Comparable"), (0, .class_ 116), (0, u "java/io/Serializable")] 87

/-- java/lang/Enum -/
def k27 : Class := { plain "java/lang/Enum" (some 0) with
  accessFlags := 1057
  interfaces := #[7, 5, 4]
  cf := some (fileOf pool27 2 #[.nestMembers #[106]] #[] 1057 12 #[111, 113, 115] #[{ accessFlags := 18, nameIndex := 5, descriptorIndex := 6, attributes := #[] }, { accessFlags := 18, nameIndex := 9, descriptorIndex := 10, attributes := #[] }, { accessFlags := 2, nameIndex := 19, descriptorIndex := 10, attributes := #[] }])
  fields := #[{ name := "name", type := (.object "java/lang/String"), accessFlags := 18, slot := 0, constantValue := 0 }, { name := "ordinal", type := .int, accessFlags := 18, slot := 1, constantValue := 0 }, { name := "hash", type := .int, accessFlags := 2, slot := 2, constantValue := 0 }]
  methods := #[]
  instanceTypes := #[(.object "java/lang/String"), .int, .int]
  staticTypes := #[]
  resolved := Array.replicate 204 none
  statics := none }

def pool28 : Array CpInfo := pool [(1, .class_ 2), (0, u "org/portcullis/acl/Decision"), (2, u "GRANTED"), (0, u "Lorg/portcullis/acl/Decision;"), (2, u "DENIED"), (2, u "$VALUES"), (0, u "[Lorg/portcullis/acl/Decision;"), (6, .class_ 22), (1, u "java/lang/Enum")] 24

/-- org/portcullis/acl/Decision -/
def k28 : Class := { plain "org/portcullis/acl/Decision" (some 27) with
  accessFlags := 16433
  interfaces := #[]
  cf := some (fileOf pool28 1 #[] #[] 16433 20 #[] #[{ accessFlags := 16409, nameIndex := 5, descriptorIndex := 6, attributes := #[] }, { accessFlags := 16409, nameIndex := 9, descriptorIndex := 6, attributes := #[] }, { accessFlags := 4122, nameIndex := 12, descriptorIndex := 13, attributes := #[] }])
  fields := #[{ name := "GRANTED", type := (.object "org/portcullis/acl/Decision"), accessFlags := 16409, slot := 0, constantValue := 0 }, { name := "DENIED", type := (.object "org/portcullis/acl/Decision"), accessFlags := 16409, slot := 1, constantValue := 0 }, { name := "$VALUES", type := (.array (.object "org/portcullis/acl/Decision")), accessFlags := 4122, slot := 2, constantValue := 0 }]
  methods := #[]
  instanceTypes := #[(.object "java/lang/String"), .int, .int]
  staticTypes := #[(.object "org/portcullis/acl/Decision"), (.object "org/portcullis/acl/Decision"), (.array (.object "org/portcullis/acl/Decision"))]
  resolved := Array.replicate 47 none
  statics := some 3 }

def pool29 : Array CpInfo := pool [(1, .methodref 2 3), (0, .class_ 4), (0, .nameAndType 5 6), (0, u "java/lang/Record"), (0, u "<init>"), (0, u "()V"), (7, .fieldref 15 16), (0, .class_ 17), (0, .nameAndType 18 19), (0, u "org/portcullis/acl/AccessControlEntry"), (0, u "order"), (0, u "I"), (0, .fieldref 15 21), (0, .nameAndType 22 23), (0, u "sid"), (0, u "Lorg/portcullis/acl/Sid;"), (0, .fieldref 15 25), (0, .nameAndType 26 19), (0, u "mask"), (0, .fieldref 15 28), (0, .nameAndType 29 30), (0, u "granting"), (0, u "Z"), (12, u "(ILorg/portcullis/acl/Sid;IZ)V"), (10, u "()Z")] 23

def k29c0 : Code := { maxStack := 3, maxLocals := 5, code := prog_1_method_1_code, exceptionTable := #[], attributes := #[] }
def k29m0 : Method := { name := "<init>", desc := "(ILorg/portcullis/acl/Sid;IZ)V", sig := { parameters := [.int, (.object "org/portcullis/acl/Sid"), .int, .boolean], returnType := none }, accessFlags := 1, code := some k29c0 }
def k29c1 : Code := { maxStack := 1, maxLocals := 1, code := prog_1_method_8_code, exceptionTable := #[], attributes := #[] }
def k29m1 : Method := { name := "granting", desc := "()Z", sig := { parameters := [], returnType := some .boolean }, accessFlags := 1, code := some k29c1 }
/-- org/portcullis/acl/AccessControlEntry -/
def k29 : Class := { plain "org/portcullis/acl/AccessControlEntry" (some 2) with
  accessFlags := 49
  interfaces := #[]
  cf := some (fileOf pool29 15 #[] #[{ accessFlags := 1, nameIndex := 5, descriptorIndex := 43, attributes := #[] }, { accessFlags := 1, nameIndex := 29, descriptorIndex := 54, attributes := #[] }] 49 2 #[] #[{ accessFlags := 18, nameIndex := 18, descriptorIndex := 19, attributes := #[] }, { accessFlags := 18, nameIndex := 22, descriptorIndex := 23, attributes := #[] }, { accessFlags := 18, nameIndex := 26, descriptorIndex := 19, attributes := #[] }, { accessFlags := 18, nameIndex := 29, descriptorIndex := 30, attributes := #[] }])
  fields := #[{ name := "order", type := .int, accessFlags := 18, slot := 0, constantValue := 0 }, { name := "sid", type := (.object "org/portcullis/acl/Sid"), accessFlags := 18, slot := 1, constantValue := 0 }, { name := "mask", type := .int, accessFlags := 18, slot := 2, constantValue := 0 }, { name := "granting", type := .boolean, accessFlags := 18, slot := 3, constantValue := 0 }]
  methods := #[k29m0, k29m1]
  instanceTypes := #[.int, (.object "org/portcullis/acl/Sid"), .int, .boolean]
  staticTypes := #[]
  resolved := Array.replicate 78 none
  statics := none }

def pool30 : Array CpInfo := pool [(1, .methodref 2 3), (0, .class_ 4), (0, .nameAndType 5 6), (0, u "java/lang/Record"), (0, u "<init>"), (0, u "()V"), (7, .fieldref 15 16), (0, .class_ 17), (0, .nameAndType 18 19), (0, u "org/portcullis/acl/ObjectIdentity"), (0, u "type"), (0, u "Ljava/lang/String;"), (0, .fieldref 15 21), (0, .nameAndType 22 19), (0, u "id"), (12, u "(Ljava/lang/String;Ljava/lang/String;)V")] 30

def k30c0 : Code := { maxStack := 3, maxLocals := 3, code := prog_9_method_1_code, exceptionTable := #[], attributes := #[] }
def k30m0 : Method := { name := "<init>", desc := "(Ljava/lang/String;Ljava/lang/String;)V", sig := { parameters := [(.object "java/lang/String"), (.object "java/lang/String")], returnType := none }, accessFlags := 1, code := some k30c0 }
/-- org/portcullis/acl/ObjectIdentity -/
def k30 : Class := { plain "org/portcullis/acl/ObjectIdentity" (some 2) with
  accessFlags := 49
  interfaces := #[]
  cf := some (fileOf pool30 15 #[] #[{ accessFlags := 1, nameIndex := 5, descriptorIndex := 35, attributes := #[] }] 49 2 #[] #[{ accessFlags := 18, nameIndex := 18, descriptorIndex := 19, attributes := #[] }, { accessFlags := 18, nameIndex := 22, descriptorIndex := 19, attributes := #[] }])
  fields := #[{ name := "type", type := (.object "java/lang/String"), accessFlags := 18, slot := 0, constantValue := 0 }, { name := "id", type := (.object "java/lang/String"), accessFlags := 18, slot := 1, constantValue := 0 }]
  methods := #[k30m0]
  instanceTypes := #[(.object "java/lang/String"), (.object "java/lang/String")]
  staticTypes := #[]
  resolved := Array.replicate 66 none
  statics := none }

def pool31 : Array CpInfo := pool [(1, .class_ 2), (0, u "java/lang/Math"), (1, .class_ 6), (1, u "java/lang/Object"), (0, u "<init>"), (0, u "()V"), (89, .class_ 100), (1, u "java/lang/Math$RandomNumberGeneratorHolder"), (71, u "negativeZeroFloatBits"), (0, u "J"), (2, u "negativeZeroDoubleBits"), (21, u "max"), (2, u "min"), (43, u "$assertionsDisabled"), (0, u "Z"), (88, u "(II)I"), (2, u "twoToTheDoubleScaleDown"), (0, u "D"), (4, u "twoToTheDoubleScaleUp"), (9, u "E"), (3, u "PI"), (2, u "TAU"), (2, u "DEGREES_TO_RADIANS"), (0, u "RADIANS_TO_DEGREES")] 94

def k31m0 : Method := { name := "<init>", desc := "()V", sig := { parameters := [], returnType := none }, accessFlags := 2, code := none }
def k31c1 : Code := { maxStack := 2, maxLocals := 2, code := jdk_29_method_65_code, exceptionTable := #[], attributes := #[] }
def k31m1 : Method := { name := "max", desc := "(II)I", sig := { parameters := [.int, .int], returnType := some .int }, accessFlags := 9, code := some k31c1 }
def k31c2 : Code := { maxStack := 2, maxLocals := 2, code := jdk_29_method_69_code, exceptionTable := #[], attributes := #[] }
def k31m2 : Method := { name := "min", desc := "(II)I", sig := { parameters := [.int, .int], returnType := some .int }, accessFlags := 9, code := some k31c2 }
/-- java/lang/Math -/
def k31 : Class := { plain "java/lang/Math" (some 0) with
  accessFlags := 49
  interfaces := #[]
  cf := some (fileOf pool31 1 #[.nestMembers #[98]] #[{ accessFlags := 2, nameIndex := 7, descriptorIndex := 8, attributes := #[] }, { accessFlags := 9, nameIndex := 198, descriptorIndex := 335, attributes := #[] }, { accessFlags := 9, nameIndex := 201, descriptorIndex := 335, attributes := #[] }] 49 4 #[] #[{ accessFlags := 25, nameIndex := 354, descriptorIndex := 339, attributes := #[] }, { accessFlags := 25, nameIndex := 358, descriptorIndex := 339, attributes := #[] }, { accessFlags := 25, nameIndex := 361, descriptorIndex := 339, attributes := #[] }, { accessFlags := 26, nameIndex := 364, descriptorIndex := 339, attributes := #[] }, { accessFlags := 26, nameIndex := 365, descriptorIndex := 339, attributes := #[] }, { accessFlags := 26, nameIndex := 172, descriptorIndex := 173, attributes := #[] }, { accessFlags := 26, nameIndex := 176, descriptorIndex := 173, attributes := #[] }, { accessFlags := 8, nameIndex := 344, descriptorIndex := 339, attributes := #[] }, { accessFlags := 8, nameIndex := 338, descriptorIndex := 339, attributes := #[] }, { accessFlags := 4120, nameIndex := 245, descriptorIndex := 246, attributes := #[] }])
  fields := #[{ name := "E", type := .double, accessFlags := 25, slot := 0, constantValue := 0 }, { name := "PI", type := .double, accessFlags := 25, slot := 1, constantValue := 0 }, { name := "TAU", type := .double, accessFlags := 25, slot := 2, constantValue := 0 }, { name := "DEGREES_TO_RADIANS", type := .double, accessFlags := 26, slot := 3, constantValue := 0 }, { name := "RADIANS_TO_DEGREES", type := .double, accessFlags := 26, slot := 4, constantValue := 0 }, { name := "negativeZeroFloatBits", type := .long, accessFlags := 26, slot := 5, constantValue := 0 }, { name := "negativeZeroDoubleBits", type := .long, accessFlags := 26, slot := 6, constantValue := 0 }, { name := "twoToTheDoubleScaleUp", type := .double, accessFlags := 8, slot := 7, constantValue := 0 }, { name := "twoToTheDoubleScaleDown", type := .double, accessFlags := 8, slot := 8, constantValue := 0 }, { name := "$assertionsDisabled", type := .boolean, accessFlags := 4120, slot := 9, constantValue := 0 }]
  methods := #[k31m0, k31m1, k31m2]
  instanceTypes := #[]
  staticTypes := #[.double, .double, .double, .double, .double, .long, .long, .double, .double, .boolean]
  resolved := Array.replicate 460 none
  statics := none }

def pool32 : Array CpInfo := pool [(2, .class_ 4), (1, u "java/lang/Object"), (0, u "<init>"), (0, u "()V"), (7, .class_ 16), (1, u "java/util/Arrays"), (57, .class_ 76), (1, u "java/util/Arrays$NaturalOrder"), (9, .methodref 2 87), (0, .nameAndType 88 89), (0, u "getClass"), (0, u "()Ljava/lang/Class;"), (20, .class_ 111), (0, u "[Ljava/lang/Object;"), (1, .class_ 115), (1, u "java/util/Arrays$LegacyMergeSort"), (1, u "Z"), (32, .methodref 151 152), (0, .class_ 153), (0, .nameAndType 154 155), (0, u "java/lang/System"), (0, u "arraycopy"), (0, u "(Ljava/lang/Object;ILjava/lang/Object;II)V"), (144, .methodref 14 301), (0, .nameAndType 302 303), (0, u "copyOf"), (0, u "([Ljava/lang/Object;ILjava/lang/Class;)[Ljava/lang/Object;"), (0, .methodref 305 306), (0, .class_ 307), (0, .nameAndType 308 309), (0, u "java/lang/Math"), (0, u "min"), (0, u "(II)I"), (65, .class_ 376), (0, u "java/util/Arrays$ArrayList"), (68, u "$assertionsDisabled"), (269, u "MIN_ARRAY_SORT_GRAN"), (0, u "I"), (2, u "INSERTIONSORT_THRESHOLD"), (140, u "([Ljava/lang/Object;I)[Ljava/lang/Object;"), (114, .class_ 976), (0, u "java/util/Arrays$ArrayItr")] 52

def k32m0 : Method := { name := "<init>", desc := "()V", sig := { parameters := [], returnType := none }, accessFlags := 2, code := none }
def k32c1 : Code := { maxStack := 3, maxLocals := 2, code := jdk_65_method_119_code, exceptionTable := #[], attributes := #[] }
def k32m1 : Method := { name := "copyOf", desc := "([Ljava/lang/Object;I)[Ljava/lang/Object;", sig := { parameters := [(.array (.object "java/lang/Object")), .int], returnType := some (.array (.object "java/lang/Object")) }, accessFlags := 9, code := some k32c1 }
def k32c2 : Code := { maxStack := 6, maxLocals := 4, code := jdk_65_method_120_code, exceptionTable := #[], attributes := #[] }
def k32m2 : Method := { name := "copyOf", desc := "([Ljava/lang/Object;ILjava/lang/Class;)[Ljava/lang/Object;", sig := { parameters := [(.array (.object "java/lang/Object")), .int, (.object "java/lang/Class")], returnType := some (.array (.object "java/lang/Object")) }, accessFlags := 9, code := some k32c2 }
/-- java/util/Arrays -/
def k32 : Class := { plain "java/util/Arrays" (some 0) with
  accessFlags := 49
  interfaces := #[]
  cf := some (fileOf pool32 14 #[.nestMembers #[975, 375, 113, 74]] #[{ accessFlags := 2, nameIndex := 5, descriptorIndex := 6, attributes := #[] }, { accessFlags := 9, nameIndex := 302, descriptorIndex := 860, attributes := #[] }, { accessFlags := 9, nameIndex := 302, descriptorIndex := 303, attributes := #[] }] 49 2 #[] #[{ accessFlags := 26, nameIndex := 715, descriptorIndex := 716, attributes := #[] }, { accessFlags := 26, nameIndex := 719, descriptorIndex := 716, attributes := #[] }, { accessFlags := 4120, nameIndex := 445, descriptorIndex := 117, attributes := #[] }])
  fields := #[{ name := "MIN_ARRAY_SORT_GRAN", type := .int, accessFlags := 26, slot := 0, constantValue := 0 }, { name := "INSERTIONSORT_THRESHOLD", type := .int, accessFlags := 26, slot := 1, constantValue := 0 }, { name := "$assertionsDisabled", type := .boolean, accessFlags := 4120, slot := 2, constantValue := 0 }]
  methods := #[k32m0, k32m1, k32m2]
  instanceTypes := #[]
  staticTypes := #[.int, .int, .boolean]
  resolved := Array.replicate 1029 none
  statics := none }

def pool33 : Array CpInfo := pool [(2, .class_ 4), (1, u "java/lang/Object"), (0, u "<init>"), (0, u "()V"), (1, .class_ 10), (1, u "java/lang/System"), (0, u "allowSecurityManager"), (0, u "I"), (16, u "cons"), (0, u "Ljava/io/Console;"), (77, .class_ 110), (1, u "java/lang/System$CallersHolder"), (43, u "initialErrStream"), (0, u "Ljava/io/PrintStream;"), (19, u "security"), (0, u "Ljava/lang/SecurityManager;"), (31, .class_ 209), (0, u "java/lang/System$1"), (7, u "props"), (0, u "Ljava/util/Properties;"), (2, u "lineSeparator"), (0, u "Ljava/lang/String;"), (96, .class_ 321), (1, u "java/lang/System$LoggerFinder"), (5, .class_ 328), (0, u "java/lang/System$Logger"), (67, u "err"), (2, u "out"), (91, u "notSupportedJnuEncoding"), (15, u "in"), (17, u "initialIn"), (0, u "Ljava/io/InputStream;"), (35, u "bootLayer"), (0, u "Ljava/lang/ModuleLayer;"), (99, .class_ 664), (0, u "java/lang/System$2"), (9, u "NEVER"), (2, u "MAYBE"), (49, u "arraycopy"), (0, u "(Ljava/lang/Object;ILjava/lang/Object;II)V"), (72, .class_ 802), (0, u "java/lang/System$Logger$Level")] 31

def k33m0 : Method := { name := "<init>", desc := "()V", sig := { parameters := [], returnType := none }, accessFlags := 2, code := none }
def k33m1 : Method := { name := "arraycopy", desc := "(Ljava/lang/Object;ILjava/lang/Object;II)V", sig := { parameters := [(.object "java/lang/Object"), .int, (.object "java/lang/Object"), .int, .int], returnType := none }, accessFlags := 265, code := none }
/-- java/lang/System -/
def k33 : Class := { plain "java/lang/System" (some 0) with
  accessFlags := 49
  interfaces := #[]
  cf := some (fileOf pool33 8 #[.nestMembers #[319, 327, 801, 108, 663, 208]] #[{ accessFlags := 2, nameIndex := 5, descriptorIndex := 6, attributes := #[] }, { accessFlags := 265, nameIndex := 727, descriptorIndex := 728, attributes := #[] }] 49 2 #[] #[{ accessFlags := 25, nameIndex := 507, descriptorIndex := 526, attributes := #[] }, { accessFlags := 25, nameIndex := 399, descriptorIndex := 155, attributes := #[] }, { accessFlags := 25, nameIndex := 396, descriptorIndex := 155, attributes := #[] }, { accessFlags := 10, nameIndex := 525, descriptorIndex := 526, attributes := #[] }, { accessFlags := 26, nameIndex := 674, descriptorIndex := 12, attributes := #[] }, { accessFlags := 26, nameIndex := 677, descriptorIndex := 12, attributes := #[] }, { accessFlags := 10, nameIndex := 11, descriptorIndex := 12, attributes := #[] }, { accessFlags := 74, nameIndex := 175, descriptorIndex := 176, attributes := #[] }, { accessFlags := 10, nameIndex := 491, descriptorIndex := 222, attributes := #[] }, { accessFlags := 74, nameIndex := 29, descriptorIndex := 30, attributes := #[] }, { accessFlags := 74, nameIndex := 154, descriptorIndex := 155, attributes := #[] }, { accessFlags := 10, nameIndex := 217, descriptorIndex := 218, attributes := #[] }, { accessFlags := 10, nameIndex := 221, descriptorIndex := 222, attributes := #[] }, { accessFlags := 8, nameIndex := 562, descriptorIndex := 563, attributes := #[] }])
  fields := #[{ name := "in", type := (.object "java/io/InputStream"), accessFlags := 25, slot := 0, constantValue := 0 }, { name := "out", type := (.object "java/io/PrintStream"), accessFlags := 25, slot := 1, constantValue := 0 }, { name := "err", type := (.object "java/io/PrintStream"), accessFlags := 25, slot := 2, constantValue := 0 }, { name := "initialIn", type := (.object "java/io/InputStream"), accessFlags := 10, slot := 3, constantValue := 0 }, { name := "NEVER", type := .int, accessFlags := 26, slot := 4, constantValue := 0 }, { name := "MAYBE", type := .int, accessFlags := 26, slot := 5, constantValue := 0 }, { name := "allowSecurityManager", type := .int, accessFlags := 10, slot := 6, constantValue := 0 }, { name := "security", type := (.object "java/lang/SecurityManager"), accessFlags := 74, slot := 7, constantValue := 0 }, { name := "notSupportedJnuEncoding", type := (.object "java/lang/String"), accessFlags := 10, slot := 8, constantValue := 0 }, { name := "cons", type := (.object "java/io/Console"), accessFlags := 74, slot := 9, constantValue := 0 }, { name := "initialErrStream", type := (.object "java/io/PrintStream"), accessFlags := 74, slot := 10, constantValue := 0 }, { name := "props", type := (.object "java/util/Properties"), accessFlags := 10, slot := 11, constantValue := 0 }, { name := "lineSeparator", type := (.object "java/lang/String"), accessFlags := 10, slot := 12, constantValue := 0 }, { name := "bootLayer", type := (.object "java/lang/ModuleLayer"), accessFlags := 8, slot := 13, constantValue := 0 }]
  methods := #[k33m0, k33m1]
  instanceTypes := #[]
  staticTypes := #[(.object "java/io/InputStream"), (.object "java/io/PrintStream"), (.object "java/io/PrintStream"), (.object "java/io/InputStream"), .int, .int, .int, (.object "java/lang/SecurityManager"), (.object "java/lang/String"), (.object "java/io/Console"), (.object "java/io/PrintStream"), (.object "java/util/Properties"), (.object "java/lang/String"), (.object "java/lang/ModuleLayer")]
  resolved := Array.replicate 834 none
  statics := none }

def pool34 : Array CpInfo := pool [(2, .class_ 4), (1, u "java/lang/Object"), (0, u "<init>"), (0, u "()V"), (35, .class_ 44), (1, u "java/util/Objects"), (0, u "requireNonNull"), (0, u "(Ljava/lang/Object;)Ljava/lang/Object;")] 137

def k34m0 : Method := { name := "<init>", desc := "()V", sig := { parameters := [], returnType := none }, accessFlags := 2, code := none }
def k34c1 : Code := { maxStack := 2, maxLocals := 1, code := jdk_31_method_10_code, exceptionTable := #[], attributes := #[] }
def k34m1 : Method := { name := "requireNonNull", desc := "(Ljava/lang/Object;)Ljava/lang/Object;", sig := { parameters := [(.object "java/lang/Object")], returnType := some (.object "java/lang/Object") }, accessFlags := 9, code := some k34c1 }
/-- java/util/Objects -/
def k34 : Class := { plain "java/util/Objects" (some 0) with
  accessFlags := 49
  interfaces := #[]
  cf := some (fileOf pool34 42 #[] #[{ accessFlags := 2, nameIndex := 5, descriptorIndex := 6, attributes := #[] }, { accessFlags := 9, nameIndex := 45, descriptorIndex := 46, attributes := #[] }] 49 2 #[] #[])
  fields := #[]
  methods := #[k34m0, k34m1]
  instanceTypes := #[]
  staticTypes := #[]
  resolved := Array.replicate 184 none
  statics := none }

def pool35 : Array CpInfo := pool [(2, .class_ 4), (1, u "java/lang/Object"), (0, u "<init>"), (0, u "()V"), (17, .class_ 26), (1, u "jdk/internal/util/Preconditions"), (28, .class_ 56), (0, u "jdk/internal/util/Preconditions$4"), (57, .class_ 115), (0, u "jdk/internal/util/Preconditions$1"), (7, u "SIOOBE_FORMATTER"), (0, u "Ljava/util/function/BiFunction;"), (0, .class_ 126), (0, u "jdk/internal/util/Preconditions$2"), (3, u "AIOOBE_FORMATTER"), (0, .class_ 132), (0, u "jdk/internal/util/Preconditions$3"), (3, u "IOOBE_FORMATTER")] 57

def k35m0 : Method := { name := "<init>", desc := "()V", sig := { parameters := [], returnType := none }, accessFlags := 1, code := none }
/-- jdk/internal/util/Preconditions -/
def k35 : Class := { plain "jdk/internal/util/Preconditions" (some 0) with
  accessFlags := 33
  interfaces := #[]
  cf := some (fileOf pool35 24 #[.nestMembers #[55, 131, 125, 114]] #[{ accessFlags := 1, nameIndex := 5, descriptorIndex := 6, attributes := #[] }] 33 2 #[] #[{ accessFlags := 25, nameIndex := 123, descriptorIndex := 124, attributes := #[] }, { accessFlags := 25, nameIndex := 130, descriptorIndex := 124, attributes := #[] }, { accessFlags := 25, nameIndex := 136, descriptorIndex := 124, attributes := #[] }])
  fields := #[{ name := "SIOOBE_FORMATTER", type := (.object "java/util/function/BiFunction"), accessFlags := 25, slot := 0, constantValue := 0 }, { name := "AIOOBE_FORMATTER", type := (.object "java/util/function/BiFunction"), accessFlags := 25, slot := 1, constantValue := 0 }, { name := "IOOBE_FORMATTER", type := (.object "java/util/function/BiFunction"), accessFlags := 25, slot := 2, constantValue := 0 }]
  methods := #[k35m0]
  instanceTypes := #[]
  staticTypes := #[(.object "java/util/function/BiFunction"), (.object "java/util/function/BiFunction"), (.object "java/util/function/BiFunction")]
  resolved := Array.replicate 194 none
  statics := some 4 }

def pool36 : Array CpInfo := pool [(9, u "<init>"), (6, .class_ 18), (1, u "java/lang/Object"), (0, u "()V"), (1, .class_ 23), (1, u "jdk/internal/util/ArraysSupport"), (0, u "LOG2_ARRAY_LONG_INDEX_SCALE"), (0, u "I"), (2, u "U"), (0, u "Ljdk/internal/misc/Unsafe;"), (8, u "BIG_ENDIAN"), (0, u "Z"), (8, u "LOG2_BYTE_BIT_SIZE"), (4, u "LOG2_ARRAY_INT_INDEX_SCALE"), (54, u "JLA"), (0, u "Ljdk/internal/access/JavaLangAccess;"), (11, u "LOG2_ARRAY_BOOLEAN_INDEX_SCALE"), (9, u "LOG2_ARRAY_BYTE_INDEX_SCALE"), (5, u "LOG2_ARRAY_CHAR_INDEX_SCALE"), (5, u "LOG2_ARRAY_SHORT_INDEX_SCALE"), (18, u "LOG2_ARRAY_FLOAT_INDEX_SCALE"), (24, u "LOG2_ARRAY_DOUBLE_INDEX_SCALE"), (89, u "T_BOOLEAN"), (2, u "T_CHAR"), (1, u "T_FLOAT"), (1, u "T_DOUBLE"), (1, u "T_BYTE"), (1, u "T_SHORT"), (1, u "T_INT"), (1, u "T_LONG"), (1, u "SOFT_MAX_ARRAY_LENGTH")] 83

def k36m0 : Method := { name := "<init>", desc := "()V", sig := { parameters := [], returnType := none }, accessFlags := 2, code := none }
/-- jdk/internal/util/ArraysSupport -/
def k36 : Class := { plain "jdk/internal/util/ArraysSupport" (some 0) with
  accessFlags := 33
  interfaces := #[]
  cf := some (fileOf pool36 21 #[] #[{ accessFlags := 2, nameIndex := 9, descriptorIndex := 19, attributes := #[] }] 33 16 #[] #[{ accessFlags := 24, nameIndex := 28, descriptorIndex := 29, attributes := #[] }, { accessFlags := 26, nameIndex := 38, descriptorIndex := 39, attributes := #[] }, { accessFlags := 25, nameIndex := 121, descriptorIndex := 25, attributes := #[] }, { accessFlags := 25, nameIndex := 131, descriptorIndex := 25, attributes := #[] }, { accessFlags := 25, nameIndex := 137, descriptorIndex := 25, attributes := #[] }, { accessFlags := 25, nameIndex := 143, descriptorIndex := 25, attributes := #[] }, { accessFlags := 25, nameIndex := 53, descriptorIndex := 25, attributes := #[] }, { accessFlags := 25, nameIndex := 24, descriptorIndex := 25, attributes := #[] }, { accessFlags := 25, nameIndex := 162, descriptorIndex := 25, attributes := #[] }, { accessFlags := 25, nameIndex := 187, descriptorIndex := 25, attributes := #[] }, { accessFlags := 26, nameIndex := 48, descriptorIndex := 25, attributes := #[] }, { accessFlags := 25, nameIndex := 277, descriptorIndex := 25, attributes := #[] }, { accessFlags := 25, nameIndex := 280, descriptorIndex := 25, attributes := #[] }, { accessFlags := 25, nameIndex := 282, descriptorIndex := 25, attributes := #[] }, { accessFlags := 25, nameIndex := 284, descriptorIndex := 25, attributes := #[] }, { accessFlags := 25, nameIndex := 286, descriptorIndex := 25, attributes := #[] }, { accessFlags := 25, nameIndex := 288, descriptorIndex := 25, attributes := #[] }, { accessFlags := 25, nameIndex := 290, descriptorIndex := 25, attributes := #[] }, { accessFlags := 25, nameIndex := 292, descriptorIndex := 25, attributes := #[] }, { accessFlags := 26, nameIndex := 108, descriptorIndex := 109, attributes := #[] }, { accessFlags := 25, nameIndex := 294, descriptorIndex := 25, attributes := #[] }])
  fields := #[{ name := "U", type := (.object "jdk/internal/misc/Unsafe"), accessFlags := 24, slot := 0, constantValue := 0 }, { name := "BIG_ENDIAN", type := .boolean, accessFlags := 26, slot := 1, constantValue := 0 }, { name := "LOG2_ARRAY_BOOLEAN_INDEX_SCALE", type := .int, accessFlags := 25, slot := 2, constantValue := 0 }, { name := "LOG2_ARRAY_BYTE_INDEX_SCALE", type := .int, accessFlags := 25, slot := 3, constantValue := 0 }, { name := "LOG2_ARRAY_CHAR_INDEX_SCALE", type := .int, accessFlags := 25, slot := 4, constantValue := 0 }, { name := "LOG2_ARRAY_SHORT_INDEX_SCALE", type := .int, accessFlags := 25, slot := 5, constantValue := 0 }, { name := "LOG2_ARRAY_INT_INDEX_SCALE", type := .int, accessFlags := 25, slot := 6, constantValue := 0 }, { name := "LOG2_ARRAY_LONG_INDEX_SCALE", type := .int, accessFlags := 25, slot := 7, constantValue := 0 }, { name := "LOG2_ARRAY_FLOAT_INDEX_SCALE", type := .int, accessFlags := 25, slot := 8, constantValue := 0 }, { name := "LOG2_ARRAY_DOUBLE_INDEX_SCALE", type := .int, accessFlags := 25, slot := 9, constantValue := 0 }, { name := "LOG2_BYTE_BIT_SIZE", type := .int, accessFlags := 26, slot := 10, constantValue := 0 }, { name := "T_BOOLEAN", type := .int, accessFlags := 25, slot := 11, constantValue := 0 }, { name := "T_CHAR", type := .int, accessFlags := 25, slot := 12, constantValue := 0 }, { name := "T_FLOAT", type := .int, accessFlags := 25, slot := 13, constantValue := 0 }, { name := "T_DOUBLE", type := .int, accessFlags := 25, slot := 14, constantValue := 0 }, { name := "T_BYTE", type := .int, accessFlags := 25, slot := 15, constantValue := 0 }, { name := "T_SHORT", type := .int, accessFlags := 25, slot := 16, constantValue := 0 }, { name := "T_INT", type := .int, accessFlags := 25, slot := 17, constantValue := 0 }, { name := "T_LONG", type := .int, accessFlags := 25, slot := 18, constantValue := 0 }, { name := "JLA", type := (.object "jdk/internal/access/JavaLangAccess"), accessFlags := 26, slot := 19, constantValue := 0 }, { name := "SOFT_MAX_ARRAY_LENGTH", type := .int, accessFlags := 25, slot := 20, constantValue := 0 }]
  methods := #[k36m0]
  instanceTypes := #[]
  staticTypes := #[(.object "jdk/internal/misc/Unsafe"), .boolean, .int, .int, .int, .int, .int, .int, .int, .int, .int, .int, .int, .int, .int, .int, .int, .int, .int, (.object "jdk/internal/access/JavaLangAccess"), .int]
  resolved := Array.replicate 378 none
  statics := none }

def pool37 : Array CpInfo := pool [(1, u "java/lang/Class"), (0, .class_ 1), (0, u "java/lang/Object"), (0, .class_ 3)] 3

/-- java/lang/Class -/
def k37 : Class := { plain "java/lang/Class" (some 0) with
  accessFlags := 49
  interfaces := #[]
  cf := some (fileOf pool37 2 #[] #[] 49 4 #[] #[])
  fields := #[]
  methods := #[]
  instanceTypes := #[]
  staticTypes := #[]
  resolved := Array.replicate 8 none
  statics := none }

/-- the primitive byte -/
def k38 : Class := { plain "byte" none with kind := .primitive 'B', accessFlags := 0x411 }
/-- [B -/
def k39 : Class := { plain "[B" (some 0) with kind := .array 38 .byte, interfaces := #[19, 4], accessFlags := 1041 }

/-- the primitive char -/
def k40 : Class := { plain "char" none with kind := .primitive 'C', accessFlags := 0x411 }
/-- [C -/
def k41 : Class := { plain "[C" (some 0) with kind := .array 40 .char, interfaces := #[19, 4], accessFlags := 1041 }

/-- the primitive int -/
def k42 : Class := { plain "int" none with kind := .primitive 'I', accessFlags := 0x411 }
/-- [I -/
def k43 : Class := { plain "[I" (some 0) with kind := .array 42 .int, interfaces := #[19, 4], accessFlags := 1041 }

/-- [Ljava/lang/Object; -/
def k44 : Class := { plain "[Ljava/lang/Object;" (some 0) with kind := .array 0 (.object "java/lang/Object"), interfaces := #[19, 4], accessFlags := 1041, mirror := some 5 }

def heap : Heap := #[{ cls := 9, slots := #[.long 0, .int 1, .null, .int 0, .null, .int 0, .int 0], vm := .statics 9 },
  { cls := 20, slots := #[.long 0, .int 0, .ref 10, .ref 11], vm := .statics 20 },
  { cls := 22, slots := #[.long 0, .int 0, .null, .ref 12, .ref 9, .null, .null, .null, .int 0, .int 1], vm := .statics 22 },
  { cls := 28, slots := #[.ref 7, .ref 8, .null], vm := .statics 28 },
  { cls := 35, slots := #[.null, .null, .null], vm := .statics 35 },
  { cls := 37, slots := #[], vm := .mirror 44 },
  { cls := 44, slots := #[], vm := .none },
  { cls := 28, slots := #[.null, .int 0, .int 0], vm := .none },
  { cls := 28, slots := #[.null, .int 1, .int 0], vm := .none },
  { cls := 26, slots := #[.ref 6, .int 0], vm := .none },
  { cls := 44, slots := #[], vm := .none },
  { cls := 44, slots := #[], vm := .none },
  { cls := 0, slots := #[], vm := .none }]
def classes : Array Class := #[k0, k1, k2, k3, k4, k5, k6, k7, k8, k9, k10, k11, k12, k13, k14, k15, k16, k17, k18, k19, k20, k21, k22, k23, k24, k25, k26, k27, k28, k29, k30, k31, k32, k33, k34, k35, k36, k37, k38, k39, k40, k41, k42, k43, k44]
def interned : List (Array UInt16 × Addr) := []
def slotsUsed : Nat := 35
def theMethod : MethodId := ⟨1, 1⟩
def args0 : Array Value := #[.int 5, .int 6, .int 7, .int 8, .int 9]
def aboutOver (below : List Frame) : State where
  vm := { classes := classes, interned := interned.toArray }
  heap := heap
  slotsUsed := slotsUsed
  threads := #[{ frames := .invoking theMethod args0 :: below }]
def below0 : List Frame := [.native { method := ⟨0, 0⟩, args := #[] }]
def about1 : State := aboutOver below0
def p0 : Program := .bare "" "" ""
def e0 : Env := launch0.env 0 0 0
theorem w_frames : about1.frames = Frame.invoking theMethod args0 :: below0 := rfl
set_option maxRecDepth 65536 in
theorem w_args : argsFit about1.vm theMethod args0 = true := by decide +kernel
set_option maxRecDepth 65536 in
theorem w_heap : heapFits about1 = true := by decide +kernel
set_option maxRecDepth 65536 in
theorem w_runnable : about1.curStatus? = some .runnable := by decide +kernel
set_option maxRecDepth 65536 in
theorem w_alone : about1.alone = true := by decide +kernel
set_option maxRecDepth 65536 in
theorem w_named : about1.methodNamed? x = some theMethod := by decide +kernel
set_option maxRecDepth 65536 in
theorem w_hears : about1.hears theMethod below0 = true := by decide +kernel
set_option maxRecDepth 65536 in
theorem w_ripe : about1.ripe theMethod args0 below0 = true := by decide +kernel
theorem w_running : about1.status = .running := rfl
set_option maxRecDepth 65536 in
theorem w_room : about1.hasRoom e0.platform room_1 = true :=
  launch0.hasRoom_least _ room_1 (by decide +kernel) (by decide +kernel) (by decide +kernel) (by decide +kernel) (by decide +kernel) (by decide +kernel)
theorem allAtoms_all (ts : List Jvm.Cond) (a : Array Jvm.Value) (st : Jvm.State) : (allAtoms ts).before a st = ts.all (fun c => c.before a st) := by
  induction ts with
  | nil => rfl
  | cons c t ih =>
    show (Jvm.Cond.and c (allAtoms t)).before a st = _
    rw [Jvm.Cond.before_and, ih, List.all_cons]
def words1 : List Jvm.Cond := Jvm.Cond.code x code maxLocals ret :: tables_1
/-- a 'code' word, met by the world's own term for the bytes: nothing is compared byte by byte -/
theorem code_word {y : MethodName} {bytes : ByteArray} {mx : Nat} {rt : Option FieldType} {a : Array Value} {s : State} {m : MethodId} {meth : Method} {c : Code} (h1 : s.methodNamed? y = some m) (h2 : s.vm.method? m = some meth) (h3 : meth.code = some c) (h4 : c.code = bytes)
    (h5 : (c.maxLocals == mx && c.exceptionTable.isEmpty && decide (c.maxStack ≤ mostOperands) && decide (meth.sig.returnType = rt) && !meth.locks && decide (parseMethodDescriptor y.desc = some meth.sig)) = true) : (Jvm.Cond.code y bytes mx rt).before a s = true := by
  simp only [Bool.and_eq_true, beq_iff_eq, Bool.not_eq_true', decide_eq_true_eq] at h5
  obtain ⟨⟨⟨⟨⟨g1, g2⟩, g3⟩, g4⟩, g5⟩, g6⟩ := h5
  simp [Cond.before, Cond.holds, Cond.value, h1, h2, h3, h4, g1, g2, g3, g4, g5, g6]
def isCode : Jvm.Cond → Bool
  | .code _ _ _ _ => true
  | _ => false
theorem all_split {L : List Jvm.Cond} {P : Jvm.Cond → Bool} (h1 : L.all (fun c => isCode c || P c) = true) (h2 : ∀ c ∈ L.filter isCode, P c = true) : L.all P = true := by
  refine List.all_eq_true.mpr fun c hc => ?_
  have h := List.all_eq_true.mp h1 c hc
  rcases Bool.eq_false_or_eq_true (isCode c) with hi | hi
  · exact h2 c (List.mem_filter.mpr ⟨hc, hi⟩)
  · simpa [hi] using h
set_option maxRecDepth 65536 in
theorem w_c0 : (Jvm.Cond.code x code maxLocals ret).before args0 about1 = true := code_word (m := ⟨1, 1⟩) (meth := k1m1) (c := k1c1) (by decide +kernel) rfl rfl rfl (by decide +kernel)
set_option maxRecDepth 65536 in
theorem w_c1 : (Jvm.Cond.code ({ cls := "java/lang/String", name := "<init>", desc := "([C)V" } : Jvm.MethodName) jdk_42_method_3_code (2 : Nat) (Option.none : Option Jvm.ClassFile.FieldType)).before args0 about1 = true := code_word (m := ⟨9, 1⟩) (meth := k9m1) (c := k9c1) (by decide +kernel) rfl rfl rfl (by decide +kernel)
set_option maxRecDepth 65536 in
theorem w_c2 : (Jvm.Cond.code ({ cls := "java/lang/String", name := "<init>", desc := "([CIILjava/lang/Void;)V" } : Jvm.MethodName) jdk_42_method_149_code (6 : Nat) (Option.none : Option Jvm.ClassFile.FieldType)).before args0 about1 = true := code_word (m := ⟨9, 3⟩) (meth := k9m3) (c := k9c3) (by decide +kernel) rfl rfl rfl (by decide +kernel)
set_option maxRecDepth 65536 in
theorem w_c3 : (Jvm.Cond.code ({ cls := "java/lang/Object", name := "<init>", desc := "()V" } : Jvm.MethodName) object_method_1_code (1 : Nat) (Option.none : Option Jvm.ClassFile.FieldType)).before args0 about1 = true := code_word (m := ⟨0, 0⟩) (meth := k0m0) (c := k0c0) (by decide +kernel) rfl rfl rfl (by decide +kernel)
set_option maxRecDepth 65536 in
theorem w_c4 : (Jvm.Cond.code ({ cls := "java/lang/StringUTF16", name := "compress", desc := "([CII)[B" } : Jvm.MethodName) jdk_52_method_16_code (6 : Nat) (Option.some (Jvm.ClassFile.FieldType.array Jvm.ClassFile.FieldType.byte))).before args0 about1 = true := code_word (m := ⟨10, 2⟩) (meth := k10m2) (c := k10c2) (by decide +kernel) rfl rfl rfl (by decide +kernel)
set_option maxRecDepth 65536 in
theorem w_c5 : (Jvm.Cond.code ({ cls := "java/lang/StringUTF16", name := "compress", desc := "([CI[BII)I" } : Jvm.MethodName) jdk_52_method_21_code (7 : Nat) (Option.some Jvm.ClassFile.FieldType.int)).before args0 about1 = true := code_word (m := ⟨10, 3⟩) (meth := k10m3) (c := k10c3) (by decide +kernel) rfl rfl rfl (by decide +kernel)
set_option maxRecDepth 65536 in
theorem w_c6 : (Jvm.Cond.code ({ cls := "java/lang/StringUTF16", name := "coderFromArrayLen", desc := "([BI)B" } : Jvm.MethodName) jdk_52_method_15_code (2 : Nat) (Option.some Jvm.ClassFile.FieldType.byte)).before args0 about1 = true := code_word (m := ⟨10, 1⟩) (meth := k10m1) (c := k10c1) (by decide +kernel) rfl rfl rfl (by decide +kernel)
set_option maxRecDepth 65536 in
theorem w_c7 : (Jvm.Cond.code ({ cls := "org/portcullis/acl/Sid", name := "<init>", desc := "(Ljava/lang/String;Z)V" } : Jvm.MethodName) prog_13_method_1_code (3 : Nat) (Option.none : Option Jvm.ClassFile.FieldType)).before args0 about1 = true := code_word (m := ⟨3, 0⟩) (meth := k3m0) (c := k3c0) (by decide +kernel) rfl rfl rfl (by decide +kernel)
set_option maxRecDepth 65536 in
theorem w_c8 : (Jvm.Cond.code ({ cls := "java/lang/Record", name := "<init>", desc := "()V" } : Jvm.MethodName) jdk_30_method_1_code (1 : Nat) (Option.none : Option Jvm.ClassFile.FieldType)).before args0 about1 = true := code_word (m := ⟨2, 0⟩) (meth := k2m0) (c := k2c0) (by decide +kernel) rfl rfl rfl (by decide +kernel)
set_option maxRecDepth 65536 in
theorem w_c9 : (Jvm.Cond.code ({ cls := "java/lang/String", name := "valueOf", desc := "(C)Ljava/lang/String;" } : Jvm.MethodName) jdk_42_method_139_code (1 : Nat) (Option.some (Jvm.ClassFile.FieldType.object "java/lang/String"))).before args0 about1 = true := code_word (m := ⟨9, 2⟩) (meth := k9m2) (c := k9c2) (by decide +kernel) rfl rfl rfl (by decide +kernel)
set_option maxRecDepth 65536 in
theorem w_c10 : (Jvm.Cond.code ({ cls := "java/lang/StringLatin1", name := "canEncode", desc := "(C)Z" } : Jvm.MethodName) jdk_43_method_3_code (1 : Nat) (Option.some Jvm.ClassFile.FieldType.boolean)).before args0 about1 = true := code_word (m := ⟨11, 1⟩) (meth := k11m1) (c := k11c1) (by decide +kernel) rfl rfl rfl (by decide +kernel)
set_option maxRecDepth 65536 in
theorem w_c11 : (Jvm.Cond.code ({ cls := "java/lang/StringLatin1", name := "toBytes", desc := "(C)[B" } : Jvm.MethodName) jdk_43_method_46_code (1 : Nat) (Option.some (Jvm.ClassFile.FieldType.array Jvm.ClassFile.FieldType.byte))).before args0 about1 = true := code_word (m := ⟨11, 2⟩) (meth := k11m2) (c := k11c2) (by decide +kernel) rfl rfl rfl (by decide +kernel)
set_option maxRecDepth 65536 in
theorem w_c12 : (Jvm.Cond.code ({ cls := "java/lang/String", name := "<init>", desc := "([BB)V" } : Jvm.MethodName) jdk_42_method_151_code (3 : Nat) (Option.none : Option Jvm.ClassFile.FieldType)).before args0 about1 = true := code_word (m := ⟨9, 4⟩) (meth := k9m4) (c := k9c4) (by decide +kernel) rfl rfl rfl (by decide +kernel)
set_option maxRecDepth 65536 in
theorem w_c13 : (Jvm.Cond.code ({ cls := "java/util/ArrayList", name := "<init>", desc := "()V" } : Jvm.MethodName) jdk_38_method_2_code (1 : Nat) (Option.none : Option Jvm.ClassFile.FieldType)).before args0 about1 = true := code_word (m := ⟨20, 0⟩) (meth := k20m0) (c := k20c0) (by decide +kernel) rfl rfl rfl (by decide +kernel)
set_option maxRecDepth 65536 in
theorem w_c14 : (Jvm.Cond.code ({ cls := "java/util/AbstractList", name := "<init>", desc := "()V" } : Jvm.MethodName) jdk_39_method_1_code (1 : Nat) (Option.none : Option Jvm.ClassFile.FieldType)).before args0 about1 = true := code_word (m := ⟨17, 0⟩) (meth := k17m0) (c := k17c0) (by decide +kernel) rfl rfl rfl (by decide +kernel)
set_option maxRecDepth 65536 in
theorem w_c15 : (Jvm.Cond.code ({ cls := "java/util/AbstractCollection", name := "<init>", desc := "()V" } : Jvm.MethodName) jdk_22_method_1_code (1 : Nat) (Option.none : Option Jvm.ClassFile.FieldType)).before args0 about1 = true := code_word (m := ⟨14, 0⟩) (meth := k14m0) (c := k14c0) (by decide +kernel) rfl rfl rfl (by decide +kernel)
set_option maxRecDepth 65536 in
theorem w_c16 : (Jvm.Cond.code ({ cls := "org/portcullis/acl/Outcome", name := "<init>", desc := "(Ljava/util/Collection;Lorg/portcullis/acl/AccessControlEntry;)V" } : Jvm.MethodName) prog_10_method_1_code (3 : Nat) (Option.none : Option Jvm.ClassFile.FieldType)).before args0 about1 = true := code_word (m := ⟨21, 0⟩) (meth := k21m0) (c := k21c0) (by decide +kernel) rfl rfl rfl (by decide +kernel)
set_option maxRecDepth 65536 in
theorem w_c17 : (Jvm.Cond.code ({ cls := "java/util/List", name := "copyOf", desc := "(Ljava/util/Collection;)Ljava/util/List;" } : Jvm.MethodName) jdk_40_method_48_code (1 : Nat) (Option.some (Jvm.ClassFile.FieldType.object "java/util/List"))).before args0 about1 = true := code_word (m := ⟨16, 2⟩) (meth := k16m2) (c := k16c2) (by decide +kernel) rfl rfl rfl (by decide +kernel)
set_option maxRecDepth 65536 in
theorem w_c18 : (Jvm.Cond.code ({ cls := "java/util/ImmutableCollections", name := "listCopy", desc := "(Ljava/util/Collection;)Ljava/util/List;" } : Jvm.MethodName) jdk_56_method_3_code (2 : Nat) (Option.some (Jvm.ClassFile.FieldType.object "java/util/List"))).before args0 about1 = true := code_word (m := ⟨22, 1⟩) (meth := k22m1) (c := k22c1) (by decide +kernel) rfl rfl rfl (by decide +kernel)
set_option maxRecDepth 65536 in
theorem w_c19 : (Jvm.Cond.code ({ cls := "java/util/ArrayList", name := "isEmpty", desc := "()Z" } : Jvm.MethodName) jdk_38_method_9_code (1 : Nat) (Option.some Jvm.ClassFile.FieldType.boolean)).before args0 about1 = true := code_word (m := ⟨20, 3⟩) (meth := k20m3) (c := k20c3) (by decide +kernel) rfl rfl rfl (by decide +kernel)
set_option maxRecDepth 65536 in
theorem w_c20 : (Jvm.Cond.code ({ cls := "java/util/List", name := "of", desc := "()Ljava/util/List;" } : Jvm.MethodName) jdk_40_method_36_code (0 : Nat) (Option.some (Jvm.ClassFile.FieldType.object "java/util/List"))).before args0 about1 = true := code_word (m := ⟨16, 0⟩) (meth := k16m0) (c := k16c0) (by decide +kernel) rfl rfl rfl (by decide +kernel)
set_option maxRecDepth 65536 in
theorem w_c21 : (Jvm.Cond.code ({ cls := "org/portcullis/acl/Outcome", name := "getDecision", desc := "()Lorg/portcullis/acl/Decision;" } : Jvm.MethodName) prog_10_method_2_code (1 : Nat) (Option.some (Jvm.ClassFile.FieldType.object "org/portcullis/acl/Decision"))).before args0 about1 = true := code_word (m := ⟨21, 1⟩) (meth := k21m1) (c := k21c1) (by decide +kernel) rfl rfl rfl (by decide +kernel)
set_option maxRecDepth 65536 in
theorem w_c22 : (Jvm.Cond.code ({ cls := "org/portcullis/acl/AccessControlEntry", name := "<init>", desc := "(ILorg/portcullis/acl/Sid;IZ)V" } : Jvm.MethodName) prog_1_method_1_code (5 : Nat) (Option.none : Option Jvm.ClassFile.FieldType)).before args0 about1 = true := code_word (m := ⟨29, 0⟩) (meth := k29m0) (c := k29c0) (by decide +kernel) rfl rfl rfl (by decide +kernel)
set_option maxRecDepth 65536 in
theorem w_c23 : (Jvm.Cond.code ({ cls := "org/portcullis/acl/ObjectIdentity", name := "<init>", desc := "(Ljava/lang/String;Ljava/lang/String;)V" } : Jvm.MethodName) prog_9_method_1_code (3 : Nat) (Option.none : Option Jvm.ClassFile.FieldType)).before args0 about1 = true := code_word (m := ⟨30, 0⟩) (meth := k30m0) (c := k30c0) (by decide +kernel) rfl rfl rfl (by decide +kernel)
set_option maxRecDepth 65536 in
theorem w_c24 : (Jvm.Cond.code ({ cls := "java/util/ArrayList", name := "add", desc := "(Ljava/lang/Object;)Z" } : Jvm.MethodName) jdk_38_method_25_code (2 : Nat) (Option.some Jvm.ClassFile.FieldType.boolean)).before args0 about1 = true := code_word (m := ⟨20, 6⟩) (meth := k20m6) (c := k20c6) (by decide +kernel) rfl rfl rfl (by decide +kernel)
set_option maxRecDepth 65536 in
theorem w_c25 : (Jvm.Cond.code ({ cls := "java/util/ArrayList", name := "add", desc := "(Ljava/lang/Object;[Ljava/lang/Object;I)V" } : Jvm.MethodName) jdk_38_method_24_code (4 : Nat) (Option.none : Option Jvm.ClassFile.FieldType)).before args0 about1 = true := code_word (m := ⟨20, 5⟩) (meth := k20m5) (c := k20c5) (by decide +kernel) rfl rfl rfl (by decide +kernel)
set_option maxRecDepth 65536 in
theorem w_c26 : (Jvm.Cond.code ({ cls := "java/util/ArrayList", name := "grow", desc := "()[Ljava/lang/Object;" } : Jvm.MethodName) jdk_38_method_7_code (1 : Nat) (Option.some (Jvm.ClassFile.FieldType.array (Jvm.ClassFile.FieldType.object "java/lang/Object")))).before args0 about1 = true := code_word (m := ⟨20, 2⟩) (meth := k20m2) (c := k20c2) (by decide +kernel) rfl rfl rfl (by decide +kernel)
set_option maxRecDepth 65536 in
theorem w_c27 : (Jvm.Cond.code ({ cls := "java/util/ArrayList", name := "grow", desc := "(I)[Ljava/lang/Object;" } : Jvm.MethodName) jdk_38_method_6_code (4 : Nat) (Option.some (Jvm.ClassFile.FieldType.array (Jvm.ClassFile.FieldType.object "java/lang/Object")))).before args0 about1 = true := code_word (m := ⟨20, 1⟩) (meth := k20m1) (c := k20c1) (by decide +kernel) rfl rfl rfl (by decide +kernel)
set_option maxRecDepth 65536 in
theorem w_c28 : (Jvm.Cond.code ({ cls := "java/lang/Math", name := "max", desc := "(II)I" } : Jvm.MethodName) jdk_29_method_65_code (2 : Nat) (Option.some Jvm.ClassFile.FieldType.int)).before args0 about1 = true := code_word (m := ⟨31, 1⟩) (meth := k31m1) (c := k31c1) (by decide +kernel) rfl rfl rfl (by decide +kernel)
set_option maxRecDepth 65536 in
theorem w_c29 : (Jvm.Cond.code ({ cls := "java/util/ArrayList", name := "toArray", desc := "()[Ljava/lang/Object;" } : Jvm.MethodName) jdk_38_method_16_code (1 : Nat) (Option.some (Jvm.ClassFile.FieldType.array (Jvm.ClassFile.FieldType.object "java/lang/Object")))).before args0 about1 = true := code_word (m := ⟨20, 4⟩) (meth := k20m4) (c := k20c4) (by decide +kernel) rfl rfl rfl (by decide +kernel)
set_option maxRecDepth 65536 in
theorem w_c30 : (Jvm.Cond.code ({ cls := "java/util/Arrays", name := "copyOf", desc := "([Ljava/lang/Object;I)[Ljava/lang/Object;" } : Jvm.MethodName) jdk_65_method_119_code (2 : Nat) (Option.some (Jvm.ClassFile.FieldType.array (Jvm.ClassFile.FieldType.object "java/lang/Object")))).before args0 about1 = true := code_word (m := ⟨32, 1⟩) (meth := k32m1) (c := k32c1) (by decide +kernel) rfl rfl rfl (by decide +kernel)
set_option maxRecDepth 65536 in
theorem w_c31 : (Jvm.Cond.code ({ cls := "java/util/Arrays", name := "copyOf", desc := "([Ljava/lang/Object;ILjava/lang/Class;)[Ljava/lang/Object;" } : Jvm.MethodName) jdk_65_method_120_code (4 : Nat) (Option.some (Jvm.ClassFile.FieldType.array (Jvm.ClassFile.FieldType.object "java/lang/Object")))).before args0 about1 = true := code_word (m := ⟨32, 2⟩) (meth := k32m2) (c := k32c2) (by decide +kernel) rfl rfl rfl (by decide +kernel)
set_option maxRecDepth 65536 in
theorem w_c32 : (Jvm.Cond.code ({ cls := "java/lang/Math", name := "min", desc := "(II)I" } : Jvm.MethodName) jdk_29_method_69_code (2 : Nat) (Option.some Jvm.ClassFile.FieldType.int)).before args0 about1 = true := code_word (m := ⟨31, 2⟩) (meth := k31m2) (c := k31c2) (by decide +kernel) rfl rfl rfl (by decide +kernel)
set_option maxRecDepth 65536 in
theorem w_c33 : (Jvm.Cond.code ({ cls := "java/util/List", name := "of", desc := "([Ljava/lang/Object;)Ljava/util/List;" } : Jvm.MethodName) jdk_40_method_47_code (2 : Nat) (Option.some (Jvm.ClassFile.FieldType.object "java/util/List"))).before args0 about1 = true := code_word (m := ⟨16, 1⟩) (meth := k16m1) (c := k16c1) (by decide +kernel) rfl rfl rfl (by decide +kernel)
set_option maxRecDepth 65536 in
theorem w_c34 : (Jvm.Cond.code ({ cls := "java/util/ImmutableCollections$List12", name := "<init>", desc := "(Ljava/lang/Object;)V" } : Jvm.MethodName) jdk_44_method_1_code (2 : Nat) (Option.none : Option Jvm.ClassFile.FieldType)).before args0 about1 = true := code_word (m := ⟨25, 0⟩) (meth := k25m0) (c := k25c0) (by decide +kernel) rfl rfl rfl (by decide +kernel)
set_option maxRecDepth 65536 in
theorem w_c35 : (Jvm.Cond.code ({ cls := "java/util/ImmutableCollections$AbstractImmutableList", name := "<init>", desc := "()V" } : Jvm.MethodName) jdk_46_method_1_code (1 : Nat) (Option.none : Option Jvm.ClassFile.FieldType)).before args0 about1 = true := code_word (m := ⟨24, 0⟩) (meth := k24m0) (c := k24c0) (by decide +kernel) rfl rfl rfl (by decide +kernel)
set_option maxRecDepth 65536 in
theorem w_c36 : (Jvm.Cond.code ({ cls := "java/util/ImmutableCollections$AbstractImmutableCollection", name := "<init>", desc := "()V" } : Jvm.MethodName) jdk_47_method_1_code (1 : Nat) (Option.none : Option Jvm.ClassFile.FieldType)).before args0 about1 = true := code_word (m := ⟨23, 0⟩) (meth := k23m0) (c := k23c0) (by decide +kernel) rfl rfl rfl (by decide +kernel)
set_option maxRecDepth 65536 in
theorem w_c37 : (Jvm.Cond.code ({ cls := "java/util/Objects", name := "requireNonNull", desc := "(Ljava/lang/Object;)Ljava/lang/Object;" } : Jvm.MethodName) jdk_31_method_10_code (1 : Nat) (Option.some (Jvm.ClassFile.FieldType.object "java/lang/Object"))).before args0 about1 = true := code_word (m := ⟨34, 1⟩) (meth := k34m1) (c := k34c1) (by decide +kernel) rfl rfl rfl (by decide +kernel)
set_option maxRecDepth 65536 in
theorem w_c38 : (Jvm.Cond.code ({ cls := "org/portcullis/acl/AccessControlEntry", name := "granting", desc := "()Z" } : Jvm.MethodName) prog_1_method_8_code (1 : Nat) (Option.some Jvm.ClassFile.FieldType.boolean)).before args0 about1 = true := code_word (m := ⟨29, 1⟩) (meth := k29m1) (c := k29c1) (by decide +kernel) rfl rfl rfl (by decide +kernel)
set_option maxRecDepth 65536 in
theorem w_c39 : (Jvm.Cond.code ({ cls := "java/util/ImmutableCollections", name := "listFromArray", desc := "([Ljava/lang/Object;)Ljava/util/List;" } : Jvm.MethodName) jdk_56_method_4_code (3 : Nat) (Option.some (Jvm.ClassFile.FieldType.object "java/util/List"))).before args0 about1 = true := code_word (m := ⟨22, 2⟩) (meth := k22m2) (c := k22c2) (by decide +kernel) rfl rfl rfl (by decide +kernel)
set_option maxRecDepth 65536 in
theorem w_c40 : (Jvm.Cond.code ({ cls := "java/util/ImmutableCollections$ListN", name := "<init>", desc := "([Ljava/lang/Object;Z)V" } : Jvm.MethodName) jdk_45_method_1_code (3 : Nat) (Option.none : Option Jvm.ClassFile.FieldType)).before args0 about1 = true := code_word (m := ⟨26, 0⟩) (meth := k26m0) (c := k26c0) (by decide +kernel) rfl rfl rfl (by decide +kernel)
set_option maxRecDepth 65536 in
theorem w_c41 : (Jvm.Cond.code ({ cls := "java/util/ImmutableCollections$List12", name := "<init>", desc := "(Ljava/lang/Object;Ljava/lang/Object;)V" } : Jvm.MethodName) jdk_44_method_2_code (3 : Nat) (Option.none : Option Jvm.ClassFile.FieldType)).before args0 about1 = true := code_word (m := ⟨25, 1⟩) (meth := k25m1) (c := k25c1) (by decide +kernel) rfl rfl rfl (by decide +kernel)
def codes1 : List Jvm.Cond := [Jvm.Cond.code x code maxLocals ret, Jvm.Cond.code ({ cls := "java/lang/String", name := "<init>", desc := "([C)V" } : Jvm.MethodName) jdk_42_method_3_code (2 : Nat) (Option.none : Option Jvm.ClassFile.FieldType), Jvm.Cond.code ({ cls := "java/lang/String", name := "<init>", desc := "([CIILjava/lang/Void;)V" } : Jvm.MethodName) jdk_42_method_149_code (6 : Nat) (Option.none : Option Jvm.ClassFile.FieldType), Jvm.Cond.code ({ cls := "java/lang/Object", name := "<init>", desc := "()V" } : Jvm.MethodName) object_method_1_code (1 : Nat) (Option.none : Option Jvm.ClassFile.FieldType), Jvm.Cond.code ({ cls := "java/lang/StringUTF16", name := "compress", desc := "([CII)[B" } : Jvm.MethodName) jdk_52_method_16_code (6 : Nat) (Option.some (Jvm.ClassFile.FieldType.array Jvm.ClassFile.FieldType.byte)), Jvm.Cond.code ({ cls := "java/lang/StringUTF16", name := "compress", desc := "([CI[BII)I" } : Jvm.MethodName) jdk_52_method_21_code (7 : Nat) (Option.some Jvm.ClassFile.FieldType.int), Jvm.Cond.code ({ cls := "java/lang/StringUTF16", name := "coderFromArrayLen", desc := "([BI)B" } : Jvm.MethodName) jdk_52_method_15_code (2 : Nat) (Option.some Jvm.ClassFile.FieldType.byte), Jvm.Cond.code ({ cls := "org/portcullis/acl/Sid", name := "<init>", desc := "(Ljava/lang/String;Z)V" } : Jvm.MethodName) prog_13_method_1_code (3 : Nat) (Option.none : Option Jvm.ClassFile.FieldType), Jvm.Cond.code ({ cls := "java/lang/Record", name := "<init>", desc := "()V" } : Jvm.MethodName) jdk_30_method_1_code (1 : Nat) (Option.none : Option Jvm.ClassFile.FieldType), Jvm.Cond.code ({ cls := "java/lang/String", name := "valueOf", desc := "(C)Ljava/lang/String;" } : Jvm.MethodName) jdk_42_method_139_code (1 : Nat) (Option.some (Jvm.ClassFile.FieldType.object "java/lang/String")), Jvm.Cond.code ({ cls := "java/lang/StringLatin1", name := "canEncode", desc := "(C)Z" } : Jvm.MethodName) jdk_43_method_3_code (1 : Nat) (Option.some Jvm.ClassFile.FieldType.boolean), Jvm.Cond.code ({ cls := "java/lang/StringLatin1", name := "toBytes", desc := "(C)[B" } : Jvm.MethodName) jdk_43_method_46_code (1 : Nat) (Option.some (Jvm.ClassFile.FieldType.array Jvm.ClassFile.FieldType.byte)), Jvm.Cond.code ({ cls := "java/lang/String", name := "<init>", desc := "([BB)V" } : Jvm.MethodName) jdk_42_method_151_code (3 : Nat) (Option.none : Option Jvm.ClassFile.FieldType), Jvm.Cond.code ({ cls := "java/util/ArrayList", name := "<init>", desc := "()V" } : Jvm.MethodName) jdk_38_method_2_code (1 : Nat) (Option.none : Option Jvm.ClassFile.FieldType), Jvm.Cond.code ({ cls := "java/util/AbstractList", name := "<init>", desc := "()V" } : Jvm.MethodName) jdk_39_method_1_code (1 : Nat) (Option.none : Option Jvm.ClassFile.FieldType), Jvm.Cond.code ({ cls := "java/util/AbstractCollection", name := "<init>", desc := "()V" } : Jvm.MethodName) jdk_22_method_1_code (1 : Nat) (Option.none : Option Jvm.ClassFile.FieldType), Jvm.Cond.code ({ cls := "org/portcullis/acl/Outcome", name := "<init>", desc := "(Ljava/util/Collection;Lorg/portcullis/acl/AccessControlEntry;)V" } : Jvm.MethodName) prog_10_method_1_code (3 : Nat) (Option.none : Option Jvm.ClassFile.FieldType), Jvm.Cond.code ({ cls := "java/util/List", name := "copyOf", desc := "(Ljava/util/Collection;)Ljava/util/List;" } : Jvm.MethodName) jdk_40_method_48_code (1 : Nat) (Option.some (Jvm.ClassFile.FieldType.object "java/util/List")), Jvm.Cond.code ({ cls := "java/util/ImmutableCollections", name := "listCopy", desc := "(Ljava/util/Collection;)Ljava/util/List;" } : Jvm.MethodName) jdk_56_method_3_code (2 : Nat) (Option.some (Jvm.ClassFile.FieldType.object "java/util/List")), Jvm.Cond.code ({ cls := "java/util/ArrayList", name := "isEmpty", desc := "()Z" } : Jvm.MethodName) jdk_38_method_9_code (1 : Nat) (Option.some Jvm.ClassFile.FieldType.boolean), Jvm.Cond.code ({ cls := "java/util/List", name := "of", desc := "()Ljava/util/List;" } : Jvm.MethodName) jdk_40_method_36_code (0 : Nat) (Option.some (Jvm.ClassFile.FieldType.object "java/util/List")), Jvm.Cond.code ({ cls := "org/portcullis/acl/Outcome", name := "getDecision", desc := "()Lorg/portcullis/acl/Decision;" } : Jvm.MethodName) prog_10_method_2_code (1 : Nat) (Option.some (Jvm.ClassFile.FieldType.object "org/portcullis/acl/Decision")), Jvm.Cond.code ({ cls := "org/portcullis/acl/AccessControlEntry", name := "<init>", desc := "(ILorg/portcullis/acl/Sid;IZ)V" } : Jvm.MethodName) prog_1_method_1_code (5 : Nat) (Option.none : Option Jvm.ClassFile.FieldType), Jvm.Cond.code ({ cls := "org/portcullis/acl/ObjectIdentity", name := "<init>", desc := "(Ljava/lang/String;Ljava/lang/String;)V" } : Jvm.MethodName) prog_9_method_1_code (3 : Nat) (Option.none : Option Jvm.ClassFile.FieldType), Jvm.Cond.code ({ cls := "java/util/ArrayList", name := "add", desc := "(Ljava/lang/Object;)Z" } : Jvm.MethodName) jdk_38_method_25_code (2 : Nat) (Option.some Jvm.ClassFile.FieldType.boolean), Jvm.Cond.code ({ cls := "java/util/ArrayList", name := "add", desc := "(Ljava/lang/Object;[Ljava/lang/Object;I)V" } : Jvm.MethodName) jdk_38_method_24_code (4 : Nat) (Option.none : Option Jvm.ClassFile.FieldType), Jvm.Cond.code ({ cls := "java/util/ArrayList", name := "grow", desc := "()[Ljava/lang/Object;" } : Jvm.MethodName) jdk_38_method_7_code (1 : Nat) (Option.some (Jvm.ClassFile.FieldType.array (Jvm.ClassFile.FieldType.object "java/lang/Object"))), Jvm.Cond.code ({ cls := "java/util/ArrayList", name := "grow", desc := "(I)[Ljava/lang/Object;" } : Jvm.MethodName) jdk_38_method_6_code (4 : Nat) (Option.some (Jvm.ClassFile.FieldType.array (Jvm.ClassFile.FieldType.object "java/lang/Object"))), Jvm.Cond.code ({ cls := "java/lang/Math", name := "max", desc := "(II)I" } : Jvm.MethodName) jdk_29_method_65_code (2 : Nat) (Option.some Jvm.ClassFile.FieldType.int), Jvm.Cond.code ({ cls := "java/util/ArrayList", name := "toArray", desc := "()[Ljava/lang/Object;" } : Jvm.MethodName) jdk_38_method_16_code (1 : Nat) (Option.some (Jvm.ClassFile.FieldType.array (Jvm.ClassFile.FieldType.object "java/lang/Object"))), Jvm.Cond.code ({ cls := "java/util/Arrays", name := "copyOf", desc := "([Ljava/lang/Object;I)[Ljava/lang/Object;" } : Jvm.MethodName) jdk_65_method_119_code (2 : Nat) (Option.some (Jvm.ClassFile.FieldType.array (Jvm.ClassFile.FieldType.object "java/lang/Object"))), Jvm.Cond.code ({ cls := "java/util/Arrays", name := "copyOf", desc := "([Ljava/lang/Object;ILjava/lang/Class;)[Ljava/lang/Object;" } : Jvm.MethodName) jdk_65_method_120_code (4 : Nat) (Option.some (Jvm.ClassFile.FieldType.array (Jvm.ClassFile.FieldType.object "java/lang/Object"))), Jvm.Cond.code ({ cls := "java/lang/Math", name := "min", desc := "(II)I" } : Jvm.MethodName) jdk_29_method_69_code (2 : Nat) (Option.some Jvm.ClassFile.FieldType.int), Jvm.Cond.code ({ cls := "java/util/List", name := "of", desc := "([Ljava/lang/Object;)Ljava/util/List;" } : Jvm.MethodName) jdk_40_method_47_code (2 : Nat) (Option.some (Jvm.ClassFile.FieldType.object "java/util/List")), Jvm.Cond.code ({ cls := "java/util/ImmutableCollections$List12", name := "<init>", desc := "(Ljava/lang/Object;)V" } : Jvm.MethodName) jdk_44_method_1_code (2 : Nat) (Option.none : Option Jvm.ClassFile.FieldType), Jvm.Cond.code ({ cls := "java/util/ImmutableCollections$AbstractImmutableList", name := "<init>", desc := "()V" } : Jvm.MethodName) jdk_46_method_1_code (1 : Nat) (Option.none : Option Jvm.ClassFile.FieldType), Jvm.Cond.code ({ cls := "java/util/ImmutableCollections$AbstractImmutableCollection", name := "<init>", desc := "()V" } : Jvm.MethodName) jdk_47_method_1_code (1 : Nat) (Option.none : Option Jvm.ClassFile.FieldType), Jvm.Cond.code ({ cls := "java/util/Objects", name := "requireNonNull", desc := "(Ljava/lang/Object;)Ljava/lang/Object;" } : Jvm.MethodName) jdk_31_method_10_code (1 : Nat) (Option.some (Jvm.ClassFile.FieldType.object "java/lang/Object")), Jvm.Cond.code ({ cls := "org/portcullis/acl/AccessControlEntry", name := "granting", desc := "()Z" } : Jvm.MethodName) prog_1_method_8_code (1 : Nat) (Option.some Jvm.ClassFile.FieldType.boolean), Jvm.Cond.code ({ cls := "java/util/ImmutableCollections", name := "listFromArray", desc := "([Ljava/lang/Object;)Ljava/util/List;" } : Jvm.MethodName) jdk_56_method_4_code (3 : Nat) (Option.some (Jvm.ClassFile.FieldType.object "java/util/List")), Jvm.Cond.code ({ cls := "java/util/ImmutableCollections$ListN", name := "<init>", desc := "([Ljava/lang/Object;Z)V" } : Jvm.MethodName) jdk_45_method_1_code (3 : Nat) (Option.none : Option Jvm.ClassFile.FieldType), Jvm.Cond.code ({ cls := "java/util/ImmutableCollections$List12", name := "<init>", desc := "(Ljava/lang/Object;Ljava/lang/Object;)V" } : Jvm.MethodName) jdk_44_method_2_code (3 : Nat) (Option.none : Option Jvm.ClassFile.FieldType)]
set_option maxRecDepth 65536 in
theorem codes_eq : words1.filter isCode = codes1 := rfl
theorem w_codes : ∀ c ∈ words1.filter isCode, c.before args0 about1 = true := by
  rw [codes_eq]
  intro c hc
  simp only [codes1, List.mem_cons, List.not_mem_nil, or_false] at hc
  rcases hc with rfl | rfl | rfl | rfl | rfl | rfl | rfl | rfl | rfl | rfl | rfl | rfl | rfl | rfl | rfl | rfl | rfl | rfl | rfl | rfl | rfl | rfl | rfl | rfl | rfl | rfl | rfl | rfl | rfl | rfl | rfl | rfl | rfl | rfl | rfl | rfl | rfl | rfl | rfl | rfl | rfl | rfl
  · exact w_c0
  · exact w_c1
  · exact w_c2
  · exact w_c3
  · exact w_c4
  · exact w_c5
  · exact w_c6
  · exact w_c7
  · exact w_c8
  · exact w_c9
  · exact w_c10
  · exact w_c11
  · exact w_c12
  · exact w_c13
  · exact w_c14
  · exact w_c15
  · exact w_c16
  · exact w_c17
  · exact w_c18
  · exact w_c19
  · exact w_c20
  · exact w_c21
  · exact w_c22
  · exact w_c23
  · exact w_c24
  · exact w_c25
  · exact w_c26
  · exact w_c27
  · exact w_c28
  · exact w_c29
  · exact w_c30
  · exact w_c31
  · exact w_c32
  · exact w_c33
  · exact w_c34
  · exact w_c35
  · exact w_c36
  · exact w_c37
  · exact w_c38
  · exact w_c39
  · exact w_c40
  · exact w_c41
set_option maxRecDepth 65536 in
theorem w_t1 : (words1.take 24).all (fun c => isCode c || c.before args0 about1) = true := by decide +kernel
set_option maxRecDepth 65536 in
theorem w_t2 : ((words1.drop 24).take 24).all (fun c => isCode c || c.before args0 about1) = true := by decide +kernel
set_option maxRecDepth 65536 in
theorem w_t3 : (((words1.drop 24).drop 24).take 24).all (fun c => isCode c || c.before args0 about1) = true := by decide +kernel
set_option maxRecDepth 65536 in
theorem w_t4 : ((((words1.drop 24).drop 24).drop 24).take 24).all (fun c => isCode c || c.before args0 about1) = true := by decide +kernel
set_option maxRecDepth 65536 in
theorem w_t5 : (((((words1.drop 24).drop 24).drop 24).drop 24).take 24).all (fun c => isCode c || c.before args0 about1) = true := by decide +kernel
set_option maxRecDepth 65536 in
theorem w_t6 : ((((((words1.drop 24).drop 24).drop 24).drop 24).drop 24).take 24).all (fun c => isCode c || c.before args0 about1) = true := by decide +kernel
set_option maxRecDepth 65536 in
theorem w_t7 : (((((((words1.drop 24).drop 24).drop 24).drop 24).drop 24).drop 24).take 24).all (fun c => isCode c || c.before args0 about1) = true := by decide +kernel
set_option maxRecDepth 65536 in
theorem w_t8 : ((((((((words1.drop 24).drop 24).drop 24).drop 24).drop 24).drop 24).drop 24).take 24).all (fun c => isCode c || c.before args0 about1) = true := by decide +kernel
set_option maxRecDepth 65536 in
theorem w_t9 : (((((((((words1.drop 24).drop 24).drop 24).drop 24).drop 24).drop 24).drop 24).drop 24).take 24).all (fun c => isCode c || c.before args0 about1) = true := by decide +kernel
set_option maxRecDepth 65536 in
theorem w_t10 : ((((((((((words1.drop 24).drop 24).drop 24).drop 24).drop 24).drop 24).drop 24).drop 24).drop 24).take 24).all (fun c => isCode c || c.before args0 about1) = true := by decide +kernel
set_option maxRecDepth 65536 in
theorem w_t11 : (((((((((((words1.drop 24).drop 24).drop 24).drop 24).drop 24).drop 24).drop 24).drop 24).drop 24).drop 24).take 24).all (fun c => isCode c || c.before args0 about1) = true := by decide +kernel
set_option maxRecDepth 65536 in
theorem w_t12 : (((((((((((words1.drop 24).drop 24).drop 24).drop 24).drop 24).drop 24).drop 24).drop 24).drop 24).drop 24).drop 24).all (fun c => isCode c || c.before args0 about1) = true := by decide +kernel
theorem w_tables : (allAtoms (Jvm.Cond.code x code maxLocals ret :: tables_1)).before args0 about1 = true := by
  rw [allAtoms_all]
  show words1.all (fun c => c.before args0 about1) = true
  refine all_split ?_ w_codes
  rw [← List.take_append_drop 24 words1, List.all_append, w_t1, ← List.take_append_drop 24 (words1.drop 24), List.all_append, w_t2, ← List.take_append_drop 24 ((words1.drop 24).drop 24), List.all_append, w_t3, ← List.take_append_drop 24 (((words1.drop 24).drop 24).drop 24), List.all_append, w_t4, ← List.take_append_drop 24 ((((words1.drop 24).drop 24).drop 24).drop 24), List.all_append, w_t5, ← List.take_append_drop 24 (((((words1.drop 24).drop 24).drop 24).drop 24).drop 24), List.all_append, w_t6, ← List.take_append_drop 24 ((((((words1.drop 24).drop 24).drop 24).drop 24).drop 24).drop 24), List.all_append, w_t7, ← List.take_append_drop 24 (((((((words1.drop 24).drop 24).drop 24).drop 24).drop 24).drop 24).drop 24), List.all_append, w_t8, ← List.take_append_drop 24 ((((((((words1.drop 24).drop 24).drop 24).drop 24).drop 24).drop 24).drop 24).drop 24), List.all_append, w_t9, ← List.take_append_drop 24 (((((((((words1.drop 24).drop 24).drop 24).drop 24).drop 24).drop 24).drop 24).drop 24).drop 24), List.all_append, w_t10, ← List.take_append_drop 24 ((((((((((words1.drop 24).drop 24).drop 24).drop 24).drop 24).drop 24).drop 24).drop 24).drop 24).drop 24), List.all_append, w_t11, w_t12]
  rfl
set_option maxRecDepth 65536 in
theorem w_rest : rest_1_c.before args0 about1 = true := by decide +kernel
set_option maxRecDepth 65536 in
theorem w_case : (Jvm.Cond.and given_1 narrow_1).before args0 about1 = true := by decide +kernel
theorem w_applies : (headSpec (Jvm.Cond.code x code maxLocals ret :: tables_1) room_1).applies x e0.platform about1 = true :=
  (Spec.applies_iff w_frames).mpr ⟨w_running, w_runnable, w_alone, w_named, w_hears, w_ripe, w_room, w_tables⟩
theorem atStart : AtStart classFile x code maxLocals ret World_1 tables_1 room_1 Calls_1 rest_1 Pre_1 launch0 p0 e0 about1 theMethod args0 below0 :=
  ⟨lists_1, trivial, launch0.admits_env _ _ _, launch0.least_env, fairChoices_fair.cas, fairChoices_fair.clock, w_frames, w_args, w_heap, w_applies, ⟨⟨44, k44, 5, by decide +kernel, rfl, rfl, _, rfl, rfl⟩, trivial⟩, w_rest, w_case⟩
end start1
theorem witness_1 : WitnessClaimed_1 := ⟨start1.p0, start1.e0, start1.about1, start1.theMethod, start1.args0, start1.below0, start1.atStart⟩
end Jvm.Pilot.@@N@@
