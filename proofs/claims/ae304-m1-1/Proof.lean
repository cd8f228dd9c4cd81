import JvmDerived
import JvmDerived.Pilot.@@N@@Statement
import JvmDerived.Pilot.@@N@@Code
set_option linter.unusedVariables false
set_option linter.unusedSimpArgs false
/- laws to paste: Road.backV, Road.codOf (cut by pick.py; bodies as the Statement names them) -/
namespace Jvm.Pilot.@@N@@
namespace StrChars
open Jvm Sem ClassFile Op Lib Jvm.Stand Jvm.Free.XT Jvm.Free.ALB Jvm.Free.JM Jvm.Free
open Jvm.Lib.Cold (StaticIs)
/-- a char array whose places are chars -/
def Ch (a : Addr) (A : Cell) (U : State) : Prop := Arr .char a A U ∧ Typed .char A
theorem Ch.mv {a : Addr} {A : Cell} {U U' : State} (h : Ch a A U) (hal : U.vm.Alike U'.vm) (hh : U'.heap = U.heap) : Ch a A U' := ⟨h.1.mv hal hh, h.2⟩
theorem Ch.keep {a : Addr} {A : Cell} {U U' : State} (h : Ch a A U) (hal : U.vm.Alike U'.vm) (hk : U'.heap[a]? = some A) : Ch a A U' := ⟨h.1.keep hal hk, h.2⟩
/-- what place i of a char[]'s cell holds -/
def cv (A : Cell) (i : Nat) : Int32 := match A.slots[i]? with | some (.int x) => x | _ => 0
theorem Ch.get {a : Addr} {A : Cell} {U : State} (h : Ch a A U) {i : Nat} (hi : i < A.slots.size) : A.slots[i]? = some (.int (cv A i)) := by
  have e := Array.getElem?_eq_getElem hi
  have f := h.2 i _ e
  unfold cv; rw [e]
  generalize A.slots[i] = v at f
  cases v <;> simp [fits] at f ⊢
/-- the byte that i2b leaves of a char -/
def lo8 (x : Int32) : Int32 := x.toInt8.toInt32
theorem fits_lo8 (y : Int32) : fits .byte (.int (lo8 y)) = true := by
  have h1 := y.toInt8.le_toInt
  have h2 := y.toInt8.toInt_lt
  simp only [lo8, fits, Bool.and_eq_true, decide_eq_true_eq, Int32.le_iff_toInt_le, Int8.toInt_toInt32, show (-128 : Int32).toInt = -128 from by decide, show (127 : Int32).toInt = 127 from by decide]
  omega
/-- A' is A but that each place j of lo .. hi - 1 holds f j -/
def Laid (A A' : Cell) (lo hi : Nat) (f : Nat → Value) : Prop := A'.cls = A.cls ∧ A'.vm = A.vm ∧ A'.slots.size = A.slots.size ∧ ∀ i, A'.slots[i]? = if lo ≤ i ∧ i < hi then some (f i) else A.slots[i]?
theorem Laid.zero (A : Cell) (lo : Nat) (f : Nat → Value) : Laid A A lo (lo + 0) f := ⟨rfl, rfl, rfl, fun i => by rw [if_neg (by omega)]⟩
theorem Laid.step {A Ak : Cell} {lo k : Nat} {f : Nat → Value} {v : Value} (h : Laid A Ak lo k f) (hlo : lo ≤ k) (hk : k < Ak.slots.size) (hv : v = f k) : Laid A (Ak.setSlot k v) lo (k + 1) f := by
  refine ⟨h.1, h.2.1, by simpa [Cell.setSlot] using h.2.2.1, fun i => ?_⟩
  by_cases e : k = i
  · subst e; rw [Cell.slots_setSlot_self v hk, if_pos (by omega), hv]
  · rw [Cell.slots_setSlot_ne v e, h.2.2.2 i]
    by_cases q : lo ≤ i ∧ i < k
    · rw [if_pos q, if_pos (by omega)]
    · rw [if_neg q, if_neg (by omega)]
def U16 : String := "java/lang/StringUTF16"
namespace Cmp5
def yN : MethodName := ⟨"java/lang/StringUTF16", "compress", "([CI[BII)I"⟩
abbrev yB : ByteArray := jdk_52_method_21_code
theorem d0 : decode yB 0 = .ok (.iconst 0, 1) := by decide +kernel
theorem d1 : decode yB 1 = .ok (.istore 5, 2) := by decide +kernel
theorem d3 : decode yB 3 = .ok (.iload 5, 2) := by decide +kernel
theorem d5 : decode yB 5 = .ok (.iload 4, 2) := by decide +kernel
theorem d7 : decode yB 7 = .ok (.if_icmp (.ge) 37, 3) := by decide +kernel
theorem d10 : decode yB 10 = .ok (.aload_n 0, 1) := by decide +kernel
theorem d11 : decode yB 11 = .ok (.iload_n 1, 1) := by decide +kernel
theorem d12 : decode yB 12 = .ok (.caload, 1) := by decide +kernel
theorem d13 : decode yB 13 = .ok (.istore 6, 2) := by decide +kernel
theorem d15 : decode yB 15 = .ok (.iload 6, 2) := by decide +kernel
theorem d17 : decode yB 17 = .ok (.sipush 255, 3) := by decide +kernel
theorem d20 : decode yB 20 = .ok (.if_icmp (.le) 6, 3) := by decide +kernel
theorem d26 : decode yB 26 = .ok (.aload_n 2, 1) := by decide +kernel
theorem d27 : decode yB 27 = .ok (.iload_n 3, 1) := by decide +kernel
theorem d28 : decode yB 28 = .ok (.iload 6, 2) := by decide +kernel
theorem d30 : decode yB 30 = .ok (.i2b, 1) := by decide +kernel
theorem d31 : decode yB 31 = .ok (.bastore, 1) := by decide +kernel
theorem d32 : decode yB 32 = .ok (.iinc 1 1, 3) := by decide +kernel
theorem d35 : decode yB 35 = .ok (.iinc 3 1, 3) := by decide +kernel
theorem d38 : decode yB 38 = .ok (.iinc 5 1, 3) := by decide +kernel
theorem d41 : decode yB 41 = .ok (.goto (-38), 3) := by decide +kernel
theorem d44 : decode yB 44 = .ok (.iload 4, 2) := by decide +kernel
theorem d46 : decode yB 46 = .ok (.ireturn, 1) := by decide +kernel
def site : List Cond := []
def tab : Cond := tabOf yN yB 7 (some .int) site
def P (b : Addr) (A : Cell) (d : Addr) (B : Cell) (o q len : Nat) (args : Array Value) (s : State) : Prop := args = #[.ref b, .int (Int32.ofNat o), .ref d, .int (Int32.ofNat q), .int (Int32.ofNat len)] ∧ Ch b A s ∧ Arr .byte d B s ∧ b ≠ d ∧ o + len ≤ A.slots.size ∧ q + len ≤ B.slots.size ∧ ∀ i, i < len → ¬ 255 < cv A (o + i)
def E (b : Addr) (A : Cell) (d : Addr) (B : Cell) (o q len : Nat) (r : Option Value) (s u : State) : Prop := r = some (.int (Int32.ofNat len)) ∧ ∃ B', Put d B' s u ∧ Laid B B' q (q + len) (fun j => Value.int (lo8 (cv A (o + (j - q)))))
/-- no char of the range above 255: len; the places written hold each char's low byte -/
theorem law (l : Launch) (b : Addr) (A : Cell) (d : Addr) (B : Cell) (o q len : Nat) : Law l yN 5 5 0 0 yB 7 (some .int) site (P b A d B o q len) (E b A d B o q len) (copyLocs d q len) 0 0 := by
  refine Law.of_walk (plainFor_of_name (by decide +kernel)) (by decide +kernel) (by decide +kernel) (by decide) (fun _ _ h => by rw [h.1]; rfl) (fun _ U U' hal hh h => ⟨h.1, h.2.1.mv hal hh, h.2.2.1.mv hal hh, h.2.2.2⟩) (fun r U U' V V' h1 hal h2 h => ⟨h.1, h.2.elim fun B' q => ⟨B', q.1.mv h1 h2, q.2⟩⟩) ?_
  intro p e s m args below meth c s₁ X0 hexec hbytes hml hret hlk hnm hown hh0 W hP
  obtain ⟨rfl, hA, hB, hne, l1, l2, hp⟩ := hP
  have c1 : Steps p.tables e below (s₁.setTop (entryFrame m #[.ref b, .int (Int32.ofNat o), .ref d, .int (Int32.ofNat q), .int (Int32.ofNat len)] 7)) (s₁.setTop (mkF m 0 #[.val (.ref b), .val (.int (Int32.ofNat o)), .val (.ref d), .val (.int (Int32.ofNat q)), .val (.int (Int32.ofNat len)), .unset, .unset] [])) := entry rfl
  have hA0 := hA.1.mv X0.warmed.alike hh0
  have hB0 := hB.mv X0.warmed.alike hh0
  have a31 := hA.1.2.2.2
  have c2 : Steps p.tables e below (s₁.setTop (entryFrame m #[.ref b, .int (Int32.ofNat o), .ref d, .int (Int32.ofNat q), .int (Int32.ofNat len)] 7)) (s₁.setTop (mkF m 3 #[.val (.ref b), .val (.int (Int32.ofNat o)), .val (.ref d), .val (.int (Int32.ofNat q)), .val (.int (Int32.ofNat len)), .val (.int 0), .unset] [])) := c1.trans (by
    refine iconstV X0.here hexec rfl 0 (hb hbytes d0) (by decide) ?_
    refine XS.istore X0.here hexec rfl (hb hbytes d1) rfl rfl ?_
    exact Steps.refl _)
  have loop : ∀ (r i : Nat), i + r = len → ∀ (z : Slot), (z = .unset ∨ ∃ w, z = .val w ∧ w.category = 1) → ∀ (Tl : State) (Bk : Cell), Stand p l e { frames := 0, locals := 0, cells := 0, slots := 0 } s m #[.ref b, .int (Int32.ofNat o), .ref d, .int (Int32.ofNat q), .int (Int32.ofNat len)] below meth c Tl ([] ++ copyLocs d q i) 0 0 → Put d Bk s₁ Tl → Laid B Bk q (q + i) (fun j => Value.int (lo8 (cv A (o + (j - q))))) →
      Steps p.tables e below (s₁.setTop (entryFrame m #[.ref b, .int (Int32.ofNat o), .ref d, .int (Int32.ofNat q), .int (Int32.ofNat len)] 7)) (Tl.setTop (mkF m 3 #[.val (.ref b), .val (.int (Int32.ofNat (o + i))), .val (.ref d), .val (.int (Int32.ofNat (q + i))), .val (.int (Int32.ofNat len)), .val (.int (Int32.ofNat i)), z] [])) → ∃ (T' : State) (B' : Cell) (z' : Slot), Stand p l e { frames := 0, locals := 0, cells := 0, slots := 0 } s m #[.ref b, .int (Int32.ofNat o), .ref d, .int (Int32.ofNat q), .int (Int32.ofNat len)] below meth c T' ([] ++ copyLocs d q len) 0 0 ∧ Put d B' s₁ T' ∧ Laid B B' q (q + len) (fun j => Value.int (lo8 (cv A (o + (j - q))))) ∧
      Steps p.tables e below (s₁.setTop (entryFrame m #[.ref b, .int (Int32.ofNat o), .ref d, .int (Int32.ofNat q), .int (Int32.ofNat len)] 7)) (T'.setTop (mkF m 3 #[.val (.ref b), .val (.int (Int32.ofNat (o + len))), .val (.ref d), .val (.int (Int32.ofNat (q + len))), .val (.int (Int32.ofNat len)), .val (.int (Int32.ofNat len)), z'] [])) := by
    intro r
    induction r with
    | zero =>
      intro i hi z hz Tl Bk Xl pl fl cl
      have hil : i = len := by omega
      rw [hil] at Xl fl cl
      exact ⟨Tl, Bk, z, Xl, pl, fl, cl⟩
    | succ r ih =>
      intro i hi z hz Tl Bk Xl pl fl cl
      have all := X0.warmed.alike.symm.trans Xl.warmed.alike
      have hAl := hA0.keep all (pl.other hne hA0.1)
      have hBk := hB0.like all pl.1 fl.1 fl.2.1 fl.2.2.1
      have hlt : q + i < Bk.slots.size := by rw [fl.2.2.1]; omega
      have c3 : Steps p.tables e below (s₁.setTop (entryFrame m #[.ref b, .int (Int32.ofNat o), .ref d, .int (Int32.ofNat q), .int (Int32.ofNat len)] 7)) (Tl.setTop (mkF m 12 #[.val (.ref b), .val (.int (Int32.ofNat (o + i))), .val (.ref d), .val (.int (Int32.ofNat (q + i))), .val (.int (Int32.ofNat len)), .val (.int (Int32.ofNat i)), z] [.int (Int32.ofNat (o + i)), .ref b])) := cl.trans (by
        refine XS.iload Xl.here hexec rfl (hb hbytes d3) rfl ?_
        refine XS.iload Xl.here hexec rfl (hb hbytes d5) rfl ?_
        refine XS.icmpNo Xl.here hexec rfl (hb hbytes d7) rfl (ii_ge_f (lt32 (by omega) (by omega))) ?_
        refine XS.aloadN Xl.here hexec rfl (hb hbytes d10) rfl rfl ?_
        refine XS.iloadN Xl.here hexec rfl (hb hbytes d11) rfl ?_
        exact Steps.refl _)
      have c4 : Steps p.tables e below (s₁.setTop (entryFrame m #[.ref b, .int (Int32.ofNat o), .ref d, .int (Int32.ofNat q), .int (Int32.ofNat len)] 7)) (Tl.setTop (mkF m 13 #[.val (.ref b), .val (.int (Int32.ofNat (o + i))), .val (.ref d), .val (.int (Int32.ofNat (q + i))), .val (.int (Int32.ofNat len)), .val (.int (Int32.ofNat i)), z] [.int (cv A (o + i))])) := c3.trans (by
        refine Xl.aget hexec hAl rfl (hA.get (i := o + i) (by omega)) rfl rfl (hb hbytes d12) ?_
        exact Steps.refl _)
      have c5 : Steps p.tables e below (s₁.setTop (entryFrame m #[.ref b, .int (Int32.ofNat o), .ref d, .int (Int32.ofNat q), .int (Int32.ofNat len)] 7)) (Tl.setTop (mkF m 15 #[.val (.ref b), .val (.int (Int32.ofNat (o + i))), .val (.ref d), .val (.int (Int32.ofNat (q + i))), .val (.int (Int32.ofNat len)), .val (.int (Int32.ofNat i)), .val (.int (cv A (o + i)))] [])) := c4.trans (by
        refine XS.istoreS Xl.here hexec rfl (hb hbytes d13) rfl rfl hz ?_
        exact Steps.refl _)
      have c6 : Steps p.tables e below (s₁.setTop (entryFrame m #[.ref b, .int (Int32.ofNat o), .ref d, .int (Int32.ofNat q), .int (Int32.ofNat len)] 7)) (Tl.setTop (mkF m 31 #[.val (.ref b), .val (.int (Int32.ofNat (o + i))), .val (.ref d), .val (.int (Int32.ofNat (q + i))), .val (.int (Int32.ofNat len)), .val (.int (Int32.ofNat i)), .val (.int (cv A (o + i)))] [.int (lo8 (cv A (o + i))), .int (Int32.ofNat (q + i)), .ref d])) := c5.trans (by
        refine XS.iload Xl.here hexec rfl (hb hbytes d15) rfl ?_
        refine sipushV Xl.here hexec rfl 255 (hb hbytes d17) (by decide) ?_
        refine XS.icmpYes Xl.here hexec rfl (pc0 := 20) rfl (hb hbytes d20) rfl (ii_le_t (hp i (by omega))) (by decide) rfl ?_
        refine XS.aloadN Xl.here hexec rfl (hb hbytes d26) rfl rfl ?_
        refine XS.iloadN Xl.here hexec rfl (hb hbytes d27) rfl ?_
        refine XS.iload Xl.here hexec rfl (hb hbytes d28) rfl ?_
        refine i2b Xl.here hexec rfl (hb hbytes d30) rfl ?_
        exact Steps.refl _)
      obtain ⟨T7, X7, p7, st7⟩ := Xl.aput hexec hBk rfl hlt rfl (fits_lo8 (cv A (o + i))) (g := (mkF m 31 #[.val (.ref b), .val (.int (Int32.ofNat (o + i))), .val (.ref d), .val (.int (Int32.ofNat (q + i))), .val (.int (Int32.ofNat len)), .val (.int (Int32.ofNat i)), .val (.int (cv A (o + i)))] [.int (lo8 (cv A (o + i))), .int (Int32.ofNat (q + i)), .ref d])) rfl (rest := []) rfl (hb hbytes d31)
      have c8 : Steps p.tables e below (s₁.setTop (entryFrame m #[.ref b, .int (Int32.ofNat o), .ref d, .int (Int32.ofNat q), .int (Int32.ofNat len)] 7)) (T7.setTop (mkF m 32 #[.val (.ref b), .val (.int (Int32.ofNat (o + i))), .val (.ref d), .val (.int (Int32.ofNat (q + i))), .val (.int (Int32.ofNat len)), .val (.int (Int32.ofNat i)), .val (.int (cv A (o + i)))] [])) := c6.trans (st7 _ (Steps.refl _))
      have c9 : Steps p.tables e below (s₁.setTop (entryFrame m #[.ref b, .int (Int32.ofNat o), .ref d, .int (Int32.ofNat q), .int (Int32.ofNat len)] 7)) (T7.setTop (mkF m 3 #[.val (.ref b), .val (.int (Int32.ofNat (o + i) + 1)), .val (.ref d), .val (.int (Int32.ofNat (q + i) + 1)), .val (.int (Int32.ofNat len)), .val (.int (Int32.ofNat i + 1)), .val (.int (cv A (o + i)))] [])) := c8.trans (by
        refine iincV X7.here hexec rfl 1 (hb hbytes d32) (by decide) rfl rfl ?_
        refine iincV X7.here hexec rfl 1 (hb hbytes d35) (by decide) rfl rfl ?_
        refine iincV X7.here hexec rfl 1 (hb hbytes d38) (by decide) rfl rfl ?_
        refine XS.goto X7.here hexec rfl (pc0 := 41) rfl (hb hbytes d41) (by decide) rfl ?_
        exact Steps.refl _)
      have c10 : Steps p.tables e below (s₁.setTop (entryFrame m #[.ref b, .int (Int32.ofNat o), .ref d, .int (Int32.ofNat q), .int (Int32.ofNat len)] 7)) (T7.setTop (mkF m 3 #[.val (.ref b), .val (.int (Int32.ofNat (o + (i + 1)))), .val (.ref d), .val (.int (Int32.ofNat (q + (i + 1)))), .val (.int (Int32.ofNat len)), .val (.int (Int32.ofNat (i + 1))), .val (.int (cv A (o + i)))] [])) := by
        have := c9
        rw [succ32, succ32, succ32] at this
        exact this
      exact ih (i + 1) (by omega) _ (Or.inr ⟨_, rfl, rfl⟩) T7 _ (by rw [copyLocs_step, ← List.append_assoc]; exact X7) (pl.trans p7) (fl.step (by omega) hlt (by simp)) c10
  obtain ⟨T9, B9, z9, X9, p9, f9, g9⟩ := loop len 0 (by omega) .unset (Or.inl rfl) s₁ B (by simpa [copyLocs] using X0) ⟨hB0.1, fun _ _ => rfl, rfl⟩ (Laid.zero _ _ _) c2
  have c11 : Steps p.tables e below (s₁.setTop (entryFrame m #[.ref b, .int (Int32.ofNat o), .ref d, .int (Int32.ofNat q), .int (Int32.ofNat len)] 7)) (T9.setTop (mkF m 46 #[.val (.ref b), .val (.int (Int32.ofNat (o + len))), .val (.ref d), .val (.int (Int32.ofNat (q + len))), .val (.int (Int32.ofNat len)), .val (.int (Int32.ofNat len)), z9] [.int (Int32.ofNat len)])) := g9.trans (by
    refine XS.iload X9.here hexec rfl (hb hbytes d3) rfl ?_
    refine XS.iload X9.here hexec rfl (hb hbytes d5) rfl ?_
    refine XS.icmpYes X9.here hexec rfl (pc0 := 7) rfl (hb hbytes d7) rfl (ii_ge_t (nlt32 (by omega) (Nat.le_refl _))) (by decide) rfl ?_
    refine XS.iload X9.here hexec rfl (hb hbytes d44) rfl ?_
    exact Steps.refl _)
  exact ⟨T9, some (.int (Int32.ofNat len)), _, _, _, X9, by simp, rfl, rfl, (fun h => by cases h), ⟨rfl, B9, p9.from hh0, f9⟩, fun fs hl => c11.trans (X9.ireturnOut hexec hret rfl (Or.inl rfl) (hb hbytes d46) hl)⟩
end Cmp5
namespace Cmp3
def yN : MethodName := ⟨"java/lang/StringUTF16", "compress", "([CII)[B"⟩
abbrev yB : ByteArray := jdk_52_method_16_code
theorem d0 : decode yB 0 = .ok (.iload_n 2, 1) := by decide +kernel
theorem d1 : decode yB 1 = .ok (.newarray .byte, 2) := by decide +kernel
theorem d3 : decode yB 3 = .ok (.astore_n 3, 1) := by decide +kernel
theorem d4 : decode yB 4 = .ok (.aload_n 0, 1) := by decide +kernel
theorem d5 : decode yB 5 = .ok (.iload_n 1, 1) := by decide +kernel
theorem d6 : decode yB 6 = .ok (.aload_n 3, 1) := by decide +kernel
theorem d7 : decode yB 7 = .ok (.iconst 0, 1) := by decide +kernel
theorem d8 : decode yB 8 = .ok (.iload_n 2, 1) := by decide +kernel
theorem d9 : decode yB 9 = .ok (.invokestatic 115, 3) := by decide +kernel
theorem d12 : decode yB 12 = .ok (.istore 4, 2) := by decide +kernel
theorem d14 : decode yB 14 = .ok (.iload 4, 2) := by decide +kernel
theorem d16 : decode yB 16 = .ok (.iload_n 2, 1) := by decide +kernel
theorem d17 : decode yB 17 = .ok (.if_icmp (.eq) 40, 3) := by decide +kernel
theorem d57 : decode yB 57 = .ok (.aload_n 3, 1) := by decide +kernel
theorem d58 : decode yB 58 = .ok (.areturn, 1) := by decide +kernel
def site : List Cond := [.arrayClass .byte, Cmp5.tab] ++ staticW U16 115 Cmp5.yN
def tab : Cond := tabOf yN yB 6 (some (.array .byte)) site
def P (b : Addr) (A : Cell) (o len : Nat) (args : Array Value) (s : State) : Prop := args = #[.ref b, .int (Int32.ofNat o), .int (Int32.ofNat len)] ∧ Ch b A s ∧ o + len ≤ A.slots.size ∧ len ≤ 536870912 ∧ ∀ i, i < len → ¬ 255 < cv A (o + i)
def E (b : Addr) (A : Cell) (o len : Nat) (r : Option Value) (s u : State) : Prop := NewArr .byte "[B" len (fun j => .int (lo8 (cv A (o + j)))) r s u ∧ u.heap.size = s.heap.size + 1
/-- no char of the range above 255: a new byte[] of their low bytes -/
theorem law (l : Launch) (b : Addr) (A : Cell) (o len : Nat) : Law l yN 3 3 1 18 yB 6 (some (.array .byte)) site (P b A o len) (E b A o len) [] 1 len := by
  refine Law.of_walk (plainFor_of_name (by decide +kernel)) (by decide +kernel) (by decide +kernel) (by decide) (fun _ _ h => by rw [h.1]; rfl) (fun _ U U' hal hh h => ⟨h.1, h.2.1.mv hal hh, h.2.2⟩) (fun r U U' V V' h1 hal h2 h => ⟨NewArr.mv r U U' V V' h1 hal h2 h.1, by rw [h1, h2]; exact h.2⟩) ?_
  intro p e s m args below meth c s₁ X0 hexec hbytes hml hret hlk hnm hown hh0 W hP
  obtain ⟨rfl, hA, l1, l2, hp⟩ := hP
  have a31 := hA.1.2.2.2
  have c1 : Steps p.tables e below (s₁.setTop (entryFrame m #[.ref b, .int (Int32.ofNat o), .int (Int32.ofNat len)] 6)) (s₁.setTop (mkF m 0 #[.val (.ref b), .val (.int (Int32.ofNat o)), .val (.int (Int32.ofNat len)), .unset, .unset, .unset] [])) := entry rfl
  have c2 : Steps p.tables e below (s₁.setTop (entryFrame m #[.ref b, .int (Int32.ofNat o), .int (Int32.ofNat len)] 6)) (s₁.setTop (mkF m 1 #[.val (.ref b), .val (.int (Int32.ofNat o)), .val (.int (Int32.ofNat len)), .unset, .unset, .unset] [.int (Int32.ofNat len)])) := c1.trans (by
    refine XS.iloadN X0.here hexec rfl (hb hbytes d0) rfl ?_
    exact Steps.refl _)
  obtain ⟨T3, B3, X3, ba3, bs3, bv3, bh3, bf3, st3⟩ := X0.anew hexec (atype := .byte) (wk W (.arrayClass .byte)) rfl (by show len * 1 ≤ _; omega) (by omega) (g := (mkF m 1 #[.val (.ref b), .val (.int (Int32.ofNat o)), .val (.int (Int32.ofNat len)), .unset, .unset, .unset] [.int (Int32.ofNat len)])) rfl (hb hbytes d1) (rest := []) rfl (Nat.le_refl _) (by show 0 + len ≤ len; omega)
  rw [hh0] at ba3 st3
  have kp3 : XT.Kept s T3 := (XT.Kept.of_eq hh0).push bh3
  have hA3 := hA.keep X3.warmed.alike (kp3 _ _ hA.1.1)
  have hne : b ≠ s.heap.size := hA.1.ne
  have c4 : Steps p.tables e below (s₁.setTop (entryFrame m #[.ref b, .int (Int32.ofNat o), .int (Int32.ofNat len)] 6)) (T3.setTop (mkF m 3 #[.val (.ref b), .val (.int (Int32.ofNat o)), .val (.int (Int32.ofNat len)), .unset, .unset, .unset] [.ref s.heap.size])) := c2.trans (st3 _ (Steps.refl _))
  have c5 : Steps p.tables e below (s₁.setTop (entryFrame m #[.ref b, .int (Int32.ofNat o), .int (Int32.ofNat len)] 6)) (T3.setTop (mkF m 9 #[.val (.ref b), .val (.int (Int32.ofNat o)), .val (.int (Int32.ofNat len)), .val (.ref s.heap.size), .unset, .unset] [.int (Int32.ofNat len), .int 0, .ref s.heap.size, .int (Int32.ofNat o), .ref b])) := c4.trans (by
    refine XS.astoreN X3.here hexec rfl (hb hbytes d3) rfl rfl rfl ?_
    refine XS.aloadN X3.here hexec rfl (hb hbytes d4) rfl rfl ?_
    refine XS.iloadN X3.here hexec rfl (hb hbytes d5) rfl ?_
    refine XS.aloadN X3.here hexec rfl (hb hbytes d6) rfl rfl ?_
    refine iconstV X3.here hexec rfl 0 (hb hbytes d7) (by decide) ?_
    refine XS.iloadN X3.here hexec rfl (hb hbytes d8) rfl ?_
    exact Steps.refl _)
  obtain ⟨v6, T6, X6, E6, g6⟩ := X3.callS hexec (Cmp5.law l b A s.heap.size B3 o 0 len) hown (wks W (staticW U16 115 Cmp5.yN)) (wk W Cmp5.tab) (W := 0) (Nat.le_of_ble_eq_true rfl) (Nat.le_of_ble_eq_true rfl) (Nat.le_refl _) (by show 0 + len + 0 ≤ len; omega) (g := (mkF m 9 #[.val (.ref b), .val (.int (Int32.ofNat o)), .val (.int (Int32.ofNat len)), .val (.ref s.heap.size), .unset, .unset] [.int (Int32.ofNat len), .int (Int32.ofNat 0), .ref s.heap.size, .int (Int32.ofNat o), .ref b])) rfl (by rw [hml]; rfl) c5 (argsL := [.ref b, .int (Int32.ofNat o), .ref s.heap.size, .int (Int32.ofNat 0), .int (Int32.ofNat len)]) (rest := []) rfl rfl (by show 2 * 0 + 0 ≤ _; decide) (hb hbytes d9) (⟨rfl, hA3, ba3, hne, l1, by rw [bs3]; simp, hp⟩)
  obtain ⟨rfl, B6, p6, f6⟩ := E6
  have c7 : Steps p.tables e below (s₁.setTop (entryFrame m #[.ref b, .int (Int32.ofNat o), .int (Int32.ofNat len)] 6)) (T6.setTop (mkF m 12 #[.val (.ref b), .val (.int (Int32.ofNat o)), .val (.int (Int32.ofNat len)), .val (.ref s.heap.size), .unset, .unset] [.int (Int32.ofNat len)])) := g6
  have c8 : Steps p.tables e below (s₁.setTop (entryFrame m #[.ref b, .int (Int32.ofNat o), .int (Int32.ofNat len)] 6)) (T6.setTop (mkF m 58 #[.val (.ref b), .val (.int (Int32.ofNat o)), .val (.int (Int32.ofNat len)), .val (.ref s.heap.size), .val (.int (Int32.ofNat len)), .unset] [.ref s.heap.size])) := c7.trans (by
    refine XS.istore X6.here hexec rfl (hb hbytes d12) rfl rfl ?_
    refine XS.iload X6.here hexec rfl (hb hbytes d14) rfl ?_
    refine XS.iloadN X6.here hexec rfl (hb hbytes d16) rfl ?_
    refine XS.icmpYes X6.here hexec rfl (pc0 := 17) rfl (hb hbytes d17) rfl (ii_eq_t rfl) (by decide) rfl ?_
    refine XS.aloadN X6.here hexec rfl (hb hbytes d57) rfl rfl ?_
    exact Steps.refl _)
  have X8 := X6.wide (L' := []) (cells' := 1) (slots' := len) (fun x hx hlt => by
    simp only [List.nil_append, copyLocs, List.mem_map, List.mem_range] at hx
    obtain ⟨i, -, rfl⟩ := hx
    exact absurd hlt (Nat.lt_irrefl _)) (Nat.le_refl _) (by omega)
  exact ⟨T6, some (.ref s.heap.size), _, _, _, X8, rfl, rfl, rfl, (fun h => by cases h), ⟨⟨rfl, B6, ba3.like (X3.warmed.alike.symm.trans X6.warmed.alike) p6.1 f6.1 f6.2.1 f6.2.2.1, f6.2.1.trans bv3, by rw [X6.warmed.alike.findClass, f6.1]; exact bf3, by rw [f6.2.2.1, bs3]; simp, fun j hj => by rw [f6.2.2.2 j, if_pos (by omega)]; rfl, kp3.put p6 (Nat.le_refl _)⟩, by rw [p6.2.2, bh3, hh0]; simp⟩, fun fs hl => c8.trans (X8.areturnOut hexec rfl hret rfl (hb hbytes d58) hl)⟩
end Cmp3
namespace CodL
def yN : MethodName := ⟨"java/lang/StringUTF16", "coderFromArrayLen", "([BI)B"⟩
abbrev yB : ByteArray := jdk_52_method_15_code
theorem d0 : decode yB 0 = .ok (.iload_n 1, 1) := by decide +kernel
theorem d1 : decode yB 1 = .ok (.aload_n 0, 1) := by decide +kernel
theorem d2 : decode yB 2 = .ok (.arraylength, 1) := by decide +kernel
theorem d3 : decode yB 3 = .ok (.isub, 1) := by decide +kernel
theorem d4 : decode yB 4 = .ok (.bipush 31, 2) := by decide +kernel
theorem d6 : decode yB 6 = .ok (.iushr, 1) := by decide +kernel
theorem d7 : decode yB 7 = .ok (.i2b, 1) := by decide +kernel
theorem d8 : decode yB 8 = .ok (.ireturn, 1) := by decide +kernel
def site : List Cond := []
def tab : Cond := tabOf yN yB 2 (some .byte) site
def P (d : Addr) (B : Cell) (args : Array Value) (s : State) : Prop := args = #[.ref d, .int (Int32.ofNat B.slots.size)] ∧ Arr .byte d B s
def E (r : Option Value) (s u : State) : Prop := XT.PureE (some (.int 0)) r s u
/-- an array as long as the number of chars: LATIN1 -/
theorem law (l : Launch) (d : Addr) (B : Cell) : Law l yN 2 2 0 0 yB 2 (some .byte) site (P d B) E [] 0 0 := by
  refine Law.of_walk (plainFor_of_name (by decide +kernel)) (by decide +kernel) (by decide +kernel) (by decide) (fun _ _ h => by rw [h.1]; rfl) (fun _ U U' hal hh h => ⟨h.1, h.2.mv hal hh⟩) (fun r U U' V V' h1 hal h2 h => XT.PureE.mv r U U' V V' h1 hal h2 h) ?_
  intro p e s m args below meth c s₁ X0 hexec hbytes hml hret hlk hnm hown hh0 W hP
  obtain ⟨rfl, hB⟩ := hP
  have hB0 := hB.mv X0.warmed.alike hh0
  have c1 : Steps p.tables e below (s₁.setTop (entryFrame m #[.ref d, .int (Int32.ofNat B.slots.size)] 2)) (s₁.setTop (mkF m 0 #[.val (.ref d), .val (.int (Int32.ofNat B.slots.size))] [])) := entry rfl
  have c2 : Steps p.tables e below (s₁.setTop (entryFrame m #[.ref d, .int (Int32.ofNat B.slots.size)] 2)) (s₁.setTop (mkF m 2 #[.val (.ref d), .val (.int (Int32.ofNat B.slots.size))] [.ref d, .int (Int32.ofNat B.slots.size)])) := c1.trans (by
    refine XS.iloadN X0.here hexec rfl (hb hbytes d0) rfl ?_
    refine XS.aloadN X0.here hexec rfl (hb hbytes d1) rfl rfl ?_
    exact Steps.refl _)
  have c3 : Steps p.tables e below (s₁.setTop (entryFrame m #[.ref d, .int (Int32.ofNat B.slots.size)] 2)) (s₁.setTop (mkF m 8 #[.val (.ref d), .val (.int (Int32.ofNat B.slots.size))] [.int (lo8 (ushr (Int32.ofNat B.slots.size - Int32.ofNat B.slots.size) 31))])) := c2.trans (by
    refine X0.alen hexec hB0 rfl rfl (hb hbytes d2) ?_
    refine XS.isub X0.here hexec rfl (hb hbytes d3) rfl ?_
    refine bipushV X0.here hexec rfl 31 (hb hbytes d4) (by decide) ?_
    refine iushr X0.here hexec rfl (hb hbytes d6) rfl ?_
    refine i2b X0.here hexec rfl (hb hbytes d7) rfl ?_
    exact Steps.refl _)
  have e0 : lo8 (ushr (Int32.ofNat B.slots.size - Int32.ofNat B.slots.size) 31) = 0 := by rw [Int32.sub_self]; decide
  rw [e0] at c3
  exact ⟨s₁, some (.int 0), _, _, _, X0, rfl, rfl, rfl, (fun h => by cases h), ⟨rfl, hh0⟩, fun fs hl => c3.trans (X0.ireturnOut hexec hret rfl (Or.inr (Or.inr (Or.inl rfl))) (hb hbytes d8) hl)⟩
end CodL
/-- the String at a is Latin-1 over a new byte[] (the heap's one new cell): the low bytes of the len chars of A from o on; every cell but a is kept -/
def Got (a : Addr) (D : Cell) (fV fC : Field) (A : Cell) (o len : Nat) (r : Option Value) (s u : State) : Prop := r = none ∧ ∃ D' V : Cell, Blank "java/lang/String" a D' u ∧ Same D D' [fV.slot, fC.slot] ∧ D'.slots[fV.slot]? = some (.ref s.heap.size) ∧ D'.slots[fC.slot]? = some (.int 0) ∧ Arr .byte s.heap.size V u ∧ V.vm = .none ∧ u.vm.findClass "[B" = some V.cls ∧ V.slots.size = len ∧ (∀ j, j < len → V.slots[j]? = some (.int (lo8 (cv A (o + j))))) ∧ (∀ (y : Addr) (c : Cell), y ≠ a → s.heap[y]? = some c → u.heap[y]? = some c) ∧ u.heap.size = s.heap.size + 1
theorem Got.mv {a : Addr} {D A : Cell} {fV fC : Field} {o len : Nat} : ∀ r (U U' V V' : State), U'.heap = U.heap → V.vm.Alike V'.vm → V'.heap = V.heap → Got a D fV fC A o len r U V → Got a D fV fC A o len r U' V' :=
  fun r U U' V V' h1 hal h2 ⟨e0, D', X, a1, a2, a3, a4, a5, a6, a7, a8, a9, a10, a11⟩ => ⟨e0, D', X, a1.mv hal h2, a2, by rw [h1]; exact a3, a4, by rw [h1]; exact a5.mv hal h2, a6, by rw [hal.findClass]; exact a7, a8, a9, by rw [h1, h2]; exact a10, by rw [h1, h2]; exact a11⟩
namespace New4
def yN : MethodName := ⟨"java/lang/String", "<init>", "([CIILjava/lang/Void;)V"⟩
abbrev yB : ByteArray := jdk_42_method_149_code
theorem d0 : decode yB 0 = .ok (.aload_n 0, 1) := by decide +kernel
theorem d1 : decode yB 1 = .ok (.invokespecial 1, 3) := by decide +kernel
theorem d4 : decode yB 4 = .ok (.iload_n 3, 1) := by decide +kernel
theorem d5 : decode yB 5 = .ok (.ifCond (.ne) 22, 3) := by decide +kernel
theorem d27 : decode yB 27 = .ok (.getstatic 38, 3) := by decide +kernel
theorem d30 : decode yB 30 = .ok (.ifCond (.eq) 28, 3) := by decide +kernel
theorem d33 : decode yB 33 = .ok (.aload_n 1, 1) := by decide +kernel
theorem d34 : decode yB 34 = .ok (.iload_n 2, 1) := by decide +kernel
theorem d35 : decode yB 35 = .ok (.iload_n 3, 1) := by decide +kernel
theorem d36 : decode yB 36 = .ok (.invokestatic 177, 3) := by decide +kernel
theorem d39 : decode yB 39 = .ok (.astore 5, 2) := by decide +kernel
theorem d41 : decode yB 41 = .ok (.aload_n 0, 1) := by decide +kernel
theorem d42 : decode yB 42 = .ok (.aload 5, 2) := by decide +kernel
theorem d44 : decode yB 44 = .ok (.iload_n 3, 1) := by decide +kernel
theorem d45 : decode yB 45 = .ok (.invokestatic 47, 3) := by decide +kernel
theorem d48 : decode yB 48 = .ok (.putfield 15, 3) := by decide +kernel
theorem d51 : decode yB 51 = .ok (.aload_n 0, 1) := by decide +kernel
theorem d52 : decode yB 52 = .ok (.aload 5, 2) := by decide +kernel
theorem d54 : decode yB 54 = .ok (.putfield 9, 3) := by decide +kernel
theorem d57 : decode yB 57 = .ok (.return_, 1) := by decide +kernel
def site : List Cond := [.fieldLink "java/lang/String" 38 "java/lang/String" "COMPACT_STRINGS" "Z", Cmp3.tab, CodL.tab, .laysFinal "java/lang/String" "java/lang/String" "value" "[B", .fieldLink "java/lang/String" 9 "java/lang/String" "value" "[B", .laysFinal "java/lang/String" "java/lang/String" "coder" "B", .fieldLink "java/lang/String" 15 "java/lang/String" "coder" "B"] ++ objW "java/lang/String" 1 ++ staticW "java/lang/String" 177 Cmp3.yN ++ staticW "java/lang/String" 47 CodL.yN
def tab : Cond := tabOf yN yB 6 none site
def P (a : Addr) (D : Cell) (fV fC : Field) (b : Addr) (A : Cell) (z : Int32) (o len : Nat) (args : Array Value) (s : State) : Prop := args = #[.ref a, .ref b, .int (Int32.ofNat o), .int (Int32.ofNat len), .null] ∧ Blank "java/lang/String" a D s ∧ Found "java/lang/String" "value" "[B" fV s ∧ Found "java/lang/String" "coder" "B" fC s ∧ Ch b A s ∧ StaticIs s "java/lang/String" "COMPACT_STRINGS" "Z" (.int z) ∧ ¬ z = 0 ∧ 0 < len ∧ o + len ≤ A.slots.size ∧ len ≤ 536870912 ∧ ∀ i, i < len → ¬ 255 < cv A (o + i)
def E (a : Addr) (D : Cell) (fV fC : Field) (A : Cell) (o len : Nat) (r : Option Value) (s u : State) : Prop := Got a D fV fC A o len r s u
/-- len > 0, no char of the range above 255: a Latin-1 String of their low bytes -/
theorem law (l : Launch) (a : Addr) (D : Cell) (fV fC : Field) (b : Addr) (A : Cell) (z : Int32) (o len : Nat) : Law l yN 5 4 2 35 yB 6 none site (P a D fV fC b A z o len) (E a D fV fC A o len) [⟨a, fC.slot⟩, ⟨a, fV.slot⟩] 1 len := by
  refine Law.of_walk (plainFor_of_name (by decide +kernel)) (by decide +kernel) (by decide +kernel) (by decide) (fun _ _ h => by rw [h.1]; rfl) (fun _ U U' hal hh h => ⟨h.1, h.2.1.mv hal hh, h.2.2.1.al hal, h.2.2.2.1.al hal, h.2.2.2.2.1.mv hal hh, h.2.2.2.2.2.1.there hal hh, h.2.2.2.2.2.2⟩) (fun r U U' V V' h1 hal h2 h => Got.mv r U U' V V' h1 hal h2 h) ?_
  intro p e s m args below meth c s₁ X0 hexec hbytes hml hret hlk hnm hown hh0 W hP
  obtain ⟨rfl, hB, f1, f2, hA, s1, hz, l0, l1, l2, hp⟩ := hP
  have a31 := hA.1.2.2.2
  have c1 : Steps p.tables e below (s₁.setTop (entryFrame m #[.ref a, .ref b, .int (Int32.ofNat o), .int (Int32.ofNat len), .null] 6)) (s₁.setTop (mkF m 0 #[.val (.ref a), .val (.ref b), .val (.int (Int32.ofNat o)), .val (.int (Int32.ofNat len)), .val .null, .unset] [])) := entry rfl
  have c2 : Steps p.tables e below (s₁.setTop (entryFrame m #[.ref a, .ref b, .int (Int32.ofNat o), .int (Int32.ofNat len), .null] 6)) (s₁.setTop (mkF m 1 #[.val (.ref a), .val (.ref b), .val (.int (Int32.ofNat o)), .val (.int (Int32.ofNat len)), .val .null, .unset] [.ref a])) := c1.trans (by
    refine XS.aloadN X0.here hexec rfl (hb hbytes d0) rfl rfl ?_
    exact Steps.refl _)
  obtain ⟨T3, X3, q3, st3⟩ := X0.oinit hexec hown (wks W (objW "java/lang/String" 1)) (g := (mkF m 1 #[.val (.ref a), .val (.ref b), .val (.int (Int32.ofNat o)), .val (.int (Int32.ofNat len)), .val .null, .unset] [.ref a])) rfl (by rw [hml]; rfl) (rest := []) rfl (hb hbytes d1) (W := 0) (by show 2 * 0 + 0 ≤ _; decide) (Nat.le_of_ble_eq_true rfl) (Nat.le_of_ble_eq_true rfl)
  have hh3 := q3.trans hh0
  have c4 : Steps p.tables e below (s₁.setTop (entryFrame m #[.ref a, .ref b, .int (Int32.ofNat o), .int (Int32.ofNat len), .null] 6)) (T3.setTop (mkF m 27 #[.val (.ref a), .val (.ref b), .val (.int (Int32.ofNat o)), .val (.int (Int32.ofNat len)), .val .null, .unset] [])) := (c2.trans (st3 _ (Steps.refl _))).trans (by
    refine XS.iloadN X3.here hexec rfl (hb hbytes d4) rfl ?_
    refine XS.ifYes X3.here hexec rfl (pc0 := 5) rfl (hb hbytes d5) rfl (i0_ne_t (nz32 (by omega) l0)) (by decide) rfl ?_
    exact Steps.refl _)
  obtain ⟨T5, X5, q5, st5⟩ := X3.sget hexec hown (wk W (.fieldLink "java/lang/String" 38 "java/lang/String" "COMPACT_STRINGS" "Z")) s1 (fun _ _ h => by rw [hh3]; exact h) (g := (mkF m 27 #[.val (.ref a), .val (.ref b), .val (.int (Int32.ofNat o)), .val (.int (Int32.ofNat len)), .val .null, .unset] [])) rfl (hb hbytes d27)
  have hh5 := q5.trans hh3
  have c6 : Steps p.tables e below (s₁.setTop (entryFrame m #[.ref a, .ref b, .int (Int32.ofNat o), .int (Int32.ofNat len), .null] 6)) (T5.setTop (mkF m 30 #[.val (.ref a), .val (.ref b), .val (.int (Int32.ofNat o)), .val (.int (Int32.ofNat len)), .val .null, .unset] [.int z])) := c4.trans (st5 _ (Steps.refl _))
  have c7 : Steps p.tables e below (s₁.setTop (entryFrame m #[.ref a, .ref b, .int (Int32.ofNat o), .int (Int32.ofNat len), .null] 6)) (T5.setTop (mkF m 36 #[.val (.ref a), .val (.ref b), .val (.int (Int32.ofNat o)), .val (.int (Int32.ofNat len)), .val .null, .unset] [.int (Int32.ofNat len), .int (Int32.ofNat o), .ref b])) := c6.trans (by
    refine XS.ifNo X5.here hexec rfl (hb hbytes d30) rfl (i0_eq_f hz) ?_
    refine XS.aloadN X5.here hexec rfl (hb hbytes d33) rfl rfl ?_
    refine XS.iloadN X5.here hexec rfl (hb hbytes d34) rfl ?_
    refine XS.iloadN X5.here hexec rfl (hb hbytes d35) rfl ?_
    exact Steps.refl _)
  obtain ⟨v8, T8, X8, E8, g8⟩ := X5.callS hexec (Cmp3.law l b A o len) hown (wks W (staticW "java/lang/String" 177 Cmp3.yN)) (wk W Cmp3.tab) (W := 0) (Nat.le_of_ble_eq_true rfl) (Nat.le_of_ble_eq_true rfl) (Nat.le_refl _) (by show 0 + len ≤ len; omega) (g := (mkF m 36 #[.val (.ref a), .val (.ref b), .val (.int (Int32.ofNat o)), .val (.int (Int32.ofNat len)), .val .null, .unset] [.int (Int32.ofNat len), .int (Int32.ofNat o), .ref b])) rfl (by rw [hml]; rfl) c7 (argsL := [.ref b, .int (Int32.ofNat o), .int (Int32.ofNat len)]) (rest := []) rfl rfl (by show 2 * 0 + 0 ≤ _; decide) (hb hbytes d36) (⟨rfl, hA.mv X5.warmed.alike hh5, l1, l2, hp⟩)
  obtain ⟨e8, z8⟩ := E8
  obtain ⟨rfl, N, n1, n2, n3, n4, n5, n6⟩ := NewArr.mv _ T5 s _ _ hh5.symm (Vm.Alike.refl _) rfl e8
  rw [hh5] at z8
  have hB1 := hB.keep X8.warmed.alike (n6 _ _ hB.1)
  have hne : s.heap.size ≠ a := (Nat.ne_of_lt (Array.getElem?_eq_some_iff.mp hB.1).1).symm
  have c9 : Steps p.tables e below (s₁.setTop (entryFrame m #[.ref a, .ref b, .int (Int32.ofNat o), .int (Int32.ofNat len), .null] 6)) (T8.setTop (mkF m 39 #[.val (.ref a), .val (.ref b), .val (.int (Int32.ofNat o)), .val (.int (Int32.ofNat len)), .val .null, .unset] [.ref s.heap.size])) := g8
  have c10 : Steps p.tables e below (s₁.setTop (entryFrame m #[.ref a, .ref b, .int (Int32.ofNat o), .int (Int32.ofNat len), .null] 6)) (T8.setTop (mkF m 45 #[.val (.ref a), .val (.ref b), .val (.int (Int32.ofNat o)), .val (.int (Int32.ofNat len)), .val .null, .val (.ref s.heap.size)] [.int (Int32.ofNat N.slots.size), .ref s.heap.size, .ref a])) := by
    have hc : Steps p.tables e below (s₁.setTop (entryFrame m #[.ref a, .ref b, .int (Int32.ofNat o), .int (Int32.ofNat len), .null] 6)) (T8.setTop (mkF m 45 #[.val (.ref a), .val (.ref b), .val (.int (Int32.ofNat o)), .val (.int (Int32.ofNat len)), .val .null, .val (.ref s.heap.size)] [.int (Int32.ofNat len), .ref s.heap.size, .ref a])) := c9.trans (by
      refine XS.astore X8.here hexec rfl (hb hbytes d39) rfl rfl rfl ?_
      refine XS.aloadN X8.here hexec rfl (hb hbytes d41) rfl rfl ?_
      refine XS.aload X8.here hexec rfl (hb hbytes d42) rfl rfl ?_
      refine XS.iloadN X8.here hexec rfl (hb hbytes d44) rfl ?_
      exact Steps.refl _)
    rw [n4]; exact hc
  obtain ⟨v11, T11, X11, E11, g11⟩ := X8.callS hexec (CodL.law l s.heap.size N) hown (wks W (staticW "java/lang/String" 47 CodL.yN)) (wk W CodL.tab) (W := 1) (Nat.le_of_ble_eq_true rfl) (Nat.le_of_ble_eq_true rfl) (Nat.le_refl _) (by show 0 + len + 0 ≤ len; omega) (g := (mkF m 45 #[.val (.ref a), .val (.ref b), .val (.int (Int32.ofNat o)), .val (.int (Int32.ofNat len)), .val .null, .val (.ref s.heap.size)] [.int (Int32.ofNat N.slots.size), .ref s.heap.size, .ref a])) rfl (by rw [hml]; rfl) c10 (argsL := [.ref s.heap.size, .int (Int32.ofNat N.slots.size)]) (rest := [.ref a]) rfl rfl (by show 2 * 0 + (1 + 0) ≤ _; decide) (hb hbytes d45) (⟨rfl, n1⟩)
  obtain ⟨rfl, q11⟩ := E11
  have hB11 := hB1.mv (X8.warmed.alike.symm.trans X11.warmed.alike) q11
  have c12 : Steps p.tables e below (s₁.setTop (entryFrame m #[.ref a, .ref b, .int (Int32.ofNat o), .int (Int32.ofNat len), .null] 6)) (T11.setTop (mkF m 48 #[.val (.ref a), .val (.ref b), .val (.int (Int32.ofNat o)), .val (.int (Int32.ofNat len)), .val .null, .val (.ref s.heap.size)] [.int 0, .ref a])) := g11
  obtain ⟨T13, X13, p13, bl13, sl13, st13⟩ := X11.finit hexec hown (wk W (.fieldLink "java/lang/String" 15 "java/lang/String" "coder" "B")) (Or.inr ⟨_, (wk W (.laysFinal "java/lang/String" "java/lang/String" "coder" "B"))⟩) (Or.inl ⟨rfl, hnm⟩) f2 (Or.inl rfl) hB11 (t := .byte) (by decide +kernel) rfl (g := (mkF m 48 #[.val (.ref a), .val (.ref b), .val (.int (Int32.ofNat o)), .val (.int (Int32.ofNat len)), .val .null, .val (.ref s.heap.size)] [.int 0, .ref a])) rfl (rest := []) rfl (hb hbytes d48)
  have c14 : Steps p.tables e below (s₁.setTop (entryFrame m #[.ref a, .ref b, .int (Int32.ofNat o), .int (Int32.ofNat len), .null] 6)) (T13.setTop (mkF m 54 #[.val (.ref a), .val (.ref b), .val (.int (Int32.ofNat o)), .val (.int (Int32.ofNat len)), .val .null, .val (.ref s.heap.size)] [.ref s.heap.size, .ref a])) := (c12.trans (st13 _ (Steps.refl _))).trans (by
    refine XS.aloadN X13.here hexec rfl (hb hbytes d51) rfl rfl ?_
    refine XS.aload X13.here hexec rfl (hb hbytes d52) rfl rfl ?_
    exact Steps.refl _)
  obtain ⟨T15, X15, p15, bl15, sl15, st15⟩ := X13.finit hexec hown (wk W (.fieldLink "java/lang/String" 9 "java/lang/String" "value" "[B")) (Or.inr ⟨_, (wk W (.laysFinal "java/lang/String" "java/lang/String" "value" "[B"))⟩) (Or.inl ⟨rfl, hnm⟩) f1 (Or.inl rfl) bl13 (t := (.array .byte)) (by decide +kernel) rfl (g := (mkF m 54 #[.val (.ref a), .val (.ref b), .val (.int (Int32.ofNat o)), .val (.int (Int32.ofNat len)), .val .null, .val (.ref s.heap.size)] [.ref s.heap.size, .ref a])) rfl (rest := []) rfl (hb hbytes d54)
  have c16 : Steps p.tables e below (s₁.setTop (entryFrame m #[.ref a, .ref b, .int (Int32.ofNat o), .int (Int32.ofNat len), .null] 6)) (T15.setTop (mkF m 57 #[.val (.ref a), .val (.ref b), .val (.int (Int32.ofNat o)), .val (.int (Int32.ofNat len)), .val .null, .val (.ref s.heap.size)] [])) := c14.trans (st15 _ (Steps.refl _))
  have ap := apart (Or.inr ⟨_, (wk W (.laysFinal "java/lang/String" "java/lang/String" "value" "[B"))⟩) (Or.inr ⟨_, (wk W (.laysFinal "java/lang/String" "java/lang/String" "coder" "B"))⟩) f1 f2 (t₁ := .array .byte) (t₂ := .byte) (by decide +kernel) (by decide +kernel) (by decide)
  have al := X8.warmed.alike.symm.trans X15.warmed.alike
  have n7 : T11.heap[s.heap.size]? = some N := by rw [q11]; exact n1.1
  exact ⟨T15, none, _, _, _, X15, by simp, rfl, by omega, (fun _ => rfl), ⟨rfl, _, N, bl15, ((Same.refl D _).set _ (by simp)).set _ (by simp), sl15, (Cell.slots_setSlot_ne _ ap).trans sl13, n1.keep al (p15.other hne (p13.other hne n7)), n2, by rw [al.findClass]; exact n3, n4, n5, fun y c h1 h2 => p15.other h1 (p13.other h1 (by rw [q11]; exact n6 y c h2)), by rw [p15.2.2, p13.2.2, q11]; exact z8⟩, fun fs hl => c16.trans (X15.returnOut hexec hret (hb hbytes d57) hl)⟩
end New4
namespace New1
def yN : MethodName := ⟨"java/lang/String", "<init>", "([C)V"⟩
abbrev yB : ByteArray := jdk_42_method_3_code
theorem d0 : decode yB 0 = .ok (.aload_n 0, 1) := by decide +kernel
theorem d1 : decode yB 1 = .ok (.aload_n 1, 1) := by decide +kernel
theorem d2 : decode yB 2 = .ok (.iconst 0, 1) := by decide +kernel
theorem d3 : decode yB 3 = .ok (.aload_n 1, 1) := by decide +kernel
theorem d4 : decode yB 4 = .ok (.arraylength, 1) := by decide +kernel
theorem d5 : decode yB 5 = .ok (.aconst_null, 1) := by decide +kernel
theorem d6 : decode yB 6 = .ok (.invokespecial 27, 3) := by decide +kernel
theorem d9 : decode yB 9 = .ok (.return_, 1) := by decide +kernel
def site : List Cond := [New4.tab] ++ initW "java/lang/String" 27 New4.yN
def tab : Cond := tabOf yN yB 2 none site
def P (a : Addr) (D : Cell) (fV fC : Field) (b : Addr) (A : Cell) (z : Int32) (args : Array Value) (s : State) : Prop := args = #[.ref a, .ref b] ∧ Blank "java/lang/String" a D s ∧ Found "java/lang/String" "value" "[B" fV s ∧ Found "java/lang/String" "coder" "B" fC s ∧ Ch b A s ∧ StaticIs s "java/lang/String" "COMPACT_STRINGS" "Z" (.int z) ∧ ¬ z = 0 ∧ 0 < A.slots.size ∧ A.slots.size ≤ 536870912 ∧ ∀ i, i < A.slots.size → ¬ 255 < cv A i
def E (a : Addr) (D : Cell) (fV fC : Field) (A : Cell) (r : Option Value) (s u : State) : Prop := Got a D fV fC A 0 A.slots.size r s u
/-- new String(chars), not empty, no char above 255: a Latin-1 String of their low bytes -/
theorem law (l : Launch) (a : Addr) (D : Cell) (fV fC : Field) (b : Addr) (A : Cell) (z : Int32) : Law l yN 2 1 3 52 yB 2 none site (P a D fV fC b A z) (E a D fV fC A) [⟨a, fC.slot⟩, ⟨a, fV.slot⟩] 1 A.slots.size := by
  refine Law.of_walk (plainFor_of_name (by decide +kernel)) (by decide +kernel) (by decide +kernel) (by decide) (fun _ _ h => by rw [h.1]; rfl) (fun _ U U' hal hh h => ⟨h.1, h.2.1.mv hal hh, h.2.2.1.al hal, h.2.2.2.1.al hal, h.2.2.2.2.1.mv hal hh, h.2.2.2.2.2.1.there hal hh, h.2.2.2.2.2.2⟩) (fun r U U' V V' h1 hal h2 h => Got.mv r U U' V V' h1 hal h2 h) ?_
  intro p e s m args below meth c s₁ X0 hexec hbytes hml hret hlk hnm hown hh0 W hP
  obtain ⟨rfl, hB, f1, f2, hA, s1, hz, l0, l2, hp⟩ := hP
  have c1 : Steps p.tables e below (s₁.setTop (entryFrame m #[.ref a, .ref b] 2)) (s₁.setTop (mkF m 0 #[.val (.ref a), .val (.ref b)] [])) := entry rfl
  have c2 : Steps p.tables e below (s₁.setTop (entryFrame m #[.ref a, .ref b] 2)) (s₁.setTop (mkF m 6 #[.val (.ref a), .val (.ref b)] [.null, .int (Int32.ofNat A.slots.size), .int 0, .ref b, .ref a])) := c1.trans (by
    refine XS.aloadN X0.here hexec rfl (hb hbytes d0) rfl rfl ?_
    refine XS.aloadN X0.here hexec rfl (hb hbytes d1) rfl rfl ?_
    refine iconstV X0.here hexec rfl 0 (hb hbytes d2) (by decide) ?_
    refine XS.aloadN X0.here hexec rfl (hb hbytes d3) rfl rfl ?_
    refine X0.alen hexec (hA.1.mv X0.warmed.alike hh0) rfl rfl (hb hbytes d4) ?_
    refine XS.aconstNull X0.here hexec rfl (hb hbytes d5) ?_
    exact Steps.refl _)
  obtain ⟨v3, T3, X3, E3, g3⟩ := X0.callN hexec (New4.law l a D fV fC b A z 0 A.slots.size) rfl hown (wks W (initW "java/lang/String" 27 New4.yN)) (W New4.tab (by simp only [site, List.mem_cons, List.mem_append, true_or, or_true])) (W := 0) (Nat.le_of_ble_eq_true rfl) (Nat.le_of_ble_eq_true rfl) (Nat.le_refl _) (by show 0 + A.slots.size ≤ A.slots.size; omega) (g := (mkF m 6 #[.val (.ref a), .val (.ref b)] [.null, .int (Int32.ofNat A.slots.size), .int (Int32.ofNat 0), .ref b, .ref a])) rfl (by rw [hml]; rfl) c2 (argsL := [.ref b, .int (Int32.ofNat 0), .int (Int32.ofNat A.slots.size), .null]) (rest := []) rfl rfl (by show 2 * 0 + 0 ≤ _; decide) (hb hbytes d6) (⟨rfl, hB.mv X0.warmed.alike hh0, f1.al X0.warmed.alike, f2.al X0.warmed.alike, hA.mv X0.warmed.alike hh0, s1.there X0.warmed.alike hh0, hz, l0, by omega, l2, fun i hi => by rw [Nat.zero_add]; exact hp i hi⟩)
  have e0 := Got.mv _ s₁ s _ _ hh0.symm (Vm.Alike.refl _) rfl E3
  obtain rfl := e0.1
  have c4 : Steps p.tables e below (s₁.setTop (entryFrame m #[.ref a, .ref b] 2)) (T3.setTop (mkF m 9 #[.val (.ref a), .val (.ref b)] [])) := g3
  exact ⟨T3, none, _, _, _, X3, by simp, rfl, by omega, (fun _ => rfl), e0, fun fs hl => c4.trans (X3.returnOut hexec hret (hb hbytes d9) hl)⟩
theorem pays {l : Launch} {R : Room} {p : Program} {e : Env} {below : List Frame} {s : State} {sargs : Array Value} {len W : Nat} (a : Addr) (D : Cell) (fV fC : Field) (b : Addr) (A : Cell) (z : Int32) (htab : tab.before sargs s = true) (hfr : 4 ≤ R.frames) (hlo : W + 65 ≤ R.locals) :
    Back l R p e below s sargs yN len W (fun A₁ a₁ => A₁.cells + 1 ≤ R.cells ∧ A₁.slots + A.slots.size ≤ R.slots ∧ P a D fV fC b A z a₁ A₁.U) (fun A₁ _ v₁ B₁ => E a D fV fC A v₁ A₁.U B₁.U ∧ B₁.locs = A₁.locs ++ [⟨a, fC.slot⟩, ⟨a, fV.slot⟩] ∧ B₁.cells = A₁.cells + 1 ∧ B₁.slots = A₁.slots + A.slots.size) :=
  (law l a D fV fC b A z).pays htab hfr (by omega)
end New1
end StrChars
namespace StrChars.Road
open Jvm Sem ClassFile Op Lib Jvm.Stand Jvm.Free Jvm.Free.XT
open Jvm.Lib.Cold (StaticIs)
abbrev ST : String := "java/lang/String"
/-- every table word that New1's law asks, flat -/
abbrev words : List Jvm.Cond := [.code New1.yN New1.yB 2 none, .initialized ST, .methodLink ST 27 New4.yN, .instanceMethod New4.yN,
  .code New4.yN New4.yB 6 none, .fieldLink ST 38 ST "COMPACT_STRINGS" "Z", .laysFinal ST ST "value" "[B", .fieldLink ST 9 ST "value" "[B", .laysFinal ST ST "coder" "B", .fieldLink ST 15 ST "coder" "B",
  .methodLink ST 1 Lib.objectInit, .instanceMethod Lib.objectInit, .code Lib.objectInit ⟨#[0xb1]⟩ 1 none, .methodLink ST 177 Cmp3.yN, .static Cmp3.yN, .methodLink ST 47 CodL.yN, .static CodL.yN,
  .code Cmp3.yN Cmp3.yB 6 (some (.array .byte)), .initialized U16, .arrayClass .byte, .methodLink U16 115 Cmp5.yN, .static Cmp5.yN, .code Cmp5.yN Cmp5.yB 7 (some .int), .code CodL.yN CodL.yB 2 (some .byte)]
theorem tab_of {a : Array Value} {s : State} (h : ∀ w ∈ words, w.before a s = true) : New1.tab.before a s = true := by
  have h5 : Cmp5.tab.before a s = true := unparts (wk h (.code Cmp5.yN Cmp5.yB 7 (some .int))) (wks h (.initialized Cmp5.yN.cls :: Cmp5.site))
  have hc : CodL.tab.before a s = true := unparts (wk h (.code CodL.yN CodL.yB 2 (some .byte))) (wks h (.initialized CodL.yN.cls :: CodL.site))
  have q5 : ∀ w ∈ Cmp5.tab :: words, w.before a s = true := fun w hw => (List.mem_cons.mp hw).elim (fun e => e ▸ h5) (h w)
  have h3 : Cmp3.tab.before a s = true := unparts (wk q5 (.code Cmp3.yN Cmp3.yB 6 (some (.array .byte)))) (wks q5 (.initialized Cmp3.yN.cls :: Cmp3.site))
  have q3 : ∀ w ∈ Cmp3.tab :: CodL.tab :: words, w.before a s = true := fun w hw => (List.mem_cons.mp hw).elim (fun e => e ▸ h3) fun hw => (List.mem_cons.mp hw).elim (fun e => e ▸ hc) (h w)
  have h4 : New4.tab.before a s = true := unparts (wk q3 (.code New4.yN New4.yB 6 none)) (wks q3 (.initialized New4.yN.cls :: New4.site))
  have q4 : ∀ w ∈ New4.tab :: words, w.before a s = true := fun w hw => (List.mem_cons.mp hw).elim (fun e => e ▸ h4) (h w)
  exact unparts (wk q4 (.code New1.yN New1.yB 2 none)) (wks q4 (.initialized New1.yN.cls :: New1.site))
/-- the words ride from the start Z to the walk's own state -/
theorem moved {Z s : State} {a0 args : Array Value} (hZ : Z.Warmed39 s.vm) (hw : ∀ d ∈ words, d.before a0 Z = true) : ∀ d ∈ words, d.before args s = true := fun d hd => by
  have q := hw d hd
  have t : ∀ d ∈ words, d = .arrayClass .byte ∨ (d.onTables && d.keepsFace) = true := by decide +kernel
  rcases t d hd with rfl | t
  · exact RoadKit.mvA hZ q
  · exact RoadKit.mv hZ q t
/-- WHAT COMES BACK, over the tables of the start Z: h the heap at the call, h' behind it -/
def Q (Z : State) (x : Addr) (A : Cell) (h : Heap) (v : Option Value) (h' : Heap) (L : List Loc) : Prop := v = none ∧ (∀ y ∈ L, y.base = x) ∧ RoadKit.Keep h h' [x] ∧ h'.size = h.size + 1 ∧ RoadKit.Exa Z h' x ST ∧ RoadKit.Fld Z h' x ST "value" "[B" (.ref h.size) ∧ RoadKit.Fld Z h' x ST "coder" "B" (.int 0) ∧
  (∃ V : Cell, RoadKit.Arr Z h' h.size V .byte ∧ V.vm = .none ∧ Z.vm.findClass "[B" = some V.cls ∧ V.slots.size = A.slots.size ∧ ∀ j, j < A.slots.size → V.slots[j]? = some (.int (lo8 (cv A j)))) ∧
  ∀ (O n d : String) (w : Value), RoadKit.Fld Z h x O n d w → RoadKit.slotOf Z O n d ≠ RoadKit.slotOf Z ST "value" "[B" → RoadKit.slotOf Z O n d ≠ RoadKit.slotOf Z ST "coder" "B" → RoadKit.Fld Z h' x O n d w
/-- **new String(chars) AT A CALL, IN THE ROAD'S FORM**: for specialBack behind newO: x the fresh String, b the char[] with the cell A -/
theorem back {p : Program} {l : Launch} {e : Env} {R : Room} {s : State} {args : Array Value} {below : List Frame} {len W : Nat} {Z : State} {a0 : Array Value} {h : Heap} (hZ : Z.Warmed39 s.vm) (hw : ∀ d ∈ words, d.before a0 Z = true) {kI : Nat} (wi : (Jvm.Cond.instantiable ST kI).before a0 Z = true)
    {x b : Addr} {A : Cell} {z : Int32} {v0 c0 : Value} (E : RoadKit.Exa Z h x ST) (V : RoadKit.Fld Z h x ST "value" "[B" v0) (C : RoadKit.Fld Z h x ST "coder" "B" c0) (K : RoadKit.Arr Z h b A .char) (hty : Typed .char A) (S : RoadKit.Sta Z h ST "COMPACT_STRINGS" "Z" (.int z)) (hz : ¬ z = 0)
    (l0 : 0 < A.slots.size) (l2 : A.slots.size ≤ 536870912) (hp : ∀ i, i < A.slots.size → ¬ 255 < cv A i) (hfr : 4 ≤ R.frames) (hlo : W + 65 ≤ R.locals) :
    Back l R p e below s args New1.yN len W (fun P a => a = #[.ref x, .ref b] ∧ P.U.heap = h ∧ P.cells + 1 ≤ R.cells ∧ P.slots + A.slots.size ≤ R.slots)
      (fun P _ v B => ∃ L, Q Z x A h v B.U.heap L ∧ B.locs = P.locs ++ L ∧ B.cells = P.cells + 1 ∧ B.slots = P.slots + A.slots.size) := by
  intro m meth c P g ig mk a X hg hsize hdg hW hn hp'
  obtain ⟨rfl, rfl, r1, r2⟩ := hp'
  have al : Z.vm.Alike P.U.vm := hZ.alike.trans X.warmed.alike
  obtain ⟨D, cfV, kV, iV, fV, hD, gV, stV, knV, obV, asV, slV⟩ := id V
  obtain ⟨D', cfC, kC, iC, fC, hD', gC, stC, -, -, asC, slC⟩ := id C
  cases hD.symm.trans hD'
  obtain ⟨D2, kD, e1, e2, e3, e4, e5⟩ := id E
  cases hD.symm.trans e1
  obtain ⟨c2, k2, i1, i2, i3, -⟩ := Cond.instantiable_spec wi
  cases e2.symm.trans i1
  cases e3.symm.trans i2
  obtain ⟨kU, u1, u2⟩ := al.2.2 _ _ e3
  have hB : Blank ST x D P.U := ⟨hD, ⟨knV, fun q hq => by rw [hq] at obV; cases obV⟩, by rw [al.findClass]; exact e2, kU, u1, by rw [u2]; exact i3, by rw [u2]; exact e5 i3⟩
  have F1 : Found ST "value" "[B" fV P.U := ⟨SBG.found_only al ⟨cfV, kV, iV, gV⟩, stV⟩
  have F2 : Found ST "coder" "B" fC P.U := ⟨SBG.found_only al ⟨cfC, kC, iC, gC⟩, stC⟩
  have hA : Ch b A P.U := ⟨⟨K.1, State.isArrayOf_alike al K.2.1, K.2.2, by omega⟩, hty⟩
  have hS : StaticIs P.U ST "COMPACT_STRINGS" "Z" (.int z) := by
    obtain ⟨cfS, iS, kS, fS, st, cS, t1, t2, t3, t4, t5, t6, t7⟩ := S
    exact StaticIs.there (s := { Z with heap := P.U.heap }) ⟨cfS, iS, kS, fS, st, cS, t1, t2, t3, t4, t5, (fun q => by rw [q] at t6; cases t6), t7⟩ al rfl
  obtain ⟨v, B, X', ⟨⟨hv, E', V', q1, q2, q3, q4, q5, q6, q7, q8, q9, q10, q11⟩, hl, hc, hs⟩, st⟩ := New1.pays x D fV fC b A z (tab_of (moved hZ hw)) hfr hlo m meth c P g ig mk _ X hg hsize hdg hW hn ⟨r1, r2, rfl, hB, F1, F2, hA, hS, hz, l0, l2, hp⟩
  have al' : Z.vm.Alike B.U.vm := hZ.alike.trans X'.warmed.alike
  have hsz : E'.slots.size = D.slots.size := by
    obtain ⟨-, -, -, kB, w1, w2, w3⟩ := q1
    obtain ⟨kB', y1, y2⟩ := al'.2.2 _ _ e3
    rw [q2.2.1] at w1
    cases w1.symm.trans y1
    rw [w3, e5 i3, y2]
  refine ⟨v, B, X', ⟨_, ⟨hv, ?_, ⟨by omega, fun y cy hy hn' => q10 y cy (by simpa using hn') hy, fun y cy hy => ?_⟩, q11, ⟨E', _, q1.1, by rw [q2.2.1]; exact e2, by rw [q2.2.1]; exact e3, by rw [q2.1]; exact obV, fun _ => by rw [hsz]; exact e5 i3⟩,
    ⟨E', cfV, kV, iV, fV, q1.1, gV, stV, by rw [q2.1]; exact knV, by rw [q2.1]; exact obV, by rw [q2.2.1]; exact asV, q3⟩, ⟨E', cfC, kC, iC, fC, q1.1, gC, stC, by rw [q2.1]; exact knV, by rw [q2.1]; exact obV, by rw [q2.2.1]; exact asC, q4⟩,
    ⟨V', ⟨q5.1, State.isArrayOf_alike al'.symm q5.2.1, q5.2.2.1⟩, q6, by rw [← al'.findClass]; exact q7, q8, fun j hj => by have := q9 j hj; rwa [Nat.zero_add] at this⟩, fun O n d w F n1 n2 => ?_⟩, hl, hc, hs⟩, st⟩
  · intro y hy
    simp only [List.mem_cons, List.not_mem_nil, or_false] at hy
    rcases hy with rfl | rfl <;> rfl
  · by_cases q : y = x
    · subst q
      cases hD.symm.trans hy
      exact ⟨E', q1.1, q2.2.1, q2.1, hsz⟩
    · exact ⟨cy, q10 y cy q hy, rfl, rfl, rfl⟩
  · obtain ⟨D3, cf, k, i, f, g1, g2, g3, g4, g5, g6, g7⟩ := F
    cases hD.symm.trans g1
    simp only [RoadKit.slotOf, g2, gV, gC, Option.map_some, Option.getD_some] at n1 n2
    exact ⟨E', cf, k, i, f, q1.1, g2, g3, by rw [q2.1]; exact g4, by rw [q2.1]; exact g5, by rw [q2.2.1]; exact g6, by rw [q2.2.2 f.slot (by simp [n1, n2])]; exact g7⟩
end StrChars.Road
namespace StrChars.Road
open Jvm Sem ClassFile Op Lib Jvm.Stand Jvm.Free Jvm.Free.XT
/-- WHAT COMES BACK, the byte[] as a list of values -/
def QA (Z : State) (x : Addr) (zn : Int32) (cs : List Int32) (h : Heap) (v : Option Value) (h' : Heap) (L : List Loc) : Prop := v = none ∧ (∀ y ∈ L, y.base = x) ∧ RoadKit.Keep h h' [x] ∧ h'.size = h.size + 1 ∧ RoadKit.Exa Z h' x ST ∧ RoadKit.Fld Z h' x ST "value" "[B" (.ref h.size) ∧ RoadKit.Fld Z h' x ST "coder" "B" (.int 0) ∧
  (∃ kb, Z.vm.findClass "[B" = some kb ∧ RoadKit.Arv Z h' h.size kb .byte zn (cs.map fun c => .int (lo8 c)) (.int 0)) ∧
  ∀ (O n d : String) (w : Value), RoadKit.Fld Z h x O n d w → RoadKit.slotOf Z O n d ≠ RoadKit.slotOf Z ST "value" "[B" → RoadKit.slotOf Z O n d ≠ RoadKit.slotOf Z ST "coder" "B" → RoadKit.Fld Z h' x O n d w
/-- **new String(chars) AT A CALL, THE ARRAYS AS LISTS**: the char[] at b holds cs, not empty, no char above 255 -/
theorem backArv {p : Program} {l : Launch} {e : Env} {R : Room} {s : State} {args : Array Value} {below : List Frame} {len W : Nat} {Z : State} {a0 : Array Value} {h : Heap} (hZ : Z.Warmed39 s.vm) (hw : ∀ d ∈ words, d.before a0 Z = true) {kI : Nat} (wi : (Jvm.Cond.instantiable ST kI).before a0 Z = true)
    {x b : Addr} {k : ClassId} {zn z : Int32} {cs : List Int32} {dv v0 c0 : Value} (E : RoadKit.Exa Z h x ST) (V : RoadKit.Fld Z h x ST "value" "[B" v0) (C : RoadKit.Fld Z h x ST "coder" "B" c0) (K : RoadKit.Arv Z h b k .char zn (cs.map Value.int) dv) (S : RoadKit.Sta Z h ST "COMPACT_STRINGS" "Z" (.int z)) (hz : ¬ z = 0)
    (hlen : zn.toNatClampNeg = cs.length) (h0 : 0 < cs.length) (hbig : cs.length ≤ 536870912) (hall : ∀ c ∈ cs, ¬ 255 < c) (hfr : 4 ≤ R.frames) (hlo : W + 65 ≤ R.locals) :
    Back l R p e below s args New1.yN len W (fun P a => a = #[.ref x, .ref b] ∧ P.U.heap = h ∧ P.cells + 1 ≤ R.cells ∧ P.slots + cs.length ≤ R.slots)
      (fun P _ v B => ∃ L, QA Z x zn cs h v B.U.heap L ∧ B.locs = P.locs ++ L ∧ B.cells = P.cells + 1 ∧ B.slots = P.slots + cs.length) := by
  obtain ⟨A, K1, K2, K3, K4, K5, K6⟩ := K
  have e : A.slots.size = cs.length := K3.trans hlen
  have hat : ∀ (i : Nat) (hi : i < cs.length), A.slots[i]? = some (.int cs[i]) := fun i hi => by rw [K5 i (by omega)]; simp [List.getD_eq_getElem?_getD, hi]
  have hcv : ∀ (i : Nat) (hi : i < cs.length), cv A i = cs[i] := fun i hi => by unfold cv; rw [hat i hi]
  have hty : Typed .char A := fun i v hv => by
    have hi : i < A.slots.size := (Array.getElem?_eq_some_iff.mp hv).1
    have q := K5 i hi
    rw [hv] at q
    rw [Option.some.inj q]
    exact K6 i hi
  refine Back.mono (back hZ hw wi E V C K1 hty S hz (by omega) (by omega) (fun i hi => by rw [hcv i (by omega)]; exact hall _ (List.getElem_mem _)) hfr hlo) (fun P a hp => ⟨hp.1, hp.2.1, hp.2.2.1, by rw [e]; exact hp.2.2.2⟩) (fun P a v B hp hq => ?_)
  obtain ⟨L, ⟨q1, q2, q3, q4, q5, q6, q7, ⟨V', v1, v2, v3, v4, v5⟩, q9⟩, hl, hc, hs⟩ := hq
  refine ⟨L, ⟨q1, q2, q3, q4, q5, q6, q7, ⟨V'.cls, v3, V', v1, rfl, by rw [v4, e, hlen], K4, fun i hi => ?_, fun i hi => ?_⟩, q9⟩, hl, hc, by rw [hs, e]⟩
  · have hi' : i < cs.length := by omega
    rw [v5 i (by omega), hcv i hi']; simp [List.getD_eq_getElem?_getD, hi']
  · have hi' : i < cs.length := by omega
    simp only [List.getD_eq_getElem?_getD, List.getElem?_map, List.getElem?_eq_getElem hi', Option.map_some, Option.getD_some]
    exact fits_lo8 _
end StrChars.Road
namespace StrChars.Road
open Jvm Sem ClassFile Op Lib Jvm.Stand Jvm.Free Jvm.Free.XT
/-- WHAT COMES BACK, in the writer's own shape -/
def QV (Z : State) (x : Addr) (N : Int32) (bs : List Int32) (h : Heap) (n0 : Nat) (v : Option Value) (h' : Heap) (L : List Loc) : Prop := v = none ∧ RoadKit.Fr n0 L ∧ RoadKit.Keep h h' [x] ∧ RoadKit.Exa Z h' x ST ∧ RoadKit.Fld Z h' x ST "coder" "B" (.int 0) ∧
  ∃ (t : Addr) (kb : ClassId), n0 ≤ t ∧ h.size ≤ t ∧ ¬ t = x ∧ RoadKit.Fld Z h' x ST "value" "[B" (.ref t) ∧ RoadKit.Arv Z h' t kb .byte N (bs.map Value.int) (.int 0)
/-- **new String(chars) AT A CALL, FOR THE WRITER**: a char[] of n known ints, each 0 to 255 -/
theorem backV {p : Program} {l : Launch} {e : Env} {R : Room} {s : State} {args : Array Value} {below : List Frame} {len W : Nat} {Z : State} {a0 : Array Value} {h : Heap} (hZ : Z.Warmed39 s.vm) (hw : ∀ d ∈ words, d.before a0 Z = true) {kI : Nat} (wi : (Jvm.Cond.instantiable ST kI).before a0 Z = true)
    {x b : Addr} {kC : ClassId} {cs bs : List Int32} {d v0 c0 : Value} {z N : Int32} {n n0 : Nat} (hx0 : n0 ≤ x) (hh0 : n0 ≤ h.size) (E : RoadKit.Exa Z h x ST) (V : RoadKit.Fld Z h x ST "value" "[B" v0) (C : RoadKit.Fld Z h x ST "coder" "B" c0) (K : RoadKit.Arv Z h b kC .char N (cs.map Value.int) d) (S : RoadKit.Sta Z h ST "COMPACT_STRINGS" "Z" (.int z)) (hz : ¬ z = 0)
    (hn : cs.length = n) (hN : N = Int32.ofNat n) (l0 : 0 < n) (l2 : n ≤ 4000) (hp : ∀ c ∈ cs, ¬ c < 0 ∧ ¬ (255 : Int32) < c) (hb : bs = cs.map (fun c => c.toInt8.toInt32)) (hfr : 4 ≤ R.frames) (hlo : W + 65 ≤ R.locals) :
    Back l R p e below s args (⟨"java/lang/String", "<init>", "([C)V"⟩ : MethodName) len W (fun P a => a = #[.ref x, .ref b] ∧ P.U.heap = h ∧ P.cells + 1 ≤ R.cells ∧ P.slots + n ≤ R.slots)
      (fun P _ v B => ∃ L, QV Z x N bs h n0 v B.U.heap L ∧ B.locs = P.locs ++ L ∧ B.cells = P.cells + 1 ∧ B.slots = P.slots + n) := by
  subst hn hN hb
  refine Back.mono (backArv hZ hw wi E V C K S hz (n32 (by omega)) l0 (by omega) (fun c hc => (hp c hc).2) hfr hlo) (fun P a hp => hp) (fun P a v B hp hq => ?_)
  obtain ⟨L, ⟨q1, q2, q3, q4, q5, q6, q7, ⟨kb, v1, v2⟩, q9⟩, hl, hc, hs⟩ := hq
  exact ⟨L, ⟨q1, fun y hy => by rw [q2 y hy]; exact hx0, q3, q5, q7, h.size, kb, hh0, Nat.le_refl _, Nat.ne_of_gt E.lt, q6, by rw [List.map_map]; exact v2⟩, hl, hc, hs⟩
end StrChars.Road
namespace StrChars
open Jvm Sem ClassFile Op Lib Jvm.Stand Jvm.Free.XT Jvm.Free.ALB Jvm.Free.JM Jvm.Free
open Jvm.Lib.Cold (StaticIs)
def hi8 (x : Int32) : Int32 := lo8 (x >>> ((8 : Int32) &&& 31))
end StrChars
namespace StrChars.Road
open Jvm Sem ClassFile Op Lib Jvm.Stand Jvm.Free Jvm.Free.XT
open Jvm.Lib.Cold (StaticIs)
/-- the bytes of the chars cs, low before high -/
def wideBytes : List Int32 → List Value
  | [] => []
  | c :: cs => .int (lo8 c) :: .int (hi8 c) :: wideBytes cs
/-- an array of N2 bytes vs codes the chars cs by the coder cd -/
def CodA (cs : List Int32) (cd N2 : Int32) (vs : List Value) : Prop := (cd = 0 ∧ N2 = Int32.ofNat cs.length ∧ vs = (cs.map fun c => Value.int (lo8 c)) ∧ ∀ c ∈ cs, ¬ 255 < c) ∨ (cd = 1 ∧ N2 = Int32.ofNat (2 * cs.length) ∧ vs = wideBytes cs ∧ ∃ c ∈ cs, 255 < c)
end StrChars.Road
namespace StrChars.Road
open Jvm Sem ClassFile Op Lib Jvm.Stand Jvm.Free Jvm.Free.XT
open Jvm.Lib.Cold (StaticIs)
/-- what backV says of its String, as the contracts of this text ask it: cs's low bytes, coder 0 -/
theorem codOf {cs : List Int32} {n : Nat} (hn : cs.length = n) (hb : ∀ c ∈ cs, ¬ 255 < c) : CodA cs 0 (Int32.ofNat n) ((cs.map lo8).map Value.int) := Or.inl ⟨rfl, by rw [hn], by simp [List.map_map, Function.comp_def], hb⟩
end StrChars.Road
end Jvm.Pilot.@@N@@
namespace Jvm.Pilot.@@N@@
open Jvm Jvm.ClassFile Sem Op Lib Jvm.Free Jvm.Stand Jvm.LawKit Jvm.RoadKit Bundle Jvm.Pilot.@@N@@.Jvm.D
section OwnKit
variable {p : Program} {l : Launch} {e : Env} {R : Room} {s : State} {m : MethodId} {args : Array Value} {below : List Frame} {meth : Method} {c : Code} {T T' : State} {locs : List Loc} {cells slots : Nat} {Z : State} {a0 : Array Value} {h h' : Heap} {EL : List (String × Nat)} {n0 k0 : Nat} {ws ws' sf : List Addr} {own : String} {vm0 vm1 : Vm} {Q : Outcome → State → Prop} {a b x : Addr} {v : Value} {sl : Nat}
/-- the run goes on from t to an end that Q takes -/
def Go (p : Program) (e : Env) (below : List Frame) (Q : Outcome → State → Prop) (t : State) : Prop := ∃ s₂ o, Steps p.tables e below t s₂ ∧ s₂.status = .running ∧ Ended s₂ below o ∧ Q o s₂
theorem Go.of {t t' : State} (k : ∀ z, Steps p.tables e below t' z → Steps p.tables e below t z) (g : Go p e below Q t') : Go p e below Q t := by
  obtain ⟨a, o, st, r⟩ := g
  exact ⟨a, o, k _ st, r⟩
theorem Go.on {t t' : State} (st : Steps p.tables e below t t') (g : Go p e below Q t') : Go p e below Q t := by
  obtain ⟨a, o, st', r⟩ := g
  exact ⟨a, o, st.trans st', r⟩
/-- where a walk stands: the tables at hand, the places written, all hidden -/
def Wk (p : Program) (l : Launch) (e : Env) (R : Room) (s : State) (m : MethodId) (args : Array Value) (below : List Frame) (meth : Method) (c : Code) (Z : State) (EL : List (String × Nat)) (n0 : Nat) (ws : List Addr) (own : String) (sf : List Addr) (T : State) (cells slots : Nat) (h : Heap) : Prop :=
  ∃ (vm0 : Vm) (locs : List Loc) (k0 : Nat), Stand p l e R (s.setVm vm0) m args below meth c T locs cells slots ∧ T.heap = h ∧ s.Since vm0 k0 ∧ k0 ≤ h.size ∧ Z.Warmed39 vm0 ∧ vm0.findClass own = some m.cls ∧ CHr Z EL s.vm s.heap vm0 h ∧ Fr n0 locs ∧ Keep s.heap h ws ∧ Old Z n0 h ∧ ∀ x ∈ sf, Safe Z EL vm0 h x ∧ x < h.size
abbrev Wkk (p : Program) (l : Launch) (e : Env) (R : Room) (s : State) (m : MethodId) (args : Array Value) (below : List Frame) (meth : Method) (c : Code) (Z : State) (EL : List (String × Nat)) (n0 : Nat) (ws : List Addr) (own : String) (sf : List Addr) (cells slots : Nat) (h : Heap) (T : State) : Prop := Wk p l e R s m args below meth c Z EL n0 ws own sf T cells slots h
theorem wk_wr (X : Stand p l e R (s.setVm vm0) m args below meth c T' (locs ++ [⟨a, sl⟩]) cells slots) (e' : T'.heap = h') (W : Wr h h' a sl v) (hS : s.Since vm0 k0) (hk : k0 ≤ h.size) (hZ : Z.Warmed39 vm0) (hown : vm0.findClass own = some m.cls) (hC : CHr Z EL s.vm s.heap vm0 h) (N : Fr n0 locs) (K : Keep s.heap h ws) (O : Old Z n0 h)
    (F : ∀ x ∈ sf, Safe Z EL vm0 h x ∧ x < h.size) (S : Safe Z EL vm0 h a) (ga : n0 ≤ a) (gw : a ∈ ws ∨ s.heap.size ≤ a) : Wk p l e R s m args below meth c Z EL n0 ws own sf T' cells slots h' :=
  ⟨vm0, _, k0, X, e', hS, by rw [Wr.size W]; exact hk, hZ, hown, hC.trans (CHr.wr W S hC.1), Fr.snoc X N ga, K.wr W gw, O.wr W ga, fun y hy => ⟨Safe.wr W S hC.1 (F y hy).1, by rw [Wr.size W]; exact (F y hy).2⟩⟩
theorem wk_ext (X : Stand p l e R (s.setVm vm0) m args below meth c T' locs cells slots) (e' : T'.heap = h') (E : Ext h h') (hS : s.Since vm0 k0) (hk : k0 ≤ h.size) (hZ : Z.Warmed39 vm0) (hown : vm0.findClass own = some m.cls) (hC : CHr Z EL s.vm s.heap vm0 h) (N : Fr n0 locs) (K : Keep s.heap h ws) (O : Old Z n0 h)
    (F : ∀ x ∈ sf, Safe Z EL vm0 h x ∧ x < h.size) : Wk p l e R s m args below meth c Z EL n0 ws own sf T' cells slots h' :=
  ⟨vm0, locs, k0, X, e', hS, Nat.le_trans hk E.1, hZ, hown, hC.trans (CHr.ext E hC.1), N, K.ext E, O.ext E, fun y hy => ⟨Safe.ext E hC.1 (F y hy).1, Nat.lt_of_lt_of_le (F y hy).2 E.1⟩⟩
theorem wk_new (X : Stand p l e R (s.setVm vm0) m args below meth c T' locs cells slots) (e' : T'.heap = h') (E : Ext h h') (hlt : h.size < h'.size) (hS : s.Since vm0 k0) (hk : k0 ≤ h.size) (hZ : Z.Warmed39 vm0) (hown : vm0.findClass own = some m.cls) (hC : CHr Z EL s.vm s.heap vm0 h) (N : Fr n0 locs) (K : Keep s.heap h ws) (O : Old Z n0 h)
    (F : ∀ x ∈ sf, Safe Z EL vm0 h x ∧ x < h.size) : Wk p l e R s m args below meth c Z EL n0 ws own (h.size :: sf) T' cells slots h' :=
  ⟨vm0, locs, k0, X, e', hS, Nat.le_trans hk E.1, hZ, hown, hC.trans (CHr.ext E hC.1), N, K.ext E, O.ext E, fun y hy => by
    rcases List.mem_cons.mp hy with rfl | hy
    · exact ⟨Safe.ext E hC.1 (Safe.new (Nat.le_refl _)), hlt⟩
    · exact ⟨Safe.ext E hC.1 (F y hy).1, Nat.lt_of_lt_of_le (F y hy).2 E.1⟩⟩
theorem Wk.here (W : Wk p l e R s m args below meth c Z EL n0 ws own sf T cells slots h) : At T m c below := by
  obtain ⟨_, _, _, X, _⟩ := W
  exact X.here
theorem Wk.n0le (W : Wk p l e R s m args below meth c Z EL n0 ws own sf T cells slots h) : n0 ≤ h.size := by
  obtain ⟨_, _, _, _, _, _, _, _, _, _, _, _, O, _⟩ := W
  exact O.1 ▸ O.2.1
theorem Wk.s0le (W : Wk p l e R s m args below meth c Z EL n0 ws own sf T cells slots h) : s.heap.size ≤ h.size := by
  obtain ⟨_, _, _, _, _, _, _, _, _, _, _, K, _, _⟩ := W
  exact K.1
theorem Wk.old (W : Wk p l e R s m args below meth c Z EL n0 ws own sf T cells slots h) : Old Z n0 h := by
  obtain ⟨_, _, _, _, _, _, _, _, _, _, _, _, O, _⟩ := W
  exact O
theorem Wk.more (W : Wk p l e R s m args below meth c Z EL n0 ws own sf T cells slots h) {cells' slots' : Nat} (hc : cells ≤ cells') (hs : slots ≤ slots') : Wk p l e R s m args below meth c Z EL n0 ws own sf T cells' slots' h := by
  obtain ⟨vm0, locs, k0, X, r⟩ := W
  exact ⟨vm0, locs, k0, X.more hc hs, r⟩
theorem Wk.sub {sf' : List Addr} (W : Wk p l e R s m args below meth c Z EL n0 ws own sf T cells slots h) (hs : ∀ x ∈ sf', x ∈ sf) : Wk p l e R s m args below meth c Z EL n0 ws own sf' T cells slots h := by
  obtain ⟨vm0, locs, k0, X, eT, hS, hk, hZ, hown, hC, N, K, O, F⟩ := W
  exact ⟨vm0, locs, k0, X, eT, hS, hk, hZ, hown, hC, N, K, O, fun y hy => F y (hs y hy)⟩
/-! single steps -/
theorem Wk.getF (W : Wk p l e R s m args below meth c Z EL n0 ws own sf T cells slots h) (hx : p.tables.exec = Jvm.exec) {R0 O n d host : String} {index : Nat} (w : (Cond.fieldLink own index R0 n d).before a0 Z = true ∨ (Cond.fieldLinkNest own index R0 n d host).before a0 Z = true) (via : Via Z R0 O n d)
    (F : Fld Z h a O n d v) {g : JFrame} (hg : g.method = m) {rest : List Value} (hs : g.stack = .ref a :: rest) (hd : decode c.code g.pc = .ok (.getfield index, 3))
    (k : ∀ T', Wk p l e R s m args below meth c Z EL n0 ws own sf T' cells slots h → Go p e below Q (T'.setTop { g with pc := g.pc + 3, stack := v :: rest })) : Go p e below Q (T.setTop g) := by
  obtain ⟨vm0, locs, k0, X, eT, hS, hk, hZ, hown, r⟩ := W
  obtain ⟨T', X', e', st⟩ := RoadKit.getF X hx hZ hown w via eT F hg hs hd
  exact Go.of st (k T' ⟨vm0, locs, k0, X', e', hS, hk, hZ, hown, r⟩)
theorem Wk.getS (W : Wk p l e R s m args below meth c Z EL n0 ws own sf T cells slots h) (hx : p.tables.exec = Jvm.exec) {R0 O n d host : String} {index : Nat} (w : (Cond.fieldLink own index R0 n d).before a0 Z = true ∨ (Cond.fieldLinkNest own index R0 n d host).before a0 Z = true) (via : Via Z R0 O n d)
    (F : Sta Z Z.heap O n d v) {g : JFrame} (hg : g.method = m) (hd : decode c.code g.pc = .ok (.getstatic index, 3))
    (k : ∀ T', Wk p l e R s m args below meth c Z EL n0 ws own sf T' cells slots h → Go p e below Q (T'.setTop { g with pc := g.pc + 3, stack := v :: g.stack })) : Go p e below Q (T.setTop g) := by
  have F' := F.ext W.old.2
  obtain ⟨vm0, locs, k0, X, eT, hS, hk, hZ, hown, r⟩ := W
  obtain ⟨T', X', e', st⟩ := RoadKit.getS2 X hx hZ hown w via eT F' hg hd
  exact Go.of st (k T' ⟨vm0, locs, k0, X', e', hS, hk, hZ, hown, r⟩)
theorem Wk.castY (W : Wk p l e R s m args below meth c Z EL n0 ws own sf T cells slots h) (hx : p.tables.exec = Jvm.exec) {K : String} {index : Nat} (w : (Cond.classLink own index K).before a0 Z = true) (F : Ins Z h a K true) {g : JFrame} (hg : g.method = m) {rest : List Value} (hs : g.stack = .ref a :: rest) (hd : decode c.code g.pc = .ok (.checkcast index, 3))
    (k : ∀ T', Wk p l e R s m args below meth c Z EL n0 ws own sf T' cells slots h → Go p e below Q (T'.setTop { g with pc := g.pc + 3 })) : Go p e below Q (T.setTop g) := by
  obtain ⟨vm0, locs, k0, X, eT, hS, hk, hZ, hown, r⟩ := W
  obtain ⟨T', X', e', st⟩ := RoadKit.castY X hx hZ hown w eT F hg hs hd
  exact Go.of st (k T' ⟨vm0, locs, k0, X', e', hS, hk, hZ, hown, r⟩)
theorem Wk.instY (W : Wk p l e R s m args below meth c Z EL n0 ws own sf T cells slots h) (hx : p.tables.exec = Jvm.exec) {K : String} {index : Nat} (w : (Cond.classLink own index K).before a0 Z = true) (F : Ins Z h a K true) {g : JFrame} (hg : g.method = m) {rest : List Value} (hs : g.stack = .ref a :: rest) (hd : decode c.code g.pc = .ok (.instanceof index, 3))
    (k : ∀ T', Wk p l e R s m args below meth c Z EL n0 ws own sf T' cells slots h → Go p e below Q (T'.setTop { g with pc := g.pc + 3, stack := .int 1 :: rest })) : Go p e below Q (T.setTop g) := by
  obtain ⟨vm0, locs, k0, X, eT, hS, hk, hZ, hown, r⟩ := W
  obtain ⟨T', X', e', st⟩ := RoadKit.instY X hx hZ hown w eT F hg hs hd
  exact Go.of st (k T' ⟨vm0, locs, k0, X', e', hS, hk, hZ, hown, r⟩)
theorem Wk.instNo (W : Wk p l e R s m args below meth c Z EL n0 ws own sf T cells slots h) (hx : p.tables.exec = Jvm.exec) {K C : String} {index : Nat} (w : (Cond.classLink own index K).before a0 Z = true) (E : Exa Z h a C) (F : ∃ c t, Z.vm.findClass C = some c ∧ Z.vm.findClass K = some t ∧ Z.vm.assignable c t = false) {g : JFrame} (hg : g.method = m) {rest : List Value} (hs : g.stack = .ref a :: rest) (hd : decode c.code g.pc = .ok (.instanceof index, 3))
    (k : ∀ T', Wk p l e R s m args below meth c Z EL n0 ws own sf T' cells slots h → Go p e below Q (T'.setTop { g with pc := g.pc + 3, stack := .int 0 :: rest })) : Go p e below Q (T.setTop g) := by
  obtain ⟨vm0, locs, k0, X, eT, hS, hk, hZ, hown, r⟩ := W
  obtain ⟨T', X', e', st⟩ := RoadKit.instNo X hx hZ hown w eT E F hg hs hd
  exact Go.of st (k T' ⟨vm0, locs, k0, X', e', hS, hk, hZ, hown, r⟩)
theorem Wk.initO (W : Wk p l e R s m args below meth c Z EL n0 ws own sf T cells slots h) (hx : p.tables.exec = Jvm.exec) {idx : Nat} (w1 : (Cond.methodLink own idx Lib.objectInit).before a0 Z = true) (w2 : (Cond.instanceMethod Lib.objectInit).before a0 Z = true)
    (w3 : (Cond.code Lib.objectInit ⟨#[0xb1]⟩ 1 none).before a0 Z = true) {g : JFrame} (hg : g.method = m) (hsize : g.locals.size = c.maxLocals) {rest : List Value} (hs : g.stack = .ref a :: rest) (hd : decode c.code g.pc = .ok (.invokespecial idx, 3))
    (hf : 1 ≤ R.frames) {Wd : Nat} (hW : 2 * g.monitorRoom + (rest.map fun v => v.category).sum ≤ Wd) (hl : Wd + 12 ≤ R.locals)
    (k : ∀ T', Wk p l e R s m args below meth c Z EL n0 ws own sf T' cells slots h → Go p e below Q (T'.setTop { g with pc := g.pc + 3, stack := rest })) : Go p e below Q (T.setTop g) := by
  obtain ⟨vm0, locs, k0, X, eT, hS, hk, hZ, hown, r⟩ := W
  obtain ⟨T', X', e', st⟩ := RoadKit.initO X hx hZ hown w1 w2 w3 eT hg hsize hs hd hf hW hl
  exact Go.of st (k T' ⟨vm0, locs, k0, X', e', hS, hk, hZ, hown, r⟩)
theorem Wk.newO (W : Wk p l e R s m args below meth c Z EL n0 ws own sf T cells slots h) (hx : p.tables.exec = Jvm.exec) {C : String} {index n : Nat} (w : (Cond.classLink own index C).before a0 Z = true) (wi : (Cond.instantiable C n).before a0 Z = true) (wz : (Cond.initialized C).before a0 Z = true)
    {g : JFrame} (hg : g.method = m) (hd : decode c.code g.pc = .ok (.new index, 3)) (hc : cells + 1 ≤ R.cells) (hl : slots + n ≤ R.slots)
    (k : ∀ T' h' b, b = h.size → n0 ≤ b ∧ s.heap.size ≤ b → Wk p l e R s m args below meth c Z EL n0 ws own (b :: sf) T' (cells + 1) (slots + n) h' → Keep h h' [] → Exa Z h' b C → (∀ {O nm d : String} {ty : FieldType}, Laid Z a0 C O nm d → parseFieldDescriptor d = some ty → Fld Z h' b O nm d (defaultValue ty)) →
      Go p e below Q (T'.setTop { g with pc := g.pc + 3, stack := .ref b :: g.stack })) : Go p e below Q (T.setTop g) := by
  have hle := W.n0le
  have hle' := W.s0le
  obtain ⟨vm0, locs, k0, X, eT, hS, hk, hZ, hown, hC, N, K, O, F⟩ := W
  obtain ⟨T', h', X', e', E, A, D, -, st⟩ := RoadKit.newO X hx hZ hown w wi wz eT hg hd hc hl
  exact Go.of st (k T' h' h.size rfl ⟨hle, hle'⟩ (wk_new X' e' E A.lt hS hk hZ hown hC N K O F) ((Keep.refl h []).ext E) A D)
theorem Wk.newP (W : Wk p l e R s m args below meth c Z EL n0 ws own sf T cells slots h) (hx : p.tables.exec = Jvm.exec) {aty : ArrayType} (w : (Cond.arrayClass (newarray.typeOf aty)).before a0 Z = true)
    {g : JFrame} (hg : g.method = m) (hd : decode c.code g.pc = .ok (.newarray aty, 2)) {n : Int32} {rest : List Value} (hs : g.stack = .int n :: rest)
    (hn : ¬ n < 0) {cap : Nat} (hcap : n.toNatClampNeg ≤ cap) (hb : cap * 8 ≤ 536870912) (hc : cells + 1 ≤ R.cells) (hl : slots + cap ≤ R.slots)
    (k : ∀ T' h' b kc, b = h.size → n0 ≤ b ∧ s.heap.size ≤ b → Wk p l e R s m args below meth c Z EL n0 ws own (b :: sf) T' (cells + 1) (slots + cap) h' → Keep h h' [] → Arv Z h' b kc (newarray.typeOf aty) n (List.replicate cap (defaultValue (newarray.typeOf aty))) (defaultValue (newarray.typeOf aty)) →
      Go p e below Q (T'.setTop { g with pc := g.pc + 2, stack := .ref b :: rest })) : Go p e below Q (T.setTop g) := by
  have hle := W.n0le
  have hle' := W.s0le
  obtain ⟨vm0, locs, k0, X, eT, hS, hk, hZ, hown, hC, N, K, O, F⟩ := W
  obtain ⟨T', h', kc, X', e', E, A, st⟩ := RoadKit.newP X hx hZ w eT hg hd hs hn hcap hb hc hl
  exact Go.of st (k T' h' h.size kc rfl ⟨hle, hle'⟩ (wk_new X' e' E A.lt hS hk hZ hown hC N K O F) ((Keep.refl h []).ext E) ((Arv.new A hn).pad (pad_rep [] _ cap)))
theorem Wk.putF (W : Wk p l e R s m args below meth c Z EL n0 ws own sf T cells slots h) (hx : p.tables.exec = Jvm.exec) {R0 O n d host C : String} {index kk : Nat} {ty : FieldType} (w : (Cond.fieldLink own index R0 n d).before a0 Z = true ∨ (Cond.fieldLinkNest own index R0 n d host).before a0 Z = true) (via : Via Z R0 O n d)
    {old : Value} (F : Fld Z h a O n d old) (E : Exa Z h a C) (L : (Cond.lays C O n d).before a0 Z = true ∨ ((Cond.laysFinal C O n d).before a0 Z = true ∧ own = O ∧ meth.name = "<init>")) (wi : (Cond.instantiable C kk).before a0 Z = true)
    (hty : parseFieldDescriptor d = some ty) (hn : narrow ty v = v) (hf : fits ty v = true) (ga : n0 ≤ a) (gw : a ∈ ws ∨ s.heap.size ≤ a) (sa : a ∈ sf ∨ (C ≠ "java/lang/String" ∧ C ≠ "[B")) {g : JFrame} (hg : g.method = m) {rest : List Value} (hs : g.stack = v :: .ref a :: rest) (hd : decode c.code g.pc = .ok (.putfield index, 3))
    (k : ∀ T' h', Wk p l e R s m args below meth c Z EL n0 ws own sf T' cells slots h' → Wr h h' a (RoadKit.slotOf Z O n d) v → Go p e below Q (T'.setTop { g with pc := g.pc + 3, stack := rest })) : Go p e below Q (T.setTop g) := by
  obtain ⟨vm0, locs, k0, X, eT, hS, hk, hZ, hown, hC, N, K, Ol, Fs⟩ := W
  have S : Safe Z EL vm0 h a := by
    rcases sa with q | ⟨q1, q2⟩
    · exact (Fs a q).1
    · exact Safe.exa hZ.alike E q1 q2
  obtain ⟨T', h', X', e', W', st⟩ := RoadKit.putF X hx hZ hown w via eT F E L wi hty hn hf hg hs hd
  exact Go.of st (k T' h' (wk_wr X' e' W' hS hk hZ hown hC N K Ol Fs S ga gw) W')
theorem Wk.stC (W : Wk p l e R s m args below meth c Z EL n0 ws own sf T cells slots h) (hx : p.tables.exec = Jvm.exec) {kc : ClassId} {z j y : Int32} {vs : List Value} {dv : Value} (V : Arv Z h a kc .char z vs dv) (hj : ¬ j < 0 ∧ j < z) (i : Nat) (hji : j.toNatClampNeg = i) (hi : i < vs.length) (ga : n0 ≤ a) (gw : a ∈ ws ∨ s.heap.size ≤ a)
    {g : JFrame} (hg : g.method = m) {rest : List Value} (hs : g.stack = .int y :: .int j :: .ref a :: rest) (hd : decode c.code g.pc = .ok (.castore, 1))
    (k : ∀ T' h', Wk p l e R s m args below meth c Z EL n0 ws own sf T' cells slots h' → Keep h h' [a] → Arv Z h' a kc .char z (vs.set i (.int (nar .char y))) dv → Go p e below Q (T'.setTop { g with pc := g.pc + 1, stack := rest })) : Go p e below Q (T.setTop g) := by
  obtain ⟨vm0, locs, k0, X, eT, hS, hk, hZ, hown, hC, N, K, Ol, Fs⟩ := W
  obtain ⟨cl, A, q1, S1, q3, H, G⟩ := V
  obtain ⟨T', h', X', e', W', st⟩ := RoadKit.stC X hx hZ eT A (j := j) (inb_of S1 hj) hg hs hd
  exact Go.of st (k T' h' (wk_wr X' e' W' hS hk hZ hown hC N K Ol Fs (Safe.arr hZ.alike A (by decide)) ga gw) (Keep.of_wr W') (Arv.set A q1 S1 q3 H G (fits_nar_char _) W' i hji hi))
theorem Wk.stB (W : Wk p l e R s m args below meth c Z EL n0 ws own sf T cells slots h) (hx : p.tables.exec = Jvm.exec) {kc : ClassId} {z j y : Int32} {vs : List Value} {dv : Value} (V : Arv Z h a kc .byte z vs dv) (hj : ¬ j < 0 ∧ j < z) (i : Nat) (hji : j.toNatClampNeg = i) (hi : i < vs.length) (ga : n0 ≤ a) (gw : a ∈ ws ∨ s.heap.size ≤ a) (sa : a ∈ sf)
    {g : JFrame} (hg : g.method = m) {rest : List Value} (hs : g.stack = .int y :: .int j :: .ref a :: rest) (hd : decode c.code g.pc = .ok (.bastore, 1))
    (k : ∀ T' h', Wk p l e R s m args below meth c Z EL n0 ws own sf T' cells slots h' → Keep h h' [a] → Arv Z h' a kc .byte z (vs.set i (.int (nar .byte y))) dv → Go p e below Q (T'.setTop { g with pc := g.pc + 1, stack := rest })) : Go p e below Q (T.setTop g) := by
  obtain ⟨vm0, locs, k0, X, eT, hS, hk, hZ, hown, hC, N, K, Ol, Fs⟩ := W
  obtain ⟨cl, A, q1, S1, q3, H, G⟩ := V
  obtain ⟨T', h', X', e', W', st⟩ := RoadKit.stB X hx hZ eT A (j := j) (inb_of S1 hj) hg hs hd
  exact Go.of st (k T' h' (wk_wr X' e' W' hS hk hZ hown hC N K Ol Fs (Fs a sa).1 ga gw) (Keep.of_wr W') (Arv.set A q1 S1 q3 H G (fits_nar_byte _) W' i hji hi))
theorem Wk.caload (W : Wk p l e R s m args below meth c Z EL n0 ws own sf T cells slots h) (hx : p.tables.exec = Jvm.exec) {kc : ClassId} {z j : Int32} {vs : List Value} {dv : Value} (V : Arv Z h a kc .char z vs dv) (hj : ¬ j < 0 ∧ j < z) (hv : vs.getD j.toNatClampNeg dv = v)
    {g : JFrame} (hg : g.method = m) {rest : List Value} (hs : g.stack = .int j :: .ref a :: rest) (hd : decode c.code g.pc = .ok (.caload, 1)) (k : Go p e below Q (T.setTop { g with pc := g.pc + 1, stack := v :: rest })) : Go p e below Q (T.setTop g) := by
  obtain ⟨vm0, locs, k0, X, eT, hS, hk, hZ, hown, r⟩ := W
  obtain ⟨cl, A, q1, S1, q3, H, G⟩ := V
  exact Go.of (fun t q => X.caload hx (by rw [eT]; exact A.1) (State.isArrayOf_alike hZ.alike A.2.1) A.2.2 (inb_of S1 hj) (H.at (inb_of S1 hj) hv) hg hs hd t q) k
theorem Wk.baload (W : Wk p l e R s m args below meth c Z EL n0 ws own sf T cells slots h) (hx : p.tables.exec = Jvm.exec) {kc : ClassId} {z j : Int32} {vs : List Value} {dv : Value} (V : Arv Z h a kc .byte z vs dv) (hj : ¬ j < 0 ∧ j < z) (hv : vs.getD j.toNatClampNeg dv = v)
    {g : JFrame} (hg : g.method = m) {rest : List Value} (hs : g.stack = .int j :: .ref a :: rest) (hd : decode c.code g.pc = .ok (.baload, 1)) (k : Go p e below Q (T.setTop { g with pc := g.pc + 1, stack := v :: rest })) : Go p e below Q (T.setTop g) := by
  obtain ⟨vm0, locs, k0, X, eT, hS, hk, hZ, hown, r⟩ := W
  obtain ⟨cl, A, q1, S1, q3, H, G⟩ := V
  exact Go.of (fun t q => X.baloadBytes hx (by rw [eT]; exact A.1) (State.isArrayOf_alike hZ.alike A.2.1) A.2.2 (inb_of S1 hj) (H.at (inb_of S1 hj) hv) hg hs hd t q) k
theorem Wk.alen (W : Wk p l e R s m args below meth c Z EL n0 ws own sf T cells slots h) (hx : p.tables.exec = Jvm.exec) {kc : ClassId} {z : Int32} {ty : FieldType} {vs : List Value} {dv : Value} (V : Arv Z h a kc ty z vs dv)
    {g : JFrame} (hg : g.method = m) {rest : List Value} (hs : g.stack = .ref a :: rest) (hd : decode c.code g.pc = .ok (.arraylength, 1)) (k : Go p e below Q (T.setTop { g with pc := g.pc + 1, stack := .int z :: rest })) : Go p e below Q (T.setTop g) := by
  obtain ⟨vm0, locs, k0, X, eT, hS, hk, hZ, hown, r⟩ := W
  obtain ⟨cl, A, q1, S1, q3, H, G⟩ := V
  exact Go.of (fun t q => X.arraylength hx (by rw [eT]; exact A.1) (State.isArrayOf_alike hZ.alike A.2.1) hg hs hd t (by rw [len_of S1 q3]; exact q)) k
theorem Wk.ldcI (W : Wk p l e R s m args below meth c Z EL n0 ws own sf T cells slots h) (hx : p.tables.exec = Jvm.exec) {index : Nat} {z : Int32} (w : (Cond.constant own index z).before a0 Z = true)
    {g : JFrame} (hg : g.method = m) (hd : decode c.code g.pc = .ok (.ldc index, 2)) (k : Go p e below Q (T.setTop { g with pc := g.pc + 2, stack := .int z :: g.stack })) : Go p e below Q (T.setTop g) := by
  obtain ⟨vm0, locs, k0, X, eT, hS, hk, hZ, hown, r⟩ := W
  exact Go.of (fun t q => X.ldcInt hx hown (mvT (s := s.setVm vm0) hZ w) hg hd t q) k
theorem Wk.ldcJ (W : Wk p l e R s m args below meth c Z EL n0 ws own sf T cells slots h) (hx : p.tables.exec = Jvm.exec) {index : Nat} {z : Int64} (w : (Cond.constantLong own index z).before a0 Z = true)
    {g : JFrame} (hg : g.method = m) (hd : decode c.code g.pc = .ok (.ldc2_w index, 3)) (k : Go p e below Q (T.setTop { g with pc := g.pc + 3, stack := .long z :: g.stack })) : Go p e below Q (T.setTop g) := by
  obtain ⟨vm0, locs, k0, X, eT, hS, hk, hZ, hown, r⟩ := W
  exact Go.of (fun t q => X.ldc2Long hx hown (mvT (s := s.setVm vm0) hZ w) hg hd t q) k
/-! String constants -/
theorem wk_tab {k1 : Nat} (X : Stand p l e R (s.setVm vm1) m args below meth c T' locs cells slots) (e' : T'.heap = h') (E : Keep h h' ws') (gws : ∀ x ∈ ws', n0 ≤ x ∧ (x ∈ ws ∨ s.heap.size ≤ x)) (hS : s.Since vm1 k1) (hk : k1 ≤ h'.size) (hZ : Z.Warmed39 vm1) (hown : vm1.findClass own = some m.cls) (A : CHr Z EL vm0 h vm1 h') (hC : CHr Z EL s.vm s.heap vm0 h) (N : Fr n0 locs) (K : Keep s.heap h ws) (O : Old Z n0 h)
    (F : ∀ x ∈ sf, Safe Z EL vm0 h x ∧ x < h.size) : Wk p l e R s m args below meth c Z EL n0 ws own sf T' cells slots h' :=
  ⟨vm1, locs, k1, X, e', hS, hk, hZ, hown, hC.trans A, N, K.trans E fun y hy => (gws y hy).2, O.keep E fun y hy => (gws y hy).1, fun y hy => ⟨CHr.safe A (F y hy).2 (F y hy).1, Nat.lt_of_lt_of_le (F y hy).2 E.1⟩⟩
theorem Wk.ldcO (W : Wk p l e R s m args below meth c Z EL n0 ws own sf T cells slots h) (hx : p.tables.exec = Jvm.exec) (hEL : EW Z a0 EL) {text : String} {index : Nat} (w : (Cond.stringLink own index text).before a0 Z = true) (wS : ∀ a ∈ Bundle.stringAtoms, a.before a0 Z = true)
    {g : JFrame} (hg : g.method = m) (hd : decode c.code g.pc = .ok (.ldc index, 2)) {n : Nat} (hn : 4 * text.toList.length ≤ n) (hbig : n ≤ 536870912) (hc : cells + 2 ≤ R.cells) (hl : slots + (n + 4) ≤ R.slots)
    (k : ∀ T' h' b, Wk p l e R s m args below meth c Z EL n0 ws own sf T' (cells + 2) (slots + (n + 4)) h' → Keep h h' [] → Go p e below Q (T'.setTop { g with pc := g.pc + 2, stack := .ref b :: g.stack })) : Go p e below Q (T.setTop g) := by
  obtain ⟨vm0, locs, k0, X, eT, hS, hk, hZ, hown, hC, N, K, Ol, Fs⟩ := W
  obtain ⟨b, T', h', k1, X', e', E, hS', hk', hZ', hown', A, -, st⟩ := ldcOH X hx hZ hown w wS eT hS hk hEL hC.1 hg hd hn hbig hc hl
  have K1 : Keep h h' [] := (Keep.refl h []).ext E
  exact Go.of st (k T' h' b (wk_tab X' e' K1 all0 hS' hk' hZ' hown' A hC N K Ol Fs) K1)
theorem Wk.ldcC (W : Wk p l e R s m args below meth c Z EL n0 ws own sf T cells slots h) (hx : p.tables.exec = Jvm.exec) (hEL : EW Z a0 EL) {text : String} {index : Nat} (hmem : (own, index) ∈ EL) (w : (Cond.stringLink own index text).before a0 Z = true) (wS : ∀ a ∈ Bundle.stringAtoms, a.before a0 Z = true)
    (vs : List Value) (z : Int32) (ht : (∀ c ∈ text.toList, c.toNat < 256) ∧ text.toList.map (fun c => Value.int (Jvm.Lit.byteI c.toNat.toUInt16)) = vs) (hz : ¬ z < 0) (hl : z.toNatClampNeg = vs.length)
    {g : JFrame} (hg : g.method = m) (hd : decode c.code g.pc = .ok (.ldc index, 2)) {n : Nat} (hn : 4 * text.toList.length ≤ n) (hbig : n ≤ 536870912) (hc : cells + 2 ≤ R.cells) (hsl : slots + (n + 4) ≤ R.slots)
    (k : ∀ T' h' b t kb, Wk p l e R s m args below meth c Z EL n0 ws own sf T' (cells + 2) (slots + (n + 4)) h' → Keep h h' [] → Exa Z h' b "java/lang/String" → Fld Z h' b "java/lang/String" "value" "[B" (.ref t) → Fld Z h' b "java/lang/String" "coder" "B" (.int 0) → Arv Z h' t kb .byte z vs (.int 0) → (∀ x ∈ sf, x ≠ b ∧ x ≠ t) → Go p e below Q (T'.setTop { g with pc := g.pc + 2, stack := .ref b :: g.stack })) : Go p e below Q (T.setTop g) := by
  obtain ⟨vm0, locs, k0, X, eT, hS, hk, hZ, hown, hC, N, K, Ol, Fs⟩ := W
  obtain ⟨b, T', h', k1, t, kb, X', e', E, hS', hk', hZ', hown', E1, F1, F2, A1, -, -, A, -, hne, st⟩ := ldcCH X hx hZ hown w wS eT hS hk hEL hmem hC.1 ht hz hl hg hd hn hbig hc hsl
  have K1 : Keep h h' [] := (Keep.refl h []).ext E
  exact Go.of st (k T' h' b t kb (wk_tab X' e' K1 all0 hS' hk' hZ' hown' A hC N K Ol Fs) K1 E1 F2 F1 A1 (fun x hx => hne x (CHr.safe A (Fs x hx).2 (Fs x hx).1)))
/-! contracts -/
def Met (l : Launch) (Z : State) (EL : List (String × Nat)) (n0 : Nat) (y : MethodName) (bytes : ByteArray) (maxL : Nat) (ret : Option FieldType) (wl : List Cond) (rm : Room) (as' : Array Value) (h : Heap) (ws sf : List Addr) (Qv : Option Value → Heap → Prop) : Prop :=
  MetFree l y (head1 (Cond.code y bytes maxL ret :: wl) rm) (fun a U => a = as' ∧ Z.Warmed39 U.vm ∧ U.heap = h ∧ CHv Z EL U.vm h ∧ ∀ x ∈ sf, Safe Z EL U.vm h x ∧ x < h.size) (fun _ _ _ _ _ => True)
    (fun _ U o U' => ∃ v L, o = .returned v ∧ (Qv v U'.heap ∧ Fr n0 L ∧ Keep h U'.heap ws) ∧ CHr Z EL U.vm U.heap U'.vm U'.heap ∧ ReturnedEndW U o U' L rm.cells rm.slots)
def Fend (Z : State) (EL : List (String × Nat)) (n0 : Nat) (s : State) (h : Heap) (ws : List Addr) (Qv : Option Value → Heap → Prop) (rm : Room) (o : Outcome) (t : State) : Prop :=
  ∃ v L, o = .returned v ∧ (Qv v t.heap ∧ Fr n0 L ∧ Keep h t.heap ws) ∧ CHr Z EL s.vm s.heap t.vm t.heap ∧ ReturnedEndW s o t L rm.cells rm.slots
variable {y : MethodName} {bytes : ByteArray} {maxL : Nat} {ret : Option FieldType} {wl : List Cond} {rm : Room} {as' : Array Value} {Qv : Option Value → Heap → Prop}
theorem Met.of (hy : plainFor y = true) (O : Old Z n0 h) (body : ∀ (p : Program) (e : Env) (s : State) (m : MethodId) (below : List Frame) (meth : Method) (c : Code) (T : State), p.tables.exec = Jvm.exec → c.code = bytes → c.maxLocals = maxL → meth.sig.returnType = ret → meth.locks = false → meth.name = y.name → s.heap = h →
      Wk p l e rm s m as' below meth c Z EL n0 ws y.cls sf T 0 0 h → Go p e below (Fend Z EL n0 s h ws Qv rm) (T.setTop (entryFrame m as' maxL))) : Met l Z EL n0 y bytes maxL ret wl rm as' h ws sf Qv := by
  refine MetFree.of_bodySF hy hisR ?_
  intro p e s m args below meth c s₁ Bd hml0 hP hK
  obtain ⟨rfl, hZ, hh, hC, hF⟩ := hP
  subst hh
  have e0 : s₁.heap = s.heap := by rw [Bd.state]; rfl
  have hown := findClass_of_methodNamed Bd.named
  have X0 : Stand p l e rm s m args below meth c s₁ [] 0 0 := Stand.of_body Bd
  obtain ⟨s₂, o, st, r1, r2, q⟩ := body p e s m below meth c s₁ Bd.exec Bd.bytes hml0 Bd.returns Bd.notSynchronized (name_of_methodNamed Bd.named Bd.method).1 rfl ⟨s.vm, [], 0, X0, e0, (State.WarmedH.refl s).since 0, Nat.zero_le _, hZ, hown, CHr.refl hC, Fr.nil n0, Keep.refl _ _, O, hF⟩
  exact ⟨s₂, o, st, r1, r2, q⟩
theorem Wk.fin {g : JFrame} (W : Wk p l e rm s m args below meth c Z EL n0 ws own sf T cells slots h') (hEL : EW Z a0 EL) (hs : s.heap = h) (hlk : meth.locks = false) (hc : cells ≤ rm.cells) (hl : slots ≤ rm.slots) {w : Option Value} (hv : meth.sig.returnType = none → w = none) (hq : Qv w h')
    (k : ∀ (vm0 : Vm) (locs : List Loc) (fs : List Frame), Stand p l e rm (s.setVm vm0) m args below meth c T locs cells slots → (∀ (f : JFrame) (acts : List Action), f.method = m → f.locked = none → f.entered = [] → (doReturn e (T.setTop f) acts w).1 = T.setFrames fs) → Steps p.tables e below (T.setTop g) (T.setFrames fs)) : Go p e below (Fend Z EL n0 s h ws Qv rm) (T.setTop g) := by
  obtain ⟨vm0, locs, k0, X, eT, hS, hk, hZ, hown, hC, N, K, Ol, Fs⟩ := W
  subst hs eT
  obtain ⟨fs, hr, hrun, hended, q1, q2, q3, q4⟩ := X.leaveW hS hk hv hlk
  refine ⟨T.setFrames fs, .returned w, k vm0 locs fs X hr, hrun, hended, w, locs, rfl, ⟨hq, N, K⟩, (show CHr Z EL s.vm s.heap T.vm T.heap from hC.trans (CHv.at X hZ hEL hC.1)), q1, q2, q3, q4.mono hc hl⟩
theorem Wk.retG (W : Wk p l e rm s m args below meth c Z EL n0 ws own sf T cells slots h') (hx : p.tables.exec = Jvm.exec) (hEL : EW Z a0 EL) (hs : s.heap = h) (hlk : meth.locks = false) (hc : cells ≤ rm.cells) (hl : slots ≤ rm.slots) {pc : Nat} {Ls : Array Slot} {w : Value} {t : FieldType} {i : Instr} {rest : List Value} (hret : meth.sig.returnType = some t) (hn : narrow t w = w)
    (hi : (i = .ireturn ∧ (t = .int ∨ t = .boolean ∨ t = .byte ∨ t = .char ∨ t = .short) ∧ ∃ z, w = .int z) ∨ (i = .lreturn ∧ t = .long ∧ ∃ z, w = .long z) ∨ (i = .dreturn ∧ t = .double ∧ ∃ z, w = .double z) ∨ (i = .freturn ∧ t = .float ∧ ∃ z, w = .float z) ∨ (i = .areturn ∧ t.isReference = true ∧ w.isRef = true))
    (hd : decode c.code pc = .ok (i, 1)) (hq : Qv (some w) h') : Go p e below (Fend Z EL n0 s h ws Qv rm) (T.setTop (mkF m pc Ls (w :: rest))) :=
  W.fin hEL hs hlk hc hl (w := some w) (fun q => by rw [hret] at q; cases q) hq (fun vm0 locs fs X hr => RoadKit.retOut X hx hret hn hi hd hr)
theorem Wk.retI (W : Wk p l e rm s m args below meth c Z EL n0 ws own sf T cells slots h') (hx : p.tables.exec = Jvm.exec) (hEL : EW Z a0 EL) (hs : s.heap = h) (hlk : meth.locks = false) (hc : cells ≤ rm.cells) (hl : slots ≤ rm.slots) {pc : Nat} {Ls : Array Slot} {w : Int32} {t : FieldType} {rest : List Value} (hret : meth.sig.returnType = some t) (ht : t = .int ∨ t = .boolean ∨ t = .byte ∨ t = .char ∨ t = .short) (hn : narrow t (.int w) = .int w)
    (hd : decode c.code pc = .ok (.ireturn, 1)) (hq : Qv (some (.int w)) h') : Go p e below (Fend Z EL n0 s h ws Qv rm) (T.setTop (mkF m pc Ls (.int w :: rest))) :=
  W.retG hx hEL hs hlk hc hl hret hn (Or.inl ⟨rfl, ht, w, rfl⟩) hd hq
theorem Wk.retA (W : Wk p l e rm s m args below meth c Z EL n0 ws own sf T cells slots h') (hx : p.tables.exec = Jvm.exec) (hEL : EW Z a0 EL) (hs : s.heap = h) (hlk : meth.locks = false) (hc : cells ≤ rm.cells) (hl : slots ≤ rm.slots) {pc : Nat} {Ls : Array Slot} {w : Value} {t : FieldType} {rest : List Value} (hret : meth.sig.returnType = some t) (ht : t.isReference = true) (hw : w.isRef = true)
    (hd : decode c.code pc = .ok (.areturn, 1)) (hq : Qv (some w) h') : Go p e below (Fend Z EL n0 s h ws Qv rm) (T.setTop (mkF m pc Ls (w :: rest))) :=
  W.retG hx hEL hs hlk hc hl hret (by cases t <;> cases w <;> first | rfl | cases ht | cases hw) (Or.inr (Or.inr (Or.inr (Or.inr ⟨rfl, ht, hw⟩)))) hd hq
theorem Wk.retL (W : Wk p l e rm s m args below meth c Z EL n0 ws own sf T cells slots h') (hx : p.tables.exec = Jvm.exec) (hEL : EW Z a0 EL) (hs : s.heap = h) (hlk : meth.locks = false) (hc : cells ≤ rm.cells) (hl : slots ≤ rm.slots) {pc : Nat} {Ls : Array Slot} {w : Int64} {rest : List Value} (hret : meth.sig.returnType = some .long)
    (hd : decode c.code pc = .ok (.lreturn, 1)) (hq : Qv (some (.long w)) h') : Go p e below (Fend Z EL n0 s h ws Qv rm) (T.setTop (mkF m pc Ls (.long w :: rest))) :=
  W.retG hx hEL hs hlk hc hl hret rfl (Or.inr (Or.inl ⟨rfl, rfl, w, rfl⟩)) hd hq
theorem Wk.retV (W : Wk p l e rm s m args below meth c Z EL n0 ws own sf T cells slots h') (hx : p.tables.exec = Jvm.exec) (hEL : EW Z a0 EL) (hs : s.heap = h) (hlk : meth.locks = false) (hc : cells ≤ rm.cells) (hl : slots ≤ rm.slots) {pc : Nat} {Ls : Array Slot} (hret : meth.sig.returnType = none)
    (hd : decode c.code pc = .ok (.return_, 1)) (hq : Qv none h') : Go p e below (Fend Z EL n0 s h ws Qv rm) (T.setTop (mkF m pc Ls [])) :=
  W.fin hEL hs hlk hc hl (w := none) (fun _ => rfl) hq (fun vm0 locs fs X hr => X.returnOut hx hret hd hr)
/-! calls of what has a contract -/
theorem wk_call {U : State} {L : List Loc} {rcells rslots : Nat} (X : Stand p l e R (s.setVm vm0) m args below meth c T locs cells slots) (X' : Stand p l e R ((s.setVm vm0).setVm U.vm) m args below meth c U (locs ++ L) (cells + rcells) (slots + rslots)) (hS' : (s.setVm vm0).Since U.vm U.heap.size) (hle : T.heap.size ≤ U.heap.size) (eT : T.heap = h) (N' : Fr n0 L) (K' : Keep h U.heap ws') (A : CHr Z EL vm0 h U.vm U.heap) (gws : ∀ x ∈ ws', n0 ≤ x ∧ (x ∈ ws ∨ s.heap.size ≤ x))
    (hS : s.Since vm0 k0) (hk : k0 ≤ h.size) (hZ : Z.Warmed39 vm0) (hown : vm0.findClass own = some m.cls) (hC : CHr Z EL s.vm s.heap vm0 h) (N : Fr n0 locs) (K : Keep s.heap h ws) (O : Old Z n0 h) (F : ∀ x ∈ sf, Safe Z EL vm0 h x ∧ x < h.size) : Wk p l e R s m args below meth c Z EL n0 ws own sf U (cells + rcells) (slots + rslots) U.heap :=
  wk_tab (T' := U) (h' := U.heap) (vm1 := U.vm) (locs := locs ++ L) X' rfl K' gws (hS.trans hS' (Nat.le_trans hk (eT ▸ hle))) (Nat.le_refl _) (State.Warmed39.trans (t := s.setVm vm0) hZ hS'.1) ((hS'.1.alike.findClass _ _).trans hown) A hC (N.app N') K O F
theorem Met.pay {sf' : List Addr} {len Wd : Nat} (M : Met l Z EL n0 y bytes maxL ret [] rm as' h ws' sf' Qv) (hZ : Z.Warmed39 vm0) (wc : (Cond.code y bytes maxL ret).before a0 Z = true) (wz : (Cond.initialized y.cls).before a0 Z = true) (hf : rm.frames + 1 ≤ R.frames) (hl : Wd + (maxL + 11) + rm.locals ≤ R.locals) (hEL : EW Z a0 EL) (H : CHv Z EL vm0 h) (HS : ∀ x ∈ sf', Safe Z EL vm0 h x ∧ x < h.size) :
    BackS l R p e below (s.setVm vm0) args y len Wd (fun A a => a = as' ∧ A.U.heap = h ∧ A.cells + rm.cells ≤ R.cells ∧ A.slots + rm.slots ≤ R.slots)
      (fun A _ v B => ∃ L, (Qv v B.U.heap ∧ Fr n0 L ∧ Keep h B.U.heap ws') ∧ B.locs = A.locs ++ L ∧ B.cells = A.cells + rm.cells ∧ B.slots = A.slots + rm.slots ∧ CHr Z EL vm0 h B.U.vm B.U.heap) := by
  refine BackS.of_freeW (bytes := bytes) (maxL := maxL) (ret := ret) (E := fun _ first o t L k n => k = rm.cells ∧ n = rm.slots ∧ (∃ v, o = .returned v ∧ (Qv v t.heap ∧ Fr n0 L ∧ Keep h t.heap ws')) ∧ CHr Z EL first.vm first.heap t.vm t.heap) M hf hl ?_ ?_ (fun _ _ _ _ _ _ _ _ _ => trivial) ?_ ?_
  · intro m meth c A a Y hp
    have hU : Z.Warmed39 A.U.vm := wtrans (s := s.setVm vm0) hZ Y.warmed
    exact ⟨by show (Cond.and _ .tt).before a A.U = true; rw [Cond.before_and, mv hU wc]; rfl, mv hU wc, mv hU wz, hp.2.2.1, hp.2.2.2⟩
  · intro m meth c A a g mk Y hp
    have C0 := CHv.at Y hZ hEL H
    exact ⟨hp.1, wtrans (s := s.setVm vm0) hZ Y.warmed, hp.2.1, C0.1, fun x hx => ⟨C0.safe (HS x hx).2 (HS x hx).1, (HS x hx).2⟩⟩
  · rintro _ _ _ _ ⟨v, L, h1, h2, h3, h4⟩
    exact ⟨L, _, _, h4, rfl, rfl, ⟨v, h1, h2⟩, h3⟩
  · rintro m meth c A a g mk v t L k n Y hp _ _ ⟨e1, e2, ⟨v', e3, e4⟩, e5⟩
    cases e3; subst e1 e2
    refine ⟨L, e4, rfl, rfl, rfl, (CHv.at Y hZ hEL H).trans ?_⟩
    rw [← hp.2.1]; exact e5
theorem Wk.callS (W : Wk p l e R s m args below meth c Z EL n0 ws own sf T cells slots h) (hx : p.tables.exec = Jvm.exec) (hEL : EW Z a0 EL) {index : Nat} (w1 : (Cond.methodLink own index y).before a0 Z = true) (w2 : (Cond.static y).before a0 Z = true) (w3 : (Cond.initialized y.cls).before a0 Z = true) (w4 : (Cond.code y bytes maxL ret).before a0 Z = true)
    (hy : y.cls ≠ "java/lang/invoke/MethodHandle" ∧ y.cls ≠ "java/lang/invoke/VarHandle") {argsL rest : List Value} {sf' : List Addr} (M : Met l Z EL n0 y bytes maxL ret [] rm argsL.toArray h ws' sf' Qv) (hsf : ∀ x ∈ sf', x ∈ sf) (hf : rm.frames + 1 ≤ R.frames) {Wd : Nat} (hl : Wd + (maxL + 11) + rm.locals ≤ R.locals) (hc : cells + rm.cells ≤ R.cells) (hsl : slots + rm.slots ≤ R.slots)
    (gws : ∀ x ∈ ws', n0 ≤ x ∧ (x ∈ ws ∨ s.heap.size ≤ x)) {g : JFrame} (hg : g.method = m) (hsize : g.locals.size = c.maxLocals) (hlen : ∀ sig, parseMethodDescriptor y.desc = some sig → argsL.length = sig.parameters.length) (hstack : g.stack = argsL.reverse ++ rest) (hW : 2 * g.monitorRoom + (rest.map fun v => v.category).sum ≤ Wd)
    (hd : decode c.code g.pc = .ok (.invokestatic index, 3)) (k : ∀ T' h' v, Wk p l e R s m args below meth c Z EL n0 ws own sf T' (cells + rm.cells) (slots + rm.slots) h' → Keep h h' ws' → Qv v h' → Go p e below Q (T'.setTop { g with pc := g.pc + 3, stack := v.toList ++ rest })) : Go p e below Q (T.setTop g) := by
  obtain ⟨vm0, locs, k0, X, eT, hS, hk, hZ, hown, hC, N, K, Ol, Fs⟩ := W
  obtain ⟨v, vm₁, ⟨U, Lb, kb, nb⟩, hw, X', hS', hle, ⟨L, ⟨q, N', K'⟩, e1, e2, e3, A⟩, st⟩ := callSS X hx hown (mvT (s := s.setVm vm0) hZ w1) (mvT (s := s.setVm vm0) hZ w2) (mvT (s := s.setVm vm0) hZ w3) (mvT (s := s.setVm vm0) hZ w4) hy (Met.pay (s := s) (Wd := Wd) M hZ w4 w3 hf hl hEL hC.1 (fun x hx => Fs x (hsf x hx))) hg hsize hlen hstack hW hd (fun _ _ => ⟨rfl, eT, hc, hsl⟩)
  dsimp only [Pt.U, Pt.locs, Pt.cells, Pt.slots] at X' hS' hle q K' e1 e2 e3 A st
  subst e1 e2 e3
  exact Go.on st (k U U.heap v (wk_call X X' hS' hle eT N' K' A gws hS hk hZ hown hC N K Ol Fs) K' q)
theorem Wk.callP (W : Wk p l e R s m args below meth c Z EL n0 ws own sf T cells slots h) (hx : p.tables.exec = Jvm.exec) (hEL : EW Z a0 EL) {index : Nat} (hy1 : y.name = "<init>") (w1 : (Cond.methodLink own index y).before a0 Z = true) (w2 : (Cond.instanceMethod y).before a0 Z = true) (w3 : (Cond.initialized y.cls).before a0 Z = true) (w4 : (Cond.code y bytes maxL none).before a0 Z = true)
    (hy : y.cls ≠ "java/lang/invoke/MethodHandle" ∧ y.cls ≠ "java/lang/invoke/VarHandle") {argsL rest : List Value} {sf' : List Addr} (M : Met l Z EL n0 y bytes maxL none [] rm (.ref a :: argsL).toArray h ws' sf' Qv) (hsf : ∀ x ∈ sf', x ∈ sf) (hf : rm.frames + 1 ≤ R.frames) {Wd : Nat} (hl : Wd + (maxL + 11) + rm.locals ≤ R.locals) (hc : cells + rm.cells ≤ R.cells) (hsl : slots + rm.slots ≤ R.slots)
    (gws : ∀ x ∈ ws', n0 ≤ x ∧ (x ∈ ws ∨ s.heap.size ≤ x)) {g : JFrame} (hg : g.method = m) (hsize : g.locals.size = c.maxLocals) (hlen : ∀ sig, parseMethodDescriptor y.desc = some sig → argsL.length = sig.parameters.length) (hstack : g.stack = argsL.reverse ++ .ref a :: rest) (hW : 2 * g.monitorRoom + (rest.map fun v => v.category).sum ≤ Wd)
    (hd : decode c.code g.pc = .ok (.invokespecial index, 3)) (k : ∀ T' h' v, Wk p l e R s m args below meth c Z EL n0 ws own sf T' (cells + rm.cells) (slots + rm.slots) h' → Keep h h' ws' → Qv v h' → Go p e below Q (T'.setTop { g with pc := g.pc + 3, stack := v.toList ++ rest })) : Go p e below Q (T.setTop g) := by
  obtain ⟨vm0, locs, k0, X, eT, hS, hk, hZ, hown, hC, N, K, Ol, Fs⟩ := W
  obtain ⟨v, vm₁, ⟨U, Lb, kb, nb⟩, hw, X', hS', hle, ⟨L, ⟨q, N', K'⟩, e1, e2, e3, A⟩, st⟩ := X.specialBackS hx hy1 hown (mvT (s := s.setVm vm0) hZ w1) (mvT (s := s.setVm vm0) hZ w2) (mvT (s := s.setVm vm0) hZ w4) hy (Met.pay (s := s) (Wd := Wd) M hZ w4 w3 hf hl hEL hC.1 (fun x hx => Fs x (hsf x hx))) hg hsize (Steps.refl _) hlen hstack hW hd (fun _ _ => ⟨rfl, eT, hc, hsl⟩)
  dsimp only [Pt.U, Pt.locs, Pt.cells, Pt.slots] at X' hS' hle q K' e1 e2 e3 A st
  subst e1 e2 e3
  exact Go.on st (k U U.heap v (wk_call X X' hS' hle eT N' K' A gws hS hk hZ hown hC N K Ol Fs) K' q)
theorem Wk.callV (W : Wk p l e R s m args below meth c Z EL n0 ws own sf T cells slots h) (hx : p.tables.exec = Jvm.exec) (hEL : EW Z a0 EL) {index : Nat} {C : String} (w1 : (Cond.methodLink own index y).before a0 Z = true) (w2 : (Cond.declares y).before a0 Z = true) (w5 : (Cond.selects C y y).before a0 Z = true) (w6 : (Cond.instanceMethod y).before a0 Z = true) (w3 : (Cond.initialized y.cls).before a0 Z = true) (w4 : (Cond.code y bytes maxL ret).before a0 Z = true)
    (hy : y.cls ≠ "java/lang/invoke/MethodHandle" ∧ y.cls ≠ "java/lang/invoke/VarHandle") (Ea : Exa Z h a C) {argsL rest : List Value} {sf' : List Addr} (M : Met l Z EL n0 y bytes maxL ret [] rm (.ref a :: argsL).toArray h ws' sf' Qv) (hsf : ∀ x ∈ sf', x ∈ sf) (hf : rm.frames + 1 ≤ R.frames) {Wd : Nat} (hl : Wd + (maxL + 11) + rm.locals ≤ R.locals) (hc : cells + rm.cells ≤ R.cells) (hsl : slots + rm.slots ≤ R.slots)
    (gws : ∀ x ∈ ws', n0 ≤ x ∧ (x ∈ ws ∨ s.heap.size ≤ x)) {g : JFrame} (hg : g.method = m) (hsize : g.locals.size = c.maxLocals) (hlen : ∀ sig, parseMethodDescriptor y.desc = some sig → argsL.length = sig.parameters.length) (hstack : g.stack = argsL.reverse ++ .ref a :: rest) (hW : 2 * g.monitorRoom + (rest.map fun v => v.category).sum ≤ Wd)
    (hd : decode c.code g.pc = .ok (.invokevirtual index, 3)) (k : ∀ T' h' v, Wk p l e R s m args below meth c Z EL n0 ws own sf T' (cells + rm.cells) (slots + rm.slots) h' → Keep h h' ws' → Qv v h' → Go p e below Q (T'.setTop { g with pc := g.pc + 3, stack := v.toList ++ rest })) : Go p e below Q (T.setTop g) := by
  obtain ⟨vm0, locs, k0, X, eT, hS, hk, hZ, hown, hC, N, K, Ol, Fs⟩ := W
  obtain ⟨cB, kB, qa, qb, qc⟩ := isOf (s := s.setVm vm0) hZ eT Ea
  obtain ⟨v, vm₁, ⟨U, Lb, kb, nb⟩, hw, X', hS', hle, ⟨L, ⟨q, N', K'⟩, e1, e2, e3, A⟩, st⟩ := X.virtualBackS hx (z := y) hown (mvT (s := s.setVm vm0) hZ w1) (mvT (s := s.setVm vm0) hZ w2) (notFace_of_selects (args := #[]) (mvT (s := s.setVm vm0) hZ w5)) (mvT (s := s.setVm vm0) hZ w5) (mvT (s := s.setVm vm0) hZ w6) hy (Met.pay (s := s) (Wd := Wd) M hZ w4 w3 hf hl hEL hC.1 (fun x hx => Fs x (hsf x hx))) qa qc hg hsize (Steps.refl _) hlen hstack hW hd (fun _ _ => ⟨rfl, eT, hc, hsl⟩)
  dsimp only [Pt.U, Pt.locs, Pt.cells, Pt.slots] at X' hS' hle q K' e1 e2 e3 A st
  subst e1 e2 e3
  exact Go.on st (k U U.heap v (wk_call X X' hS' hle eT N' K' A gws hS hk hZ hown hC N K Ol Fs) K' q)
/-! calls that a law of the JDK pays -/
theorem wk_keep (X : Stand p l e R (s.setVm vm0) m args below meth c T' locs cells slots) (e' : T'.heap = h') (E : Keep h h' ws') (gws : ∀ x ∈ ws', n0 ≤ x ∧ (x ∈ ws ∨ s.heap.size ≤ x)) (sws : ∀ x ∈ ws', x ∈ sf) (hS : s.Since vm0 k0) (hk : k0 ≤ h.size) (hZ : Z.Warmed39 vm0) (hown : vm0.findClass own = some m.cls) (hC : CHr Z EL s.vm s.heap vm0 h) (N : Fr n0 locs) (K : Keep s.heap h ws) (O : Old Z n0 h)
    (F : ∀ x ∈ sf, Safe Z EL vm0 h x ∧ x < h.size) : Wk p l e R s m args below meth c Z EL n0 ws own sf T' cells slots h' :=
  wk_tab X e' E gws hS (Nat.le_trans hk E.1) hZ hown (CHr.keep E (fun y hy => (F y (sws y hy)).1) hC.1) hC N K O F
variable {Q1 : Option Value → Heap → List Loc → Prop} {kk nn : Nat}
theorem Wk.specB (W : Wk p l e R s m args below meth c Z EL n0 ws own sf T cells slots h) (hx : p.tables.exec = Jvm.exec) {index : Nat} (hy1 : y.name = "<init>") (w1 : (Cond.methodLink own index y).before a0 Z = true) (w2 : (Cond.instanceMethod y).before a0 Z = true) (w4 : (Cond.code y bytes maxL none).before a0 Z = true)
    (hy : y.cls ≠ "java/lang/invoke/MethodHandle" ∧ y.cls ≠ "java/lang/invoke/VarHandle") {argsL rest : List Value} {Wd : Nat} (hK : ∀ s' : State, Z.Warmed39 s'.vm → Back l R p e below s' args y 3 Wd (fun A as => as = (.ref a :: argsL).toArray ∧ A.U.heap = h ∧ A.cells + kk ≤ R.cells ∧ A.slots + nn ≤ R.slots) (fun A _ v B => ∃ L, Q1 v B.U.heap L ∧ B.locs = A.locs ++ L ∧ B.cells = A.cells + kk ∧ B.slots = A.slots + nn))
    (hq : ∀ v h' L, Q1 v h' L → Fr n0 L ∧ Keep h h' ws' ∧ Qv v h') (hc : cells + kk ≤ R.cells) (hsl : slots + nn ≤ R.slots)
    (gws : ∀ x ∈ ws', n0 ≤ x ∧ (x ∈ ws ∨ s.heap.size ≤ x)) (sws : ∀ x ∈ ws', x ∈ sf) {g : JFrame} (hg : g.method = m) (hsize : g.locals.size = c.maxLocals) (hlen : ∀ sig, parseMethodDescriptor y.desc = some sig → argsL.length = sig.parameters.length) (hstack : g.stack = argsL.reverse ++ .ref a :: rest) (hW : 2 * g.monitorRoom + (rest.map fun v => v.category).sum ≤ Wd)
    (hd : decode c.code g.pc = .ok (.invokespecial index, 3)) (k : ∀ T' h' v, Wk p l e R s m args below meth c Z EL n0 ws own sf T' (cells + kk) (slots + nn) h' → Keep h h' ws' → Qv v h' → Go p e below Q (T'.setTop { g with pc := g.pc + 3, stack := v.toList ++ rest })) : Go p e below Q (T.setTop g) := by
  obtain ⟨vm0, locs, k0, X, eT, hS, hk, hZ, hown, hC, N, K, Ol, Fs⟩ := W
  obtain ⟨v, vm₁, ⟨U, Lb, kb, nb⟩, hw, X', ⟨L, q, e1, e2, e3⟩, st⟩ := X.specialBack hx hy1 hown (mvT (s := s.setVm vm0) hZ w1) (mvT (s := s.setVm vm0) hZ w2) (mvT (s := s.setVm vm0) hZ w4) hy (hK (s.setVm vm0) hZ) hg hsize (Steps.refl _) hlen hstack hW hd (fun _ _ => ⟨rfl, eT, hc, hsl⟩)
  dsimp only [Pt.U, Pt.locs, Pt.cells, Pt.slots] at X' q e1 e2 e3 st
  subst e1 e2 e3
  obtain ⟨N', K', q'⟩ := hq _ _ _ q
  exact Go.on st (k U U.heap v (wk_keep X' rfl K' gws sws hS hk hZ hown hC (N.app N') K Ol Fs) K' q')
theorem Wk.virtB (W : Wk p l e R s m args below meth c Z EL n0 ws own sf T cells slots h) (hx : p.tables.exec = Jvm.exec) {index : Nat} {C : String} (w1 : (Cond.methodLink own index y).before a0 Z = true) (w2 : (Cond.declares y).before a0 Z = true) (w5 : (Cond.selects C y y).before a0 Z = true) (w6 : (Cond.instanceMethod y).before a0 Z = true)
    (hy : y.cls ≠ "java/lang/invoke/MethodHandle" ∧ y.cls ≠ "java/lang/invoke/VarHandle") (Ea : Exa Z h a C) {argsL rest : List Value} {Wd : Nat} (hK : ∀ s' : State, Z.Warmed39 s'.vm → Back l R p e below s' args y 3 Wd (fun A as => as = (.ref a :: argsL).toArray ∧ A.U.heap = h ∧ A.cells + kk ≤ R.cells ∧ A.slots + nn ≤ R.slots) (fun A _ v B => ∃ L, Q1 v B.U.heap L ∧ B.locs = A.locs ++ L ∧ B.cells = A.cells + kk ∧ B.slots = A.slots + nn))
    (hq : ∀ v h' L, Q1 v h' L → Fr n0 L ∧ Keep h h' ws' ∧ Qv v h') (hc : cells + kk ≤ R.cells) (hsl : slots + nn ≤ R.slots)
    (gws : ∀ x ∈ ws', n0 ≤ x ∧ (x ∈ ws ∨ s.heap.size ≤ x)) (sws : ∀ x ∈ ws', x ∈ sf) {g : JFrame} (hg : g.method = m) (hsize : g.locals.size = c.maxLocals) (hlen : ∀ sig, parseMethodDescriptor y.desc = some sig → argsL.length = sig.parameters.length) (hstack : g.stack = argsL.reverse ++ .ref a :: rest) (hW : 2 * g.monitorRoom + (rest.map fun v => v.category).sum ≤ Wd)
    (hd : decode c.code g.pc = .ok (.invokevirtual index, 3)) (k : ∀ T' h' v, Wk p l e R s m args below meth c Z EL n0 ws own sf T' (cells + kk) (slots + nn) h' → Keep h h' ws' → Qv v h' → Go p e below Q (T'.setTop { g with pc := g.pc + 3, stack := v.toList ++ rest })) : Go p e below Q (T.setTop g) := by
  obtain ⟨vm0, locs, k0, X, eT, hS, hk, hZ, hown, hC, N, K, Ol, Fs⟩ := W
  obtain ⟨cB, kB, qa, qb, qc⟩ := isOf (s := s.setVm vm0) hZ eT Ea
  obtain ⟨v, vm₁, ⟨U, Lb, kb, nb⟩, hw, X', ⟨L, q, e1, e2, e3⟩, st⟩ := X.virtualBack hx (z := y) hown (mvT (s := s.setVm vm0) hZ w1) (mvT (s := s.setVm vm0) hZ w2) (notFace_of_selects (args := #[]) (mvT (s := s.setVm vm0) hZ w5)) (mvT (s := s.setVm vm0) hZ w5) (mvT (s := s.setVm vm0) hZ w6) hy (hK (s.setVm vm0) hZ) qa qc hg hsize (Steps.refl _) hlen hstack hW hd (fun _ _ => ⟨rfl, eT, hc, hsl⟩)
  dsimp only [Pt.U, Pt.locs, Pt.cells, Pt.slots] at X' q e1 e2 e3 st
  subst e1 e2 e3
  obtain ⟨N', K', q'⟩ := hq _ _ _ q
  exact Go.on st (k U U.heap v (wk_keep X' rfl K' gws sws hS hk hZ hown hC (N.app N') K Ol Fs) K' q')
theorem Wk.cp (W : Wk p l e R s m args below meth c Z EL n0 ws own sf T cells slots h) (hx : p.tables.exec = Jvm.exec) {index : Nat} (w1 : (Cond.methodLink own index Jvm.Stand.acN).before a0 Z = true) (w2 : (Cond.native Jvm.Stand.acN).before a0 Z = true) (w3 : (Cond.static Jvm.Stand.acN).before a0 Z = true) (w4 : (Cond.initialized "java/lang/System").before a0 Z = true)
    {k1 k2 : ClassId} {ty : FieldType} {z z' sp dp nn : Int32} {vs vd us : List Value} {dv dd : Value} (A : Arv Z h a k1 ty z vs dv) (B : Arv Z h b k2 ty z' vd dd) (hty : refKind ty = false) (h1 : ¬ sp < 0) (h2 : ¬ dp < 0) (h3 : ¬ nn < 0) (h4 : sp.toNatClampNeg + nn.toNatClampNeg ≤ z.toNatClampNeg) (h5 : dp.toNatClampNeg + nn.toNatClampNeg ≤ z'.toNatClampNeg)
    (hus : us = (List.range nn.toNatClampNeg).map fun i => vs.getD (sp.toNatClampNeg + i) dv) (hl : dp.toNatClampNeg + nn.toNatClampNeg ≤ vd.length) (ga : n0 ≤ b) (gw : b ∈ ws ∨ s.heap.size ≤ b) (sb : b ∈ sf)
    {g : JFrame} (hg : g.method = m) (hsize : g.locals.size = c.maxLocals) {rest : List Value} (hs : g.stack = .int nn :: .int dp :: .ref b :: .int sp :: .ref a :: rest) (hd : decode c.code g.pc = .ok (.invokestatic index, 3))
    (hf : 1 ≤ R.frames) {Wd : Nat} (hW : 2 * g.monitorRoom + (rest.map fun v => v.category).sum ≤ Wd) (hlo : Wd + (nativeFrameWords "java/lang/System" "arraycopy" 5 + 11) ≤ R.locals)
    (k : ∀ T' h', Wk p l e R s m args below meth c Z EL n0 ws own sf T' cells slots h' → Keep h h' [b] → Arv Z h' b k2 ty z' (vd.take dp.toNatClampNeg ++ us ++ vd.drop (dp.toNatClampNeg + nn.toNatClampNeg)) dd → Go p e below Q (T'.setTop { g with pc := g.pc + 3, stack := rest })) : Go p e below Q (T.setTop g) := by
  obtain ⟨vm0, locs, k0, X, eT, hS, hk, hZ, hown, hC, N, K, Ol, Fs⟩ := W
  obtain ⟨T', h', L, X', e', N', K', A', st⟩ := RoadKit.cpA X hx hZ hown w1 w2 w3 w4 eT A B (Or.inl ⟨rfl, hty⟩) h1 h2 h3 h4 h5 hus hl N ga hg hsize hs hd hf hW hlo
  exact Go.of st (k T' h' (wk_keep X' e' K' (allS ⟨ga, gw⟩ all0) (allS sb all0) hS hk hZ hown hC N' K Ol Fs) K' A')
theorem Wk.aaload (W : Wk p l e R s m args below meth c Z EL n0 ws own sf T cells slots h) (hx : p.tables.exec = Jvm.exec) {kc : ClassId} {ty : FieldType} {z j : Int32} {vs : List Value} {dv : Value} (V : Arv Z h a kc ty z vs dv) (hty : ty.isReference = true) (hj : ¬ j < 0 ∧ j < z) (hv : vs.getD j.toNatClampNeg dv = v)
    {g : JFrame} (hg : g.method = m) {rest : List Value} (hs : g.stack = .int j :: .ref a :: rest) (hd : decode c.code g.pc = .ok (.aaload, 1)) (k : Go p e below Q (T.setTop { g with pc := g.pc + 1, stack := v :: rest })) : Go p e below Q (T.setTop g) := by
  obtain ⟨vm0, locs, k0, X, eT, hS, hk, hZ, hown, r⟩ := W
  obtain ⟨cl, A, q1, S1, q3, H, G⟩ := V
  exact Go.of (fun t q => X.aaload hx (by rw [eT]; exact A.1) (State.isArrayOf_alike hZ.alike A.2.1) hty A.2.2 (inb_of S1 hj) (H.at (inb_of S1 hj) hv) hg hs hd t q) k
theorem Wk.cloneV (W : Wk p l e R s m args below meth c Z EL n0 ws own sf T cells slots h) (hx : p.tables.exec = Jvm.exec) {ad : String} {index : Nat} (w1 : (Cond.methodLink own index ⟨ad, "clone", "()Ljava/lang/Object;"⟩).before a0 Z = true) (w2 : (Cond.sameMethod ad "java/lang/Object" "clone" "()Ljava/lang/Object;").before a0 Z = true) (w3 : (Cond.native ⟨"java/lang/Object", "clone", "()Ljava/lang/Object;"⟩).before a0 Z = true)
    (w4 : (Cond.instanceMethod ⟨"java/lang/Object", "clone", "()Ljava/lang/Object;"⟩).before a0 Z = true) (w5 : (Cond.selects ad ⟨ad, "clone", "()Ljava/lang/Object;"⟩ ⟨"java/lang/Object", "clone", "()Ljava/lang/Object;"⟩).before a0 Z = true) (w6 : (Cond.castable ad "java/lang/Cloneable").before a0 Z = true)
    {kc : ClassId} {ty : FieldType} {z : Int32} {vs : List Value} {dv : Value} (V : Arv Z h a kc ty z vs dv) (E : Exa Z h a ad) (F : ∀ cl : Cell, Arr Z h a cl ty → FitC Z cl) {g : JFrame} (hg : g.method = m) (hsize : g.locals.size = c.maxLocals) {rest : List Value} (hs : g.stack = .ref a :: rest) (hd : decode c.code g.pc = .ok (.invokevirtual index, 3))
    (hf : 1 ≤ R.frames) {Wd cap : Nat} (hW : 2 * g.monitorRoom + (rest.map fun v => v.category).sum ≤ Wd) (hl : Wd + 14 ≤ R.locals) (hcap : z.toNatClampNeg ≤ cap) (hc : cells + 1 ≤ R.cells) (hsl : slots + cap ≤ R.slots)
    (k : ∀ T' h' b, b = h.size → n0 ≤ b ∧ s.heap.size ≤ b → Wk p l e R s m args below meth c Z EL n0 ws own (b :: sf) T' (cells + 1) (slots + cap) h' → Keep h h' [] → Arv Z h' b kc ty z vs dv → Exa Z h' b ad → Go p e below Q (T'.setTop { g with pc := g.pc + 3, stack := .ref b :: rest })) : Go p e below Q (T.setTop g) := by
  have hle := W.n0le
  have hle' := W.s0le
  obtain ⟨vm0, locs, k0, X, eT, hS, hk, hZ, hown, hC, N, K, O, Fs⟩ := W
  obtain ⟨cl, A, q1, S1, q3, H, G⟩ := V
  obtain ⟨T', h', X', e', Ex, A', E', st⟩ := RoadKit.cloneA X hx hZ hown w1 w2 w3 w4 w5 w6 eT A E (F cl A) hg hsize hs hd hf hW hl (by rw [S1]; exact hcap) hc hsl
  exact Go.of st (k T' h' h.size rfl ⟨hle, hle'⟩ (wk_new X' e' Ex A'.lt hS hk hZ hown hC N K O Fs) ((Keep.refl h []).ext Ex) ⟨cloneOf cl, A', q1, S1, q3, H, G⟩ E')
theorem ne_of_born {h h1 : Heap} (hb : h.size ≤ b) (hlt : a < h1.size) (hle : h1.size ≤ h.size) : a ≠ b := Nat.ne_of_lt (Nat.lt_of_lt_of_le hlt (Nat.le_trans hle hb))
theorem nin1 (q : a ≠ b) : a ∉ [b] := ninS q nin0
theorem all1 {P : Addr → Prop} (q : P a) : ∀ x ∈ [a], P x := allS q all0
theorem all0i {P : Int32 → Prop} : ∀ x ∈ ([] : List Int32), P x := fun _ q => nomatch q
theorem allSi {P : Int32 → Prop} {y : Int32} {L : List Int32} (q : P y) (r : ∀ x ∈ L, P x) : ∀ x ∈ y :: L, P x := fun x z => (List.mem_cons.mp z).elim (fun u => u ▸ q) (r x)
theorem fin256 {P : Int32 → Prop} (t : ∀ k : Fin 256, P (Int32.ofNat k.val)) {q : Int32} (hq : ¬ q < 0 ∧ ¬ (255 : Int32) < q) : P q := by
  have h0 : ¬ q.toInt < 0 := fun z => hq.1 (by rw [Int32.lt_iff_toInt_lt]; exact z)
  have h1 : ¬ 255 < q.toInt := fun z => hq.2 (by rw [Int32.lt_iff_toInt_lt]; exact z)
  have e : q = Int32.ofNat q.toInt.toNat := by
    apply Int32.toInt_inj.mp
    rw [Int32.toInt_ofNat_of_lt (by omega)]
    omega
  rw [e]
  exact t ⟨q.toInt.toNat, by omega⟩
theorem and255 (x : Int32) : ¬ (x &&& (255 : Int32)) < 0 ∧ ¬ (255 : Int32) < (x &&& (255 : Int32)) := by
  have t : ∀ k : Fin 256, ¬ (Int32.ofNat k.val) < 0 ∧ ¬ (255 : Int32) < (Int32.ofNat k.val) := by decide +kernel
  have h : (x &&& 255).toBitVec.toNat < 256 := by
    simp only [Int32.toBitVec_and, BitVec.toNat_and]
    exact Nat.lt_succ_of_le Nat.and_le_right
  have e : (x &&& 255) = Int32.ofNat (x &&& 255).toBitVec.toNat := by
    apply Int32.toBitVec_inj.mp
    show _ = BitVec.ofNat 32 _
    rw [BitVec.ofNat_toNat]; simp
  rw [e]
  exact t ⟨_, h⟩
theorem char_id {q : Int32} (hq : ¬ q < 0 ∧ ¬ (255 : Int32) < q) : q.toUInt32.toUInt16.toUInt32.toInt32 = q := fin256 (P := fun q => q.toUInt32.toUInt16.toUInt32.toInt32 = q) (by decide +kernel) hq
theorem char255 (x : Int32) : ∃ q : Int32, (x &&& (255 : Int32)).toUInt32.toUInt16.toUInt32.toInt32 = q ∧ (¬ q < 0 ∧ ¬ (255 : Int32) < q) ∧ q = x &&& (255 : Int32) := ⟨x &&& 255, char_id (and255 x), and255 x, rfl⟩
theorem nar_char {q : Int32} (hq : ¬ q < 0 ∧ ¬ (255 : Int32) < q) : nar .char q = q := fin256 (P := fun q => nar .char q = q) (by decide +kernel) hq
theorem and1 (x : Int32) : (x &&& (1 : Int32)) = (0 : Int32) ∨ (x &&& (1 : Int32)) = (1 : Int32) := by
  have t : ∀ k : Fin 2, (Int32.ofNat k.val) = (0 : Int32) ∨ (Int32.ofNat k.val) = (1 : Int32) := by decide +kernel
  have h : (x &&& 1).toBitVec.toNat < 2 := by
    simp only [Int32.toBitVec_and, BitVec.toNat_and]
    exact Nat.lt_succ_of_le Nat.and_le_right
  have e : (x &&& 1) = Int32.ofNat (x &&& 1).toBitVec.toNat := by
    apply Int32.toBitVec_inj.mp
    show _ = BitVec.ofNat 32 _
    rw [BitVec.ofNat_toNat]; simp
  rw [e]
  exact t ⟨_, h⟩
theorem and3 (x : Int32) : (x &&& (3 : Int32)) = (0 : Int32) ∨ (x &&& (3 : Int32)) = (1 : Int32) ∨ (x &&& (3 : Int32)) = (2 : Int32) ∨ (x &&& (3 : Int32)) = (3 : Int32) := by
  have t : ∀ k : Fin 4, (Int32.ofNat k.val) = (0 : Int32) ∨ (Int32.ofNat k.val) = (1 : Int32) ∨ (Int32.ofNat k.val) = (2 : Int32) ∨ (Int32.ofNat k.val) = (3 : Int32) := by decide +kernel
  have h : (x &&& 3).toBitVec.toNat < 4 := by
    simp only [Int32.toBitVec_and, BitVec.toNat_and]
    exact Nat.lt_succ_of_le Nat.and_le_right
  have e : (x &&& 3) = Int32.ofNat (x &&& 3).toBitVec.toNat := by
    apply Int32.toBitVec_inj.mp
    show _ = BitVec.ofNat 32 _
    rw [BitVec.ofNat_toNat]; simp
  rw [e]
  exact t ⟨_, h⟩
theorem and7 (x : Int32) : (x &&& (7 : Int32)) = (0 : Int32) ∨ (x &&& (7 : Int32)) = (1 : Int32) ∨ (x &&& (7 : Int32)) = (2 : Int32) ∨ (x &&& (7 : Int32)) = (3 : Int32) ∨ (x &&& (7 : Int32)) = (4 : Int32) ∨ (x &&& (7 : Int32)) = (5 : Int32) ∨ (x &&& (7 : Int32)) = (6 : Int32) ∨ (x &&& (7 : Int32)) = (7 : Int32) := by
  have t : ∀ k : Fin 8, (Int32.ofNat k.val) = (0 : Int32) ∨ (Int32.ofNat k.val) = (1 : Int32) ∨ (Int32.ofNat k.val) = (2 : Int32) ∨ (Int32.ofNat k.val) = (3 : Int32) ∨ (Int32.ofNat k.val) = (4 : Int32) ∨ (Int32.ofNat k.val) = (5 : Int32) ∨ (Int32.ofNat k.val) = (6 : Int32) ∨ (Int32.ofNat k.val) = (7 : Int32) := by decide +kernel
  have h : (x &&& 7).toBitVec.toNat < 8 := by
    simp only [Int32.toBitVec_and, BitVec.toNat_and]
    exact Nat.lt_succ_of_le Nat.and_le_right
  have e : (x &&& 7) = Int32.ofNat (x &&& 7).toBitVec.toNat := by
    apply Int32.toBitVec_inj.mp
    show _ = BitVec.ofNat 32 _
    rw [BitVec.ofNat_toNat]; simp
  rw [e]
  exact t ⟨_, h⟩
theorem and3_cap (x : Int32) : ¬ (x &&& (3 : Int32)) < 0 ∧ (x &&& (3 : Int32)).toNatClampNeg ≤ 3 := by
  rcases and3 x with e | e | e | e <;> rw [e] <;> decide
theorem nar_byte (x : Int32) : nar .byte (x.toInt8.toInt32) = x.toInt8.toInt32 := by
  show x.toInt8.toInt32.toInt8.toInt32 = x.toInt8.toInt32
  simp
theorem ne_tys {c1 c2 : Cell} {t1 t2 : FieldType} (F : Arr Z h a c1 t1) (G : Arr Z h b c2 t2) (hn : t1 ≠ t2) : a ≠ b := fun q => by
  subst q
  cases F.1.symm.trans G.1
  obtain ⟨-, k1, e1, p1, r1⟩ := F.2.1
  obtain ⟨-, k2, e2, p2, r2⟩ := G.2.1
  cases e1.symm.trans e2
  cases r1.symm.trans r2
  exact hn rfl
end OwnKit
end Jvm.Pilot.@@N@@
namespace Jvm.Pilot.@@N@@
open Jvm Jvm.ClassFile Sem Op Lib Jvm.Free Jvm.Stand Jvm.LawKit Jvm.RoadKit Bundle Jvm.Pilot.@@N@@.Jvm.D
section OwnStr
variable {p : Program} {l : Launch} {e : Env} {R : Room} {s : State} {m : MethodId} {args : Array Value} {below : List Frame} {meth : Method} {c : Code} {T T' : State} {locs : List Loc} {cells slots : Nat} {Z : State} {a0 : Array Value} {h h' : Heap} {EL : List (String × Nat)} {n0 k0 : Nat} {ws ws' sf : List Addr} {own : String} {Q : Outcome → State → Prop} {a b x : Addr} {v : Value} {sl : Nat}
variable {y : MethodName} {bytes : ByteArray} {maxL : Nat} {zc : Int32} {cs ds : List Int32} {kC : ClassId} {N : Int32} {d : Value} {n : Nat} {v0 c0 : Value} {index : Nat} {Wd : Nat} {g : JFrame} {rest : List Value}
/-- a String at x that spells cs -/
def Str (Z : State) (h : Heap) (x : Addr) (cs : List Int32) : Prop := ∃ (t : Addr) (kb : ClassId) (cd N2 : Int32) (vs : List Value), Exa Z h x "java/lang/String" ∧ Fld Z h x "java/lang/String" "value" "[B" (.ref t) ∧ Fld Z h x "java/lang/String" "coder" "B" (.int cd) ∧ Arv Z h t kb .byte N2 vs (.int 0) ∧ StrChars.Road.CodA cs cd N2 vs ∧ (∀ c ∈ cs, ¬ c < 0 ∧ ¬ (65535 : Int32) < c) ∧ cs.length ≤ 4000
theorem Str.exa (S : Str Z h x cs) : Exa Z h x "java/lang/String" := by
  obtain ⟨_, _, _, _, _, E, _⟩ := S
  exact E
theorem Str.keep0 (S : Str Z h x cs) (K : Keep h h' []) : Str Z h' x cs := by
  obtain ⟨t, kb, cd, N2, vs, E, V, C, A, r⟩ := S
  exact ⟨t, kb, cd, N2, vs, E.keep K, V.keep K nin0, C.keep K nin0, A.keep K nin0, r⟩
/-- carried over a step that may have written the one object b, no String of hers and no array -/
theorem Str.keepE {C : String} {kI : Nat} (S : Str Z h x cs) (K : Keep h h' [b]) (Eb : Exa Z h b C) (wi : (Cond.instantiable C kI).before a0 Z = true) (hne : x ≠ b) : Str Z h' x cs := by
  obtain ⟨t, kb, cd, N2, vs, E, V, D, A, r⟩ := S
  have ht : t ≠ b := by
    obtain ⟨cl, A1, -⟩ := A
    exact (ne_arr Eb wi A1).symm
  exact ⟨t, kb, cd, N2, vs, E.keep K, V.keep K (nin1 hne), D.keep K (nin1 hne), A.keep K (nin1 ht), r⟩
theorem Str.keepC {C : String} {kI : Nat} (S : Str Z h x cs) (K : Keep h h' [b]) (Eb : Exa Z h b C) (wi : (Cond.instantiable C kI).before a0 Z = true) (hC : "java/lang/String" ≠ C) : Str Z h' x cs := S.keepE K Eb wi (ne_exa S.exa Eb hC)
/-- carried over a step that may have written one array of another kind than byte -/
theorem Str.keepA {kc : ClassId} {ty : FieldType} {z : Int32} {vs : List Value} {dv : Value} (S : Str Z h x cs) (K : Keep h h' [b]) (V : Arv Z h b kc ty z vs dv) (wi : (Cond.instantiable "java/lang/String" 4).before a0 Z = true) (ht : ∀ t : Addr, t < h.size → ∀ (kb : ClassId) (N2 : Int32) (us : List Value), Arv Z h t kb .byte N2 us (.int 0) → t ≠ b) : Str Z h' x cs := by
  obtain ⟨t, kb, cd, N2, us, E, V1, D, A, r⟩ := S
  have hx : x ≠ b := by
    obtain ⟨cl, A1, -⟩ := V
    exact ne_arr E wi A1
  have ht := ht t A.lt kb N2 us A
  exact ⟨t, kb, cd, N2, us, E.keep K, V1.keep K (nin1 hx), D.keep K (nin1 hx), A.keep K (nin1 ht), r⟩
theorem Str.keepT {kc : ClassId} {ty : FieldType} {z : Int32} {vs : List Value} {dv : Value} (S : Str Z h x cs) (K : Keep h h' [b]) (V : Arv Z h b kc ty z vs dv) (wi : (Cond.instantiable "java/lang/String" 4).before a0 Z = true) (ht : FieldType.byte ≠ ty) : Str Z h' x cs :=
  S.keepA K V wi fun t _ kb N2 us A => by
    obtain ⟨c1, A1, -⟩ := A
    obtain ⟨c2, A2, -⟩ := V
    exact ne_tys A1 A2 ht
theorem Str.open_ (S : Str Z h x cs) (hlat : ∀ c ∈ cs, ¬ (255 : Int32) < c) : ∃ (t : Addr) (kb : ClassId), Exa Z h x "java/lang/String" ∧ Fld Z h x "java/lang/String" "value" "[B" (.ref t) ∧ Fld Z h x "java/lang/String" "coder" "B" (.int 0) ∧ Arv Z h t kb .byte (Int32.ofNat cs.length) (cs.map fun c => Value.int (StrChars.lo8 c)) (.int 0) := by
  obtain ⟨t, kb, cd, N2, vs, E, V, C, A, hc, -, -⟩ := S
  rcases hc with ⟨rfl, rfl, rfl, -⟩ | ⟨-, -, -, c, hc, hw⟩
  · exact ⟨t, kb, E, V, C, A⟩
  · exact absurd hw (hlat c hc)
theorem up255 (h : ∀ c ∈ cs, ¬ c < 0 ∧ ¬ (255 : Int32) < c) : ∀ c ∈ cs, ¬ c < 0 ∧ ¬ (65535 : Int32) < c := fun c hc => ⟨(h c hc).1, fun q => (h c hc).2 (by rw [Int32.lt_iff_toInt_lt] at q ⊢; have e1 : (65535 : Int32).toInt = 65535 := rfl; have e2 : (255 : Int32).toInt = 255 := rfl; omega)⟩
theorem pdChars : parseMethodDescriptor "([C)V" = some ⟨[.array .char], none⟩ := by decide +kernel
theorem Wk.newStr (W : Wk p l e R s m args below meth c Z EL n0 ws own sf T cells slots h) (hx : p.tables.exec = Jvm.exec) (hws : ∀ d ∈ StrChars.Road.words, d.before a0 Z = true) (wi : (Cond.instantiable "java/lang/String" 4).before a0 Z = true) (SC : Sta Z Z.heap "java/lang/String" "COMPACT_STRINGS" "Z" (.int zc)) (hz : ¬ zc = 0)
    (w1 : (Cond.methodLink own index ⟨"java/lang/String", "<init>", "([C)V"⟩).before a0 Z = true) (w2 : (Cond.instanceMethod ⟨"java/lang/String", "<init>", "([C)V"⟩).before a0 Z = true) (w4 : (Cond.code ⟨"java/lang/String", "<init>", "([C)V"⟩ bytes maxL none).before a0 Z = true)
    (Ex : Exa Z h x "java/lang/String") (V : Fld Z h x "java/lang/String" "value" "[B" v0) (C : Fld Z h x "java/lang/String" "coder" "B" c0) (A : Arv Z h b kC .char N (cs.map Value.int) d) (hn : cs.length = n) (hN : N = Int32.ofNat n) (l0 : 0 < n) (l2 : n ≤ 4000) (hp : ∀ c ∈ cs, ¬ c < 0 ∧ ¬ (255 : Int32) < c) (gx : n0 ≤ x) (gw : x ∈ ws ∨ s.heap.size ≤ x) (sx : x ∈ sf)
    (hfr : 4 ≤ R.frames) (hlo : Wd + 65 ≤ R.locals) (hc : cells + 1 ≤ R.cells) (hsl : slots + n ≤ R.slots) (hg : g.method = m) (hsize : g.locals.size = c.maxLocals) (hstack : g.stack = .ref b :: .ref x :: rest) (hW : 2 * g.monitorRoom + (rest.map fun v => v.category).sum ≤ Wd) (hd : decode c.code g.pc = .ok (.invokespecial index, 3))
    (k : ∀ T' h', Wk p l e R s m args below meth c Z EL n0 ws own sf T' (cells + 1) (slots + n) h' → Keep h h' [x] → Str Z h' x cs → Go p e below Q (T'.setTop { g with pc := g.pc + 3, stack := rest })) : Go p e below Q (T.setTop g) := by
  have hle := W.n0le
  have hO := W.old
  refine W.specB hx (y := ⟨"java/lang/String", "<init>", "([C)V"⟩) rfl w1 w2 w4 (by decide) (kk := 1) (nn := n) (ws' := [x]) (a := x) (Qv := fun v h' => v = none ∧ Str Z h' x cs) (Q1 := fun v h' L => StrChars.Road.QV Z x N (cs.map fun c => c.toInt8.toInt32) h n0 v h' L) (argsL := [.ref b]) (rest := rest) (Wd := Wd)
    (fun s' hZ' => StrChars.Road.backV (W := Wd) hZ' hws wi gx hle Ex V C A (SC.ext hO.2) hz hn hN l0 l2 hp rfl hfr hlo) (fun v h' L q => ?_) hc hsl (all1 ⟨gx, gw⟩) (all1 sx) hg hsize (lenOf pdChars rfl) hstack hW hd (fun T' h' v W' K' q => ?_)
  · obtain ⟨rfl, q1, q2, q3, q4, t, kb, -, -, -, q5, q6⟩ := q
    refine ⟨q1, q2, rfl, t, kb, 0, N, _, q3, q5, q4, q6, ?_, up255 hp, by omega⟩
    subst hN
    exact StrChars.Road.codOf hn (fun c hc => (hp c hc).2)
  · obtain ⟨rfl, S⟩ := q
    exact k T' h' W' K' S
end OwnStr
end Jvm.Pilot.@@N@@
namespace Jvm.Pilot.@@N@@
open Jvm Jvm.ClassFile Sem Op Lib Jvm.Free Jvm.Stand Jvm.LawKit Jvm.RoadKit Bundle Jvm.Pilot.@@N@@.Jvm.D
open Jvm.Free.XT (cmpL)
abbrev EL0 : List (String × Nat) := []
set_option maxRecDepth 65536 in
theorem sa_in : ∀ d ∈ Bundle.stringAtoms, d ∈ tables_1 := by decide +kernel
set_option maxRecDepth 65536 in
theorem ws_in : ∀ d ∈ StrChars.Road.words, d ∈ tables_1 := by decide +kernel
theorem pn0 : plainName "java/util/Objects" = true := by first | (simp [plainName, overriddenIn]; done) | decide +kernel
theorem pn1 : plainName "java/lang/Record" = true := by first | (simp [plainName, overriddenIn]; done) | decide +kernel
theorem pn2 : plainName "com/example/nabu/nabu/NewEvent" = true := by first | (simp [plainName, overriddenIn]; done) | decide +kernel
theorem pn3 : plainName "com/example/nabu/nabu/NewEventWithContentTypePinLaw" = true := by first | (simp [plainName, overriddenIn]; done) | decide +kernel
theorem pd0 : parseMethodDescriptor "()V" = some ⟨[], none⟩ := by decide +kernel
theorem pd1 : parseMethodDescriptor "(Ljava/lang/Object;Ljava/lang/String;)Ljava/lang/Object;" = some ⟨[(.object "java/lang/Object"), (.object "java/lang/String")], (some (.object "java/lang/Object"))⟩ := by decide +kernel
theorem pd2 : parseMethodDescriptor "(Ljava/lang/String;[BLjava/lang/String;Ljava/lang/String;)V" = some ⟨[(.object "java/lang/String"), (.array .byte), (.object "java/lang/String"), (.object "java/lang/String")], none⟩ := by decide +kernel
theorem pd3 : parseMethodDescriptor "(I)Ljava/lang/String;" = some ⟨[.int], (some (.object "java/lang/String"))⟩ := by decide +kernel
theorem pd4 : parseMethodDescriptor "(Ljava/lang/String;)Lcom/example/nabu/nabu/NewEvent;" = some ⟨[(.object "java/lang/String")], (some (.object "com/example/nabu/nabu/NewEvent"))⟩ := by decide +kernel
theorem pd5 : parseMethodDescriptor "()Ljava/lang/String;" = some ⟨[], (some (.object "java/lang/String"))⟩ := by decide +kernel
theorem pd6 : parseMethodDescriptor "()[B" = some ⟨[], (some (.array .byte))⟩ := by decide +kernel
theorem d2_0 : decode jdk_31_method_11_code 0 = .ok (.aload_n 0, 1) := by decide +kernel
theorem d2_1 : decode jdk_31_method_11_code 1 = .ok (.ifnonnull 12, 3) := by decide +kernel
theorem d2_13 : decode jdk_31_method_11_code 13 = .ok (.aload_n 0, 1) := by decide +kernel
theorem d2_14 : decode jdk_31_method_11_code 14 = .ok (.areturn, 1) := by decide +kernel
theorem ef2 (m : MethodId) (x0 : Addr) (x1 : Addr)  : entryFrame m #[(.ref x0), (.ref x1)] 2 = mkF m 0 #[.val (.ref x0), .val (.ref x1)] [] := by first | (simp [entryFrame, mkF, argsToLocals, Value.category]; done) | rfl | rfl
set_option maxRecDepth 65536 in
set_option maxHeartbeats 40000000 in
theorem rm2 (l : Launch) (Z : State) (a0 : Array Value) (hw : ∀ d ∈ tables_1, d.before a0 Z = true) (hEL : EW Z a0 EL0) (zc : Int32) (SC : Sta Z Z.heap "java/lang/String" "COMPACT_STRINGS" "Z" (.int zc)) (hzc : ¬ zc = 0) (fm : Value) (SF : Sta Z Z.heap "jdk/internal/util/Preconditions" "SIOOBE_FORMATTER" "Ljava/util/function/BiFunction;" fm) (rfm : fm.isRef = true) (x1 : Addr) (x2 : Addr) (h0 : Heap) {n0 : Nat} (O0 : Old Z n0 h0)  :
    Met l Z EL0 n0 (⟨"java/util/Objects", "requireNonNull", "(Ljava/lang/Object;Ljava/lang/String;)Ljava/lang/Object;"⟩ : MethodName) jdk_31_method_11_code 2 (some (.object "java/lang/Object")) [] ({ frames := 0, cells := 0, slots := 0, locals := 0 } : Room) #[(.ref x1), (.ref x2)] h0 [] [] (fun v h' => v = some (.ref x1) ∧ h0 = h') := by
  refine Met.of (plainFor_of_name pn0) O0 ?_
  intro p e s m below meth c T0 hx hby hml hret hlk hnm hs W0
  have W0 : Wk p l e _ s m _ below meth c Z EL0 n0 [] "java/util/Objects" [] T0 0 0 h0 := W0
  have hSA := fun d hd => hw d (sa_in d hd)
  have hws := fun d hd => hw d (ws_in d hd)
  refine Go.of (fun _ kk => castTop (ef2 m x1 x2) kk) ?_
  show Go p e below _ (T0.setTop (mkF m 0 #[.val (.ref x1), .val (.ref x2)] []))
  refine Go.of (t' := T0.setTop (mkF m 1 #[.val (.ref x1), .val (.ref x2)] [(.ref x1)])) (fun _ kk => XS.aloadN W0.here hx rfl (hb hby d2_0) rfl rfl kk) ?_
  refine Go.of (t' := T0.setTop (mkF m 13 #[.val (.ref x1), .val (.ref x2)] [])) (fun _ kk => XS.ifnonnullYes W0.here hx rfl (pc0 := 1) (pc' := 13) rfl (hb hby d2_1) rfl (by decide +kernel) (by decide +kernel) kk) ?_
  refine Go.of (t' := T0.setTop (mkF m 14 #[.val (.ref x1), .val (.ref x2)] [(.ref x1)])) (fun _ kk => XS.aloadN W0.here hx rfl (hb hby d2_13) rfl rfl kk) ?_
  exact W0.retA hx hEL hs hlk (by decide +kernel) (by decide +kernel) hret rfl rfl (hb hby d2_14) ⟨rfl, rfl⟩
theorem d3_0 : decode jdk_30_method_1_code 0 = .ok (.aload_n 0, 1) := by decide +kernel
theorem d3_1 : decode jdk_30_method_1_code 1 = .ok (.invokespecial 1, 3) := by decide +kernel
theorem d3_4 : decode jdk_30_method_1_code 4 = .ok (.return_, 1) := by decide +kernel
theorem ef3 (m : MethodId) (x0 : Addr)  : entryFrame m #[(.ref x0)] 1 = mkF m 0 #[.val (.ref x0)] [] := by first | (simp [entryFrame, mkF, argsToLocals, Value.category]; done) | rfl | rfl
set_option maxRecDepth 65536 in
set_option maxHeartbeats 40000000 in
theorem rm3 (l : Launch) (Z : State) (a0 : Array Value) (hw : ∀ d ∈ tables_1, d.before a0 Z = true) (hEL : EW Z a0 EL0) (zc : Int32) (SC : Sta Z Z.heap "java/lang/String" "COMPACT_STRINGS" "Z" (.int zc)) (hzc : ¬ zc = 0) (fm : Value) (SF : Sta Z Z.heap "jdk/internal/util/Preconditions" "SIOOBE_FORMATTER" "Ljava/util/function/BiFunction;" fm) (rfm : fm.isRef = true) (x1 : Addr) (h0 : Heap) {n0 : Nat} (O0 : Old Z n0 h0)  :
    Met l Z EL0 n0 (⟨"java/lang/Record", "<init>", "()V"⟩ : MethodName) jdk_30_method_1_code 1 none [] ({ frames := 1, cells := 0, slots := 0, locals := 12 } : Room) #[(.ref x1)] h0 [] [] (fun v h' => v = none ∧ h0 = h') := by
  refine Met.of (plainFor_of_name pn1) O0 ?_
  intro p e s m below meth c T0 hx hby hml hret hlk hnm hs W0
  have W0 : Wk p l e _ s m _ below meth c Z EL0 n0 [] "java/lang/Record" [] T0 0 0 h0 := W0
  have hSA := fun d hd => hw d (sa_in d hd)
  have hws := fun d hd => hw d (ws_in d hd)
  refine Go.of (fun _ kk => castTop (ef3 m x1) kk) ?_
  show Go p e below _ (T0.setTop (mkF m 0 #[.val (.ref x1)] []))
  refine Go.of (t' := T0.setTop (mkF m 1 #[.val (.ref x1)] [(.ref x1)])) (fun _ kk => XS.aloadN W0.here hx rfl (hb hby d3_0) rfl rfl kk) ?_
  refine W0.initO hx (hw _ (List.mem_of_getElem? (i := 45) rfl)) (hw _ (List.mem_of_getElem? (i := 16) rfl)) (hw _ (List.mem_of_getElem? (i := 17) rfl)) rfl (by rw [hml]; rfl) rfl (hb hby d3_1) (by decide +kernel) (Wd := 0) (by show 2 * 0 + _ ≤ _; exact Nat.le_of_eq rfl) (by decide +kernel) (fun T1 W1 => ?_)
  show Go p e below _ (T1.setTop (mkF m 4 #[.val (.ref x1)] []))
  exact W1.retV hx hEL hs hlk (by decide +kernel) (by decide +kernel) hret (hb hby d3_4) ⟨rfl, rfl⟩
theorem d4_0 : decode prog_10_method_1_code 0 = .ok (.aload_n 0, 1) := by decide +kernel
theorem d4_1 : decode prog_10_method_1_code 1 = .ok (.invokespecial 1, 3) := by decide +kernel
theorem d4_4 : decode prog_10_method_1_code 4 = .ok (.aload_n 1, 1) := by decide +kernel
theorem d4_5 : decode prog_10_method_1_code 5 = .ok (.ldc 7, 2) := by decide +kernel
theorem d4_7 : decode prog_10_method_1_code 7 = .ok (.invokestatic 9, 3) := by decide +kernel
theorem d4_10 : decode prog_10_method_1_code 10 = .ok (.pop, 1) := by decide +kernel
theorem d4_11 : decode prog_10_method_1_code 11 = .ok (.aload_n 2, 1) := by decide +kernel
theorem d4_12 : decode prog_10_method_1_code 12 = .ok (.ldc 15, 2) := by decide +kernel
theorem d4_14 : decode prog_10_method_1_code 14 = .ok (.invokestatic 9, 3) := by decide +kernel
theorem d4_17 : decode prog_10_method_1_code 17 = .ok (.pop, 1) := by decide +kernel
theorem d4_18 : decode prog_10_method_1_code 18 = .ok (.aload_n 0, 1) := by decide +kernel
theorem d4_19 : decode prog_10_method_1_code 19 = .ok (.aload_n 1, 1) := by decide +kernel
theorem d4_20 : decode prog_10_method_1_code 20 = .ok (.putfield 17, 3) := by decide +kernel
theorem d4_23 : decode prog_10_method_1_code 23 = .ok (.aload_n 0, 1) := by decide +kernel
theorem d4_24 : decode prog_10_method_1_code 24 = .ok (.aload_n 2, 1) := by decide +kernel
theorem d4_25 : decode prog_10_method_1_code 25 = .ok (.putfield 22, 3) := by decide +kernel
theorem d4_28 : decode prog_10_method_1_code 28 = .ok (.aload_n 0, 1) := by decide +kernel
theorem d4_29 : decode prog_10_method_1_code 29 = .ok (.aload_n 3, 1) := by decide +kernel
theorem d4_30 : decode prog_10_method_1_code 30 = .ok (.putfield 25, 3) := by decide +kernel
theorem d4_33 : decode prog_10_method_1_code 33 = .ok (.aload_n 0, 1) := by decide +kernel
theorem d4_34 : decode prog_10_method_1_code 34 = .ok (.aload 4, 2) := by decide +kernel
theorem d4_36 : decode prog_10_method_1_code 36 = .ok (.putfield 28, 3) := by decide +kernel
theorem d4_39 : decode prog_10_method_1_code 39 = .ok (.return_, 1) := by decide +kernel
theorem ef4 (m : MethodId) (x0 : Addr) (x1 : Addr) (x2 : Addr) (x3 : Value) (x4 : Value) (rx3 : x3.isRef = true) (rx4 : x4.isRef = true) : entryFrame m #[(.ref x0), (.ref x1), (.ref x2), x3, x4] 5 = mkF m 0 #[.val (.ref x0), .val (.ref x1), .val (.ref x2), .val x3, .val x4] [] := by first | (simp [entryFrame, mkF, argsToLocals, Value.category]; done) | rfl | (rcases XT.refc rx3 with rfl | ⟨_, rfl⟩ <;> rcases XT.refc rx4 with rfl | ⟨_, rfl⟩ <;> rfl)
set_option maxRecDepth 65536 in
set_option maxHeartbeats 40000000 in
theorem rm4 (l : Launch) (Z : State) (a0 : Array Value) (hw : ∀ d ∈ tables_1, d.before a0 Z = true) (hEL : EW Z a0 EL0) (zc : Int32) (SC : Sta Z Z.heap "java/lang/String" "COMPACT_STRINGS" "Z" (.int zc)) (hzc : ¬ zc = 0) (fm : Value) (SF : Sta Z Z.heap "jdk/internal/util/Preconditions" "SIOOBE_FORMATTER" "Ljava/util/function/BiFunction;" fm) (rfm : fm.isRef = true) (a1 : Addr) (x2 : Addr) (x3 : Addr) (v4 : Value) (v5 : Value) (rv4 : v4.isRef = true) (rv5 : v5.isRef = true) (h0 : Heap) {n0 : Nat} (O0 : Old Z n0 h0) (E1 : Exa Z h0 a1 "com/example/nabu/nabu/NewEvent") (Ftype : Fld Z h0 a1 "com/example/nabu/nabu/NewEvent" "type" "Ljava/lang/String;" .null) (Fbody : Fld Z h0 a1 "com/example/nabu/nabu/NewEvent" "body" "[B" .null) (FcontentType : Fld Z h0 a1 "com/example/nabu/nabu/NewEvent" "contentType" "Ljava/lang/String;" .null) (FcorrelationId : Fld Z h0 a1 "com/example/nabu/nabu/NewEvent" "correlationId" "Ljava/lang/String;" .null) (g1 : n0 ≤ a1) :
    Met l Z EL0 n0 (⟨"com/example/nabu/nabu/NewEvent", "<init>", "(Ljava/lang/String;[BLjava/lang/String;Ljava/lang/String;)V"⟩ : MethodName) prog_10_method_1_code 5 none [] ({ frames := 2, cells := 4, slots := 40, locals := 24 } : Room) #[(.ref a1), (.ref x2), (.ref x3), v4, v5] h0 [a1] [] (fun v h' => v = none ∧ Fld Z h' a1 "com/example/nabu/nabu/NewEvent" "type" "Ljava/lang/String;" (.ref x2) ∧ Fld Z h' a1 "com/example/nabu/nabu/NewEvent" "body" "[B" (.ref x3) ∧ Fld Z h' a1 "com/example/nabu/nabu/NewEvent" "contentType" "Ljava/lang/String;" v4 ∧ Fld Z h' a1 "com/example/nabu/nabu/NewEvent" "correlationId" "Ljava/lang/String;" v5) := by
  refine Met.of (plainFor_of_name pn2) O0 ?_
  intro p e s m below meth c T0 hx hby hml hret hlk hnm hs W0
  have W0 : Wk p l e _ s m _ below meth c Z EL0 n0 [a1] "com/example/nabu/nabu/NewEvent" [] T0 0 0 h0 := W0
  have hSA := fun d hd => hw d (sa_in d hd)
  have hws := fun d hd => hw d (ws_in d hd)
  refine Go.of (fun _ kk => castTop (ef4 m a1 x2 x3 v4 v5 rv4 rv5) kk) ?_
  show Go p e below _ (T0.setTop (mkF m 0 #[.val (.ref a1), .val (.ref x2), .val (.ref x3), .val v4, .val v5] []))
  refine Go.of (t' := T0.setTop (mkF m 1 #[.val (.ref a1), .val (.ref x2), .val (.ref x3), .val v4, .val v5] [(.ref a1)])) (fun _ kk => XS.aloadN W0.here hx rfl (hb hby d4_0) rfl rfl kk) ?_
  refine W0.callP hx hEL rfl (hw _ (List.mem_of_getElem? (i := 40) rfl)) (hw _ (List.mem_of_getElem? (i := 41) rfl)) (hw _ (List.mem_of_getElem? (i := 43) rfl)) (hw _ (List.mem_of_getElem? (i := 44) rfl)) (by decide +kernel) (a := a1) (argsL := []) (rest := []) (rm3 l Z a0 hw hEL zc SC hzc fm SF rfm a1 h0 W0.old ) all0 (by decide +kernel) (Wd := 0) (by decide +kernel) (by decide +kernel) (by decide +kernel) all0 rfl (by rw [hml]; rfl) (lenOf pd0 rfl) rfl (by show 2 * 0 + _ ≤ _; exact Nat.le_of_eq rfl) (hb hby d4_1) (fun T1 h1 v1 W1 K1 q1 => ?_)
  obtain ⟨rfl, rfl⟩ := q1
  show Go p e below _ (T1.setTop (mkF m 4 #[.val (.ref a1), .val (.ref x2), .val (.ref x3), .val v4, .val v5] []))
  refine Go.of (t' := T1.setTop (mkF m 5 #[.val (.ref a1), .val (.ref x2), .val (.ref x3), .val v4, .val v5] [(.ref x2)])) (fun _ kk => XS.aloadN W1.here hx rfl (hb hby d4_4) rfl rfl kk) ?_
  refine W1.ldcO hx hEL (hw _ (List.mem_of_getElem? (i := 46) rfl)) hSA rfl (hb hby d4_5) (n := 16) (by decide +kernel) (by decide +kernel) (by decide +kernel) (by decide +kernel) (fun T2 h2 b2 W2 K2 => ?_)
  show Go p e below _ (T2.setTop (mkF m 7 #[.val (.ref a1), .val (.ref x2), .val (.ref x3), .val v4, .val v5] [(.ref b2), (.ref x2)]))
  refine W2.callS hx hEL (hw _ (List.mem_of_getElem? (i := 49) rfl)) (hw _ (List.mem_of_getElem? (i := 50) rfl)) (hw _ (List.mem_of_getElem? (i := 51) rfl)) (hw _ (List.mem_of_getElem? (i := 52) rfl)) (by decide +kernel) (argsL := [(.ref x2), (.ref b2)]) (rest := []) (rm2 l Z a0 hw hEL zc SC hzc fm SF rfm x2 b2 h2 W2.old ) all0 (by decide +kernel) (Wd := 0) (by decide +kernel) (by decide +kernel) (by decide +kernel) all0 rfl (by rw [hml]; rfl) (lenOf pd1 rfl) rfl (by show 2 * 0 + _ ≤ _; exact Nat.le_of_eq rfl) (hb hby d4_7) (fun T3 h3 v3 W3 K3 q3 => ?_)
  obtain ⟨rfl, rfl⟩ := q3
  show Go p e below _ (T3.setTop (mkF m 10 #[.val (.ref a1), .val (.ref x2), .val (.ref x3), .val v4, .val v5] [(.ref x2)]))
  refine Go.of (t' := T3.setTop (mkF m 11 #[.val (.ref a1), .val (.ref x2), .val (.ref x3), .val v4, .val v5] [])) (fun _ kk => XS.pop W3.here hx rfl (hb hby d4_10) rfl rfl kk) ?_
  refine Go.of (t' := T3.setTop (mkF m 12 #[.val (.ref a1), .val (.ref x2), .val (.ref x3), .val v4, .val v5] [(.ref x3)])) (fun _ kk => XS.aloadN W3.here hx rfl (hb hby d4_11) rfl rfl kk) ?_
  refine W3.ldcO hx hEL (hw _ (List.mem_of_getElem? (i := 53) rfl)) hSA rfl (hb hby d4_12) (n := 16) (by decide +kernel) (by decide +kernel) (by decide +kernel) (by decide +kernel) (fun T4 h4 b4 W4 K4 => ?_)
  show Go p e below _ (T4.setTop (mkF m 14 #[.val (.ref a1), .val (.ref x2), .val (.ref x3), .val v4, .val v5] [(.ref b4), (.ref x3)]))
  refine W4.callS hx hEL (hw _ (List.mem_of_getElem? (i := 49) rfl)) (hw _ (List.mem_of_getElem? (i := 50) rfl)) (hw _ (List.mem_of_getElem? (i := 51) rfl)) (hw _ (List.mem_of_getElem? (i := 52) rfl)) (by decide +kernel) (argsL := [(.ref x3), (.ref b4)]) (rest := []) (rm2 l Z a0 hw hEL zc SC hzc fm SF rfm x3 b4 h4 W4.old ) all0 (by decide +kernel) (Wd := 0) (by decide +kernel) (by decide +kernel) (by decide +kernel) all0 rfl (by rw [hml]; rfl) (lenOf pd1 rfl) rfl (by show 2 * 0 + _ ≤ _; exact Nat.le_of_eq rfl) (hb hby d4_14) (fun T5 h5 v5 W5 K5 q5 => ?_)
  obtain ⟨rfl, rfl⟩ := q5
  show Go p e below _ (T5.setTop (mkF m 17 #[.val (.ref a1), .val (.ref x2), .val (.ref x3), .val v4, .val v5] [(.ref x3)]))
  refine Go.of (t' := T5.setTop (mkF m 18 #[.val (.ref a1), .val (.ref x2), .val (.ref x3), .val v4, .val v5] [])) (fun _ kk => XS.pop W5.here hx rfl (hb hby d4_17) rfl rfl kk) ?_
  refine Go.of (t' := T5.setTop (mkF m 19 #[.val (.ref a1), .val (.ref x2), .val (.ref x3), .val v4, .val v5] [(.ref a1)])) (fun _ kk => XS.aloadN W5.here hx rfl (hb hby d4_18) rfl rfl kk) ?_
  refine Go.of (t' := T5.setTop (mkF m 20 #[.val (.ref a1), .val (.ref x2), .val (.ref x3), .val v4, .val v5] [(.ref x2), (.ref a1)])) (fun _ kk => XS.aloadN W5.here hx rfl (hb hby d4_19) rfl rfl kk) ?_
  have k6 := ((Ftype.keep K2 nin0).keep K4 nin0)
  have k7 := ((E1.keep K2).keep K4)
  refine W5.putF hx (host := "") (Or.inl (hw _ (List.mem_of_getElem? (i := 54) rfl))) Via.refl k6 k7 (Or.inr ⟨(hw _ (List.mem_of_getElem? (i := 55) rfl)), rfl, hnm⟩) (hw _ (List.mem_of_getElem? (i := 35) rfl)) (ty := (.object "java/lang/String")) (by decide +kernel) rfl rfl g1 (Or.inl (List.mem_of_getElem? (i := 0) rfl)) (Or.inr ⟨by decide, by decide⟩) rfl rfl (hb hby d4_20) (fun T8 h8 W8 w8 => ?_)
  have k9 := ((Fbody.keep K2 nin0).keep K4 nin0)
  have k10 := ((FcontentType.keep K2 nin0).keep K4 nin0)
  have k11 := ((FcorrelationId.keep K2 nin0).keep K4 nin0)
  have K8 := Keep.of_wr w8
  have k12 := k9.other w8 (Or.inr (slot_ne (Or.inr (hw _ (List.mem_of_getElem? (i := 57) rfl))) (Or.inr (hw _ (List.mem_of_getElem? (i := 55) rfl))) (by decide +kernel) (t := (.array .byte)) (t' := (.object "java/lang/String")) (by decide +kernel) (by decide +kernel)))
  have k13 := k10.other w8 (Or.inr (slot_ne (Or.inr (hw _ (List.mem_of_getElem? (i := 59) rfl))) (Or.inr (hw _ (List.mem_of_getElem? (i := 55) rfl))) (by decide +kernel) (t := (.object "java/lang/String")) (t' := (.object "java/lang/String")) (by decide +kernel) (by decide +kernel)))
  have k14 := k11.other w8 (Or.inr (slot_ne (Or.inr (hw _ (List.mem_of_getElem? (i := 61) rfl))) (Or.inr (hw _ (List.mem_of_getElem? (i := 55) rfl))) (by decide +kernel) (t := (.object "java/lang/String")) (t' := (.object "java/lang/String")) (by decide +kernel) (by decide +kernel)))
  have k15 := k6.same w8
  show Go p e below _ (T8.setTop (mkF m 23 #[.val (.ref a1), .val (.ref x2), .val (.ref x3), .val v4, .val v5] []))
  refine Go.of (t' := T8.setTop (mkF m 24 #[.val (.ref a1), .val (.ref x2), .val (.ref x3), .val v4, .val v5] [(.ref a1)])) (fun _ kk => XS.aloadN W8.here hx rfl (hb hby d4_23) rfl rfl kk) ?_
  refine Go.of (t' := T8.setTop (mkF m 25 #[.val (.ref a1), .val (.ref x2), .val (.ref x3), .val v4, .val v5] [(.ref x3), (.ref a1)])) (fun _ kk => XS.aloadN W8.here hx rfl (hb hby d4_24) rfl rfl kk) ?_
  have k16 := (k7.keep K8)
  refine W8.putF hx (host := "") (Or.inl (hw _ (List.mem_of_getElem? (i := 56) rfl))) Via.refl k12 k16 (Or.inr ⟨(hw _ (List.mem_of_getElem? (i := 57) rfl)), rfl, hnm⟩) (hw _ (List.mem_of_getElem? (i := 35) rfl)) (ty := (.array .byte)) (by decide +kernel) rfl rfl g1 (Or.inl (List.mem_of_getElem? (i := 0) rfl)) (Or.inr ⟨by decide, by decide⟩) rfl rfl (hb hby d4_25) (fun T17 h17 W17 w17 => ?_)
  have K17 := Keep.of_wr w17
  have k18 := k15.other w17 (Or.inr (slot_ne (Or.inr (hw _ (List.mem_of_getElem? (i := 55) rfl))) (Or.inr (hw _ (List.mem_of_getElem? (i := 57) rfl))) (by decide +kernel) (t := (.object "java/lang/String")) (t' := (.array .byte)) (by decide +kernel) (by decide +kernel)))
  have k19 := k13.other w17 (Or.inr (slot_ne (Or.inr (hw _ (List.mem_of_getElem? (i := 59) rfl))) (Or.inr (hw _ (List.mem_of_getElem? (i := 57) rfl))) (by decide +kernel) (t := (.object "java/lang/String")) (t' := (.array .byte)) (by decide +kernel) (by decide +kernel)))
  have k20 := k14.other w17 (Or.inr (slot_ne (Or.inr (hw _ (List.mem_of_getElem? (i := 61) rfl))) (Or.inr (hw _ (List.mem_of_getElem? (i := 57) rfl))) (by decide +kernel) (t := (.object "java/lang/String")) (t' := (.array .byte)) (by decide +kernel) (by decide +kernel)))
  have k21 := k12.same w17
  show Go p e below _ (T17.setTop (mkF m 28 #[.val (.ref a1), .val (.ref x2), .val (.ref x3), .val v4, .val v5] []))
  refine Go.of (t' := T17.setTop (mkF m 29 #[.val (.ref a1), .val (.ref x2), .val (.ref x3), .val v4, .val v5] [(.ref a1)])) (fun _ kk => XS.aloadN W17.here hx rfl (hb hby d4_28) rfl rfl kk) ?_
  refine Go.of (t' := T17.setTop (mkF m 30 #[.val (.ref a1), .val (.ref x2), .val (.ref x3), .val v4, .val v5] [v4, (.ref a1)])) (fun _ kk => XS.aloadN W17.here hx rfl (hb hby d4_29) rfl rv4 kk) ?_
  have k22 := (k16.keep K17)
  refine W17.putF hx (host := "") (Or.inl (hw _ (List.mem_of_getElem? (i := 58) rfl))) Via.refl k19 k22 (Or.inr ⟨(hw _ (List.mem_of_getElem? (i := 59) rfl)), rfl, hnm⟩) (hw _ (List.mem_of_getElem? (i := 35) rfl)) (ty := (.object "java/lang/String")) (by decide +kernel) (by rcases XT.refc rv4 with rfl | ⟨_, rfl⟩ <;> rfl) (by rcases XT.refc rv4 with rfl | ⟨_, rfl⟩ <;> rfl) g1 (Or.inl (List.mem_of_getElem? (i := 0) rfl)) (Or.inr ⟨by decide, by decide⟩) rfl rfl (hb hby d4_30) (fun T23 h23 W23 w23 => ?_)
  have K23 := Keep.of_wr w23
  have k24 := k18.other w23 (Or.inr (slot_ne (Or.inr (hw _ (List.mem_of_getElem? (i := 55) rfl))) (Or.inr (hw _ (List.mem_of_getElem? (i := 59) rfl))) (by decide +kernel) (t := (.object "java/lang/String")) (t' := (.object "java/lang/String")) (by decide +kernel) (by decide +kernel)))
  have k25 := k21.other w23 (Or.inr (slot_ne (Or.inr (hw _ (List.mem_of_getElem? (i := 57) rfl))) (Or.inr (hw _ (List.mem_of_getElem? (i := 59) rfl))) (by decide +kernel) (t := (.array .byte)) (t' := (.object "java/lang/String")) (by decide +kernel) (by decide +kernel)))
  have k26 := k20.other w23 (Or.inr (slot_ne (Or.inr (hw _ (List.mem_of_getElem? (i := 61) rfl))) (Or.inr (hw _ (List.mem_of_getElem? (i := 59) rfl))) (by decide +kernel) (t := (.object "java/lang/String")) (t' := (.object "java/lang/String")) (by decide +kernel) (by decide +kernel)))
  have k27 := k19.same w23
  show Go p e below _ (T23.setTop (mkF m 33 #[.val (.ref a1), .val (.ref x2), .val (.ref x3), .val v4, .val v5] []))
  refine Go.of (t' := T23.setTop (mkF m 34 #[.val (.ref a1), .val (.ref x2), .val (.ref x3), .val v4, .val v5] [(.ref a1)])) (fun _ kk => XS.aloadN W23.here hx rfl (hb hby d4_33) rfl rfl kk) ?_
  refine Go.of (t' := T23.setTop (mkF m 36 #[.val (.ref a1), .val (.ref x2), .val (.ref x3), .val v4, .val v5] [v5, (.ref a1)])) (fun _ kk => XS.aload W23.here hx rfl (hb hby d4_34) rfl rv5 kk) ?_
  have k28 := (k22.keep K23)
  refine W23.putF hx (host := "") (Or.inl (hw _ (List.mem_of_getElem? (i := 60) rfl))) Via.refl k26 k28 (Or.inr ⟨(hw _ (List.mem_of_getElem? (i := 61) rfl)), rfl, hnm⟩) (hw _ (List.mem_of_getElem? (i := 35) rfl)) (ty := (.object "java/lang/String")) (by decide +kernel) (by rcases XT.refc rv5 with rfl | ⟨_, rfl⟩ <;> rfl) (by rcases XT.refc rv5 with rfl | ⟨_, rfl⟩ <;> rfl) g1 (Or.inl (List.mem_of_getElem? (i := 0) rfl)) (Or.inr ⟨by decide, by decide⟩) rfl rfl (hb hby d4_36) (fun T29 h29 W29 w29 => ?_)
  have K29 := Keep.of_wr w29
  have k30 := k24.other w29 (Or.inr (slot_ne (Or.inr (hw _ (List.mem_of_getElem? (i := 55) rfl))) (Or.inr (hw _ (List.mem_of_getElem? (i := 61) rfl))) (by decide +kernel) (t := (.object "java/lang/String")) (t' := (.object "java/lang/String")) (by decide +kernel) (by decide +kernel)))
  have k31 := k25.other w29 (Or.inr (slot_ne (Or.inr (hw _ (List.mem_of_getElem? (i := 57) rfl))) (Or.inr (hw _ (List.mem_of_getElem? (i := 61) rfl))) (by decide +kernel) (t := (.array .byte)) (t' := (.object "java/lang/String")) (by decide +kernel) (by decide +kernel)))
  have k32 := k27.other w29 (Or.inr (slot_ne (Or.inr (hw _ (List.mem_of_getElem? (i := 59) rfl))) (Or.inr (hw _ (List.mem_of_getElem? (i := 61) rfl))) (by decide +kernel) (t := (.object "java/lang/String")) (t' := (.object "java/lang/String")) (by decide +kernel) (by decide +kernel)))
  have k33 := k26.same w29
  show Go p e below _ (T29.setTop (mkF m 39 #[.val (.ref a1), .val (.ref x2), .val (.ref x3), .val v4, .val v5] []))
  exact W29.retV hx hEL hs hlk (by decide +kernel) (by decide +kernel) hret (hb hby d4_39) ⟨rfl, k30, k31, k32, k33⟩
theorem d5_0 : decode prog_10_method_3_code 0 = .ok (.new 18, 3) := by decide +kernel
theorem d5_3 : decode prog_10_method_3_code 3 = .ok (.dup, 1) := by decide +kernel
theorem d5_4 : decode prog_10_method_3_code 4 = .ok (.aload_n 0, 1) := by decide +kernel
theorem d5_5 : decode prog_10_method_3_code 5 = .ok (.getfield 17, 3) := by decide +kernel
theorem d5_8 : decode prog_10_method_3_code 8 = .ok (.aload_n 0, 1) := by decide +kernel
theorem d5_9 : decode prog_10_method_3_code 9 = .ok (.getfield 22, 3) := by decide +kernel
theorem d5_12 : decode prog_10_method_3_code 12 = .ok (.aload_n 1, 1) := by decide +kernel
theorem d5_13 : decode prog_10_method_3_code 13 = .ok (.aload_n 0, 1) := by decide +kernel
theorem d5_14 : decode prog_10_method_3_code 14 = .ok (.getfield 28, 3) := by decide +kernel
theorem d5_17 : decode prog_10_method_3_code 17 = .ok (.invokespecial 31, 3) := by decide +kernel
theorem d5_20 : decode prog_10_method_3_code 20 = .ok (.areturn, 1) := by decide +kernel
theorem ef5 (m : MethodId) (x0 : Addr) (x1 : Value) (rx1 : x1.isRef = true) : entryFrame m #[(.ref x0), x1] 2 = mkF m 0 #[.val (.ref x0), .val x1] [] := by first | (simp [entryFrame, mkF, argsToLocals, Value.category]; done) | rfl | (rcases XT.refc rx1 with rfl | ⟨_, rfl⟩ <;> rfl)
set_option maxRecDepth 65536 in
set_option maxHeartbeats 40000000 in
theorem rm5 (l : Launch) (Z : State) (a0 : Array Value) (hw : ∀ d ∈ tables_1, d.before a0 Z = true) (hEL : EW Z a0 EL0) (zc : Int32) (SC : Sta Z Z.heap "java/lang/String" "COMPACT_STRINGS" "Z" (.int zc)) (hzc : ¬ zc = 0) (fm : Value) (SF : Sta Z Z.heap "jdk/internal/util/Preconditions" "SIOOBE_FORMATTER" "Ljava/util/function/BiFunction;" fm) (rfm : fm.isRef = true) (a1 : Addr) (v2 : Value) (rv2 : v2.isRef = true) (x3 : Addr) (x4 : Addr) (v5 : Value) (rv5 : v5.isRef = true) (h0 : Heap) {n0 : Nat} (O0 : Old Z n0 h0) (F1 : Fld Z h0 a1 "com/example/nabu/nabu/NewEvent" "type" "Ljava/lang/String;" (.ref x3)) (F2 : Fld Z h0 a1 "com/example/nabu/nabu/NewEvent" "body" "[B" (.ref x4)) (F3 : Fld Z h0 a1 "com/example/nabu/nabu/NewEvent" "correlationId" "Ljava/lang/String;" v5) :
    Met l Z EL0 n0 (⟨"com/example/nabu/nabu/NewEvent", "withContentType", "(Ljava/lang/String;)Lcom/example/nabu/nabu/NewEvent;"⟩ : MethodName) prog_10_method_3_code 2 (some (.object "com/example/nabu/nabu/NewEvent")) [] ({ frames := 3, cells := 5, slots := 44, locals := 41 } : Room) #[(.ref a1), v2] h0 [] [] (fun v h' => ∃ r : Addr, v = some (.ref r) ∧ h0.size ≤ r ∧ Exa Z h' r "com/example/nabu/nabu/NewEvent" ∧ Fld Z h' r "com/example/nabu/nabu/NewEvent" "type" "Ljava/lang/String;" (.ref x3) ∧ Fld Z h' r "com/example/nabu/nabu/NewEvent" "body" "[B" (.ref x4) ∧ Fld Z h' r "com/example/nabu/nabu/NewEvent" "contentType" "Ljava/lang/String;" v2 ∧ Fld Z h' r "com/example/nabu/nabu/NewEvent" "correlationId" "Ljava/lang/String;" v5) := by
  refine Met.of (plainFor_of_name pn2) O0 ?_
  intro p e s m below meth c T0 hx hby hml hret hlk hnm hs W0
  have W0 : Wk p l e _ s m _ below meth c Z EL0 n0 [] "com/example/nabu/nabu/NewEvent" [] T0 0 0 h0 := W0
  have hSA := fun d hd => hw d (sa_in d hd)
  have hws := fun d hd => hw d (ws_in d hd)
  refine Go.of (fun _ kk => castTop (ef5 m a1 v2 rv2) kk) ?_
  show Go p e below _ (T0.setTop (mkF m 0 #[.val (.ref a1), .val v2] []))
  refine W0.newO hx (hw _ (List.mem_of_getElem? (i := 67) rfl)) (hw _ (List.mem_of_getElem? (i := 35) rfl)) (hw _ (List.mem_of_getElem? (i := 36) rfl)) rfl (hb hby d5_0) (by decide +kernel) (by decide +kernel) (fun T1 h1 b1 eb1 gb1 W1 K1 E1 D1 => ?_)
  have k2 : Fld Z h1 b1 "com/example/nabu/nabu/NewEvent" "type" "Ljava/lang/String;" .null := D1 (Or.inr (hw _ (List.mem_of_getElem? (i := 55) rfl))) (ty := (.object "java/lang/String")) (by decide +kernel)
  have k3 : Fld Z h1 b1 "com/example/nabu/nabu/NewEvent" "body" "[B" .null := D1 (Or.inr (hw _ (List.mem_of_getElem? (i := 57) rfl))) (ty := (.array .byte)) (by decide +kernel)
  have k4 : Fld Z h1 b1 "com/example/nabu/nabu/NewEvent" "contentType" "Ljava/lang/String;" .null := D1 (Or.inr (hw _ (List.mem_of_getElem? (i := 59) rfl))) (ty := (.object "java/lang/String")) (by decide +kernel)
  have k5 : Fld Z h1 b1 "com/example/nabu/nabu/NewEvent" "correlationId" "Ljava/lang/String;" .null := D1 (Or.inr (hw _ (List.mem_of_getElem? (i := 61) rfl))) (ty := (.object "java/lang/String")) (by decide +kernel)
  show Go p e below _ (T1.setTop (mkF m 3 #[.val (.ref a1), .val v2] [(.ref b1)]))
  refine Go.of (t' := T1.setTop (mkF m 4 #[.val (.ref a1), .val v2] [(.ref b1), (.ref b1)])) (fun _ kk => XS.dup W1.here hx rfl (hb hby d5_3) rfl rfl kk) ?_
  refine Go.of (t' := T1.setTop (mkF m 5 #[.val (.ref a1), .val v2] [(.ref a1), (.ref b1), (.ref b1)])) (fun _ kk => XS.aloadN W1.here hx rfl (hb hby d5_4) rfl rfl kk) ?_
  have k6 := (F1.keep K1 nin0)
  refine W1.getF hx (host := "") (Or.inl (hw _ (List.mem_of_getElem? (i := 54) rfl))) Via.refl k6 rfl rfl (hb hby d5_5) (fun T7 W7 => ?_)
  show Go p e below _ (T7.setTop (mkF m 8 #[.val (.ref a1), .val v2] [(.ref x3), (.ref b1), (.ref b1)]))
  refine Go.of (t' := T7.setTop (mkF m 9 #[.val (.ref a1), .val v2] [(.ref a1), (.ref x3), (.ref b1), (.ref b1)])) (fun _ kk => XS.aloadN W7.here hx rfl (hb hby d5_8) rfl rfl kk) ?_
  have k8 := (F2.keep K1 nin0)
  refine W7.getF hx (host := "") (Or.inl (hw _ (List.mem_of_getElem? (i := 56) rfl))) Via.refl k8 rfl rfl (hb hby d5_9) (fun T9 W9 => ?_)
  show Go p e below _ (T9.setTop (mkF m 12 #[.val (.ref a1), .val v2] [(.ref x4), (.ref x3), (.ref b1), (.ref b1)]))
  refine Go.of (t' := T9.setTop (mkF m 13 #[.val (.ref a1), .val v2] [v2, (.ref x4), (.ref x3), (.ref b1), (.ref b1)])) (fun _ kk => XS.aloadN W9.here hx rfl (hb hby d5_12) rfl rv2 kk) ?_
  refine Go.of (t' := T9.setTop (mkF m 14 #[.val (.ref a1), .val v2] [(.ref a1), v2, (.ref x4), (.ref x3), (.ref b1), (.ref b1)])) (fun _ kk => XS.aloadN W9.here hx rfl (hb hby d5_13) rfl rfl kk) ?_
  have k10 := (F3.keep K1 nin0)
  refine W9.getF hx (host := "") (Or.inl (hw _ (List.mem_of_getElem? (i := 60) rfl))) Via.refl k10 rfl rfl (hb hby d5_14) (fun T11 W11 => ?_)
  show Go p e below _ (T11.setTop (mkF m 17 #[.val (.ref a1), .val v2] [v5, v2, (.ref x4), (.ref x3), (.ref b1), (.ref b1)]))
  refine W11.callP hx hEL rfl (hw _ (List.mem_of_getElem? (i := 68) rfl)) (hw _ (List.mem_of_getElem? (i := 38) rfl)) (hw _ (List.mem_of_getElem? (i := 36) rfl)) (hw _ (List.mem_of_getElem? (i := 39) rfl)) (by decide +kernel) (a := b1) (argsL := [(.ref x3), (.ref x4), v2, v5]) (rest := [(.ref b1)]) (rm4 l Z a0 hw hEL zc SC hzc fm SF rfm b1 x3 x4 v2 v5 rv2 rv5 h1 W11.old E1 k2 k3 k4 k5 gb1.1) all0 (by decide +kernel) (Wd := 1) (by decide +kernel) (by decide +kernel) (by decide +kernel) (allS ⟨gb1.1, (Or.inr gb1.2)⟩ all0) rfl (by rw [hml]; rfl) (lenOf pd2 rfl) rfl (by show 2 * 0 + _ ≤ _; exact Nat.le_of_eq rfl) (hb hby d5_17) (fun T12 h12 v12 W12 K12 q12 => ?_)
  obtain ⟨rfl, Ftype12, Fbody12, Fcont12, Fcorr12⟩ := q12
  show Go p e below _ (T12.setTop (mkF m 20 #[.val (.ref a1), .val v2] [(.ref b1)]))
  have k13 := (E1.keep K12)
  exact W12.retA hx hEL hs hlk (by decide +kernel) (by decide +kernel) hret rfl rfl (hb hby d5_20) ⟨b1, rfl, hs ▸ gb1.2, k13, Ftype12, Fbody12, Fcont12, Fcorr12⟩
theorem d6_0 : decode prog_10_method_8_code 0 = .ok (.aload_n 0, 1) := by decide +kernel
theorem d6_1 : decode prog_10_method_8_code 1 = .ok (.getfield 17, 3) := by decide +kernel
theorem d6_4 : decode prog_10_method_8_code 4 = .ok (.areturn, 1) := by decide +kernel
theorem ef6 (m : MethodId) (x0 : Addr)  : entryFrame m #[(.ref x0)] 1 = mkF m 0 #[.val (.ref x0)] [] := by first | (simp [entryFrame, mkF, argsToLocals, Value.category]; done) | rfl | rfl
set_option maxRecDepth 65536 in
set_option maxHeartbeats 40000000 in
theorem rm6 (l : Launch) (Z : State) (a0 : Array Value) (hw : ∀ d ∈ tables_1, d.before a0 Z = true) (hEL : EW Z a0 EL0) (zc : Int32) (SC : Sta Z Z.heap "java/lang/String" "COMPACT_STRINGS" "Z" (.int zc)) (hzc : ¬ zc = 0) (fm : Value) (SF : Sta Z Z.heap "jdk/internal/util/Preconditions" "SIOOBE_FORMATTER" "Ljava/util/function/BiFunction;" fm) (rfm : fm.isRef = true) (a1 : Addr) (v2 : Value) (rv2 : v2.isRef = true) (h0 : Heap) {n0 : Nat} (O0 : Old Z n0 h0) (F1 : Fld Z h0 a1 "com/example/nabu/nabu/NewEvent" "type" "Ljava/lang/String;" v2) :
    Met l Z EL0 n0 (⟨"com/example/nabu/nabu/NewEvent", "type", "()Ljava/lang/String;"⟩ : MethodName) prog_10_method_8_code 1 (some (.object "java/lang/String")) [] ({ frames := 0, cells := 0, slots := 0, locals := 0 } : Room) #[(.ref a1)] h0 [] [] (fun v h' => v = some v2 ∧ h0 = h') := by
  refine Met.of (plainFor_of_name pn2) O0 ?_
  intro p e s m below meth c T0 hx hby hml hret hlk hnm hs W0
  have W0 : Wk p l e _ s m _ below meth c Z EL0 n0 [] "com/example/nabu/nabu/NewEvent" [] T0 0 0 h0 := W0
  have hSA := fun d hd => hw d (sa_in d hd)
  have hws := fun d hd => hw d (ws_in d hd)
  refine Go.of (fun _ kk => castTop (ef6 m a1) kk) ?_
  show Go p e below _ (T0.setTop (mkF m 0 #[.val (.ref a1)] []))
  refine Go.of (t' := T0.setTop (mkF m 1 #[.val (.ref a1)] [(.ref a1)])) (fun _ kk => XS.aloadN W0.here hx rfl (hb hby d6_0) rfl rfl kk) ?_
  refine W0.getF hx (host := "") (Or.inl (hw _ (List.mem_of_getElem? (i := 54) rfl))) Via.refl F1 rfl rfl (hb hby d6_1) (fun T1 W1 => ?_)
  show Go p e below _ (T1.setTop (mkF m 4 #[.val (.ref a1)] [v2]))
  exact W1.retA hx hEL hs hlk (by decide +kernel) (by decide +kernel) hret rfl rv2 (hb hby d6_4) ⟨rfl, rfl⟩
theorem d7_0 : decode prog_10_method_9_code 0 = .ok (.aload_n 0, 1) := by decide +kernel
theorem d7_1 : decode prog_10_method_9_code 1 = .ok (.getfield 22, 3) := by decide +kernel
theorem d7_4 : decode prog_10_method_9_code 4 = .ok (.areturn, 1) := by decide +kernel
theorem ef7 (m : MethodId) (x0 : Addr)  : entryFrame m #[(.ref x0)] 1 = mkF m 0 #[.val (.ref x0)] [] := by first | (simp [entryFrame, mkF, argsToLocals, Value.category]; done) | rfl | rfl
set_option maxRecDepth 65536 in
set_option maxHeartbeats 40000000 in
theorem rm7 (l : Launch) (Z : State) (a0 : Array Value) (hw : ∀ d ∈ tables_1, d.before a0 Z = true) (hEL : EW Z a0 EL0) (zc : Int32) (SC : Sta Z Z.heap "java/lang/String" "COMPACT_STRINGS" "Z" (.int zc)) (hzc : ¬ zc = 0) (fm : Value) (SF : Sta Z Z.heap "jdk/internal/util/Preconditions" "SIOOBE_FORMATTER" "Ljava/util/function/BiFunction;" fm) (rfm : fm.isRef = true) (a1 : Addr) (v2 : Value) (rv2 : v2.isRef = true) (h0 : Heap) {n0 : Nat} (O0 : Old Z n0 h0) (F1 : Fld Z h0 a1 "com/example/nabu/nabu/NewEvent" "body" "[B" v2) :
    Met l Z EL0 n0 (⟨"com/example/nabu/nabu/NewEvent", "body", "()[B"⟩ : MethodName) prog_10_method_9_code 1 (some (.array .byte)) [] ({ frames := 0, cells := 0, slots := 0, locals := 0 } : Room) #[(.ref a1)] h0 [] [] (fun v h' => v = some v2 ∧ h0 = h') := by
  refine Met.of (plainFor_of_name pn2) O0 ?_
  intro p e s m below meth c T0 hx hby hml hret hlk hnm hs W0
  have W0 : Wk p l e _ s m _ below meth c Z EL0 n0 [] "com/example/nabu/nabu/NewEvent" [] T0 0 0 h0 := W0
  have hSA := fun d hd => hw d (sa_in d hd)
  have hws := fun d hd => hw d (ws_in d hd)
  refine Go.of (fun _ kk => castTop (ef7 m a1) kk) ?_
  show Go p e below _ (T0.setTop (mkF m 0 #[.val (.ref a1)] []))
  refine Go.of (t' := T0.setTop (mkF m 1 #[.val (.ref a1)] [(.ref a1)])) (fun _ kk => XS.aloadN W0.here hx rfl (hb hby d7_0) rfl rfl kk) ?_
  refine W0.getF hx (host := "") (Or.inl (hw _ (List.mem_of_getElem? (i := 56) rfl))) Via.refl F1 rfl rfl (hb hby d7_1) (fun T1 W1 => ?_)
  show Go p e below _ (T1.setTop (mkF m 4 #[.val (.ref a1)] [v2]))
  exact W1.retA hx hEL hs hlk (by decide +kernel) (by decide +kernel) hret rfl rv2 (hb hby d7_4) ⟨rfl, rfl⟩
theorem d8_0 : decode prog_10_method_10_code 0 = .ok (.aload_n 0, 1) := by decide +kernel
theorem d8_1 : decode prog_10_method_10_code 1 = .ok (.getfield 25, 3) := by decide +kernel
theorem d8_4 : decode prog_10_method_10_code 4 = .ok (.areturn, 1) := by decide +kernel
theorem ef8 (m : MethodId) (x0 : Addr)  : entryFrame m #[(.ref x0)] 1 = mkF m 0 #[.val (.ref x0)] [] := by first | (simp [entryFrame, mkF, argsToLocals, Value.category]; done) | rfl | rfl
set_option maxRecDepth 65536 in
set_option maxHeartbeats 40000000 in
theorem rm8 (l : Launch) (Z : State) (a0 : Array Value) (hw : ∀ d ∈ tables_1, d.before a0 Z = true) (hEL : EW Z a0 EL0) (zc : Int32) (SC : Sta Z Z.heap "java/lang/String" "COMPACT_STRINGS" "Z" (.int zc)) (hzc : ¬ zc = 0) (fm : Value) (SF : Sta Z Z.heap "jdk/internal/util/Preconditions" "SIOOBE_FORMATTER" "Ljava/util/function/BiFunction;" fm) (rfm : fm.isRef = true) (a1 : Addr) (v2 : Value) (rv2 : v2.isRef = true) (h0 : Heap) {n0 : Nat} (O0 : Old Z n0 h0) (F1 : Fld Z h0 a1 "com/example/nabu/nabu/NewEvent" "contentType" "Ljava/lang/String;" v2) :
    Met l Z EL0 n0 (⟨"com/example/nabu/nabu/NewEvent", "contentType", "()Ljava/lang/String;"⟩ : MethodName) prog_10_method_10_code 1 (some (.object "java/lang/String")) [] ({ frames := 0, cells := 0, slots := 0, locals := 0 } : Room) #[(.ref a1)] h0 [] [] (fun v h' => v = some v2 ∧ h0 = h') := by
  refine Met.of (plainFor_of_name pn2) O0 ?_
  intro p e s m below meth c T0 hx hby hml hret hlk hnm hs W0
  have W0 : Wk p l e _ s m _ below meth c Z EL0 n0 [] "com/example/nabu/nabu/NewEvent" [] T0 0 0 h0 := W0
  have hSA := fun d hd => hw d (sa_in d hd)
  have hws := fun d hd => hw d (ws_in d hd)
  refine Go.of (fun _ kk => castTop (ef8 m a1) kk) ?_
  show Go p e below _ (T0.setTop (mkF m 0 #[.val (.ref a1)] []))
  refine Go.of (t' := T0.setTop (mkF m 1 #[.val (.ref a1)] [(.ref a1)])) (fun _ kk => XS.aloadN W0.here hx rfl (hb hby d8_0) rfl rfl kk) ?_
  refine W0.getF hx (host := "") (Or.inl (hw _ (List.mem_of_getElem? (i := 58) rfl))) Via.refl F1 rfl rfl (hb hby d8_1) (fun T1 W1 => ?_)
  show Go p e below _ (T1.setTop (mkF m 4 #[.val (.ref a1)] [v2]))
  exact W1.retA hx hEL hs hlk (by decide +kernel) (by decide +kernel) hret rfl rv2 (hb hby d8_4) ⟨rfl, rfl⟩
theorem d9_0 : decode prog_10_method_11_code 0 = .ok (.aload_n 0, 1) := by decide +kernel
theorem d9_1 : decode prog_10_method_11_code 1 = .ok (.getfield 28, 3) := by decide +kernel
theorem d9_4 : decode prog_10_method_11_code 4 = .ok (.areturn, 1) := by decide +kernel
theorem ef9 (m : MethodId) (x0 : Addr)  : entryFrame m #[(.ref x0)] 1 = mkF m 0 #[.val (.ref x0)] [] := by first | (simp [entryFrame, mkF, argsToLocals, Value.category]; done) | rfl | rfl
set_option maxRecDepth 65536 in
set_option maxHeartbeats 40000000 in
theorem rm9 (l : Launch) (Z : State) (a0 : Array Value) (hw : ∀ d ∈ tables_1, d.before a0 Z = true) (hEL : EW Z a0 EL0) (zc : Int32) (SC : Sta Z Z.heap "java/lang/String" "COMPACT_STRINGS" "Z" (.int zc)) (hzc : ¬ zc = 0) (fm : Value) (SF : Sta Z Z.heap "jdk/internal/util/Preconditions" "SIOOBE_FORMATTER" "Ljava/util/function/BiFunction;" fm) (rfm : fm.isRef = true) (a1 : Addr) (v2 : Value) (rv2 : v2.isRef = true) (h0 : Heap) {n0 : Nat} (O0 : Old Z n0 h0) (F1 : Fld Z h0 a1 "com/example/nabu/nabu/NewEvent" "correlationId" "Ljava/lang/String;" v2) :
    Met l Z EL0 n0 (⟨"com/example/nabu/nabu/NewEvent", "correlationId", "()Ljava/lang/String;"⟩ : MethodName) prog_10_method_11_code 1 (some (.object "java/lang/String")) [] ({ frames := 0, cells := 0, slots := 0, locals := 0 } : Room) #[(.ref a1)] h0 [] [] (fun v h' => v = some v2 ∧ h0 = h') := by
  refine Met.of (plainFor_of_name pn2) O0 ?_
  intro p e s m below meth c T0 hx hby hml hret hlk hnm hs W0
  have W0 : Wk p l e _ s m _ below meth c Z EL0 n0 [] "com/example/nabu/nabu/NewEvent" [] T0 0 0 h0 := W0
  have hSA := fun d hd => hw d (sa_in d hd)
  have hws := fun d hd => hw d (ws_in d hd)
  refine Go.of (fun _ kk => castTop (ef9 m a1) kk) ?_
  show Go p e below _ (T0.setTop (mkF m 0 #[.val (.ref a1)] []))
  refine Go.of (t' := T0.setTop (mkF m 1 #[.val (.ref a1)] [(.ref a1)])) (fun _ kk => XS.aloadN W0.here hx rfl (hb hby d9_0) rfl rfl kk) ?_
  refine W0.getF hx (host := "") (Or.inl (hw _ (List.mem_of_getElem? (i := 60) rfl))) Via.refl F1 rfl rfl (hb hby d9_1) (fun T1 W1 => ?_)
  show Go p e below _ (T1.setTop (mkF m 4 #[.val (.ref a1)] [v2]))
  exact W1.retA hx hEL hs hlk (by decide +kernel) (by decide +kernel) hret rfl rv2 (hb hby d9_4) ⟨rfl, rfl⟩
theorem d1_0 : decode method_2_code 0 = .ok (.iconst 2, 1) := by decide +kernel
theorem d1_1 : decode method_2_code 1 = .ok (.newarray .char, 2) := by decide +kernel
theorem d1_3 : decode method_2_code 3 = .ok (.astore_n 1, 1) := by decide +kernel
theorem d1_4 : decode method_2_code 4 = .ok (.aload_n 1, 1) := by decide +kernel
theorem d1_5 : decode method_2_code 5 = .ok (.iconst 0, 1) := by decide +kernel
theorem d1_6 : decode method_2_code 6 = .ok (.iload_n 0, 1) := by decide +kernel
theorem d1_7 : decode method_2_code 7 = .ok (.sipush 255, 3) := by decide +kernel
theorem d1_10 : decode method_2_code 10 = .ok (.iand, 1) := by decide +kernel
theorem d1_11 : decode method_2_code 11 = .ok (.i2c, 1) := by decide +kernel
theorem d1_12 : decode method_2_code 12 = .ok (.castore, 1) := by decide +kernel
theorem d1_13 : decode method_2_code 13 = .ok (.aload_n 1, 1) := by decide +kernel
theorem d1_14 : decode method_2_code 14 = .ok (.iconst 1, 1) := by decide +kernel
theorem d1_15 : decode method_2_code 15 = .ok (.iload_n 0, 1) := by decide +kernel
theorem d1_16 : decode method_2_code 16 = .ok (.bipush 8, 2) := by decide +kernel
theorem d1_18 : decode method_2_code 18 = .ok (.iushr, 1) := by decide +kernel
theorem d1_19 : decode method_2_code 19 = .ok (.sipush 255, 3) := by decide +kernel
theorem d1_22 : decode method_2_code 22 = .ok (.iand, 1) := by decide +kernel
theorem d1_23 : decode method_2_code 23 = .ok (.i2c, 1) := by decide +kernel
theorem d1_24 : decode method_2_code 24 = .ok (.castore, 1) := by decide +kernel
theorem d1_25 : decode method_2_code 25 = .ok (.new 7, 3) := by decide +kernel
theorem d1_28 : decode method_2_code 28 = .ok (.dup, 1) := by decide +kernel
theorem d1_29 : decode method_2_code 29 = .ok (.aload_n 1, 1) := by decide +kernel
theorem d1_30 : decode method_2_code 30 = .ok (.invokespecial 9, 3) := by decide +kernel
theorem d1_33 : decode method_2_code 33 = .ok (.areturn, 1) := by decide +kernel
theorem ef1 (m : MethodId) (x0 : Int32)  : entryFrame m #[(.int x0)] 2 = mkF m 0 #[.val (.int x0), .unset] [] := by first | (simp [entryFrame, mkF, argsToLocals, Value.category]; done) | rfl | rfl
set_option maxRecDepth 65536 in
set_option maxHeartbeats 40000000 in
theorem rm1 (l : Launch) (Z : State) (a0 : Array Value) (hw : ∀ d ∈ tables_1, d.before a0 Z = true) (hEL : EW Z a0 EL0) (zc : Int32) (SC : Sta Z Z.heap "java/lang/String" "COMPACT_STRINGS" "Z" (.int zc)) (hzc : ¬ zc = 0) (fm : Value) (SF : Sta Z Z.heap "jdk/internal/util/Preconditions" "SIOOBE_FORMATTER" "Ljava/util/function/BiFunction;" fm) (rfm : fm.isRef = true) (x1 : Int32) (h0 : Heap) {n0 : Nat} (O0 : Old Z n0 h0)  :
    Met l Z EL0 n0 (⟨"com/example/nabu/nabu/NewEventWithContentTypePinLaw", "str", "(I)Ljava/lang/String;"⟩ : MethodName) method_2_code 2 (some (.object "java/lang/String")) [] ({ frames := 4, cells := 3, slots := 8, locals := 66 } : Room) #[(.int x1)] h0 [] [] (fun v h' => ∃ r : Addr, v = some (.ref r) ∧ h0.size ≤ r ∧ Exa Z h' r "java/lang/String") := by
  refine Met.of (plainFor_of_name pn3) O0 ?_
  intro p e s m below meth c T0 hx hby hml hret hlk hnm hs W0
  have W0 : Wk p l e _ s m _ below meth c Z EL0 n0 [] "com/example/nabu/nabu/NewEventWithContentTypePinLaw" [] T0 0 0 h0 := W0
  have hSA := fun d hd => hw d (sa_in d hd)
  have hws := fun d hd => hw d (ws_in d hd)
  refine Go.of (fun _ kk => castTop (ef1 m x1) kk) ?_
  show Go p e below _ (T0.setTop (mkF m 0 #[.val (.int x1), .unset] []))
  refine Go.of (t' := T0.setTop (mkF m 1 #[.val (.int x1), .unset] [(.int (2 : Int32))])) (fun _ kk => XS.iconst W0.here hx rfl (hb hby d1_0) kk) ?_
  refine W0.newP hx (hw _ (List.mem_of_getElem? (i := 4) rfl)) rfl (hb hby d1_1) rfl (by decide +kernel) (cap := 2) (by decide +kernel) (by decide +kernel) (by decide +kernel) (by decide +kernel) (fun T1 h1 b1 c1 eb1 gb1 W1 K1 A1 => ?_)
  have V1 : Arv Z h1 b1 c1 .char (2 : Int32) [(.int (0 : Int32)), (.int (0 : Int32))] (.int (0 : Int32)) := A1
  show Go p e below _ (T1.setTop (mkF m 3 #[.val (.int x1), .unset] [(.ref b1)]))
  refine Go.of (t' := T1.setTop (mkF m 4 #[.val (.int x1), .val (.ref b1)] [])) (fun _ kk => XS.astoreN W1.here hx rfl (hb hby d1_3) rfl rfl (l' := #[.val (.int x1), .val (.ref b1)]) rfl kk) ?_
  refine Go.of (t' := T1.setTop (mkF m 5 #[.val (.int x1), .val (.ref b1)] [(.ref b1)])) (fun _ kk => XS.aloadN W1.here hx rfl (hb hby d1_4) rfl rfl kk) ?_
  refine Go.of (t' := T1.setTop (mkF m 6 #[.val (.int x1), .val (.ref b1)] [(.int (0 : Int32)), (.ref b1)])) (fun _ kk => XS.iconst W1.here hx rfl (hb hby d1_5) kk) ?_
  refine Go.of (t' := T1.setTop (mkF m 7 #[.val (.int x1), .val (.ref b1)] [(.int x1), (.int (0 : Int32)), (.ref b1)])) (fun _ kk => XS.iloadN W1.here hx rfl (hb hby d1_6) rfl kk) ?_
  refine Go.of (t' := T1.setTop (mkF m 10 #[.val (.int x1), .val (.ref b1)] [(.int (255 : Int32)), (.int x1), (.int (0 : Int32)), (.ref b1)])) (fun _ kk => XS.sipush W1.here hx rfl (hb hby d1_7) kk) ?_
  refine Go.of (t' := T1.setTop (mkF m 11 #[.val (.int x1), .val (.ref b1)] [(.int (x1 &&& (255 : Int32))), (.int (0 : Int32)), (.ref b1)])) (fun _ kk => XS.iand W1.here hx rfl (hb hby d1_10) rfl kk) ?_
  refine Go.of (t' := T1.setTop (mkF m 12 #[.val (.int x1), .val (.ref b1)] [(.int ((x1 &&& (255 : Int32)).toUInt32.toUInt16.toUInt32.toInt32)), (.int (0 : Int32)), (.ref b1)])) (fun _ kk => XS.i2c W1.here hx rfl (hb hby d1_11) rfl kk) ?_
  obtain ⟨q2, hq2, cq2, zq2⟩ := char255 x1
  rw [hq2]
  show Go p e below _ (T1.setTop (mkF m 12 #[.val (.int x1), .val (.ref b1)] [(.int q2), (.int (0 : Int32)), (.ref b1)]))
  refine W1.stC hx V1 ⟨by decide, by decide⟩ 0 rfl (Nat.le_of_ble_eq_true rfl) gb1.1 (Or.inr gb1.2) rfl rfl (hb hby d1_12) (fun T3 h3 W3 K3 A3 => ?_)
  have V3 : Arv Z h3 b1 c1 .char (2 : Int32) [(.int q2), (.int (0 : Int32))] (.int (0 : Int32)) := (by rw [(nar_char cq2)] at A3; exact A3)
  show Go p e below _ (T3.setTop (mkF m 13 #[.val (.int x1), .val (.ref b1)] []))
  refine Go.of (t' := T3.setTop (mkF m 14 #[.val (.int x1), .val (.ref b1)] [(.ref b1)])) (fun _ kk => XS.aloadN W3.here hx rfl (hb hby d1_13) rfl rfl kk) ?_
  refine Go.of (t' := T3.setTop (mkF m 15 #[.val (.int x1), .val (.ref b1)] [(.int (1 : Int32)), (.ref b1)])) (fun _ kk => XS.iconst W3.here hx rfl (hb hby d1_14) kk) ?_
  refine Go.of (t' := T3.setTop (mkF m 16 #[.val (.int x1), .val (.ref b1)] [(.int x1), (.int (1 : Int32)), (.ref b1)])) (fun _ kk => XS.iloadN W3.here hx rfl (hb hby d1_15) rfl kk) ?_
  refine Go.of (t' := T3.setTop (mkF m 18 #[.val (.int x1), .val (.ref b1)] [(.int (8 : Int32)), (.int x1), (.int (1 : Int32)), (.ref b1)])) (fun _ kk => XS.bipush W3.here hx rfl (hb hby d1_16) kk) ?_
  refine Go.of (t' := T3.setTop (mkF m 19 #[.val (.int x1), .val (.ref b1)] [(.int ((x1.toUInt32 >>> ((8 : Int32) &&& 31).toUInt32).toInt32)), (.int (1 : Int32)), (.ref b1)])) (fun _ kk => XS.iushr W3.here hx rfl (hb hby d1_18) rfl kk) ?_
  refine Go.of (t' := T3.setTop (mkF m 22 #[.val (.int x1), .val (.ref b1)] [(.int (255 : Int32)), (.int ((x1.toUInt32 >>> ((8 : Int32) &&& 31).toUInt32).toInt32)), (.int (1 : Int32)), (.ref b1)])) (fun _ kk => XS.sipush W3.here hx rfl (hb hby d1_19) kk) ?_
  refine Go.of (t' := T3.setTop (mkF m 23 #[.val (.int x1), .val (.ref b1)] [(.int (((x1.toUInt32 >>> ((8 : Int32) &&& 31).toUInt32).toInt32) &&& (255 : Int32))), (.int (1 : Int32)), (.ref b1)])) (fun _ kk => XS.iand W3.here hx rfl (hb hby d1_22) rfl kk) ?_
  refine Go.of (t' := T3.setTop (mkF m 24 #[.val (.int x1), .val (.ref b1)] [(.int ((((x1.toUInt32 >>> ((8 : Int32) &&& 31).toUInt32).toInt32) &&& (255 : Int32)).toUInt32.toUInt16.toUInt32.toInt32)), (.int (1 : Int32)), (.ref b1)])) (fun _ kk => XS.i2c W3.here hx rfl (hb hby d1_23) rfl kk) ?_
  obtain ⟨q4, hq4, cq4, zq4⟩ := char255 ((x1.toUInt32 >>> ((8 : Int32) &&& 31).toUInt32).toInt32)
  rw [hq4]
  show Go p e below _ (T3.setTop (mkF m 24 #[.val (.int x1), .val (.ref b1)] [(.int q4), (.int (1 : Int32)), (.ref b1)]))
  refine W3.stC hx V3 ⟨by decide, by decide⟩ 1 rfl (Nat.le_of_ble_eq_true rfl) gb1.1 (Or.inr gb1.2) rfl rfl (hb hby d1_24) (fun T5 h5 W5 K5 A5 => ?_)
  have V5 : Arv Z h5 b1 c1 .char (2 : Int32) [(.int q2), (.int q4)] (.int (0 : Int32)) := (by rw [(nar_char cq4)] at A5; exact A5)
  show Go p e below _ (T5.setTop (mkF m 25 #[.val (.int x1), .val (.ref b1)] []))
  refine W5.newO hx (hw _ (List.mem_of_getElem? (i := 5) rfl)) (hw _ (List.mem_of_getElem? (i := 6) rfl)) (hw _ (List.mem_of_getElem? (i := 7) rfl)) rfl (hb hby d1_25) (by decide +kernel) (by decide +kernel) (fun T6 h6 b6 eb6 gb6 W6 K6 E6 D6 => ?_)
  have k7 : Fld Z h6 b6 "java/lang/String" "coder" "B" (.int (0 : Int32)) := D6 (Or.inr (hw _ (List.mem_of_getElem? (i := 31) rfl))) (ty := .byte) (by decide +kernel)
  have k8 : Fld Z h6 b6 "java/lang/String" "value" "[B" .null := D6 (Or.inr (hw _ (List.mem_of_getElem? (i := 33) rfl))) (ty := (.array .byte)) (by decide +kernel)
  show Go p e below _ (T6.setTop (mkF m 28 #[.val (.int x1), .val (.ref b1)] [(.ref b6)]))
  refine Go.of (t' := T6.setTop (mkF m 29 #[.val (.int x1), .val (.ref b1)] [(.ref b6), (.ref b6)])) (fun _ kk => XS.dup W6.here hx rfl (hb hby d1_28) rfl rfl kk) ?_
  refine Go.of (t' := T6.setTop (mkF m 30 #[.val (.int x1), .val (.ref b1)] [(.ref b1), (.ref b6), (.ref b6)])) (fun _ kk => XS.aloadN W6.here hx rfl (hb hby d1_29) rfl rfl kk) ?_
  have k10 := (V5.keep K6 nin0)
  refine W6.newStr hx hws (hw _ (List.mem_of_getElem? (i := 6) rfl)) SC hzc (hw _ (List.mem_of_getElem? (i := 8) rfl)) (hw _ (List.mem_of_getElem? (i := 9) rfl)) (hw _ (List.mem_of_getElem? (i := 10) rfl)) E6 k8 k7 (cs := [q2, q4]) (n := 2) k10 rfl rfl (by decide +kernel) (by decide +kernel) (allSi cq2 (allSi cq4 all0i)) gb6.1 (Or.inr gb6.2) (List.mem_of_getElem? (i := 0) rfl) (by decide +kernel) (Wd := 1) (by decide +kernel) (by decide +kernel) (by decide +kernel) rfl (by rw [hml]; rfl) rfl (by show 2 * 0 + _ ≤ _; exact Nat.le_of_eq rfl) (hb hby d1_30) (fun T9 h9 W9 K9 S9 => ?_)
  show Go p e below _ (T9.setTop (mkF m 33 #[.val (.int x1), .val (.ref b1)] [(.ref b6)]))
  exact W9.retA hx hEL hs hlk (by decide +kernel) (by decide +kernel) hret rfl rfl (hb hby d1_33) ⟨b6, rfl, hs ▸ gb6.2, S9.exa⟩
theorem ef0 (m : MethodId) (x0 : Int32) (x1 : Int32) (x2 : Int32) (x3 : Int32) (x4 : Int32)  : entryFrame m #[(.int x0), (.int x1), (.int x2), (.int x3), (.int x4)] maxLocals = mkF m 0 #[.val (.int x0), .val (.int x1), .val (.int x2), .val (.int x3), .val (.int x4), .unset, .unset, .unset, .unset, .unset, .unset, .unset] [] := by first | (simp [entryFrame, mkF, argsToLocals, Value.category, maxLocals]; done) | rfl | rfl
set_option maxRecDepth 65536 in
set_option maxHeartbeats 40000000 in
theorem rm0 (l : Launch) (Z : State) (a0 : Array Value) (hw : ∀ d ∈ tables_1, d.before a0 Z = true) (hEL : EW Z a0 EL0) (zc : Int32) (SC : Sta Z Z.heap "java/lang/String" "COMPACT_STRINGS" "Z" (.int zc)) (hzc : ¬ zc = 0) (fm : Value) (SF : Sta Z Z.heap "jdk/internal/util/Preconditions" "SIOOBE_FORMATTER" "Ljava/util/function/BiFunction;" fm) (rfm : fm.isRef = true) (i0 : Int32) (i1 : Int32) (i2 : Int32) (i3 : Int32) (i4 : Int32) (h0 : Heap) {n0 : Nat} (O0 : Old Z n0 h0)  :
    Met l Z EL0 n0 x code maxLocals ret tables_1 room_1 #[(.int i0), (.int i1), (.int i2), (.int i3), (.int i4)] h0 [] [] (fun v h' => v = some (.int 1)) := by
  refine Met.of (plainFor_of_name pn3) O0 ?_
  intro p e s m below meth c T0 hx hby hml hret hlk hnm hs W0
  have W0 : Wk p l e _ s m _ below meth c Z EL0 n0 [] "com/example/nabu/nabu/NewEventWithContentTypePinLaw" [] T0 0 0 h0 := W0
  have hSA := fun d hd => hw d (sa_in d hd)
  have hws := fun d hd => hw d (ws_in d hd)
  refine Go.of (fun _ kk => castTop (ef0 m i0 i1 i2 i3 i4) kk) ?_
  show Go p e below _ (T0.setTop (mkF m 0 #[.val (.int i0), .val (.int i1), .val (.int i2), .val (.int i3), .val (.int i4), .unset, .unset, .unset, .unset, .unset, .unset, .unset] []))
  refine Go.of (t' := T0.setTop (mkF m 1 #[.val (.int i0), .val (.int i1), .val (.int i2), .val (.int i3), .val (.int i4), .unset, .unset, .unset, .unset, .unset, .unset, .unset] [(.int i0)])) (fun _ kk => XS.iloadN W0.here hx rfl (hb hby at_0) rfl kk) ?_
  refine W0.callS hx hEL (hw _ (List.mem_of_getElem? (i := 0) rfl)) (hw _ (List.mem_of_getElem? (i := 1) rfl)) (hw _ (List.mem_of_getElem? (i := 2) rfl)) (hw _ (List.mem_of_getElem? (i := 3) rfl)) (by decide +kernel) (argsL := [(.int i0)]) (rest := []) (rm1 l Z a0 hw hEL zc SC hzc fm SF rfm i0 h0 W0.old ) all0 (by decide +kernel) (Wd := 0) (by decide +kernel) (by decide +kernel) (by decide +kernel) all0 rfl (by rw [hml]; rfl) (lenOf pd3 rfl) rfl (by show 2 * 0 + _ ≤ _; exact Nat.le_of_eq rfl) (hb hby at_1) (fun T1 h1 v1 W1 K1 q1 => ?_)
  obtain ⟨r1, rfl, lr1, E1⟩ := q1
  have gr1 : n0 ≤ r1 ∧ s.heap.size ≤ r1 := ⟨Nat.le_trans W0.n0le lr1, Nat.le_trans W0.s0le lr1⟩
  show Go p e below _ (T1.setTop (mkF m 4 #[.val (.int i0), .val (.int i1), .val (.int i2), .val (.int i3), .val (.int i4), .unset, .unset, .unset, .unset, .unset, .unset, .unset] [(.ref r1)]))
  refine Go.of (t' := T1.setTop (mkF m 6 #[.val (.int i0), .val (.int i1), .val (.int i2), .val (.int i3), .val (.int i4), .val (.ref r1), .unset, .unset, .unset, .unset, .unset, .unset] [])) (fun _ kk => XS.astore W1.here hx rfl (hb hby at_4) rfl rfl (l' := #[.val (.int i0), .val (.int i1), .val (.int i2), .val (.int i3), .val (.int i4), .val (.ref r1), .unset, .unset, .unset, .unset, .unset, .unset]) rfl kk) ?_
  refine Go.of (t' := T1.setTop (mkF m 7 #[.val (.int i0), .val (.int i1), .val (.int i2), .val (.int i3), .val (.int i4), .val (.ref r1), .unset, .unset, .unset, .unset, .unset, .unset] [(.int (2 : Int32))])) (fun _ kk => XS.iconst W1.here hx rfl (hb hby at_6) kk) ?_
  refine W1.newP hx (hw _ (List.mem_of_getElem? (i := 23) rfl)) rfl (hb hby at_7) rfl (by decide +kernel) (cap := 2) (by decide +kernel) (by decide +kernel) (by decide +kernel) (by decide +kernel) (fun T2 h2 b2 c2 eb2 gb2 W2 K2 A2 => ?_)
  have V2 : Arv Z h2 b2 c2 .byte (2 : Int32) [(.int (0 : Int32)), (.int (0 : Int32))] (.int (0 : Int32)) := A2
  show Go p e below _ (T2.setTop (mkF m 9 #[.val (.int i0), .val (.int i1), .val (.int i2), .val (.int i3), .val (.int i4), .val (.ref r1), .unset, .unset, .unset, .unset, .unset, .unset] [(.ref b2)]))
  refine Go.of (t' := T2.setTop (mkF m 11 #[.val (.int i0), .val (.int i1), .val (.int i2), .val (.int i3), .val (.int i4), .val (.ref r1), .val (.ref b2), .unset, .unset, .unset, .unset, .unset] [])) (fun _ kk => XS.astore W2.here hx rfl (hb hby at_9) rfl rfl (l' := #[.val (.int i0), .val (.int i1), .val (.int i2), .val (.int i3), .val (.int i4), .val (.ref r1), .val (.ref b2), .unset, .unset, .unset, .unset, .unset]) rfl kk) ?_
  refine Go.of (t' := T2.setTop (mkF m 13 #[.val (.int i0), .val (.int i1), .val (.int i2), .val (.int i3), .val (.int i4), .val (.ref r1), .val (.ref b2), .unset, .unset, .unset, .unset, .unset] [(.ref b2)])) (fun _ kk => XS.aload W2.here hx rfl (hb hby at_11) rfl rfl kk) ?_
  refine Go.of (t' := T2.setTop (mkF m 14 #[.val (.int i0), .val (.int i1), .val (.int i2), .val (.int i3), .val (.int i4), .val (.ref r1), .val (.ref b2), .unset, .unset, .unset, .unset, .unset] [(.int (0 : Int32)), (.ref b2)])) (fun _ kk => XS.iconst W2.here hx rfl (hb hby at_13) kk) ?_
  refine Go.of (t' := T2.setTop (mkF m 15 #[.val (.int i0), .val (.int i1), .val (.int i2), .val (.int i3), .val (.int i4), .val (.ref r1), .val (.ref b2), .unset, .unset, .unset, .unset, .unset] [(.int i1), (.int (0 : Int32)), (.ref b2)])) (fun _ kk => XS.iloadN W2.here hx rfl (hb hby at_14) rfl kk) ?_
  refine Go.of (t' := T2.setTop (mkF m 16 #[.val (.int i0), .val (.int i1), .val (.int i2), .val (.int i3), .val (.int i4), .val (.ref r1), .val (.ref b2), .unset, .unset, .unset, .unset, .unset] [(.int (i1.toInt8.toInt32)), (.int (0 : Int32)), (.ref b2)])) (fun _ kk => XS.i2b W2.here hx rfl (hb hby at_15) rfl kk) ?_
  refine W2.stB hx V2 ⟨by decide, by decide⟩ 0 rfl (Nat.le_of_ble_eq_true rfl) gb2.1 (Or.inr gb2.2) (List.mem_of_getElem? (i := 0) rfl) rfl rfl (hb hby at_16) (fun T3 h3 W3 K3 A3 => ?_)
  have V3 : Arv Z h3 b2 c2 .byte (2 : Int32) [(.int (i1.toInt8.toInt32)), (.int (0 : Int32))] (.int (0 : Int32)) := (by rw [(nar_byte _)] at A3; exact A3)
  show Go p e below _ (T3.setTop (mkF m 17 #[.val (.int i0), .val (.int i1), .val (.int i2), .val (.int i3), .val (.int i4), .val (.ref r1), .val (.ref b2), .unset, .unset, .unset, .unset, .unset] []))
  refine Go.of (t' := T3.setTop (mkF m 19 #[.val (.int i0), .val (.int i1), .val (.int i2), .val (.int i3), .val (.int i4), .val (.ref r1), .val (.ref b2), .unset, .unset, .unset, .unset, .unset] [(.ref b2)])) (fun _ kk => XS.aload W3.here hx rfl (hb hby at_17) rfl rfl kk) ?_
  refine Go.of (t' := T3.setTop (mkF m 20 #[.val (.int i0), .val (.int i1), .val (.int i2), .val (.int i3), .val (.int i4), .val (.ref r1), .val (.ref b2), .unset, .unset, .unset, .unset, .unset] [(.int (1 : Int32)), (.ref b2)])) (fun _ kk => XS.iconst W3.here hx rfl (hb hby at_19) kk) ?_
  refine Go.of (t' := T3.setTop (mkF m 21 #[.val (.int i0), .val (.int i1), .val (.int i2), .val (.int i3), .val (.int i4), .val (.ref r1), .val (.ref b2), .unset, .unset, .unset, .unset, .unset] [(.int i2), (.int (1 : Int32)), (.ref b2)])) (fun _ kk => XS.iloadN W3.here hx rfl (hb hby at_20) rfl kk) ?_
  refine Go.of (t' := T3.setTop (mkF m 22 #[.val (.int i0), .val (.int i1), .val (.int i2), .val (.int i3), .val (.int i4), .val (.ref r1), .val (.ref b2), .unset, .unset, .unset, .unset, .unset] [(.int (i2.toInt8.toInt32)), (.int (1 : Int32)), (.ref b2)])) (fun _ kk => XS.i2b W3.here hx rfl (hb hby at_21) rfl kk) ?_
  refine W3.stB hx V3 ⟨by decide, by decide⟩ 1 rfl (Nat.le_of_ble_eq_true rfl) gb2.1 (Or.inr gb2.2) (List.mem_of_getElem? (i := 0) rfl) rfl rfl (hb hby at_22) (fun T4 h4 W4 K4 A4 => ?_)
  have V4 : Arv Z h4 b2 c2 .byte (2 : Int32) [(.int (i1.toInt8.toInt32)), (.int (i2.toInt8.toInt32))] (.int (0 : Int32)) := (by rw [(nar_byte _)] at A4; exact A4)
  show Go p e below _ (T4.setTop (mkF m 23 #[.val (.int i0), .val (.int i1), .val (.int i2), .val (.int i3), .val (.int i4), .val (.ref r1), .val (.ref b2), .unset, .unset, .unset, .unset, .unset] []))
  refine Go.of (t' := T4.setTop (mkF m 25 #[.val (.int i0), .val (.int i1), .val (.int i2), .val (.int i3), .val (.int i4), .val (.ref r1), .val (.ref b2), .unset, .unset, .unset, .unset, .unset] [(.int i4)])) (fun _ kk => XS.iload W4.here hx rfl (hb hby at_23) rfl kk) ?_
  refine Go.of (t' := T4.setTop (mkF m 26 #[.val (.int i0), .val (.int i1), .val (.int i2), .val (.int i3), .val (.int i4), .val (.ref r1), .val (.ref b2), .unset, .unset, .unset, .unset, .unset] [(.int (1 : Int32)), (.int i4)])) (fun _ kk => XS.iconst W4.here hx rfl (hb hby at_25) kk) ?_
  refine Go.of (t' := T4.setTop (mkF m 27 #[.val (.int i0), .val (.int i1), .val (.int i2), .val (.int i3), .val (.int i4), .val (.ref r1), .val (.ref b2), .unset, .unset, .unset, .unset, .unset] [(.int (i4 &&& (1 : Int32)))])) (fun _ kk => XS.iand W4.here hx rfl (hb hby at_26) rfl kk) ?_
  by_cases c5 : (i4 &&& (1 : Int32)) = (0 : Int32)
  · refine Go.of (t' := T4.setTop (mkF m 34 #[.val (.int i0), .val (.int i1), .val (.int i2), .val (.int i3), .val (.int i4), .val (.ref r1), .val (.ref b2), .unset, .unset, .unset, .unset, .unset] [])) (fun _ kk => XS.ifYes W4.here hx rfl (pc0 := 27) (pc' := 34) rfl (hb hby at_27) rfl (XT.i0_eq_t c5) (by decide +kernel) (by decide +kernel) kk) ?_
    refine Go.of (t' := T4.setTop (mkF m 35 #[.val (.int i0), .val (.int i1), .val (.int i2), .val (.int i3), .val (.int i4), .val (.ref r1), .val (.ref b2), .unset, .unset, .unset, .unset, .unset] [(.int i1)])) (fun _ kk => XS.iloadN W4.here hx rfl (hb hby at_34) rfl kk) ?_
    refine W4.callS hx hEL (hw _ (List.mem_of_getElem? (i := 0) rfl)) (hw _ (List.mem_of_getElem? (i := 1) rfl)) (hw _ (List.mem_of_getElem? (i := 2) rfl)) (hw _ (List.mem_of_getElem? (i := 3) rfl)) (by decide +kernel) (argsL := [(.int i1)]) (rest := []) (rm1 l Z a0 hw hEL zc SC hzc fm SF rfm i1 h4 W4.old ) all0 (by decide +kernel) (Wd := 0) (by decide +kernel) (by decide +kernel) (by decide +kernel) all0 rfl (by rw [hml]; rfl) (lenOf pd3 rfl) rfl (by show 2 * 0 + _ ≤ _; exact Nat.le_of_eq rfl) (hb hby at_35) (fun T6 h6 v6 W6 K6 q6 => ?_)
    obtain ⟨r6, rfl, lr6, E6⟩ := q6
    have gr6 : n0 ≤ r6 ∧ s.heap.size ≤ r6 := ⟨Nat.le_trans W4.n0le lr6, Nat.le_trans W4.s0le lr6⟩
    show Go p e below _ (T6.setTop (mkF m 38 #[.val (.int i0), .val (.int i1), .val (.int i2), .val (.int i3), .val (.int i4), .val (.ref r1), .val (.ref b2), .unset, .unset, .unset, .unset, .unset] [(.ref r6)]))
    refine Go.of (t' := T6.setTop (mkF m 40 #[.val (.int i0), .val (.int i1), .val (.int i2), .val (.int i3), .val (.int i4), .val (.ref r1), .val (.ref b2), .val (.ref r6), .unset, .unset, .unset, .unset] [])) (fun _ kk => XS.astore W6.here hx rfl (hb hby at_38) rfl rfl (l' := #[.val (.int i0), .val (.int i1), .val (.int i2), .val (.int i3), .val (.int i4), .val (.ref r1), .val (.ref b2), .val (.ref r6), .unset, .unset, .unset, .unset]) rfl kk) ?_
    refine Go.of (t' := T6.setTop (mkF m 42 #[.val (.int i0), .val (.int i1), .val (.int i2), .val (.int i3), .val (.int i4), .val (.ref r1), .val (.ref b2), .val (.ref r6), .unset, .unset, .unset, .unset] [(.int i4)])) (fun _ kk => XS.iload W6.here hx rfl (hb hby at_40) rfl kk) ?_
    refine Go.of (t' := T6.setTop (mkF m 43 #[.val (.int i0), .val (.int i1), .val (.int i2), .val (.int i3), .val (.int i4), .val (.ref r1), .val (.ref b2), .val (.ref r6), .unset, .unset, .unset, .unset] [(.int (2 : Int32)), (.int i4)])) (fun _ kk => XS.iconst W6.here hx rfl (hb hby at_42) kk) ?_
    refine Go.of (t' := T6.setTop (mkF m 44 #[.val (.int i0), .val (.int i1), .val (.int i2), .val (.int i3), .val (.int i4), .val (.ref r1), .val (.ref b2), .val (.ref r6), .unset, .unset, .unset, .unset] [(.int (i4 &&& (2 : Int32)))])) (fun _ kk => XS.iand W6.here hx rfl (hb hby at_43) rfl kk) ?_
    by_cases c7 : (i4 &&& (2 : Int32)) = (0 : Int32)
    · refine Go.of (t' := T6.setTop (mkF m 51 #[.val (.int i0), .val (.int i1), .val (.int i2), .val (.int i3), .val (.int i4), .val (.ref r1), .val (.ref b2), .val (.ref r6), .unset, .unset, .unset, .unset] [])) (fun _ kk => XS.ifYes W6.here hx rfl (pc0 := 44) (pc' := 51) rfl (hb hby at_44) rfl (XT.i0_eq_t c7) (by decide +kernel) (by decide +kernel) kk) ?_
      refine Go.of (t' := T6.setTop (mkF m 52 #[.val (.int i0), .val (.int i1), .val (.int i2), .val (.int i3), .val (.int i4), .val (.ref r1), .val (.ref b2), .val (.ref r6), .unset, .unset, .unset, .unset] [(.int i2)])) (fun _ kk => XS.iloadN W6.here hx rfl (hb hby at_51) rfl kk) ?_
      refine W6.callS hx hEL (hw _ (List.mem_of_getElem? (i := 0) rfl)) (hw _ (List.mem_of_getElem? (i := 1) rfl)) (hw _ (List.mem_of_getElem? (i := 2) rfl)) (hw _ (List.mem_of_getElem? (i := 3) rfl)) (by decide +kernel) (argsL := [(.int i2)]) (rest := []) (rm1 l Z a0 hw hEL zc SC hzc fm SF rfm i2 h6 W6.old ) all0 (by decide +kernel) (Wd := 0) (by decide +kernel) (by decide +kernel) (by decide +kernel) all0 rfl (by rw [hml]; rfl) (lenOf pd3 rfl) rfl (by show 2 * 0 + _ ≤ _; exact Nat.le_of_eq rfl) (hb hby at_52) (fun T8 h8 v8 W8 K8 q8 => ?_)
      obtain ⟨r8, rfl, lr8, E8⟩ := q8
      have gr8 : n0 ≤ r8 ∧ s.heap.size ≤ r8 := ⟨Nat.le_trans W6.n0le lr8, Nat.le_trans W6.s0le lr8⟩
      show Go p e below _ (T8.setTop (mkF m 55 #[.val (.int i0), .val (.int i1), .val (.int i2), .val (.int i3), .val (.int i4), .val (.ref r1), .val (.ref b2), .val (.ref r6), .unset, .unset, .unset, .unset] [(.ref r8)]))
      refine Go.of (t' := T8.setTop (mkF m 57 #[.val (.int i0), .val (.int i1), .val (.int i2), .val (.int i3), .val (.int i4), .val (.ref r1), .val (.ref b2), .val (.ref r6), .val (.ref r8), .unset, .unset, .unset] [])) (fun _ kk => XS.astore W8.here hx rfl (hb hby at_55) rfl rfl (l' := #[.val (.int i0), .val (.int i1), .val (.int i2), .val (.int i3), .val (.int i4), .val (.ref r1), .val (.ref b2), .val (.ref r6), .val (.ref r8), .unset, .unset, .unset]) rfl kk) ?_
      refine Go.of (t' := T8.setTop (mkF m 59 #[.val (.int i0), .val (.int i1), .val (.int i2), .val (.int i3), .val (.int i4), .val (.ref r1), .val (.ref b2), .val (.ref r6), .val (.ref r8), .unset, .unset, .unset] [(.int i4)])) (fun _ kk => XS.iload W8.here hx rfl (hb hby at_57) rfl kk) ?_
      refine Go.of (t' := T8.setTop (mkF m 60 #[.val (.int i0), .val (.int i1), .val (.int i2), .val (.int i3), .val (.int i4), .val (.ref r1), .val (.ref b2), .val (.ref r6), .val (.ref r8), .unset, .unset, .unset] [(.int (4 : Int32)), (.int i4)])) (fun _ kk => XS.iconst W8.here hx rfl (hb hby at_59) kk) ?_
      refine Go.of (t' := T8.setTop (mkF m 61 #[.val (.int i0), .val (.int i1), .val (.int i2), .val (.int i3), .val (.int i4), .val (.ref r1), .val (.ref b2), .val (.ref r6), .val (.ref r8), .unset, .unset, .unset] [(.int (i4 &&& (4 : Int32)))])) (fun _ kk => XS.iand W8.here hx rfl (hb hby at_60) rfl kk) ?_
      by_cases c9 : (i4 &&& (4 : Int32)) = (0 : Int32)
      · refine Go.of (t' := T8.setTop (mkF m 68 #[.val (.int i0), .val (.int i1), .val (.int i2), .val (.int i3), .val (.int i4), .val (.ref r1), .val (.ref b2), .val (.ref r6), .val (.ref r8), .unset, .unset, .unset] [])) (fun _ kk => XS.ifYes W8.here hx rfl (pc0 := 61) (pc' := 68) rfl (hb hby at_61) rfl (XT.i0_eq_t c9) (by decide +kernel) (by decide +kernel) kk) ?_
        refine Go.of (t' := T8.setTop (mkF m 69 #[.val (.int i0), .val (.int i1), .val (.int i2), .val (.int i3), .val (.int i4), .val (.ref r1), .val (.ref b2), .val (.ref r6), .val (.ref r8), .unset, .unset, .unset] [(.int i3)])) (fun _ kk => XS.iloadN W8.here hx rfl (hb hby at_68) rfl kk) ?_
        refine W8.callS hx hEL (hw _ (List.mem_of_getElem? (i := 0) rfl)) (hw _ (List.mem_of_getElem? (i := 1) rfl)) (hw _ (List.mem_of_getElem? (i := 2) rfl)) (hw _ (List.mem_of_getElem? (i := 3) rfl)) (by decide +kernel) (argsL := [(.int i3)]) (rest := []) (rm1 l Z a0 hw hEL zc SC hzc fm SF rfm i3 h8 W8.old ) all0 (by decide +kernel) (Wd := 0) (by decide +kernel) (by decide +kernel) (by decide +kernel) all0 rfl (by rw [hml]; rfl) (lenOf pd3 rfl) rfl (by show 2 * 0 + _ ≤ _; exact Nat.le_of_eq rfl) (hb hby at_69) (fun T10 h10 v10 W10 K10 q10 => ?_)
        obtain ⟨r10, rfl, lr10, E10⟩ := q10
        have gr10 : n0 ≤ r10 ∧ s.heap.size ≤ r10 := ⟨Nat.le_trans W8.n0le lr10, Nat.le_trans W8.s0le lr10⟩
        show Go p e below _ (T10.setTop (mkF m 72 #[.val (.int i0), .val (.int i1), .val (.int i2), .val (.int i3), .val (.int i4), .val (.ref r1), .val (.ref b2), .val (.ref r6), .val (.ref r8), .unset, .unset, .unset] [(.ref r10)]))
        refine Go.of (t' := T10.setTop (mkF m 74 #[.val (.int i0), .val (.int i1), .val (.int i2), .val (.int i3), .val (.int i4), .val (.ref r1), .val (.ref b2), .val (.ref r6), .val (.ref r8), .val (.ref r10), .unset, .unset] [])) (fun _ kk => XS.astore W10.here hx rfl (hb hby at_72) rfl rfl (l' := #[.val (.int i0), .val (.int i1), .val (.int i2), .val (.int i3), .val (.int i4), .val (.ref r1), .val (.ref b2), .val (.ref r6), .val (.ref r8), .val (.ref r10), .unset, .unset]) rfl kk) ?_
        refine W10.newO hx (hw _ (List.mem_of_getElem? (i := 34) rfl)) (hw _ (List.mem_of_getElem? (i := 35) rfl)) (hw _ (List.mem_of_getElem? (i := 36) rfl)) rfl (hb hby at_74) (by decide +kernel) (by decide +kernel) (fun T11 h11 b11 eb11 gb11 W11 K11 E11 D11 => ?_)
        have k12 : Fld Z h11 b11 "com/example/nabu/nabu/NewEvent" "type" "Ljava/lang/String;" .null := D11 (Or.inr (hw _ (List.mem_of_getElem? (i := 55) rfl))) (ty := (.object "java/lang/String")) (by decide +kernel)
        have k13 : Fld Z h11 b11 "com/example/nabu/nabu/NewEvent" "body" "[B" .null := D11 (Or.inr (hw _ (List.mem_of_getElem? (i := 57) rfl))) (ty := (.array .byte)) (by decide +kernel)
        have k14 : Fld Z h11 b11 "com/example/nabu/nabu/NewEvent" "contentType" "Ljava/lang/String;" .null := D11 (Or.inr (hw _ (List.mem_of_getElem? (i := 59) rfl))) (ty := (.object "java/lang/String")) (by decide +kernel)
        have k15 : Fld Z h11 b11 "com/example/nabu/nabu/NewEvent" "correlationId" "Ljava/lang/String;" .null := D11 (Or.inr (hw _ (List.mem_of_getElem? (i := 61) rfl))) (ty := (.object "java/lang/String")) (by decide +kernel)
        show Go p e below _ (T11.setTop (mkF m 77 #[.val (.int i0), .val (.int i1), .val (.int i2), .val (.int i3), .val (.int i4), .val (.ref r1), .val (.ref b2), .val (.ref r6), .val (.ref r8), .val (.ref r10), .unset, .unset] [(.ref b11)]))
        refine Go.of (t' := T11.setTop (mkF m 78 #[.val (.int i0), .val (.int i1), .val (.int i2), .val (.int i3), .val (.int i4), .val (.ref r1), .val (.ref b2), .val (.ref r6), .val (.ref r8), .val (.ref r10), .unset, .unset] [(.ref b11), (.ref b11)])) (fun _ kk => XS.dup W11.here hx rfl (hb hby at_77) rfl rfl kk) ?_
        refine Go.of (t' := T11.setTop (mkF m 80 #[.val (.int i0), .val (.int i1), .val (.int i2), .val (.int i3), .val (.int i4), .val (.ref r1), .val (.ref b2), .val (.ref r6), .val (.ref r8), .val (.ref r10), .unset, .unset] [(.ref r1), (.ref b11), (.ref b11)])) (fun _ kk => XS.aload W11.here hx rfl (hb hby at_78) rfl rfl kk) ?_
        refine Go.of (t' := T11.setTop (mkF m 82 #[.val (.int i0), .val (.int i1), .val (.int i2), .val (.int i3), .val (.int i4), .val (.ref r1), .val (.ref b2), .val (.ref r6), .val (.ref r8), .val (.ref r10), .unset, .unset] [(.ref b2), (.ref r1), (.ref b11), (.ref b11)])) (fun _ kk => XS.aload W11.here hx rfl (hb hby at_80) rfl rfl kk) ?_
        refine Go.of (t' := T11.setTop (mkF m 84 #[.val (.int i0), .val (.int i1), .val (.int i2), .val (.int i3), .val (.int i4), .val (.ref r1), .val (.ref b2), .val (.ref r6), .val (.ref r8), .val (.ref r10), .unset, .unset] [(.ref r6), (.ref b2), (.ref r1), (.ref b11), (.ref b11)])) (fun _ kk => XS.aload W11.here hx rfl (hb hby at_82) rfl rfl kk) ?_
        refine Go.of (t' := T11.setTop (mkF m 86 #[.val (.int i0), .val (.int i1), .val (.int i2), .val (.int i3), .val (.int i4), .val (.ref r1), .val (.ref b2), .val (.ref r6), .val (.ref r8), .val (.ref r10), .unset, .unset] [(.ref r8), (.ref r6), (.ref b2), (.ref r1), (.ref b11), (.ref b11)])) (fun _ kk => XS.aload W11.here hx rfl (hb hby at_84) rfl rfl kk) ?_
        refine W11.callP hx hEL rfl (hw _ (List.mem_of_getElem? (i := 37) rfl)) (hw _ (List.mem_of_getElem? (i := 38) rfl)) (hw _ (List.mem_of_getElem? (i := 36) rfl)) (hw _ (List.mem_of_getElem? (i := 39) rfl)) (by decide +kernel) (a := b11) (argsL := [(.ref r1), (.ref b2), (.ref r6), (.ref r8)]) (rest := [(.ref b11)]) (rm4 l Z a0 hw hEL zc SC hzc fm SF rfm b11 r1 b2 (.ref r6) (.ref r8) rfl rfl h11 W11.old E11 k12 k13 k14 k15 gb11.1) all0 (by decide +kernel) (Wd := 1) (by decide +kernel) (by decide +kernel) (by decide +kernel) (allS ⟨gb11.1, (Or.inr gb11.2)⟩ all0) rfl (by rw [hml]; rfl) (lenOf pd2 rfl) rfl (by show 2 * 0 + _ ≤ _; exact Nat.le_of_eq rfl) (hb hby at_86) (fun T16 h16 v16 W16 K16 q16 => ?_)
        obtain ⟨rfl, Ftype16, Fbody16, Fcont16, Fcorr16⟩ := q16
        show Go p e below _ (T16.setTop (mkF m 89 #[.val (.int i0), .val (.int i1), .val (.int i2), .val (.int i3), .val (.int i4), .val (.ref r1), .val (.ref b2), .val (.ref r6), .val (.ref r8), .val (.ref r10), .unset, .unset] [(.ref b11)]))
        refine Go.of (t' := T16.setTop (mkF m 91 #[.val (.int i0), .val (.int i1), .val (.int i2), .val (.int i3), .val (.int i4), .val (.ref r1), .val (.ref b2), .val (.ref r6), .val (.ref r8), .val (.ref r10), .val (.ref b11), .unset] [])) (fun _ kk => XS.astore W16.here hx rfl (hb hby at_89) rfl rfl (l' := #[.val (.int i0), .val (.int i1), .val (.int i2), .val (.int i3), .val (.int i4), .val (.ref r1), .val (.ref b2), .val (.ref r6), .val (.ref r8), .val (.ref r10), .val (.ref b11), .unset]) rfl kk) ?_
        refine Go.of (t' := T16.setTop (mkF m 93 #[.val (.int i0), .val (.int i1), .val (.int i2), .val (.int i3), .val (.int i4), .val (.ref r1), .val (.ref b2), .val (.ref r6), .val (.ref r8), .val (.ref r10), .val (.ref b11), .unset] [(.ref b11)])) (fun _ kk => XS.aload W16.here hx rfl (hb hby at_91) rfl rfl kk) ?_
        refine Go.of (t' := T16.setTop (mkF m 95 #[.val (.int i0), .val (.int i1), .val (.int i2), .val (.int i3), .val (.int i4), .val (.ref r1), .val (.ref b2), .val (.ref r6), .val (.ref r8), .val (.ref r10), .val (.ref b11), .unset] [(.ref r10), (.ref b11)])) (fun _ kk => XS.aload W16.here hx rfl (hb hby at_93) rfl rfl kk) ?_
        have k18 := (E11.keep K16)
        refine W16.callV hx hEL (hw _ (List.mem_of_getElem? (i := 62) rfl)) (hw _ (List.mem_of_getElem? (i := 63) rfl)) (hw _ (List.mem_of_getElem? (i := 65) rfl)) (hw _ (List.mem_of_getElem? (i := 64) rfl)) (hw _ (List.mem_of_getElem? (i := 36) rfl)) (hw _ (List.mem_of_getElem? (i := 66) rfl)) (by decide +kernel) k18 (a := b11) (argsL := [(.ref r10)]) (rest := []) (rm5 l Z a0 hw hEL zc SC hzc fm SF rfm b11 (.ref r10) rfl r1 b2 (.ref r8) rfl h16 W16.old Ftype16 Fbody16 Fcorr16) all0 (by decide +kernel) (Wd := 0) (by decide +kernel) (by decide +kernel) (by decide +kernel) all0 rfl (by rw [hml]; rfl) (lenOf pd4 rfl) rfl (by show 2 * 0 + _ ≤ _; exact Nat.le_of_eq rfl) (hb hby at_95) (fun T17 h17 v17 W17 K17 q17 => ?_)
        obtain ⟨r17, rfl, lr17, E17, Ftype17, Fbody17, Fcont17, Fcorr17⟩ := q17
        have gr17 : n0 ≤ r17 ∧ s.heap.size ≤ r17 := ⟨Nat.le_trans W16.n0le lr17, Nat.le_trans W16.s0le lr17⟩
        show Go p e below _ (T17.setTop (mkF m 98 #[.val (.int i0), .val (.int i1), .val (.int i2), .val (.int i3), .val (.int i4), .val (.ref r1), .val (.ref b2), .val (.ref r6), .val (.ref r8), .val (.ref r10), .val (.ref b11), .unset] [(.ref r17)]))
        refine Go.of (t' := T17.setTop (mkF m 100 #[.val (.int i0), .val (.int i1), .val (.int i2), .val (.int i3), .val (.int i4), .val (.ref r1), .val (.ref b2), .val (.ref r6), .val (.ref r8), .val (.ref r10), .val (.ref b11), .val (.ref r17)] [])) (fun _ kk => XS.astore W17.here hx rfl (hb hby at_98) rfl rfl (l' := #[.val (.int i0), .val (.int i1), .val (.int i2), .val (.int i3), .val (.int i4), .val (.ref r1), .val (.ref b2), .val (.ref r6), .val (.ref r8), .val (.ref r10), .val (.ref b11), .val (.ref r17)]) rfl kk) ?_
        refine Go.of (t' := T17.setTop (mkF m 102 #[.val (.int i0), .val (.int i1), .val (.int i2), .val (.int i3), .val (.int i4), .val (.ref r1), .val (.ref b2), .val (.ref r6), .val (.ref r8), .val (.ref r10), .val (.ref b11), .val (.ref r17)] [(.ref r17)])) (fun _ kk => XS.aload W17.here hx rfl (hb hby at_100) rfl rfl kk) ?_
        refine Go.of (t' := T17.setTop (mkF m 107 #[.val (.int i0), .val (.int i1), .val (.int i2), .val (.int i3), .val (.int i4), .val (.ref r1), .val (.ref b2), .val (.ref r6), .val (.ref r8), .val (.ref r10), .val (.ref b11), .val (.ref r17)] [])) (fun _ kk => XS.ifnonnullYes W17.here hx rfl (pc0 := 102) (pc' := 107) rfl (hb hby at_102) rfl (by decide +kernel) (by decide +kernel) kk) ?_
        refine Go.of (t' := T17.setTop (mkF m 109 #[.val (.int i0), .val (.int i1), .val (.int i2), .val (.int i3), .val (.int i4), .val (.ref r1), .val (.ref b2), .val (.ref r6), .val (.ref r8), .val (.ref r10), .val (.ref b11), .val (.ref r17)] [(.ref r17)])) (fun _ kk => XS.aload W17.here hx rfl (hb hby at_107) rfl rfl kk) ?_
        refine W17.callV hx hEL (hw _ (List.mem_of_getElem? (i := 69) rfl)) (hw _ (List.mem_of_getElem? (i := 70) rfl)) (hw _ (List.mem_of_getElem? (i := 72) rfl)) (hw _ (List.mem_of_getElem? (i := 71) rfl)) (hw _ (List.mem_of_getElem? (i := 36) rfl)) (hw _ (List.mem_of_getElem? (i := 73) rfl)) (by decide +kernel) E17 (a := r17) (argsL := []) (rest := []) (rm6 l Z a0 hw hEL zc SC hzc fm SF rfm r17 (.ref r1) rfl h17 W17.old Ftype17) all0 (by decide +kernel) (Wd := 0) (by decide +kernel) (by decide +kernel) (by decide +kernel) all0 rfl (by rw [hml]; rfl) (lenOf pd5 rfl) rfl (by show 2 * 0 + _ ≤ _; exact Nat.le_of_eq rfl) (hb hby at_109) (fun T19 h19 v19 W19 K19 q19 => ?_)
        obtain ⟨rfl, rfl⟩ := q19
        show Go p e below _ (T19.setTop (mkF m 112 #[.val (.int i0), .val (.int i1), .val (.int i2), .val (.int i3), .val (.int i4), .val (.ref r1), .val (.ref b2), .val (.ref r6), .val (.ref r8), .val (.ref r10), .val (.ref b11), .val (.ref r17)] [(.ref r1)]))
        refine Go.of (t' := T19.setTop (mkF m 114 #[.val (.int i0), .val (.int i1), .val (.int i2), .val (.int i3), .val (.int i4), .val (.ref r1), .val (.ref b2), .val (.ref r6), .val (.ref r8), .val (.ref r10), .val (.ref b11), .val (.ref r17)] [(.ref r1), (.ref r1)])) (fun _ kk => XS.aload W19.here hx rfl (hb hby at_112) rfl rfl kk) ?_
        refine Go.of (t' := T19.setTop (mkF m 117 #[.val (.int i0), .val (.int i1), .val (.int i2), .val (.int i3), .val (.int i4), .val (.ref r1), .val (.ref b2), .val (.ref r6), .val (.ref r8), .val (.ref r10), .val (.ref b11), .val (.ref r17)] [])) (fun _ kk => XT.acmpNo (g := (mkF m 114 #[.val (.int i0), .val (.int i1), .val (.int i2), .val (.int i3), .val (.int i4), .val (.ref r1), .val (.ref b2), .val (.ref r6), .val (.ref r8), .val (.ref r10), .val (.ref b11), .val (.ref r17)] [(.ref r1), (.ref r1)])) W19.here hx rfl (hb hby at_114) (x := (.ref r1)) (y := (.ref r1)) (rest := []) rfl rfl rfl (XT.aa_ne_f (x := (.ref r1)) (y := (.ref r1)) rfl) kk) ?_
        refine Go.of (t' := T19.setTop (mkF m 119 #[.val (.int i0), .val (.int i1), .val (.int i2), .val (.int i3), .val (.int i4), .val (.ref r1), .val (.ref b2), .val (.ref r6), .val (.ref r8), .val (.ref r10), .val (.ref b11), .val (.ref r17)] [(.ref r17)])) (fun _ kk => XS.aload W19.here hx rfl (hb hby at_117) rfl rfl kk) ?_
        refine W19.callV hx hEL (hw _ (List.mem_of_getElem? (i := 74) rfl)) (hw _ (List.mem_of_getElem? (i := 75) rfl)) (hw _ (List.mem_of_getElem? (i := 77) rfl)) (hw _ (List.mem_of_getElem? (i := 76) rfl)) (hw _ (List.mem_of_getElem? (i := 36) rfl)) (hw _ (List.mem_of_getElem? (i := 78) rfl)) (by decide +kernel) E17 (a := r17) (argsL := []) (rest := []) (rm7 l Z a0 hw hEL zc SC hzc fm SF rfm r17 (.ref b2) rfl h17 W19.old Fbody17) all0 (by decide +kernel) (Wd := 0) (by decide +kernel) (by decide +kernel) (by decide +kernel) all0 rfl (by rw [hml]; rfl) (lenOf pd6 rfl) rfl (by show 2 * 0 + _ ≤ _; exact Nat.le_of_eq rfl) (hb hby at_119) (fun T20 h20 v20 W20 K20 q20 => ?_)
        obtain ⟨rfl, rfl⟩ := q20
        show Go p e below _ (T20.setTop (mkF m 122 #[.val (.int i0), .val (.int i1), .val (.int i2), .val (.int i3), .val (.int i4), .val (.ref r1), .val (.ref b2), .val (.ref r6), .val (.ref r8), .val (.ref r10), .val (.ref b11), .val (.ref r17)] [(.ref b2)]))
        refine Go.of (t' := T20.setTop (mkF m 124 #[.val (.int i0), .val (.int i1), .val (.int i2), .val (.int i3), .val (.int i4), .val (.ref r1), .val (.ref b2), .val (.ref r6), .val (.ref r8), .val (.ref r10), .val (.ref b11), .val (.ref r17)] [(.ref b2), (.ref b2)])) (fun _ kk => XS.aload W20.here hx rfl (hb hby at_122) rfl rfl kk) ?_
        refine Go.of (t' := T20.setTop (mkF m 127 #[.val (.int i0), .val (.int i1), .val (.int i2), .val (.int i3), .val (.int i4), .val (.ref r1), .val (.ref b2), .val (.ref r6), .val (.ref r8), .val (.ref r10), .val (.ref b11), .val (.ref r17)] [])) (fun _ kk => XT.acmpNo (g := (mkF m 124 #[.val (.int i0), .val (.int i1), .val (.int i2), .val (.int i3), .val (.int i4), .val (.ref r1), .val (.ref b2), .val (.ref r6), .val (.ref r8), .val (.ref r10), .val (.ref b11), .val (.ref r17)] [(.ref b2), (.ref b2)])) W20.here hx rfl (hb hby at_124) (x := (.ref b2)) (y := (.ref b2)) (rest := []) rfl rfl rfl (XT.aa_ne_f (x := (.ref b2)) (y := (.ref b2)) rfl) kk) ?_
        refine Go.of (t' := T20.setTop (mkF m 129 #[.val (.int i0), .val (.int i1), .val (.int i2), .val (.int i3), .val (.int i4), .val (.ref r1), .val (.ref b2), .val (.ref r6), .val (.ref r8), .val (.ref r10), .val (.ref b11), .val (.ref r17)] [(.ref r17)])) (fun _ kk => XS.aload W20.here hx rfl (hb hby at_127) rfl rfl kk) ?_
        refine W20.callV hx hEL (hw _ (List.mem_of_getElem? (i := 79) rfl)) (hw _ (List.mem_of_getElem? (i := 80) rfl)) (hw _ (List.mem_of_getElem? (i := 82) rfl)) (hw _ (List.mem_of_getElem? (i := 81) rfl)) (hw _ (List.mem_of_getElem? (i := 36) rfl)) (hw _ (List.mem_of_getElem? (i := 83) rfl)) (by decide +kernel) E17 (a := r17) (argsL := []) (rest := []) (rm8 l Z a0 hw hEL zc SC hzc fm SF rfm r17 (.ref r10) rfl h17 W20.old Fcont17) all0 (by decide +kernel) (Wd := 0) (by decide +kernel) (by decide +kernel) (by decide +kernel) all0 rfl (by rw [hml]; rfl) (lenOf pd5 rfl) rfl (by show 2 * 0 + _ ≤ _; exact Nat.le_of_eq rfl) (hb hby at_129) (fun T21 h21 v21 W21 K21 q21 => ?_)
        obtain ⟨rfl, rfl⟩ := q21
        show Go p e below _ (T21.setTop (mkF m 132 #[.val (.int i0), .val (.int i1), .val (.int i2), .val (.int i3), .val (.int i4), .val (.ref r1), .val (.ref b2), .val (.ref r6), .val (.ref r8), .val (.ref r10), .val (.ref b11), .val (.ref r17)] [(.ref r10)]))
        refine Go.of (t' := T21.setTop (mkF m 134 #[.val (.int i0), .val (.int i1), .val (.int i2), .val (.int i3), .val (.int i4), .val (.ref r1), .val (.ref b2), .val (.ref r6), .val (.ref r8), .val (.ref r10), .val (.ref b11), .val (.ref r17)] [(.ref r10), (.ref r10)])) (fun _ kk => XS.aload W21.here hx rfl (hb hby at_132) rfl rfl kk) ?_
        refine Go.of (t' := T21.setTop (mkF m 137 #[.val (.int i0), .val (.int i1), .val (.int i2), .val (.int i3), .val (.int i4), .val (.ref r1), .val (.ref b2), .val (.ref r6), .val (.ref r8), .val (.ref r10), .val (.ref b11), .val (.ref r17)] [])) (fun _ kk => XT.acmpNo (g := (mkF m 134 #[.val (.int i0), .val (.int i1), .val (.int i2), .val (.int i3), .val (.int i4), .val (.ref r1), .val (.ref b2), .val (.ref r6), .val (.ref r8), .val (.ref r10), .val (.ref b11), .val (.ref r17)] [(.ref r10), (.ref r10)])) W21.here hx rfl (hb hby at_134) (x := (.ref r10)) (y := (.ref r10)) (rest := []) rfl rfl rfl (XT.aa_ne_f (x := (.ref r10)) (y := (.ref r10)) rfl) kk) ?_
        refine Go.of (t' := T21.setTop (mkF m 139 #[.val (.int i0), .val (.int i1), .val (.int i2), .val (.int i3), .val (.int i4), .val (.ref r1), .val (.ref b2), .val (.ref r6), .val (.ref r8), .val (.ref r10), .val (.ref b11), .val (.ref r17)] [(.ref r17)])) (fun _ kk => XS.aload W21.here hx rfl (hb hby at_137) rfl rfl kk) ?_
        refine W21.callV hx hEL (hw _ (List.mem_of_getElem? (i := 84) rfl)) (hw _ (List.mem_of_getElem? (i := 85) rfl)) (hw _ (List.mem_of_getElem? (i := 87) rfl)) (hw _ (List.mem_of_getElem? (i := 86) rfl)) (hw _ (List.mem_of_getElem? (i := 36) rfl)) (hw _ (List.mem_of_getElem? (i := 88) rfl)) (by decide +kernel) E17 (a := r17) (argsL := []) (rest := []) (rm9 l Z a0 hw hEL zc SC hzc fm SF rfm r17 (.ref r8) rfl h17 W21.old Fcorr17) all0 (by decide +kernel) (Wd := 0) (by decide +kernel) (by decide +kernel) (by decide +kernel) all0 rfl (by rw [hml]; rfl) (lenOf pd5 rfl) rfl (by show 2 * 0 + _ ≤ _; exact Nat.le_of_eq rfl) (hb hby at_139) (fun T22 h22 v22 W22 K22 q22 => ?_)
        obtain ⟨rfl, rfl⟩ := q22
        show Go p e below _ (T22.setTop (mkF m 142 #[.val (.int i0), .val (.int i1), .val (.int i2), .val (.int i3), .val (.int i4), .val (.ref r1), .val (.ref b2), .val (.ref r6), .val (.ref r8), .val (.ref r10), .val (.ref b11), .val (.ref r17)] [(.ref r8)]))
        refine Go.of (t' := T22.setTop (mkF m 144 #[.val (.int i0), .val (.int i1), .val (.int i2), .val (.int i3), .val (.int i4), .val (.ref r1), .val (.ref b2), .val (.ref r6), .val (.ref r8), .val (.ref r10), .val (.ref b11), .val (.ref r17)] [(.ref r8), (.ref r8)])) (fun _ kk => XS.aload W22.here hx rfl (hb hby at_142) rfl rfl kk) ?_
        refine Go.of (t' := T22.setTop (mkF m 147 #[.val (.int i0), .val (.int i1), .val (.int i2), .val (.int i3), .val (.int i4), .val (.ref r1), .val (.ref b2), .val (.ref r6), .val (.ref r8), .val (.ref r10), .val (.ref b11), .val (.ref r17)] [])) (fun _ kk => XT.acmpNo (g := (mkF m 144 #[.val (.int i0), .val (.int i1), .val (.int i2), .val (.int i3), .val (.int i4), .val (.ref r1), .val (.ref b2), .val (.ref r6), .val (.ref r8), .val (.ref r10), .val (.ref b11), .val (.ref r17)] [(.ref r8), (.ref r8)])) W22.here hx rfl (hb hby at_144) (x := (.ref r8)) (y := (.ref r8)) (rest := []) rfl rfl rfl (XT.aa_ne_f (x := (.ref r8)) (y := (.ref r8)) rfl) kk) ?_
        refine Go.of (t' := T22.setTop (mkF m 148 #[.val (.int i0), .val (.int i1), .val (.int i2), .val (.int i3), .val (.int i4), .val (.ref r1), .val (.ref b2), .val (.ref r6), .val (.ref r8), .val (.ref r10), .val (.ref b11), .val (.ref r17)] [(.int (1 : Int32))])) (fun _ kk => XS.iconst W22.here hx rfl (hb hby at_147) kk) ?_
        refine Go.of (t' := T22.setTop (mkF m 152 #[.val (.int i0), .val (.int i1), .val (.int i2), .val (.int i3), .val (.int i4), .val (.ref r1), .val (.ref b2), .val (.ref r6), .val (.ref r8), .val (.ref r10), .val (.ref b11), .val (.ref r17)] [(.int (1 : Int32))])) (fun _ kk => XS.goto W22.here hx rfl (pc0 := 148) (pc' := 152) rfl (hb hby at_148) (by decide +kernel) (by decide +kernel) kk) ?_
        exact W22.retI hx hEL hs hlk (by decide +kernel) (by decide +kernel) hret (by simp) rfl (hb hby at_152) rfl
      · refine Go.of (t' := T8.setTop (mkF m 64 #[.val (.int i0), .val (.int i1), .val (.int i2), .val (.int i3), .val (.int i4), .val (.ref r1), .val (.ref b2), .val (.ref r6), .val (.ref r8), .unset, .unset, .unset] [])) (fun _ kk => XS.ifNo W8.here hx rfl (hb hby at_61) rfl (XT.i0_eq_f c9) kk) ?_
        refine Go.of (t' := T8.setTop (mkF m 65 #[.val (.int i0), .val (.int i1), .val (.int i2), .val (.int i3), .val (.int i4), .val (.ref r1), .val (.ref b2), .val (.ref r6), .val (.ref r8), .unset, .unset, .unset] [.null])) (fun _ kk => XS.aconstNull W8.here hx rfl (hb hby at_64) kk) ?_
        refine Go.of (t' := T8.setTop (mkF m 72 #[.val (.int i0), .val (.int i1), .val (.int i2), .val (.int i3), .val (.int i4), .val (.ref r1), .val (.ref b2), .val (.ref r6), .val (.ref r8), .unset, .unset, .unset] [.null])) (fun _ kk => XS.goto W8.here hx rfl (pc0 := 65) (pc' := 72) rfl (hb hby at_65) (by decide +kernel) (by decide +kernel) kk) ?_
        refine Go.of (t' := T8.setTop (mkF m 74 #[.val (.int i0), .val (.int i1), .val (.int i2), .val (.int i3), .val (.int i4), .val (.ref r1), .val (.ref b2), .val (.ref r6), .val (.ref r8), .val .null, .unset, .unset] [])) (fun _ kk => XS.astore W8.here hx rfl (hb hby at_72) rfl rfl (l' := #[.val (.int i0), .val (.int i1), .val (.int i2), .val (.int i3), .val (.int i4), .val (.ref r1), .val (.ref b2), .val (.ref r6), .val (.ref r8), .val .null, .unset, .unset]) rfl kk) ?_
        refine W8.newO hx (hw _ (List.mem_of_getElem? (i := 34) rfl)) (hw _ (List.mem_of_getElem? (i := 35) rfl)) (hw _ (List.mem_of_getElem? (i := 36) rfl)) rfl (hb hby at_74) (by decide +kernel) (by decide +kernel) (fun T23 h23 b23 eb23 gb23 W23 K23 E23 D23 => ?_)
        have k24 : Fld Z h23 b23 "com/example/nabu/nabu/NewEvent" "type" "Ljava/lang/String;" .null := D23 (Or.inr (hw _ (List.mem_of_getElem? (i := 55) rfl))) (ty := (.object "java/lang/String")) (by decide +kernel)
        have k25 : Fld Z h23 b23 "com/example/nabu/nabu/NewEvent" "body" "[B" .null := D23 (Or.inr (hw _ (List.mem_of_getElem? (i := 57) rfl))) (ty := (.array .byte)) (by decide +kernel)
        have k26 : Fld Z h23 b23 "com/example/nabu/nabu/NewEvent" "contentType" "Ljava/lang/String;" .null := D23 (Or.inr (hw _ (List.mem_of_getElem? (i := 59) rfl))) (ty := (.object "java/lang/String")) (by decide +kernel)
        have k27 : Fld Z h23 b23 "com/example/nabu/nabu/NewEvent" "correlationId" "Ljava/lang/String;" .null := D23 (Or.inr (hw _ (List.mem_of_getElem? (i := 61) rfl))) (ty := (.object "java/lang/String")) (by decide +kernel)
        show Go p e below _ (T23.setTop (mkF m 77 #[.val (.int i0), .val (.int i1), .val (.int i2), .val (.int i3), .val (.int i4), .val (.ref r1), .val (.ref b2), .val (.ref r6), .val (.ref r8), .val .null, .unset, .unset] [(.ref b23)]))
        refine Go.of (t' := T23.setTop (mkF m 78 #[.val (.int i0), .val (.int i1), .val (.int i2), .val (.int i3), .val (.int i4), .val (.ref r1), .val (.ref b2), .val (.ref r6), .val (.ref r8), .val .null, .unset, .unset] [(.ref b23), (.ref b23)])) (fun _ kk => XS.dup W23.here hx rfl (hb hby at_77) rfl rfl kk) ?_
        refine Go.of (t' := T23.setTop (mkF m 80 #[.val (.int i0), .val (.int i1), .val (.int i2), .val (.int i3), .val (.int i4), .val (.ref r1), .val (.ref b2), .val (.ref r6), .val (.ref r8), .val .null, .unset, .unset] [(.ref r1), (.ref b23), (.ref b23)])) (fun _ kk => XS.aload W23.here hx rfl (hb hby at_78) rfl rfl kk) ?_
        refine Go.of (t' := T23.setTop (mkF m 82 #[.val (.int i0), .val (.int i1), .val (.int i2), .val (.int i3), .val (.int i4), .val (.ref r1), .val (.ref b2), .val (.ref r6), .val (.ref r8), .val .null, .unset, .unset] [(.ref b2), (.ref r1), (.ref b23), (.ref b23)])) (fun _ kk => XS.aload W23.here hx rfl (hb hby at_80) rfl rfl kk) ?_
        refine Go.of (t' := T23.setTop (mkF m 84 #[.val (.int i0), .val (.int i1), .val (.int i2), .val (.int i3), .val (.int i4), .val (.ref r1), .val (.ref b2), .val (.ref r6), .val (.ref r8), .val .null, .unset, .unset] [(.ref r6), (.ref b2), (.ref r1), (.ref b23), (.ref b23)])) (fun _ kk => XS.aload W23.here hx rfl (hb hby at_82) rfl rfl kk) ?_
        refine Go.of (t' := T23.setTop (mkF m 86 #[.val (.int i0), .val (.int i1), .val (.int i2), .val (.int i3), .val (.int i4), .val (.ref r1), .val (.ref b2), .val (.ref r6), .val (.ref r8), .val .null, .unset, .unset] [(.ref r8), (.ref r6), (.ref b2), (.ref r1), (.ref b23), (.ref b23)])) (fun _ kk => XS.aload W23.here hx rfl (hb hby at_84) rfl rfl kk) ?_
        refine W23.callP hx hEL rfl (hw _ (List.mem_of_getElem? (i := 37) rfl)) (hw _ (List.mem_of_getElem? (i := 38) rfl)) (hw _ (List.mem_of_getElem? (i := 36) rfl)) (hw _ (List.mem_of_getElem? (i := 39) rfl)) (by decide +kernel) (a := b23) (argsL := [(.ref r1), (.ref b2), (.ref r6), (.ref r8)]) (rest := [(.ref b23)]) (rm4 l Z a0 hw hEL zc SC hzc fm SF rfm b23 r1 b2 (.ref r6) (.ref r8) rfl rfl h23 W23.old E23 k24 k25 k26 k27 gb23.1) all0 (by decide +kernel) (Wd := 1) (by decide +kernel) (by decide +kernel) (by decide +kernel) (allS ⟨gb23.1, (Or.inr gb23.2)⟩ all0) rfl (by rw [hml]; rfl) (lenOf pd2 rfl) rfl (by show 2 * 0 + _ ≤ _; exact Nat.le_of_eq rfl) (hb hby at_86) (fun T28 h28 v28 W28 K28 q28 => ?_)
        obtain ⟨rfl, Ftype28, Fbody28, Fcont28, Fcorr28⟩ := q28
        show Go p e below _ (T28.setTop (mkF m 89 #[.val (.int i0), .val (.int i1), .val (.int i2), .val (.int i3), .val (.int i4), .val (.ref r1), .val (.ref b2), .val (.ref r6), .val (.ref r8), .val .null, .unset, .unset] [(.ref b23)]))
        refine Go.of (t' := T28.setTop (mkF m 91 #[.val (.int i0), .val (.int i1), .val (.int i2), .val (.int i3), .val (.int i4), .val (.ref r1), .val (.ref b2), .val (.ref r6), .val (.ref r8), .val .null, .val (.ref b23), .unset] [])) (fun _ kk => XS.astore W28.here hx rfl (hb hby at_89) rfl rfl (l' := #[.val (.int i0), .val (.int i1), .val (.int i2), .val (.int i3), .val (.int i4), .val (.ref r1), .val (.ref b2), .val (.ref r6), .val (.ref r8), .val .null, .val (.ref b23), .unset]) rfl kk) ?_
        refine Go.of (t' := T28.setTop (mkF m 93 #[.val (.int i0), .val (.int i1), .val (.int i2), .val (.int i3), .val (.int i4), .val (.ref r1), .val (.ref b2), .val (.ref r6), .val (.ref r8), .val .null, .val (.ref b23), .unset] [(.ref b23)])) (fun _ kk => XS.aload W28.here hx rfl (hb hby at_91) rfl rfl kk) ?_
        refine Go.of (t' := T28.setTop (mkF m 95 #[.val (.int i0), .val (.int i1), .val (.int i2), .val (.int i3), .val (.int i4), .val (.ref r1), .val (.ref b2), .val (.ref r6), .val (.ref r8), .val .null, .val (.ref b23), .unset] [.null, (.ref b23)])) (fun _ kk => XS.aload W28.here hx rfl (hb hby at_93) rfl rfl kk) ?_
        have k30 := (E23.keep K28)
        refine W28.callV hx hEL (hw _ (List.mem_of_getElem? (i := 62) rfl)) (hw _ (List.mem_of_getElem? (i := 63) rfl)) (hw _ (List.mem_of_getElem? (i := 65) rfl)) (hw _ (List.mem_of_getElem? (i := 64) rfl)) (hw _ (List.mem_of_getElem? (i := 36) rfl)) (hw _ (List.mem_of_getElem? (i := 66) rfl)) (by decide +kernel) k30 (a := b23) (argsL := [.null]) (rest := []) (rm5 l Z a0 hw hEL zc SC hzc fm SF rfm b23 .null rfl r1 b2 (.ref r8) rfl h28 W28.old Ftype28 Fbody28 Fcorr28) all0 (by decide +kernel) (Wd := 0) (by decide +kernel) (by decide +kernel) (by decide +kernel) all0 rfl (by rw [hml]; rfl) (lenOf pd4 rfl) rfl (by show 2 * 0 + _ ≤ _; exact Nat.le_of_eq rfl) (hb hby at_95) (fun T29 h29 v29 W29 K29 q29 => ?_)
        obtain ⟨r29, rfl, lr29, E29, Ftype29, Fbody29, Fcont29, Fcorr29⟩ := q29
        have gr29 : n0 ≤ r29 ∧ s.heap.size ≤ r29 := ⟨Nat.le_trans W28.n0le lr29, Nat.le_trans W28.s0le lr29⟩
        show Go p e below _ (T29.setTop (mkF m 98 #[.val (.int i0), .val (.int i1), .val (.int i2), .val (.int i3), .val (.int i4), .val (.ref r1), .val (.ref b2), .val (.ref r6), .val (.ref r8), .val .null, .val (.ref b23), .unset] [(.ref r29)]))
        refine Go.of (t' := T29.setTop (mkF m 100 #[.val (.int i0), .val (.int i1), .val (.int i2), .val (.int i3), .val (.int i4), .val (.ref r1), .val (.ref b2), .val (.ref r6), .val (.ref r8), .val .null, .val (.ref b23), .val (.ref r29)] [])) (fun _ kk => XS.astore W29.here hx rfl (hb hby at_98) rfl rfl (l' := #[.val (.int i0), .val (.int i1), .val (.int i2), .val (.int i3), .val (.int i4), .val (.ref r1), .val (.ref b2), .val (.ref r6), .val (.ref r8), .val .null, .val (.ref b23), .val (.ref r29)]) rfl kk) ?_
        refine Go.of (t' := T29.setTop (mkF m 102 #[.val (.int i0), .val (.int i1), .val (.int i2), .val (.int i3), .val (.int i4), .val (.ref r1), .val (.ref b2), .val (.ref r6), .val (.ref r8), .val .null, .val (.ref b23), .val (.ref r29)] [(.ref r29)])) (fun _ kk => XS.aload W29.here hx rfl (hb hby at_100) rfl rfl kk) ?_
        refine Go.of (t' := T29.setTop (mkF m 107 #[.val (.int i0), .val (.int i1), .val (.int i2), .val (.int i3), .val (.int i4), .val (.ref r1), .val (.ref b2), .val (.ref r6), .val (.ref r8), .val .null, .val (.ref b23), .val (.ref r29)] [])) (fun _ kk => XS.ifnonnullYes W29.here hx rfl (pc0 := 102) (pc' := 107) rfl (hb hby at_102) rfl (by decide +kernel) (by decide +kernel) kk) ?_
        refine Go.of (t' := T29.setTop (mkF m 109 #[.val (.int i0), .val (.int i1), .val (.int i2), .val (.int i3), .val (.int i4), .val (.ref r1), .val (.ref b2), .val (.ref r6), .val (.ref r8), .val .null, .val (.ref b23), .val (.ref r29)] [(.ref r29)])) (fun _ kk => XS.aload W29.here hx rfl (hb hby at_107) rfl rfl kk) ?_
        refine W29.callV hx hEL (hw _ (List.mem_of_getElem? (i := 69) rfl)) (hw _ (List.mem_of_getElem? (i := 70) rfl)) (hw _ (List.mem_of_getElem? (i := 72) rfl)) (hw _ (List.mem_of_getElem? (i := 71) rfl)) (hw _ (List.mem_of_getElem? (i := 36) rfl)) (hw _ (List.mem_of_getElem? (i := 73) rfl)) (by decide +kernel) E29 (a := r29) (argsL := []) (rest := []) (rm6 l Z a0 hw hEL zc SC hzc fm SF rfm r29 (.ref r1) rfl h29 W29.old Ftype29) all0 (by decide +kernel) (Wd := 0) (by decide +kernel) (by decide +kernel) (by decide +kernel) all0 rfl (by rw [hml]; rfl) (lenOf pd5 rfl) rfl (by show 2 * 0 + _ ≤ _; exact Nat.le_of_eq rfl) (hb hby at_109) (fun T31 h31 v31 W31 K31 q31 => ?_)
        obtain ⟨rfl, rfl⟩ := q31
        show Go p e below _ (T31.setTop (mkF m 112 #[.val (.int i0), .val (.int i1), .val (.int i2), .val (.int i3), .val (.int i4), .val (.ref r1), .val (.ref b2), .val (.ref r6), .val (.ref r8), .val .null, .val (.ref b23), .val (.ref r29)] [(.ref r1)]))
        refine Go.of (t' := T31.setTop (mkF m 114 #[.val (.int i0), .val (.int i1), .val (.int i2), .val (.int i3), .val (.int i4), .val (.ref r1), .val (.ref b2), .val (.ref r6), .val (.ref r8), .val .null, .val (.ref b23), .val (.ref r29)] [(.ref r1), (.ref r1)])) (fun _ kk => XS.aload W31.here hx rfl (hb hby at_112) rfl rfl kk) ?_
        refine Go.of (t' := T31.setTop (mkF m 117 #[.val (.int i0), .val (.int i1), .val (.int i2), .val (.int i3), .val (.int i4), .val (.ref r1), .val (.ref b2), .val (.ref r6), .val (.ref r8), .val .null, .val (.ref b23), .val (.ref r29)] [])) (fun _ kk => XT.acmpNo (g := (mkF m 114 #[.val (.int i0), .val (.int i1), .val (.int i2), .val (.int i3), .val (.int i4), .val (.ref r1), .val (.ref b2), .val (.ref r6), .val (.ref r8), .val .null, .val (.ref b23), .val (.ref r29)] [(.ref r1), (.ref r1)])) W31.here hx rfl (hb hby at_114) (x := (.ref r1)) (y := (.ref r1)) (rest := []) rfl rfl rfl (XT.aa_ne_f (x := (.ref r1)) (y := (.ref r1)) rfl) kk) ?_
        refine Go.of (t' := T31.setTop (mkF m 119 #[.val (.int i0), .val (.int i1), .val (.int i2), .val (.int i3), .val (.int i4), .val (.ref r1), .val (.ref b2), .val (.ref r6), .val (.ref r8), .val .null, .val (.ref b23), .val (.ref r29)] [(.ref r29)])) (fun _ kk => XS.aload W31.here hx rfl (hb hby at_117) rfl rfl kk) ?_
        refine W31.callV hx hEL (hw _ (List.mem_of_getElem? (i := 74) rfl)) (hw _ (List.mem_of_getElem? (i := 75) rfl)) (hw _ (List.mem_of_getElem? (i := 77) rfl)) (hw _ (List.mem_of_getElem? (i := 76) rfl)) (hw _ (List.mem_of_getElem? (i := 36) rfl)) (hw _ (List.mem_of_getElem? (i := 78) rfl)) (by decide +kernel) E29 (a := r29) (argsL := []) (rest := []) (rm7 l Z a0 hw hEL zc SC hzc fm SF rfm r29 (.ref b2) rfl h29 W31.old Fbody29) all0 (by decide +kernel) (Wd := 0) (by decide +kernel) (by decide +kernel) (by decide +kernel) all0 rfl (by rw [hml]; rfl) (lenOf pd6 rfl) rfl (by show 2 * 0 + _ ≤ _; exact Nat.le_of_eq rfl) (hb hby at_119) (fun T32 h32 v32 W32 K32 q32 => ?_)
        obtain ⟨rfl, rfl⟩ := q32
        show Go p e below _ (T32.setTop (mkF m 122 #[.val (.int i0), .val (.int i1), .val (.int i2), .val (.int i3), .val (.int i4), .val (.ref r1), .val (.ref b2), .val (.ref r6), .val (.ref r8), .val .null, .val (.ref b23), .val (.ref r29)] [(.ref b2)]))
        refine Go.of (t' := T32.setTop (mkF m 124 #[.val (.int i0), .val (.int i1), .val (.int i2), .val (.int i3), .val (.int i4), .val (.ref r1), .val (.ref b2), .val (.ref r6), .val (.ref r8), .val .null, .val (.ref b23), .val (.ref r29)] [(.ref b2), (.ref b2)])) (fun _ kk => XS.aload W32.here hx rfl (hb hby at_122) rfl rfl kk) ?_
        refine Go.of (t' := T32.setTop (mkF m 127 #[.val (.int i0), .val (.int i1), .val (.int i2), .val (.int i3), .val (.int i4), .val (.ref r1), .val (.ref b2), .val (.ref r6), .val (.ref r8), .val .null, .val (.ref b23), .val (.ref r29)] [])) (fun _ kk => XT.acmpNo (g := (mkF m 124 #[.val (.int i0), .val (.int i1), .val (.int i2), .val (.int i3), .val (.int i4), .val (.ref r1), .val (.ref b2), .val (.ref r6), .val (.ref r8), .val .null, .val (.ref b23), .val (.ref r29)] [(.ref b2), (.ref b2)])) W32.here hx rfl (hb hby at_124) (x := (.ref b2)) (y := (.ref b2)) (rest := []) rfl rfl rfl (XT.aa_ne_f (x := (.ref b2)) (y := (.ref b2)) rfl) kk) ?_
        refine Go.of (t' := T32.setTop (mkF m 129 #[.val (.int i0), .val (.int i1), .val (.int i2), .val (.int i3), .val (.int i4), .val (.ref r1), .val (.ref b2), .val (.ref r6), .val (.ref r8), .val .null, .val (.ref b23), .val (.ref r29)] [(.ref r29)])) (fun _ kk => XS.aload W32.here hx rfl (hb hby at_127) rfl rfl kk) ?_
        refine W32.callV hx hEL (hw _ (List.mem_of_getElem? (i := 79) rfl)) (hw _ (List.mem_of_getElem? (i := 80) rfl)) (hw _ (List.mem_of_getElem? (i := 82) rfl)) (hw _ (List.mem_of_getElem? (i := 81) rfl)) (hw _ (List.mem_of_getElem? (i := 36) rfl)) (hw _ (List.mem_of_getElem? (i := 83) rfl)) (by decide +kernel) E29 (a := r29) (argsL := []) (rest := []) (rm8 l Z a0 hw hEL zc SC hzc fm SF rfm r29 .null rfl h29 W32.old Fcont29) all0 (by decide +kernel) (Wd := 0) (by decide +kernel) (by decide +kernel) (by decide +kernel) all0 rfl (by rw [hml]; rfl) (lenOf pd5 rfl) rfl (by show 2 * 0 + _ ≤ _; exact Nat.le_of_eq rfl) (hb hby at_129) (fun T33 h33 v33 W33 K33 q33 => ?_)
        obtain ⟨rfl, rfl⟩ := q33
        show Go p e below _ (T33.setTop (mkF m 132 #[.val (.int i0), .val (.int i1), .val (.int i2), .val (.int i3), .val (.int i4), .val (.ref r1), .val (.ref b2), .val (.ref r6), .val (.ref r8), .val .null, .val (.ref b23), .val (.ref r29)] [.null]))
        refine Go.of (t' := T33.setTop (mkF m 134 #[.val (.int i0), .val (.int i1), .val (.int i2), .val (.int i3), .val (.int i4), .val (.ref r1), .val (.ref b2), .val (.ref r6), .val (.ref r8), .val .null, .val (.ref b23), .val (.ref r29)] [.null, .null])) (fun _ kk => XS.aload W33.here hx rfl (hb hby at_132) rfl rfl kk) ?_
        refine Go.of (t' := T33.setTop (mkF m 137 #[.val (.int i0), .val (.int i1), .val (.int i2), .val (.int i3), .val (.int i4), .val (.ref r1), .val (.ref b2), .val (.ref r6), .val (.ref r8), .val .null, .val (.ref b23), .val (.ref r29)] [])) (fun _ kk => XT.acmpNo (g := (mkF m 134 #[.val (.int i0), .val (.int i1), .val (.int i2), .val (.int i3), .val (.int i4), .val (.ref r1), .val (.ref b2), .val (.ref r6), .val (.ref r8), .val .null, .val (.ref b23), .val (.ref r29)] [.null, .null])) W33.here hx rfl (hb hby at_134) (x := .null) (y := .null) (rest := []) rfl rfl rfl (XT.aa_ne_f (x := .null) (y := .null) rfl) kk) ?_
        refine Go.of (t' := T33.setTop (mkF m 139 #[.val (.int i0), .val (.int i1), .val (.int i2), .val (.int i3), .val (.int i4), .val (.ref r1), .val (.ref b2), .val (.ref r6), .val (.ref r8), .val .null, .val (.ref b23), .val (.ref r29)] [(.ref r29)])) (fun _ kk => XS.aload W33.here hx rfl (hb hby at_137) rfl rfl kk) ?_
        refine W33.callV hx hEL (hw _ (List.mem_of_getElem? (i := 84) rfl)) (hw _ (List.mem_of_getElem? (i := 85) rfl)) (hw _ (List.mem_of_getElem? (i := 87) rfl)) (hw _ (List.mem_of_getElem? (i := 86) rfl)) (hw _ (List.mem_of_getElem? (i := 36) rfl)) (hw _ (List.mem_of_getElem? (i := 88) rfl)) (by decide +kernel) E29 (a := r29) (argsL := []) (rest := []) (rm9 l Z a0 hw hEL zc SC hzc fm SF rfm r29 (.ref r8) rfl h29 W33.old Fcorr29) all0 (by decide +kernel) (Wd := 0) (by decide +kernel) (by decide +kernel) (by decide +kernel) all0 rfl (by rw [hml]; rfl) (lenOf pd5 rfl) rfl (by show 2 * 0 + _ ≤ _; exact Nat.le_of_eq rfl) (hb hby at_139) (fun T34 h34 v34 W34 K34 q34 => ?_)
        obtain ⟨rfl, rfl⟩ := q34
        show Go p e below _ (T34.setTop (mkF m 142 #[.val (.int i0), .val (.int i1), .val (.int i2), .val (.int i3), .val (.int i4), .val (.ref r1), .val (.ref b2), .val (.ref r6), .val (.ref r8), .val .null, .val (.ref b23), .val (.ref r29)] [(.ref r8)]))
        refine Go.of (t' := T34.setTop (mkF m 144 #[.val (.int i0), .val (.int i1), .val (.int i2), .val (.int i3), .val (.int i4), .val (.ref r1), .val (.ref b2), .val (.ref r6), .val (.ref r8), .val .null, .val (.ref b23), .val (.ref r29)] [(.ref r8), (.ref r8)])) (fun _ kk => XS.aload W34.here hx rfl (hb hby at_142) rfl rfl kk) ?_
        refine Go.of (t' := T34.setTop (mkF m 147 #[.val (.int i0), .val (.int i1), .val (.int i2), .val (.int i3), .val (.int i4), .val (.ref r1), .val (.ref b2), .val (.ref r6), .val (.ref r8), .val .null, .val (.ref b23), .val (.ref r29)] [])) (fun _ kk => XT.acmpNo (g := (mkF m 144 #[.val (.int i0), .val (.int i1), .val (.int i2), .val (.int i3), .val (.int i4), .val (.ref r1), .val (.ref b2), .val (.ref r6), .val (.ref r8), .val .null, .val (.ref b23), .val (.ref r29)] [(.ref r8), (.ref r8)])) W34.here hx rfl (hb hby at_144) (x := (.ref r8)) (y := (.ref r8)) (rest := []) rfl rfl rfl (XT.aa_ne_f (x := (.ref r8)) (y := (.ref r8)) rfl) kk) ?_
        refine Go.of (t' := T34.setTop (mkF m 148 #[.val (.int i0), .val (.int i1), .val (.int i2), .val (.int i3), .val (.int i4), .val (.ref r1), .val (.ref b2), .val (.ref r6), .val (.ref r8), .val .null, .val (.ref b23), .val (.ref r29)] [(.int (1 : Int32))])) (fun _ kk => XS.iconst W34.here hx rfl (hb hby at_147) kk) ?_
        refine Go.of (t' := T34.setTop (mkF m 152 #[.val (.int i0), .val (.int i1), .val (.int i2), .val (.int i3), .val (.int i4), .val (.ref r1), .val (.ref b2), .val (.ref r6), .val (.ref r8), .val .null, .val (.ref b23), .val (.ref r29)] [(.int (1 : Int32))])) (fun _ kk => XS.goto W34.here hx rfl (pc0 := 148) (pc' := 152) rfl (hb hby at_148) (by decide +kernel) (by decide +kernel) kk) ?_
        exact W34.retI hx hEL hs hlk (by decide +kernel) (by decide +kernel) hret (by simp) rfl (hb hby at_152) rfl
    · refine Go.of (t' := T6.setTop (mkF m 47 #[.val (.int i0), .val (.int i1), .val (.int i2), .val (.int i3), .val (.int i4), .val (.ref r1), .val (.ref b2), .val (.ref r6), .unset, .unset, .unset, .unset] [])) (fun _ kk => XS.ifNo W6.here hx rfl (hb hby at_44) rfl (XT.i0_eq_f c7) kk) ?_
      refine Go.of (t' := T6.setTop (mkF m 48 #[.val (.int i0), .val (.int i1), .val (.int i2), .val (.int i3), .val (.int i4), .val (.ref r1), .val (.ref b2), .val (.ref r6), .unset, .unset, .unset, .unset] [.null])) (fun _ kk => XS.aconstNull W6.here hx rfl (hb hby at_47) kk) ?_
      refine Go.of (t' := T6.setTop (mkF m 55 #[.val (.int i0), .val (.int i1), .val (.int i2), .val (.int i3), .val (.int i4), .val (.ref r1), .val (.ref b2), .val (.ref r6), .unset, .unset, .unset, .unset] [.null])) (fun _ kk => XS.goto W6.here hx rfl (pc0 := 48) (pc' := 55) rfl (hb hby at_48) (by decide +kernel) (by decide +kernel) kk) ?_
      refine Go.of (t' := T6.setTop (mkF m 57 #[.val (.int i0), .val (.int i1), .val (.int i2), .val (.int i3), .val (.int i4), .val (.ref r1), .val (.ref b2), .val (.ref r6), .val .null, .unset, .unset, .unset] [])) (fun _ kk => XS.astore W6.here hx rfl (hb hby at_55) rfl rfl (l' := #[.val (.int i0), .val (.int i1), .val (.int i2), .val (.int i3), .val (.int i4), .val (.ref r1), .val (.ref b2), .val (.ref r6), .val .null, .unset, .unset, .unset]) rfl kk) ?_
      refine Go.of (t' := T6.setTop (mkF m 59 #[.val (.int i0), .val (.int i1), .val (.int i2), .val (.int i3), .val (.int i4), .val (.ref r1), .val (.ref b2), .val (.ref r6), .val .null, .unset, .unset, .unset] [(.int i4)])) (fun _ kk => XS.iload W6.here hx rfl (hb hby at_57) rfl kk) ?_
      refine Go.of (t' := T6.setTop (mkF m 60 #[.val (.int i0), .val (.int i1), .val (.int i2), .val (.int i3), .val (.int i4), .val (.ref r1), .val (.ref b2), .val (.ref r6), .val .null, .unset, .unset, .unset] [(.int (4 : Int32)), (.int i4)])) (fun _ kk => XS.iconst W6.here hx rfl (hb hby at_59) kk) ?_
      refine Go.of (t' := T6.setTop (mkF m 61 #[.val (.int i0), .val (.int i1), .val (.int i2), .val (.int i3), .val (.int i4), .val (.ref r1), .val (.ref b2), .val (.ref r6), .val .null, .unset, .unset, .unset] [(.int (i4 &&& (4 : Int32)))])) (fun _ kk => XS.iand W6.here hx rfl (hb hby at_60) rfl kk) ?_
      by_cases c35 : (i4 &&& (4 : Int32)) = (0 : Int32)
      · refine Go.of (t' := T6.setTop (mkF m 68 #[.val (.int i0), .val (.int i1), .val (.int i2), .val (.int i3), .val (.int i4), .val (.ref r1), .val (.ref b2), .val (.ref r6), .val .null, .unset, .unset, .unset] [])) (fun _ kk => XS.ifYes W6.here hx rfl (pc0 := 61) (pc' := 68) rfl (hb hby at_61) rfl (XT.i0_eq_t c35) (by decide +kernel) (by decide +kernel) kk) ?_
        refine Go.of (t' := T6.setTop (mkF m 69 #[.val (.int i0), .val (.int i1), .val (.int i2), .val (.int i3), .val (.int i4), .val (.ref r1), .val (.ref b2), .val (.ref r6), .val .null, .unset, .unset, .unset] [(.int i3)])) (fun _ kk => XS.iloadN W6.here hx rfl (hb hby at_68) rfl kk) ?_
        refine W6.callS hx hEL (hw _ (List.mem_of_getElem? (i := 0) rfl)) (hw _ (List.mem_of_getElem? (i := 1) rfl)) (hw _ (List.mem_of_getElem? (i := 2) rfl)) (hw _ (List.mem_of_getElem? (i := 3) rfl)) (by decide +kernel) (argsL := [(.int i3)]) (rest := []) (rm1 l Z a0 hw hEL zc SC hzc fm SF rfm i3 h6 W6.old ) all0 (by decide +kernel) (Wd := 0) (by decide +kernel) (by decide +kernel) (by decide +kernel) all0 rfl (by rw [hml]; rfl) (lenOf pd3 rfl) rfl (by show 2 * 0 + _ ≤ _; exact Nat.le_of_eq rfl) (hb hby at_69) (fun T36 h36 v36 W36 K36 q36 => ?_)
        obtain ⟨r36, rfl, lr36, E36⟩ := q36
        have gr36 : n0 ≤ r36 ∧ s.heap.size ≤ r36 := ⟨Nat.le_trans W6.n0le lr36, Nat.le_trans W6.s0le lr36⟩
        show Go p e below _ (T36.setTop (mkF m 72 #[.val (.int i0), .val (.int i1), .val (.int i2), .val (.int i3), .val (.int i4), .val (.ref r1), .val (.ref b2), .val (.ref r6), .val .null, .unset, .unset, .unset] [(.ref r36)]))
        refine Go.of (t' := T36.setTop (mkF m 74 #[.val (.int i0), .val (.int i1), .val (.int i2), .val (.int i3), .val (.int i4), .val (.ref r1), .val (.ref b2), .val (.ref r6), .val .null, .val (.ref r36), .unset, .unset] [])) (fun _ kk => XS.astore W36.here hx rfl (hb hby at_72) rfl rfl (l' := #[.val (.int i0), .val (.int i1), .val (.int i2), .val (.int i3), .val (.int i4), .val (.ref r1), .val (.ref b2), .val (.ref r6), .val .null, .val (.ref r36), .unset, .unset]) rfl kk) ?_
        refine W36.newO hx (hw _ (List.mem_of_getElem? (i := 34) rfl)) (hw _ (List.mem_of_getElem? (i := 35) rfl)) (hw _ (List.mem_of_getElem? (i := 36) rfl)) rfl (hb hby at_74) (by decide +kernel) (by decide +kernel) (fun T37 h37 b37 eb37 gb37 W37 K37 E37 D37 => ?_)
        have k38 : Fld Z h37 b37 "com/example/nabu/nabu/NewEvent" "type" "Ljava/lang/String;" .null := D37 (Or.inr (hw _ (List.mem_of_getElem? (i := 55) rfl))) (ty := (.object "java/lang/String")) (by decide +kernel)
        have k39 : Fld Z h37 b37 "com/example/nabu/nabu/NewEvent" "body" "[B" .null := D37 (Or.inr (hw _ (List.mem_of_getElem? (i := 57) rfl))) (ty := (.array .byte)) (by decide +kernel)
        have k40 : Fld Z h37 b37 "com/example/nabu/nabu/NewEvent" "contentType" "Ljava/lang/String;" .null := D37 (Or.inr (hw _ (List.mem_of_getElem? (i := 59) rfl))) (ty := (.object "java/lang/String")) (by decide +kernel)
        have k41 : Fld Z h37 b37 "com/example/nabu/nabu/NewEvent" "correlationId" "Ljava/lang/String;" .null := D37 (Or.inr (hw _ (List.mem_of_getElem? (i := 61) rfl))) (ty := (.object "java/lang/String")) (by decide +kernel)
        show Go p e below _ (T37.setTop (mkF m 77 #[.val (.int i0), .val (.int i1), .val (.int i2), .val (.int i3), .val (.int i4), .val (.ref r1), .val (.ref b2), .val (.ref r6), .val .null, .val (.ref r36), .unset, .unset] [(.ref b37)]))
        refine Go.of (t' := T37.setTop (mkF m 78 #[.val (.int i0), .val (.int i1), .val (.int i2), .val (.int i3), .val (.int i4), .val (.ref r1), .val (.ref b2), .val (.ref r6), .val .null, .val (.ref r36), .unset, .unset] [(.ref b37), (.ref b37)])) (fun _ kk => XS.dup W37.here hx rfl (hb hby at_77) rfl rfl kk) ?_
        refine Go.of (t' := T37.setTop (mkF m 80 #[.val (.int i0), .val (.int i1), .val (.int i2), .val (.int i3), .val (.int i4), .val (.ref r1), .val (.ref b2), .val (.ref r6), .val .null, .val (.ref r36), .unset, .unset] [(.ref r1), (.ref b37), (.ref b37)])) (fun _ kk => XS.aload W37.here hx rfl (hb hby at_78) rfl rfl kk) ?_
        refine Go.of (t' := T37.setTop (mkF m 82 #[.val (.int i0), .val (.int i1), .val (.int i2), .val (.int i3), .val (.int i4), .val (.ref r1), .val (.ref b2), .val (.ref r6), .val .null, .val (.ref r36), .unset, .unset] [(.ref b2), (.ref r1), (.ref b37), (.ref b37)])) (fun _ kk => XS.aload W37.here hx rfl (hb hby at_80) rfl rfl kk) ?_
        refine Go.of (t' := T37.setTop (mkF m 84 #[.val (.int i0), .val (.int i1), .val (.int i2), .val (.int i3), .val (.int i4), .val (.ref r1), .val (.ref b2), .val (.ref r6), .val .null, .val (.ref r36), .unset, .unset] [(.ref r6), (.ref b2), (.ref r1), (.ref b37), (.ref b37)])) (fun _ kk => XS.aload W37.here hx rfl (hb hby at_82) rfl rfl kk) ?_
        refine Go.of (t' := T37.setTop (mkF m 86 #[.val (.int i0), .val (.int i1), .val (.int i2), .val (.int i3), .val (.int i4), .val (.ref r1), .val (.ref b2), .val (.ref r6), .val .null, .val (.ref r36), .unset, .unset] [.null, (.ref r6), (.ref b2), (.ref r1), (.ref b37), (.ref b37)])) (fun _ kk => XS.aload W37.here hx rfl (hb hby at_84) rfl rfl kk) ?_
        refine W37.callP hx hEL rfl (hw _ (List.mem_of_getElem? (i := 37) rfl)) (hw _ (List.mem_of_getElem? (i := 38) rfl)) (hw _ (List.mem_of_getElem? (i := 36) rfl)) (hw _ (List.mem_of_getElem? (i := 39) rfl)) (by decide +kernel) (a := b37) (argsL := [(.ref r1), (.ref b2), (.ref r6), .null]) (rest := [(.ref b37)]) (rm4 l Z a0 hw hEL zc SC hzc fm SF rfm b37 r1 b2 (.ref r6) .null rfl rfl h37 W37.old E37 k38 k39 k40 k41 gb37.1) all0 (by decide +kernel) (Wd := 1) (by decide +kernel) (by decide +kernel) (by decide +kernel) (allS ⟨gb37.1, (Or.inr gb37.2)⟩ all0) rfl (by rw [hml]; rfl) (lenOf pd2 rfl) rfl (by show 2 * 0 + _ ≤ _; exact Nat.le_of_eq rfl) (hb hby at_86) (fun T42 h42 v42 W42 K42 q42 => ?_)
        obtain ⟨rfl, Ftype42, Fbody42, Fcont42, Fcorr42⟩ := q42
        show Go p e below _ (T42.setTop (mkF m 89 #[.val (.int i0), .val (.int i1), .val (.int i2), .val (.int i3), .val (.int i4), .val (.ref r1), .val (.ref b2), .val (.ref r6), .val .null, .val (.ref r36), .unset, .unset] [(.ref b37)]))
        refine Go.of (t' := T42.setTop (mkF m 91 #[.val (.int i0), .val (.int i1), .val (.int i2), .val (.int i3), .val (.int i4), .val (.ref r1), .val (.ref b2), .val (.ref r6), .val .null, .val (.ref r36), .val (.ref b37), .unset] [])) (fun _ kk => XS.astore W42.here hx rfl (hb hby at_89) rfl rfl (l' := #[.val (.int i0), .val (.int i1), .val (.int i2), .val (.int i3), .val (.int i4), .val (.ref r1), .val (.ref b2), .val (.ref r6), .val .null, .val (.ref r36), .val (.ref b37), .unset]) rfl kk) ?_
        refine Go.of (t' := T42.setTop (mkF m 93 #[.val (.int i0), .val (.int i1), .val (.int i2), .val (.int i3), .val (.int i4), .val (.ref r1), .val (.ref b2), .val (.ref r6), .val .null, .val (.ref r36), .val (.ref b37), .unset] [(.ref b37)])) (fun _ kk => XS.aload W42.here hx rfl (hb hby at_91) rfl rfl kk) ?_
        refine Go.of (t' := T42.setTop (mkF m 95 #[.val (.int i0), .val (.int i1), .val (.int i2), .val (.int i3), .val (.int i4), .val (.ref r1), .val (.ref b2), .val (.ref r6), .val .null, .val (.ref r36), .val (.ref b37), .unset] [(.ref r36), (.ref b37)])) (fun _ kk => XS.aload W42.here hx rfl (hb hby at_93) rfl rfl kk) ?_
        have k44 := (E37.keep K42)
        refine W42.callV hx hEL (hw _ (List.mem_of_getElem? (i := 62) rfl)) (hw _ (List.mem_of_getElem? (i := 63) rfl)) (hw _ (List.mem_of_getElem? (i := 65) rfl)) (hw _ (List.mem_of_getElem? (i := 64) rfl)) (hw _ (List.mem_of_getElem? (i := 36) rfl)) (hw _ (List.mem_of_getElem? (i := 66) rfl)) (by decide +kernel) k44 (a := b37) (argsL := [(.ref r36)]) (rest := []) (rm5 l Z a0 hw hEL zc SC hzc fm SF rfm b37 (.ref r36) rfl r1 b2 .null rfl h42 W42.old Ftype42 Fbody42 Fcorr42) all0 (by decide +kernel) (Wd := 0) (by decide +kernel) (by decide +kernel) (by decide +kernel) all0 rfl (by rw [hml]; rfl) (lenOf pd4 rfl) rfl (by show 2 * 0 + _ ≤ _; exact Nat.le_of_eq rfl) (hb hby at_95) (fun T43 h43 v43 W43 K43 q43 => ?_)
        obtain ⟨r43, rfl, lr43, E43, Ftype43, Fbody43, Fcont43, Fcorr43⟩ := q43
        have gr43 : n0 ≤ r43 ∧ s.heap.size ≤ r43 := ⟨Nat.le_trans W42.n0le lr43, Nat.le_trans W42.s0le lr43⟩
        show Go p e below _ (T43.setTop (mkF m 98 #[.val (.int i0), .val (.int i1), .val (.int i2), .val (.int i3), .val (.int i4), .val (.ref r1), .val (.ref b2), .val (.ref r6), .val .null, .val (.ref r36), .val (.ref b37), .unset] [(.ref r43)]))
        refine Go.of (t' := T43.setTop (mkF m 100 #[.val (.int i0), .val (.int i1), .val (.int i2), .val (.int i3), .val (.int i4), .val (.ref r1), .val (.ref b2), .val (.ref r6), .val .null, .val (.ref r36), .val (.ref b37), .val (.ref r43)] [])) (fun _ kk => XS.astore W43.here hx rfl (hb hby at_98) rfl rfl (l' := #[.val (.int i0), .val (.int i1), .val (.int i2), .val (.int i3), .val (.int i4), .val (.ref r1), .val (.ref b2), .val (.ref r6), .val .null, .val (.ref r36), .val (.ref b37), .val (.ref r43)]) rfl kk) ?_
        refine Go.of (t' := T43.setTop (mkF m 102 #[.val (.int i0), .val (.int i1), .val (.int i2), .val (.int i3), .val (.int i4), .val (.ref r1), .val (.ref b2), .val (.ref r6), .val .null, .val (.ref r36), .val (.ref b37), .val (.ref r43)] [(.ref r43)])) (fun _ kk => XS.aload W43.here hx rfl (hb hby at_100) rfl rfl kk) ?_
        refine Go.of (t' := T43.setTop (mkF m 107 #[.val (.int i0), .val (.int i1), .val (.int i2), .val (.int i3), .val (.int i4), .val (.ref r1), .val (.ref b2), .val (.ref r6), .val .null, .val (.ref r36), .val (.ref b37), .val (.ref r43)] [])) (fun _ kk => XS.ifnonnullYes W43.here hx rfl (pc0 := 102) (pc' := 107) rfl (hb hby at_102) rfl (by decide +kernel) (by decide +kernel) kk) ?_
        refine Go.of (t' := T43.setTop (mkF m 109 #[.val (.int i0), .val (.int i1), .val (.int i2), .val (.int i3), .val (.int i4), .val (.ref r1), .val (.ref b2), .val (.ref r6), .val .null, .val (.ref r36), .val (.ref b37), .val (.ref r43)] [(.ref r43)])) (fun _ kk => XS.aload W43.here hx rfl (hb hby at_107) rfl rfl kk) ?_
        refine W43.callV hx hEL (hw _ (List.mem_of_getElem? (i := 69) rfl)) (hw _ (List.mem_of_getElem? (i := 70) rfl)) (hw _ (List.mem_of_getElem? (i := 72) rfl)) (hw _ (List.mem_of_getElem? (i := 71) rfl)) (hw _ (List.mem_of_getElem? (i := 36) rfl)) (hw _ (List.mem_of_getElem? (i := 73) rfl)) (by decide +kernel) E43 (a := r43) (argsL := []) (rest := []) (rm6 l Z a0 hw hEL zc SC hzc fm SF rfm r43 (.ref r1) rfl h43 W43.old Ftype43) all0 (by decide +kernel) (Wd := 0) (by decide +kernel) (by decide +kernel) (by decide +kernel) all0 rfl (by rw [hml]; rfl) (lenOf pd5 rfl) rfl (by show 2 * 0 + _ ≤ _; exact Nat.le_of_eq rfl) (hb hby at_109) (fun T45 h45 v45 W45 K45 q45 => ?_)
        obtain ⟨rfl, rfl⟩ := q45
        show Go p e below _ (T45.setTop (mkF m 112 #[.val (.int i0), .val (.int i1), .val (.int i2), .val (.int i3), .val (.int i4), .val (.ref r1), .val (.ref b2), .val (.ref r6), .val .null, .val (.ref r36), .val (.ref b37), .val (.ref r43)] [(.ref r1)]))
        refine Go.of (t' := T45.setTop (mkF m 114 #[.val (.int i0), .val (.int i1), .val (.int i2), .val (.int i3), .val (.int i4), .val (.ref r1), .val (.ref b2), .val (.ref r6), .val .null, .val (.ref r36), .val (.ref b37), .val (.ref r43)] [(.ref r1), (.ref r1)])) (fun _ kk => XS.aload W45.here hx rfl (hb hby at_112) rfl rfl kk) ?_
        refine Go.of (t' := T45.setTop (mkF m 117 #[.val (.int i0), .val (.int i1), .val (.int i2), .val (.int i3), .val (.int i4), .val (.ref r1), .val (.ref b2), .val (.ref r6), .val .null, .val (.ref r36), .val (.ref b37), .val (.ref r43)] [])) (fun _ kk => XT.acmpNo (g := (mkF m 114 #[.val (.int i0), .val (.int i1), .val (.int i2), .val (.int i3), .val (.int i4), .val (.ref r1), .val (.ref b2), .val (.ref r6), .val .null, .val (.ref r36), .val (.ref b37), .val (.ref r43)] [(.ref r1), (.ref r1)])) W45.here hx rfl (hb hby at_114) (x := (.ref r1)) (y := (.ref r1)) (rest := []) rfl rfl rfl (XT.aa_ne_f (x := (.ref r1)) (y := (.ref r1)) rfl) kk) ?_
        refine Go.of (t' := T45.setTop (mkF m 119 #[.val (.int i0), .val (.int i1), .val (.int i2), .val (.int i3), .val (.int i4), .val (.ref r1), .val (.ref b2), .val (.ref r6), .val .null, .val (.ref r36), .val (.ref b37), .val (.ref r43)] [(.ref r43)])) (fun _ kk => XS.aload W45.here hx rfl (hb hby at_117) rfl rfl kk) ?_
        refine W45.callV hx hEL (hw _ (List.mem_of_getElem? (i := 74) rfl)) (hw _ (List.mem_of_getElem? (i := 75) rfl)) (hw _ (List.mem_of_getElem? (i := 77) rfl)) (hw _ (List.mem_of_getElem? (i := 76) rfl)) (hw _ (List.mem_of_getElem? (i := 36) rfl)) (hw _ (List.mem_of_getElem? (i := 78) rfl)) (by decide +kernel) E43 (a := r43) (argsL := []) (rest := []) (rm7 l Z a0 hw hEL zc SC hzc fm SF rfm r43 (.ref b2) rfl h43 W45.old Fbody43) all0 (by decide +kernel) (Wd := 0) (by decide +kernel) (by decide +kernel) (by decide +kernel) all0 rfl (by rw [hml]; rfl) (lenOf pd6 rfl) rfl (by show 2 * 0 + _ ≤ _; exact Nat.le_of_eq rfl) (hb hby at_119) (fun T46 h46 v46 W46 K46 q46 => ?_)
        obtain ⟨rfl, rfl⟩ := q46
        show Go p e below _ (T46.setTop (mkF m 122 #[.val (.int i0), .val (.int i1), .val (.int i2), .val (.int i3), .val (.int i4), .val (.ref r1), .val (.ref b2), .val (.ref r6), .val .null, .val (.ref r36), .val (.ref b37), .val (.ref r43)] [(.ref b2)]))
        refine Go.of (t' := T46.setTop (mkF m 124 #[.val (.int i0), .val (.int i1), .val (.int i2), .val (.int i3), .val (.int i4), .val (.ref r1), .val (.ref b2), .val (.ref r6), .val .null, .val (.ref r36), .val (.ref b37), .val (.ref r43)] [(.ref b2), (.ref b2)])) (fun _ kk => XS.aload W46.here hx rfl (hb hby at_122) rfl rfl kk) ?_
        refine Go.of (t' := T46.setTop (mkF m 127 #[.val (.int i0), .val (.int i1), .val (.int i2), .val (.int i3), .val (.int i4), .val (.ref r1), .val (.ref b2), .val (.ref r6), .val .null, .val (.ref r36), .val (.ref b37), .val (.ref r43)] [])) (fun _ kk => XT.acmpNo (g := (mkF m 124 #[.val (.int i0), .val (.int i1), .val (.int i2), .val (.int i3), .val (.int i4), .val (.ref r1), .val (.ref b2), .val (.ref r6), .val .null, .val (.ref r36), .val (.ref b37), .val (.ref r43)] [(.ref b2), (.ref b2)])) W46.here hx rfl (hb hby at_124) (x := (.ref b2)) (y := (.ref b2)) (rest := []) rfl rfl rfl (XT.aa_ne_f (x := (.ref b2)) (y := (.ref b2)) rfl) kk) ?_
        refine Go.of (t' := T46.setTop (mkF m 129 #[.val (.int i0), .val (.int i1), .val (.int i2), .val (.int i3), .val (.int i4), .val (.ref r1), .val (.ref b2), .val (.ref r6), .val .null, .val (.ref r36), .val (.ref b37), .val (.ref r43)] [(.ref r43)])) (fun _ kk => XS.aload W46.here hx rfl (hb hby at_127) rfl rfl kk) ?_
        refine W46.callV hx hEL (hw _ (List.mem_of_getElem? (i := 79) rfl)) (hw _ (List.mem_of_getElem? (i := 80) rfl)) (hw _ (List.mem_of_getElem? (i := 82) rfl)) (hw _ (List.mem_of_getElem? (i := 81) rfl)) (hw _ (List.mem_of_getElem? (i := 36) rfl)) (hw _ (List.mem_of_getElem? (i := 83) rfl)) (by decide +kernel) E43 (a := r43) (argsL := []) (rest := []) (rm8 l Z a0 hw hEL zc SC hzc fm SF rfm r43 (.ref r36) rfl h43 W46.old Fcont43) all0 (by decide +kernel) (Wd := 0) (by decide +kernel) (by decide +kernel) (by decide +kernel) all0 rfl (by rw [hml]; rfl) (lenOf pd5 rfl) rfl (by show 2 * 0 + _ ≤ _; exact Nat.le_of_eq rfl) (hb hby at_129) (fun T47 h47 v47 W47 K47 q47 => ?_)
        obtain ⟨rfl, rfl⟩ := q47
        show Go p e below _ (T47.setTop (mkF m 132 #[.val (.int i0), .val (.int i1), .val (.int i2), .val (.int i3), .val (.int i4), .val (.ref r1), .val (.ref b2), .val (.ref r6), .val .null, .val (.ref r36), .val (.ref b37), .val (.ref r43)] [(.ref r36)]))
        refine Go.of (t' := T47.setTop (mkF m 134 #[.val (.int i0), .val (.int i1), .val (.int i2), .val (.int i3), .val (.int i4), .val (.ref r1), .val (.ref b2), .val (.ref r6), .val .null, .val (.ref r36), .val (.ref b37), .val (.ref r43)] [(.ref r36), (.ref r36)])) (fun _ kk => XS.aload W47.here hx rfl (hb hby at_132) rfl rfl kk) ?_
        refine Go.of (t' := T47.setTop (mkF m 137 #[.val (.int i0), .val (.int i1), .val (.int i2), .val (.int i3), .val (.int i4), .val (.ref r1), .val (.ref b2), .val (.ref r6), .val .null, .val (.ref r36), .val (.ref b37), .val (.ref r43)] [])) (fun _ kk => XT.acmpNo (g := (mkF m 134 #[.val (.int i0), .val (.int i1), .val (.int i2), .val (.int i3), .val (.int i4), .val (.ref r1), .val (.ref b2), .val (.ref r6), .val .null, .val (.ref r36), .val (.ref b37), .val (.ref r43)] [(.ref r36), (.ref r36)])) W47.here hx rfl (hb hby at_134) (x := (.ref r36)) (y := (.ref r36)) (rest := []) rfl rfl rfl (XT.aa_ne_f (x := (.ref r36)) (y := (.ref r36)) rfl) kk) ?_
        refine Go.of (t' := T47.setTop (mkF m 139 #[.val (.int i0), .val (.int i1), .val (.int i2), .val (.int i3), .val (.int i4), .val (.ref r1), .val (.ref b2), .val (.ref r6), .val .null, .val (.ref r36), .val (.ref b37), .val (.ref r43)] [(.ref r43)])) (fun _ kk => XS.aload W47.here hx rfl (hb hby at_137) rfl rfl kk) ?_
        refine W47.callV hx hEL (hw _ (List.mem_of_getElem? (i := 84) rfl)) (hw _ (List.mem_of_getElem? (i := 85) rfl)) (hw _ (List.mem_of_getElem? (i := 87) rfl)) (hw _ (List.mem_of_getElem? (i := 86) rfl)) (hw _ (List.mem_of_getElem? (i := 36) rfl)) (hw _ (List.mem_of_getElem? (i := 88) rfl)) (by decide +kernel) E43 (a := r43) (argsL := []) (rest := []) (rm9 l Z a0 hw hEL zc SC hzc fm SF rfm r43 .null rfl h43 W47.old Fcorr43) all0 (by decide +kernel) (Wd := 0) (by decide +kernel) (by decide +kernel) (by decide +kernel) all0 rfl (by rw [hml]; rfl) (lenOf pd5 rfl) rfl (by show 2 * 0 + _ ≤ _; exact Nat.le_of_eq rfl) (hb hby at_139) (fun T48 h48 v48 W48 K48 q48 => ?_)
        obtain ⟨rfl, rfl⟩ := q48
        show Go p e below _ (T48.setTop (mkF m 142 #[.val (.int i0), .val (.int i1), .val (.int i2), .val (.int i3), .val (.int i4), .val (.ref r1), .val (.ref b2), .val (.ref r6), .val .null, .val (.ref r36), .val (.ref b37), .val (.ref r43)] [.null]))
        refine Go.of (t' := T48.setTop (mkF m 144 #[.val (.int i0), .val (.int i1), .val (.int i2), .val (.int i3), .val (.int i4), .val (.ref r1), .val (.ref b2), .val (.ref r6), .val .null, .val (.ref r36), .val (.ref b37), .val (.ref r43)] [.null, .null])) (fun _ kk => XS.aload W48.here hx rfl (hb hby at_142) rfl rfl kk) ?_
        refine Go.of (t' := T48.setTop (mkF m 147 #[.val (.int i0), .val (.int i1), .val (.int i2), .val (.int i3), .val (.int i4), .val (.ref r1), .val (.ref b2), .val (.ref r6), .val .null, .val (.ref r36), .val (.ref b37), .val (.ref r43)] [])) (fun _ kk => XT.acmpNo (g := (mkF m 144 #[.val (.int i0), .val (.int i1), .val (.int i2), .val (.int i3), .val (.int i4), .val (.ref r1), .val (.ref b2), .val (.ref r6), .val .null, .val (.ref r36), .val (.ref b37), .val (.ref r43)] [.null, .null])) W48.here hx rfl (hb hby at_144) (x := .null) (y := .null) (rest := []) rfl rfl rfl (XT.aa_ne_f (x := .null) (y := .null) rfl) kk) ?_
        refine Go.of (t' := T48.setTop (mkF m 148 #[.val (.int i0), .val (.int i1), .val (.int i2), .val (.int i3), .val (.int i4), .val (.ref r1), .val (.ref b2), .val (.ref r6), .val .null, .val (.ref r36), .val (.ref b37), .val (.ref r43)] [(.int (1 : Int32))])) (fun _ kk => XS.iconst W48.here hx rfl (hb hby at_147) kk) ?_
        refine Go.of (t' := T48.setTop (mkF m 152 #[.val (.int i0), .val (.int i1), .val (.int i2), .val (.int i3), .val (.int i4), .val (.ref r1), .val (.ref b2), .val (.ref r6), .val .null, .val (.ref r36), .val (.ref b37), .val (.ref r43)] [(.int (1 : Int32))])) (fun _ kk => XS.goto W48.here hx rfl (pc0 := 148) (pc' := 152) rfl (hb hby at_148) (by decide +kernel) (by decide +kernel) kk) ?_
        exact W48.retI hx hEL hs hlk (by decide +kernel) (by decide +kernel) hret (by simp) rfl (hb hby at_152) rfl
      · refine Go.of (t' := T6.setTop (mkF m 64 #[.val (.int i0), .val (.int i1), .val (.int i2), .val (.int i3), .val (.int i4), .val (.ref r1), .val (.ref b2), .val (.ref r6), .val .null, .unset, .unset, .unset] [])) (fun _ kk => XS.ifNo W6.here hx rfl (hb hby at_61) rfl (XT.i0_eq_f c35) kk) ?_
        refine Go.of (t' := T6.setTop (mkF m 65 #[.val (.int i0), .val (.int i1), .val (.int i2), .val (.int i3), .val (.int i4), .val (.ref r1), .val (.ref b2), .val (.ref r6), .val .null, .unset, .unset, .unset] [.null])) (fun _ kk => XS.aconstNull W6.here hx rfl (hb hby at_64) kk) ?_
        refine Go.of (t' := T6.setTop (mkF m 72 #[.val (.int i0), .val (.int i1), .val (.int i2), .val (.int i3), .val (.int i4), .val (.ref r1), .val (.ref b2), .val (.ref r6), .val .null, .unset, .unset, .unset] [.null])) (fun _ kk => XS.goto W6.here hx rfl (pc0 := 65) (pc' := 72) rfl (hb hby at_65) (by decide +kernel) (by decide +kernel) kk) ?_
        refine Go.of (t' := T6.setTop (mkF m 74 #[.val (.int i0), .val (.int i1), .val (.int i2), .val (.int i3), .val (.int i4), .val (.ref r1), .val (.ref b2), .val (.ref r6), .val .null, .val .null, .unset, .unset] [])) (fun _ kk => XS.astore W6.here hx rfl (hb hby at_72) rfl rfl (l' := #[.val (.int i0), .val (.int i1), .val (.int i2), .val (.int i3), .val (.int i4), .val (.ref r1), .val (.ref b2), .val (.ref r6), .val .null, .val .null, .unset, .unset]) rfl kk) ?_
        refine W6.newO hx (hw _ (List.mem_of_getElem? (i := 34) rfl)) (hw _ (List.mem_of_getElem? (i := 35) rfl)) (hw _ (List.mem_of_getElem? (i := 36) rfl)) rfl (hb hby at_74) (by decide +kernel) (by decide +kernel) (fun T49 h49 b49 eb49 gb49 W49 K49 E49 D49 => ?_)
        have k50 : Fld Z h49 b49 "com/example/nabu/nabu/NewEvent" "type" "Ljava/lang/String;" .null := D49 (Or.inr (hw _ (List.mem_of_getElem? (i := 55) rfl))) (ty := (.object "java/lang/String")) (by decide +kernel)
        have k51 : Fld Z h49 b49 "com/example/nabu/nabu/NewEvent" "body" "[B" .null := D49 (Or.inr (hw _ (List.mem_of_getElem? (i := 57) rfl))) (ty := (.array .byte)) (by decide +kernel)
        have k52 : Fld Z h49 b49 "com/example/nabu/nabu/NewEvent" "contentType" "Ljava/lang/String;" .null := D49 (Or.inr (hw _ (List.mem_of_getElem? (i := 59) rfl))) (ty := (.object "java/lang/String")) (by decide +kernel)
        have k53 : Fld Z h49 b49 "com/example/nabu/nabu/NewEvent" "correlationId" "Ljava/lang/String;" .null := D49 (Or.inr (hw _ (List.mem_of_getElem? (i := 61) rfl))) (ty := (.object "java/lang/String")) (by decide +kernel)
        show Go p e below _ (T49.setTop (mkF m 77 #[.val (.int i0), .val (.int i1), .val (.int i2), .val (.int i3), .val (.int i4), .val (.ref r1), .val (.ref b2), .val (.ref r6), .val .null, .val .null, .unset, .unset] [(.ref b49)]))
        refine Go.of (t' := T49.setTop (mkF m 78 #[.val (.int i0), .val (.int i1), .val (.int i2), .val (.int i3), .val (.int i4), .val (.ref r1), .val (.ref b2), .val (.ref r6), .val .null, .val .null, .unset, .unset] [(.ref b49), (.ref b49)])) (fun _ kk => XS.dup W49.here hx rfl (hb hby at_77) rfl rfl kk) ?_
        refine Go.of (t' := T49.setTop (mkF m 80 #[.val (.int i0), .val (.int i1), .val (.int i2), .val (.int i3), .val (.int i4), .val (.ref r1), .val (.ref b2), .val (.ref r6), .val .null, .val .null, .unset, .unset] [(.ref r1), (.ref b49), (.ref b49)])) (fun _ kk => XS.aload W49.here hx rfl (hb hby at_78) rfl rfl kk) ?_
        refine Go.of (t' := T49.setTop (mkF m 82 #[.val (.int i0), .val (.int i1), .val (.int i2), .val (.int i3), .val (.int i4), .val (.ref r1), .val (.ref b2), .val (.ref r6), .val .null, .val .null, .unset, .unset] [(.ref b2), (.ref r1), (.ref b49), (.ref b49)])) (fun _ kk => XS.aload W49.here hx rfl (hb hby at_80) rfl rfl kk) ?_
        refine Go.of (t' := T49.setTop (mkF m 84 #[.val (.int i0), .val (.int i1), .val (.int i2), .val (.int i3), .val (.int i4), .val (.ref r1), .val (.ref b2), .val (.ref r6), .val .null, .val .null, .unset, .unset] [(.ref r6), (.ref b2), (.ref r1), (.ref b49), (.ref b49)])) (fun _ kk => XS.aload W49.here hx rfl (hb hby at_82) rfl rfl kk) ?_
        refine Go.of (t' := T49.setTop (mkF m 86 #[.val (.int i0), .val (.int i1), .val (.int i2), .val (.int i3), .val (.int i4), .val (.ref r1), .val (.ref b2), .val (.ref r6), .val .null, .val .null, .unset, .unset] [.null, (.ref r6), (.ref b2), (.ref r1), (.ref b49), (.ref b49)])) (fun _ kk => XS.aload W49.here hx rfl (hb hby at_84) rfl rfl kk) ?_
        refine W49.callP hx hEL rfl (hw _ (List.mem_of_getElem? (i := 37) rfl)) (hw _ (List.mem_of_getElem? (i := 38) rfl)) (hw _ (List.mem_of_getElem? (i := 36) rfl)) (hw _ (List.mem_of_getElem? (i := 39) rfl)) (by decide +kernel) (a := b49) (argsL := [(.ref r1), (.ref b2), (.ref r6), .null]) (rest := [(.ref b49)]) (rm4 l Z a0 hw hEL zc SC hzc fm SF rfm b49 r1 b2 (.ref r6) .null rfl rfl h49 W49.old E49 k50 k51 k52 k53 gb49.1) all0 (by decide +kernel) (Wd := 1) (by decide +kernel) (by decide +kernel) (by decide +kernel) (allS ⟨gb49.1, (Or.inr gb49.2)⟩ all0) rfl (by rw [hml]; rfl) (lenOf pd2 rfl) rfl (by show 2 * 0 + _ ≤ _; exact Nat.le_of_eq rfl) (hb hby at_86) (fun T54 h54 v54 W54 K54 q54 => ?_)
        obtain ⟨rfl, Ftype54, Fbody54, Fcont54, Fcorr54⟩ := q54
        show Go p e below _ (T54.setTop (mkF m 89 #[.val (.int i0), .val (.int i1), .val (.int i2), .val (.int i3), .val (.int i4), .val (.ref r1), .val (.ref b2), .val (.ref r6), .val .null, .val .null, .unset, .unset] [(.ref b49)]))
        refine Go.of (t' := T54.setTop (mkF m 91 #[.val (.int i0), .val (.int i1), .val (.int i2), .val (.int i3), .val (.int i4), .val (.ref r1), .val (.ref b2), .val (.ref r6), .val .null, .val .null, .val (.ref b49), .unset] [])) (fun _ kk => XS.astore W54.here hx rfl (hb hby at_89) rfl rfl (l' := #[.val (.int i0), .val (.int i1), .val (.int i2), .val (.int i3), .val (.int i4), .val (.ref r1), .val (.ref b2), .val (.ref r6), .val .null, .val .null, .val (.ref b49), .unset]) rfl kk) ?_
        refine Go.of (t' := T54.setTop (mkF m 93 #[.val (.int i0), .val (.int i1), .val (.int i2), .val (.int i3), .val (.int i4), .val (.ref r1), .val (.ref b2), .val (.ref r6), .val .null, .val .null, .val (.ref b49), .unset] [(.ref b49)])) (fun _ kk => XS.aload W54.here hx rfl (hb hby at_91) rfl rfl kk) ?_
        refine Go.of (t' := T54.setTop (mkF m 95 #[.val (.int i0), .val (.int i1), .val (.int i2), .val (.int i3), .val (.int i4), .val (.ref r1), .val (.ref b2), .val (.ref r6), .val .null, .val .null, .val (.ref b49), .unset] [.null, (.ref b49)])) (fun _ kk => XS.aload W54.here hx rfl (hb hby at_93) rfl rfl kk) ?_
        have k56 := (E49.keep K54)
        refine W54.callV hx hEL (hw _ (List.mem_of_getElem? (i := 62) rfl)) (hw _ (List.mem_of_getElem? (i := 63) rfl)) (hw _ (List.mem_of_getElem? (i := 65) rfl)) (hw _ (List.mem_of_getElem? (i := 64) rfl)) (hw _ (List.mem_of_getElem? (i := 36) rfl)) (hw _ (List.mem_of_getElem? (i := 66) rfl)) (by decide +kernel) k56 (a := b49) (argsL := [.null]) (rest := []) (rm5 l Z a0 hw hEL zc SC hzc fm SF rfm b49 .null rfl r1 b2 .null rfl h54 W54.old Ftype54 Fbody54 Fcorr54) all0 (by decide +kernel) (Wd := 0) (by decide +kernel) (by decide +kernel) (by decide +kernel) all0 rfl (by rw [hml]; rfl) (lenOf pd4 rfl) rfl (by show 2 * 0 + _ ≤ _; exact Nat.le_of_eq rfl) (hb hby at_95) (fun T55 h55 v55 W55 K55 q55 => ?_)
        obtain ⟨r55, rfl, lr55, E55, Ftype55, Fbody55, Fcont55, Fcorr55⟩ := q55
        have gr55 : n0 ≤ r55 ∧ s.heap.size ≤ r55 := ⟨Nat.le_trans W54.n0le lr55, Nat.le_trans W54.s0le lr55⟩
        show Go p e below _ (T55.setTop (mkF m 98 #[.val (.int i0), .val (.int i1), .val (.int i2), .val (.int i3), .val (.int i4), .val (.ref r1), .val (.ref b2), .val (.ref r6), .val .null, .val .null, .val (.ref b49), .unset] [(.ref r55)]))
        refine Go.of (t' := T55.setTop (mkF m 100 #[.val (.int i0), .val (.int i1), .val (.int i2), .val (.int i3), .val (.int i4), .val (.ref r1), .val (.ref b2), .val (.ref r6), .val .null, .val .null, .val (.ref b49), .val (.ref r55)] [])) (fun _ kk => XS.astore W55.here hx rfl (hb hby at_98) rfl rfl (l' := #[.val (.int i0), .val (.int i1), .val (.int i2), .val (.int i3), .val (.int i4), .val (.ref r1), .val (.ref b2), .val (.ref r6), .val .null, .val .null, .val (.ref b49), .val (.ref r55)]) rfl kk) ?_
        refine Go.of (t' := T55.setTop (mkF m 102 #[.val (.int i0), .val (.int i1), .val (.int i2), .val (.int i3), .val (.int i4), .val (.ref r1), .val (.ref b2), .val (.ref r6), .val .null, .val .null, .val (.ref b49), .val (.ref r55)] [(.ref r55)])) (fun _ kk => XS.aload W55.here hx rfl (hb hby at_100) rfl rfl kk) ?_
        refine Go.of (t' := T55.setTop (mkF m 107 #[.val (.int i0), .val (.int i1), .val (.int i2), .val (.int i3), .val (.int i4), .val (.ref r1), .val (.ref b2), .val (.ref r6), .val .null, .val .null, .val (.ref b49), .val (.ref r55)] [])) (fun _ kk => XS.ifnonnullYes W55.here hx rfl (pc0 := 102) (pc' := 107) rfl (hb hby at_102) rfl (by decide +kernel) (by decide +kernel) kk) ?_
        refine Go.of (t' := T55.setTop (mkF m 109 #[.val (.int i0), .val (.int i1), .val (.int i2), .val (.int i3), .val (.int i4), .val (.ref r1), .val (.ref b2), .val (.ref r6), .val .null, .val .null, .val (.ref b49), .val (.ref r55)] [(.ref r55)])) (fun _ kk => XS.aload W55.here hx rfl (hb hby at_107) rfl rfl kk) ?_
        refine W55.callV hx hEL (hw _ (List.mem_of_getElem? (i := 69) rfl)) (hw _ (List.mem_of_getElem? (i := 70) rfl)) (hw _ (List.mem_of_getElem? (i := 72) rfl)) (hw _ (List.mem_of_getElem? (i := 71) rfl)) (hw _ (List.mem_of_getElem? (i := 36) rfl)) (hw _ (List.mem_of_getElem? (i := 73) rfl)) (by decide +kernel) E55 (a := r55) (argsL := []) (rest := []) (rm6 l Z a0 hw hEL zc SC hzc fm SF rfm r55 (.ref r1) rfl h55 W55.old Ftype55) all0 (by decide +kernel) (Wd := 0) (by decide +kernel) (by decide +kernel) (by decide +kernel) all0 rfl (by rw [hml]; rfl) (lenOf pd5 rfl) rfl (by show 2 * 0 + _ ≤ _; exact Nat.le_of_eq rfl) (hb hby at_109) (fun T57 h57 v57 W57 K57 q57 => ?_)
        obtain ⟨rfl, rfl⟩ := q57
        show Go p e below _ (T57.setTop (mkF m 112 #[.val (.int i0), .val (.int i1), .val (.int i2), .val (.int i3), .val (.int i4), .val (.ref r1), .val (.ref b2), .val (.ref r6), .val .null, .val .null, .val (.ref b49), .val (.ref r55)] [(.ref r1)]))
        refine Go.of (t' := T57.setTop (mkF m 114 #[.val (.int i0), .val (.int i1), .val (.int i2), .val (.int i3), .val (.int i4), .val (.ref r1), .val (.ref b2), .val (.ref r6), .val .null, .val .null, .val (.ref b49), .val (.ref r55)] [(.ref r1), (.ref r1)])) (fun _ kk => XS.aload W57.here hx rfl (hb hby at_112) rfl rfl kk) ?_
        refine Go.of (t' := T57.setTop (mkF m 117 #[.val (.int i0), .val (.int i1), .val (.int i2), .val (.int i3), .val (.int i4), .val (.ref r1), .val (.ref b2), .val (.ref r6), .val .null, .val .null, .val (.ref b49), .val (.ref r55)] [])) (fun _ kk => XT.acmpNo (g := (mkF m 114 #[.val (.int i0), .val (.int i1), .val (.int i2), .val (.int i3), .val (.int i4), .val (.ref r1), .val (.ref b2), .val (.ref r6), .val .null, .val .null, .val (.ref b49), .val (.ref r55)] [(.ref r1), (.ref r1)])) W57.here hx rfl (hb hby at_114) (x := (.ref r1)) (y := (.ref r1)) (rest := []) rfl rfl rfl (XT.aa_ne_f (x := (.ref r1)) (y := (.ref r1)) rfl) kk) ?_
        refine Go.of (t' := T57.setTop (mkF m 119 #[.val (.int i0), .val (.int i1), .val (.int i2), .val (.int i3), .val (.int i4), .val (.ref r1), .val (.ref b2), .val (.ref r6), .val .null, .val .null, .val (.ref b49), .val (.ref r55)] [(.ref r55)])) (fun _ kk => XS.aload W57.here hx rfl (hb hby at_117) rfl rfl kk) ?_
        refine W57.callV hx hEL (hw _ (List.mem_of_getElem? (i := 74) rfl)) (hw _ (List.mem_of_getElem? (i := 75) rfl)) (hw _ (List.mem_of_getElem? (i := 77) rfl)) (hw _ (List.mem_of_getElem? (i := 76) rfl)) (hw _ (List.mem_of_getElem? (i := 36) rfl)) (hw _ (List.mem_of_getElem? (i := 78) rfl)) (by decide +kernel) E55 (a := r55) (argsL := []) (rest := []) (rm7 l Z a0 hw hEL zc SC hzc fm SF rfm r55 (.ref b2) rfl h55 W57.old Fbody55) all0 (by decide +kernel) (Wd := 0) (by decide +kernel) (by decide +kernel) (by decide +kernel) all0 rfl (by rw [hml]; rfl) (lenOf pd6 rfl) rfl (by show 2 * 0 + _ ≤ _; exact Nat.le_of_eq rfl) (hb hby at_119) (fun T58 h58 v58 W58 K58 q58 => ?_)
        obtain ⟨rfl, rfl⟩ := q58
        show Go p e below _ (T58.setTop (mkF m 122 #[.val (.int i0), .val (.int i1), .val (.int i2), .val (.int i3), .val (.int i4), .val (.ref r1), .val (.ref b2), .val (.ref r6), .val .null, .val .null, .val (.ref b49), .val (.ref r55)] [(.ref b2)]))
        refine Go.of (t' := T58.setTop (mkF m 124 #[.val (.int i0), .val (.int i1), .val (.int i2), .val (.int i3), .val (.int i4), .val (.ref r1), .val (.ref b2), .val (.ref r6), .val .null, .val .null, .val (.ref b49), .val (.ref r55)] [(.ref b2), (.ref b2)])) (fun _ kk => XS.aload W58.here hx rfl (hb hby at_122) rfl rfl kk) ?_
        refine Go.of (t' := T58.setTop (mkF m 127 #[.val (.int i0), .val (.int i1), .val (.int i2), .val (.int i3), .val (.int i4), .val (.ref r1), .val (.ref b2), .val (.ref r6), .val .null, .val .null, .val (.ref b49), .val (.ref r55)] [])) (fun _ kk => XT.acmpNo (g := (mkF m 124 #[.val (.int i0), .val (.int i1), .val (.int i2), .val (.int i3), .val (.int i4), .val (.ref r1), .val (.ref b2), .val (.ref r6), .val .null, .val .null, .val (.ref b49), .val (.ref r55)] [(.ref b2), (.ref b2)])) W58.here hx rfl (hb hby at_124) (x := (.ref b2)) (y := (.ref b2)) (rest := []) rfl rfl rfl (XT.aa_ne_f (x := (.ref b2)) (y := (.ref b2)) rfl) kk) ?_
        refine Go.of (t' := T58.setTop (mkF m 129 #[.val (.int i0), .val (.int i1), .val (.int i2), .val (.int i3), .val (.int i4), .val (.ref r1), .val (.ref b2), .val (.ref r6), .val .null, .val .null, .val (.ref b49), .val (.ref r55)] [(.ref r55)])) (fun _ kk => XS.aload W58.here hx rfl (hb hby at_127) rfl rfl kk) ?_
        refine W58.callV hx hEL (hw _ (List.mem_of_getElem? (i := 79) rfl)) (hw _ (List.mem_of_getElem? (i := 80) rfl)) (hw _ (List.mem_of_getElem? (i := 82) rfl)) (hw _ (List.mem_of_getElem? (i := 81) rfl)) (hw _ (List.mem_of_getElem? (i := 36) rfl)) (hw _ (List.mem_of_getElem? (i := 83) rfl)) (by decide +kernel) E55 (a := r55) (argsL := []) (rest := []) (rm8 l Z a0 hw hEL zc SC hzc fm SF rfm r55 .null rfl h55 W58.old Fcont55) all0 (by decide +kernel) (Wd := 0) (by decide +kernel) (by decide +kernel) (by decide +kernel) all0 rfl (by rw [hml]; rfl) (lenOf pd5 rfl) rfl (by show 2 * 0 + _ ≤ _; exact Nat.le_of_eq rfl) (hb hby at_129) (fun T59 h59 v59 W59 K59 q59 => ?_)
        obtain ⟨rfl, rfl⟩ := q59
        show Go p e below _ (T59.setTop (mkF m 132 #[.val (.int i0), .val (.int i1), .val (.int i2), .val (.int i3), .val (.int i4), .val (.ref r1), .val (.ref b2), .val (.ref r6), .val .null, .val .null, .val (.ref b49), .val (.ref r55)] [.null]))
        refine Go.of (t' := T59.setTop (mkF m 134 #[.val (.int i0), .val (.int i1), .val (.int i2), .val (.int i3), .val (.int i4), .val (.ref r1), .val (.ref b2), .val (.ref r6), .val .null, .val .null, .val (.ref b49), .val (.ref r55)] [.null, .null])) (fun _ kk => XS.aload W59.here hx rfl (hb hby at_132) rfl rfl kk) ?_
        refine Go.of (t' := T59.setTop (mkF m 137 #[.val (.int i0), .val (.int i1), .val (.int i2), .val (.int i3), .val (.int i4), .val (.ref r1), .val (.ref b2), .val (.ref r6), .val .null, .val .null, .val (.ref b49), .val (.ref r55)] [])) (fun _ kk => XT.acmpNo (g := (mkF m 134 #[.val (.int i0), .val (.int i1), .val (.int i2), .val (.int i3), .val (.int i4), .val (.ref r1), .val (.ref b2), .val (.ref r6), .val .null, .val .null, .val (.ref b49), .val (.ref r55)] [.null, .null])) W59.here hx rfl (hb hby at_134) (x := .null) (y := .null) (rest := []) rfl rfl rfl (XT.aa_ne_f (x := .null) (y := .null) rfl) kk) ?_
        refine Go.of (t' := T59.setTop (mkF m 139 #[.val (.int i0), .val (.int i1), .val (.int i2), .val (.int i3), .val (.int i4), .val (.ref r1), .val (.ref b2), .val (.ref r6), .val .null, .val .null, .val (.ref b49), .val (.ref r55)] [(.ref r55)])) (fun _ kk => XS.aload W59.here hx rfl (hb hby at_137) rfl rfl kk) ?_
        refine W59.callV hx hEL (hw _ (List.mem_of_getElem? (i := 84) rfl)) (hw _ (List.mem_of_getElem? (i := 85) rfl)) (hw _ (List.mem_of_getElem? (i := 87) rfl)) (hw _ (List.mem_of_getElem? (i := 86) rfl)) (hw _ (List.mem_of_getElem? (i := 36) rfl)) (hw _ (List.mem_of_getElem? (i := 88) rfl)) (by decide +kernel) E55 (a := r55) (argsL := []) (rest := []) (rm9 l Z a0 hw hEL zc SC hzc fm SF rfm r55 .null rfl h55 W59.old Fcorr55) all0 (by decide +kernel) (Wd := 0) (by decide +kernel) (by decide +kernel) (by decide +kernel) all0 rfl (by rw [hml]; rfl) (lenOf pd5 rfl) rfl (by show 2 * 0 + _ ≤ _; exact Nat.le_of_eq rfl) (hb hby at_139) (fun T60 h60 v60 W60 K60 q60 => ?_)
        obtain ⟨rfl, rfl⟩ := q60
        show Go p e below _ (T60.setTop (mkF m 142 #[.val (.int i0), .val (.int i1), .val (.int i2), .val (.int i3), .val (.int i4), .val (.ref r1), .val (.ref b2), .val (.ref r6), .val .null, .val .null, .val (.ref b49), .val (.ref r55)] [.null]))
        refine Go.of (t' := T60.setTop (mkF m 144 #[.val (.int i0), .val (.int i1), .val (.int i2), .val (.int i3), .val (.int i4), .val (.ref r1), .val (.ref b2), .val (.ref r6), .val .null, .val .null, .val (.ref b49), .val (.ref r55)] [.null, .null])) (fun _ kk => XS.aload W60.here hx rfl (hb hby at_142) rfl rfl kk) ?_
        refine Go.of (t' := T60.setTop (mkF m 147 #[.val (.int i0), .val (.int i1), .val (.int i2), .val (.int i3), .val (.int i4), .val (.ref r1), .val (.ref b2), .val (.ref r6), .val .null, .val .null, .val (.ref b49), .val (.ref r55)] [])) (fun _ kk => XT.acmpNo (g := (mkF m 144 #[.val (.int i0), .val (.int i1), .val (.int i2), .val (.int i3), .val (.int i4), .val (.ref r1), .val (.ref b2), .val (.ref r6), .val .null, .val .null, .val (.ref b49), .val (.ref r55)] [.null, .null])) W60.here hx rfl (hb hby at_144) (x := .null) (y := .null) (rest := []) rfl rfl rfl (XT.aa_ne_f (x := .null) (y := .null) rfl) kk) ?_
        refine Go.of (t' := T60.setTop (mkF m 148 #[.val (.int i0), .val (.int i1), .val (.int i2), .val (.int i3), .val (.int i4), .val (.ref r1), .val (.ref b2), .val (.ref r6), .val .null, .val .null, .val (.ref b49), .val (.ref r55)] [(.int (1 : Int32))])) (fun _ kk => XS.iconst W60.here hx rfl (hb hby at_147) kk) ?_
        refine Go.of (t' := T60.setTop (mkF m 152 #[.val (.int i0), .val (.int i1), .val (.int i2), .val (.int i3), .val (.int i4), .val (.ref r1), .val (.ref b2), .val (.ref r6), .val .null, .val .null, .val (.ref b49), .val (.ref r55)] [(.int (1 : Int32))])) (fun _ kk => XS.goto W60.here hx rfl (pc0 := 148) (pc' := 152) rfl (hb hby at_148) (by decide +kernel) (by decide +kernel) kk) ?_
        exact W60.retI hx hEL hs hlk (by decide +kernel) (by decide +kernel) hret (by simp) rfl (hb hby at_152) rfl
  · refine Go.of (t' := T4.setTop (mkF m 30 #[.val (.int i0), .val (.int i1), .val (.int i2), .val (.int i3), .val (.int i4), .val (.ref r1), .val (.ref b2), .unset, .unset, .unset, .unset, .unset] [])) (fun _ kk => XS.ifNo W4.here hx rfl (hb hby at_27) rfl (XT.i0_eq_f c5) kk) ?_
    refine Go.of (t' := T4.setTop (mkF m 31 #[.val (.int i0), .val (.int i1), .val (.int i2), .val (.int i3), .val (.int i4), .val (.ref r1), .val (.ref b2), .unset, .unset, .unset, .unset, .unset] [.null])) (fun _ kk => XS.aconstNull W4.here hx rfl (hb hby at_30) kk) ?_
    refine Go.of (t' := T4.setTop (mkF m 38 #[.val (.int i0), .val (.int i1), .val (.int i2), .val (.int i3), .val (.int i4), .val (.ref r1), .val (.ref b2), .unset, .unset, .unset, .unset, .unset] [.null])) (fun _ kk => XS.goto W4.here hx rfl (pc0 := 31) (pc' := 38) rfl (hb hby at_31) (by decide +kernel) (by decide +kernel) kk) ?_
    refine Go.of (t' := T4.setTop (mkF m 40 #[.val (.int i0), .val (.int i1), .val (.int i2), .val (.int i3), .val (.int i4), .val (.ref r1), .val (.ref b2), .val .null, .unset, .unset, .unset, .unset] [])) (fun _ kk => XS.astore W4.here hx rfl (hb hby at_38) rfl rfl (l' := #[.val (.int i0), .val (.int i1), .val (.int i2), .val (.int i3), .val (.int i4), .val (.ref r1), .val (.ref b2), .val .null, .unset, .unset, .unset, .unset]) rfl kk) ?_
    refine Go.of (t' := T4.setTop (mkF m 42 #[.val (.int i0), .val (.int i1), .val (.int i2), .val (.int i3), .val (.int i4), .val (.ref r1), .val (.ref b2), .val .null, .unset, .unset, .unset, .unset] [(.int i4)])) (fun _ kk => XS.iload W4.here hx rfl (hb hby at_40) rfl kk) ?_
    refine Go.of (t' := T4.setTop (mkF m 43 #[.val (.int i0), .val (.int i1), .val (.int i2), .val (.int i3), .val (.int i4), .val (.ref r1), .val (.ref b2), .val .null, .unset, .unset, .unset, .unset] [(.int (2 : Int32)), (.int i4)])) (fun _ kk => XS.iconst W4.here hx rfl (hb hby at_42) kk) ?_
    refine Go.of (t' := T4.setTop (mkF m 44 #[.val (.int i0), .val (.int i1), .val (.int i2), .val (.int i3), .val (.int i4), .val (.ref r1), .val (.ref b2), .val .null, .unset, .unset, .unset, .unset] [(.int (i4 &&& (2 : Int32)))])) (fun _ kk => XS.iand W4.here hx rfl (hb hby at_43) rfl kk) ?_
    by_cases c61 : (i4 &&& (2 : Int32)) = (0 : Int32)
    · refine Go.of (t' := T4.setTop (mkF m 51 #[.val (.int i0), .val (.int i1), .val (.int i2), .val (.int i3), .val (.int i4), .val (.ref r1), .val (.ref b2), .val .null, .unset, .unset, .unset, .unset] [])) (fun _ kk => XS.ifYes W4.here hx rfl (pc0 := 44) (pc' := 51) rfl (hb hby at_44) rfl (XT.i0_eq_t c61) (by decide +kernel) (by decide +kernel) kk) ?_
      refine Go.of (t' := T4.setTop (mkF m 52 #[.val (.int i0), .val (.int i1), .val (.int i2), .val (.int i3), .val (.int i4), .val (.ref r1), .val (.ref b2), .val .null, .unset, .unset, .unset, .unset] [(.int i2)])) (fun _ kk => XS.iloadN W4.here hx rfl (hb hby at_51) rfl kk) ?_
      refine W4.callS hx hEL (hw _ (List.mem_of_getElem? (i := 0) rfl)) (hw _ (List.mem_of_getElem? (i := 1) rfl)) (hw _ (List.mem_of_getElem? (i := 2) rfl)) (hw _ (List.mem_of_getElem? (i := 3) rfl)) (by decide +kernel) (argsL := [(.int i2)]) (rest := []) (rm1 l Z a0 hw hEL zc SC hzc fm SF rfm i2 h4 W4.old ) all0 (by decide +kernel) (Wd := 0) (by decide +kernel) (by decide +kernel) (by decide +kernel) all0 rfl (by rw [hml]; rfl) (lenOf pd3 rfl) rfl (by show 2 * 0 + _ ≤ _; exact Nat.le_of_eq rfl) (hb hby at_52) (fun T62 h62 v62 W62 K62 q62 => ?_)
      obtain ⟨r62, rfl, lr62, E62⟩ := q62
      have gr62 : n0 ≤ r62 ∧ s.heap.size ≤ r62 := ⟨Nat.le_trans W4.n0le lr62, Nat.le_trans W4.s0le lr62⟩
      show Go p e below _ (T62.setTop (mkF m 55 #[.val (.int i0), .val (.int i1), .val (.int i2), .val (.int i3), .val (.int i4), .val (.ref r1), .val (.ref b2), .val .null, .unset, .unset, .unset, .unset] [(.ref r62)]))
      refine Go.of (t' := T62.setTop (mkF m 57 #[.val (.int i0), .val (.int i1), .val (.int i2), .val (.int i3), .val (.int i4), .val (.ref r1), .val (.ref b2), .val .null, .val (.ref r62), .unset, .unset, .unset] [])) (fun _ kk => XS.astore W62.here hx rfl (hb hby at_55) rfl rfl (l' := #[.val (.int i0), .val (.int i1), .val (.int i2), .val (.int i3), .val (.int i4), .val (.ref r1), .val (.ref b2), .val .null, .val (.ref r62), .unset, .unset, .unset]) rfl kk) ?_
      refine Go.of (t' := T62.setTop (mkF m 59 #[.val (.int i0), .val (.int i1), .val (.int i2), .val (.int i3), .val (.int i4), .val (.ref r1), .val (.ref b2), .val .null, .val (.ref r62), .unset, .unset, .unset] [(.int i4)])) (fun _ kk => XS.iload W62.here hx rfl (hb hby at_57) rfl kk) ?_
      refine Go.of (t' := T62.setTop (mkF m 60 #[.val (.int i0), .val (.int i1), .val (.int i2), .val (.int i3), .val (.int i4), .val (.ref r1), .val (.ref b2), .val .null, .val (.ref r62), .unset, .unset, .unset] [(.int (4 : Int32)), (.int i4)])) (fun _ kk => XS.iconst W62.here hx rfl (hb hby at_59) kk) ?_
      refine Go.of (t' := T62.setTop (mkF m 61 #[.val (.int i0), .val (.int i1), .val (.int i2), .val (.int i3), .val (.int i4), .val (.ref r1), .val (.ref b2), .val .null, .val (.ref r62), .unset, .unset, .unset] [(.int (i4 &&& (4 : Int32)))])) (fun _ kk => XS.iand W62.here hx rfl (hb hby at_60) rfl kk) ?_
      by_cases c63 : (i4 &&& (4 : Int32)) = (0 : Int32)
      · refine Go.of (t' := T62.setTop (mkF m 68 #[.val (.int i0), .val (.int i1), .val (.int i2), .val (.int i3), .val (.int i4), .val (.ref r1), .val (.ref b2), .val .null, .val (.ref r62), .unset, .unset, .unset] [])) (fun _ kk => XS.ifYes W62.here hx rfl (pc0 := 61) (pc' := 68) rfl (hb hby at_61) rfl (XT.i0_eq_t c63) (by decide +kernel) (by decide +kernel) kk) ?_
        refine Go.of (t' := T62.setTop (mkF m 69 #[.val (.int i0), .val (.int i1), .val (.int i2), .val (.int i3), .val (.int i4), .val (.ref r1), .val (.ref b2), .val .null, .val (.ref r62), .unset, .unset, .unset] [(.int i3)])) (fun _ kk => XS.iloadN W62.here hx rfl (hb hby at_68) rfl kk) ?_
        refine W62.callS hx hEL (hw _ (List.mem_of_getElem? (i := 0) rfl)) (hw _ (List.mem_of_getElem? (i := 1) rfl)) (hw _ (List.mem_of_getElem? (i := 2) rfl)) (hw _ (List.mem_of_getElem? (i := 3) rfl)) (by decide +kernel) (argsL := [(.int i3)]) (rest := []) (rm1 l Z a0 hw hEL zc SC hzc fm SF rfm i3 h62 W62.old ) all0 (by decide +kernel) (Wd := 0) (by decide +kernel) (by decide +kernel) (by decide +kernel) all0 rfl (by rw [hml]; rfl) (lenOf pd3 rfl) rfl (by show 2 * 0 + _ ≤ _; exact Nat.le_of_eq rfl) (hb hby at_69) (fun T64 h64 v64 W64 K64 q64 => ?_)
        obtain ⟨r64, rfl, lr64, E64⟩ := q64
        have gr64 : n0 ≤ r64 ∧ s.heap.size ≤ r64 := ⟨Nat.le_trans W62.n0le lr64, Nat.le_trans W62.s0le lr64⟩
        show Go p e below _ (T64.setTop (mkF m 72 #[.val (.int i0), .val (.int i1), .val (.int i2), .val (.int i3), .val (.int i4), .val (.ref r1), .val (.ref b2), .val .null, .val (.ref r62), .unset, .unset, .unset] [(.ref r64)]))
        refine Go.of (t' := T64.setTop (mkF m 74 #[.val (.int i0), .val (.int i1), .val (.int i2), .val (.int i3), .val (.int i4), .val (.ref r1), .val (.ref b2), .val .null, .val (.ref r62), .val (.ref r64), .unset, .unset] [])) (fun _ kk => XS.astore W64.here hx rfl (hb hby at_72) rfl rfl (l' := #[.val (.int i0), .val (.int i1), .val (.int i2), .val (.int i3), .val (.int i4), .val (.ref r1), .val (.ref b2), .val .null, .val (.ref r62), .val (.ref r64), .unset, .unset]) rfl kk) ?_
        refine W64.newO hx (hw _ (List.mem_of_getElem? (i := 34) rfl)) (hw _ (List.mem_of_getElem? (i := 35) rfl)) (hw _ (List.mem_of_getElem? (i := 36) rfl)) rfl (hb hby at_74) (by decide +kernel) (by decide +kernel) (fun T65 h65 b65 eb65 gb65 W65 K65 E65 D65 => ?_)
        have k66 : Fld Z h65 b65 "com/example/nabu/nabu/NewEvent" "type" "Ljava/lang/String;" .null := D65 (Or.inr (hw _ (List.mem_of_getElem? (i := 55) rfl))) (ty := (.object "java/lang/String")) (by decide +kernel)
        have k67 : Fld Z h65 b65 "com/example/nabu/nabu/NewEvent" "body" "[B" .null := D65 (Or.inr (hw _ (List.mem_of_getElem? (i := 57) rfl))) (ty := (.array .byte)) (by decide +kernel)
        have k68 : Fld Z h65 b65 "com/example/nabu/nabu/NewEvent" "contentType" "Ljava/lang/String;" .null := D65 (Or.inr (hw _ (List.mem_of_getElem? (i := 59) rfl))) (ty := (.object "java/lang/String")) (by decide +kernel)
        have k69 : Fld Z h65 b65 "com/example/nabu/nabu/NewEvent" "correlationId" "Ljava/lang/String;" .null := D65 (Or.inr (hw _ (List.mem_of_getElem? (i := 61) rfl))) (ty := (.object "java/lang/String")) (by decide +kernel)
        show Go p e below _ (T65.setTop (mkF m 77 #[.val (.int i0), .val (.int i1), .val (.int i2), .val (.int i3), .val (.int i4), .val (.ref r1), .val (.ref b2), .val .null, .val (.ref r62), .val (.ref r64), .unset, .unset] [(.ref b65)]))
        refine Go.of (t' := T65.setTop (mkF m 78 #[.val (.int i0), .val (.int i1), .val (.int i2), .val (.int i3), .val (.int i4), .val (.ref r1), .val (.ref b2), .val .null, .val (.ref r62), .val (.ref r64), .unset, .unset] [(.ref b65), (.ref b65)])) (fun _ kk => XS.dup W65.here hx rfl (hb hby at_77) rfl rfl kk) ?_
        refine Go.of (t' := T65.setTop (mkF m 80 #[.val (.int i0), .val (.int i1), .val (.int i2), .val (.int i3), .val (.int i4), .val (.ref r1), .val (.ref b2), .val .null, .val (.ref r62), .val (.ref r64), .unset, .unset] [(.ref r1), (.ref b65), (.ref b65)])) (fun _ kk => XS.aload W65.here hx rfl (hb hby at_78) rfl rfl kk) ?_
        refine Go.of (t' := T65.setTop (mkF m 82 #[.val (.int i0), .val (.int i1), .val (.int i2), .val (.int i3), .val (.int i4), .val (.ref r1), .val (.ref b2), .val .null, .val (.ref r62), .val (.ref r64), .unset, .unset] [(.ref b2), (.ref r1), (.ref b65), (.ref b65)])) (fun _ kk => XS.aload W65.here hx rfl (hb hby at_80) rfl rfl kk) ?_
        refine Go.of (t' := T65.setTop (mkF m 84 #[.val (.int i0), .val (.int i1), .val (.int i2), .val (.int i3), .val (.int i4), .val (.ref r1), .val (.ref b2), .val .null, .val (.ref r62), .val (.ref r64), .unset, .unset] [.null, (.ref b2), (.ref r1), (.ref b65), (.ref b65)])) (fun _ kk => XS.aload W65.here hx rfl (hb hby at_82) rfl rfl kk) ?_
        refine Go.of (t' := T65.setTop (mkF m 86 #[.val (.int i0), .val (.int i1), .val (.int i2), .val (.int i3), .val (.int i4), .val (.ref r1), .val (.ref b2), .val .null, .val (.ref r62), .val (.ref r64), .unset, .unset] [(.ref r62), .null, (.ref b2), (.ref r1), (.ref b65), (.ref b65)])) (fun _ kk => XS.aload W65.here hx rfl (hb hby at_84) rfl rfl kk) ?_
        refine W65.callP hx hEL rfl (hw _ (List.mem_of_getElem? (i := 37) rfl)) (hw _ (List.mem_of_getElem? (i := 38) rfl)) (hw _ (List.mem_of_getElem? (i := 36) rfl)) (hw _ (List.mem_of_getElem? (i := 39) rfl)) (by decide +kernel) (a := b65) (argsL := [(.ref r1), (.ref b2), .null, (.ref r62)]) (rest := [(.ref b65)]) (rm4 l Z a0 hw hEL zc SC hzc fm SF rfm b65 r1 b2 .null (.ref r62) rfl rfl h65 W65.old E65 k66 k67 k68 k69 gb65.1) all0 (by decide +kernel) (Wd := 1) (by decide +kernel) (by decide +kernel) (by decide +kernel) (allS ⟨gb65.1, (Or.inr gb65.2)⟩ all0) rfl (by rw [hml]; rfl) (lenOf pd2 rfl) rfl (by show 2 * 0 + _ ≤ _; exact Nat.le_of_eq rfl) (hb hby at_86) (fun T70 h70 v70 W70 K70 q70 => ?_)
        obtain ⟨rfl, Ftype70, Fbody70, Fcont70, Fcorr70⟩ := q70
        show Go p e below _ (T70.setTop (mkF m 89 #[.val (.int i0), .val (.int i1), .val (.int i2), .val (.int i3), .val (.int i4), .val (.ref r1), .val (.ref b2), .val .null, .val (.ref r62), .val (.ref r64), .unset, .unset] [(.ref b65)]))
        refine Go.of (t' := T70.setTop (mkF m 91 #[.val (.int i0), .val (.int i1), .val (.int i2), .val (.int i3), .val (.int i4), .val (.ref r1), .val (.ref b2), .val .null, .val (.ref r62), .val (.ref r64), .val (.ref b65), .unset] [])) (fun _ kk => XS.astore W70.here hx rfl (hb hby at_89) rfl rfl (l' := #[.val (.int i0), .val (.int i1), .val (.int i2), .val (.int i3), .val (.int i4), .val (.ref r1), .val (.ref b2), .val .null, .val (.ref r62), .val (.ref r64), .val (.ref b65), .unset]) rfl kk) ?_
        refine Go.of (t' := T70.setTop (mkF m 93 #[.val (.int i0), .val (.int i1), .val (.int i2), .val (.int i3), .val (.int i4), .val (.ref r1), .val (.ref b2), .val .null, .val (.ref r62), .val (.ref r64), .val (.ref b65), .unset] [(.ref b65)])) (fun _ kk => XS.aload W70.here hx rfl (hb hby at_91) rfl rfl kk) ?_
        refine Go.of (t' := T70.setTop (mkF m 95 #[.val (.int i0), .val (.int i1), .val (.int i2), .val (.int i3), .val (.int i4), .val (.ref r1), .val (.ref b2), .val .null, .val (.ref r62), .val (.ref r64), .val (.ref b65), .unset] [(.ref r64), (.ref b65)])) (fun _ kk => XS.aload W70.here hx rfl (hb hby at_93) rfl rfl kk) ?_
        have k72 := (E65.keep K70)
        refine W70.callV hx hEL (hw _ (List.mem_of_getElem? (i := 62) rfl)) (hw _ (List.mem_of_getElem? (i := 63) rfl)) (hw _ (List.mem_of_getElem? (i := 65) rfl)) (hw _ (List.mem_of_getElem? (i := 64) rfl)) (hw _ (List.mem_of_getElem? (i := 36) rfl)) (hw _ (List.mem_of_getElem? (i := 66) rfl)) (by decide +kernel) k72 (a := b65) (argsL := [(.ref r64)]) (rest := []) (rm5 l Z a0 hw hEL zc SC hzc fm SF rfm b65 (.ref r64) rfl r1 b2 (.ref r62) rfl h70 W70.old Ftype70 Fbody70 Fcorr70) all0 (by decide +kernel) (Wd := 0) (by decide +kernel) (by decide +kernel) (by decide +kernel) all0 rfl (by rw [hml]; rfl) (lenOf pd4 rfl) rfl (by show 2 * 0 + _ ≤ _; exact Nat.le_of_eq rfl) (hb hby at_95) (fun T71 h71 v71 W71 K71 q71 => ?_)
        obtain ⟨r71, rfl, lr71, E71, Ftype71, Fbody71, Fcont71, Fcorr71⟩ := q71
        have gr71 : n0 ≤ r71 ∧ s.heap.size ≤ r71 := ⟨Nat.le_trans W70.n0le lr71, Nat.le_trans W70.s0le lr71⟩
        show Go p e below _ (T71.setTop (mkF m 98 #[.val (.int i0), .val (.int i1), .val (.int i2), .val (.int i3), .val (.int i4), .val (.ref r1), .val (.ref b2), .val .null, .val (.ref r62), .val (.ref r64), .val (.ref b65), .unset] [(.ref r71)]))
        refine Go.of (t' := T71.setTop (mkF m 100 #[.val (.int i0), .val (.int i1), .val (.int i2), .val (.int i3), .val (.int i4), .val (.ref r1), .val (.ref b2), .val .null, .val (.ref r62), .val (.ref r64), .val (.ref b65), .val (.ref r71)] [])) (fun _ kk => XS.astore W71.here hx rfl (hb hby at_98) rfl rfl (l' := #[.val (.int i0), .val (.int i1), .val (.int i2), .val (.int i3), .val (.int i4), .val (.ref r1), .val (.ref b2), .val .null, .val (.ref r62), .val (.ref r64), .val (.ref b65), .val (.ref r71)]) rfl kk) ?_
        refine Go.of (t' := T71.setTop (mkF m 102 #[.val (.int i0), .val (.int i1), .val (.int i2), .val (.int i3), .val (.int i4), .val (.ref r1), .val (.ref b2), .val .null, .val (.ref r62), .val (.ref r64), .val (.ref b65), .val (.ref r71)] [(.ref r71)])) (fun _ kk => XS.aload W71.here hx rfl (hb hby at_100) rfl rfl kk) ?_
        refine Go.of (t' := T71.setTop (mkF m 107 #[.val (.int i0), .val (.int i1), .val (.int i2), .val (.int i3), .val (.int i4), .val (.ref r1), .val (.ref b2), .val .null, .val (.ref r62), .val (.ref r64), .val (.ref b65), .val (.ref r71)] [])) (fun _ kk => XS.ifnonnullYes W71.here hx rfl (pc0 := 102) (pc' := 107) rfl (hb hby at_102) rfl (by decide +kernel) (by decide +kernel) kk) ?_
        refine Go.of (t' := T71.setTop (mkF m 109 #[.val (.int i0), .val (.int i1), .val (.int i2), .val (.int i3), .val (.int i4), .val (.ref r1), .val (.ref b2), .val .null, .val (.ref r62), .val (.ref r64), .val (.ref b65), .val (.ref r71)] [(.ref r71)])) (fun _ kk => XS.aload W71.here hx rfl (hb hby at_107) rfl rfl kk) ?_
        refine W71.callV hx hEL (hw _ (List.mem_of_getElem? (i := 69) rfl)) (hw _ (List.mem_of_getElem? (i := 70) rfl)) (hw _ (List.mem_of_getElem? (i := 72) rfl)) (hw _ (List.mem_of_getElem? (i := 71) rfl)) (hw _ (List.mem_of_getElem? (i := 36) rfl)) (hw _ (List.mem_of_getElem? (i := 73) rfl)) (by decide +kernel) E71 (a := r71) (argsL := []) (rest := []) (rm6 l Z a0 hw hEL zc SC hzc fm SF rfm r71 (.ref r1) rfl h71 W71.old Ftype71) all0 (by decide +kernel) (Wd := 0) (by decide +kernel) (by decide +kernel) (by decide +kernel) all0 rfl (by rw [hml]; rfl) (lenOf pd5 rfl) rfl (by show 2 * 0 + _ ≤ _; exact Nat.le_of_eq rfl) (hb hby at_109) (fun T73 h73 v73 W73 K73 q73 => ?_)
        obtain ⟨rfl, rfl⟩ := q73
        show Go p e below _ (T73.setTop (mkF m 112 #[.val (.int i0), .val (.int i1), .val (.int i2), .val (.int i3), .val (.int i4), .val (.ref r1), .val (.ref b2), .val .null, .val (.ref r62), .val (.ref r64), .val (.ref b65), .val (.ref r71)] [(.ref r1)]))
        refine Go.of (t' := T73.setTop (mkF m 114 #[.val (.int i0), .val (.int i1), .val (.int i2), .val (.int i3), .val (.int i4), .val (.ref r1), .val (.ref b2), .val .null, .val (.ref r62), .val (.ref r64), .val (.ref b65), .val (.ref r71)] [(.ref r1), (.ref r1)])) (fun _ kk => XS.aload W73.here hx rfl (hb hby at_112) rfl rfl kk) ?_
        refine Go.of (t' := T73.setTop (mkF m 117 #[.val (.int i0), .val (.int i1), .val (.int i2), .val (.int i3), .val (.int i4), .val (.ref r1), .val (.ref b2), .val .null, .val (.ref r62), .val (.ref r64), .val (.ref b65), .val (.ref r71)] [])) (fun _ kk => XT.acmpNo (g := (mkF m 114 #[.val (.int i0), .val (.int i1), .val (.int i2), .val (.int i3), .val (.int i4), .val (.ref r1), .val (.ref b2), .val .null, .val (.ref r62), .val (.ref r64), .val (.ref b65), .val (.ref r71)] [(.ref r1), (.ref r1)])) W73.here hx rfl (hb hby at_114) (x := (.ref r1)) (y := (.ref r1)) (rest := []) rfl rfl rfl (XT.aa_ne_f (x := (.ref r1)) (y := (.ref r1)) rfl) kk) ?_
        refine Go.of (t' := T73.setTop (mkF m 119 #[.val (.int i0), .val (.int i1), .val (.int i2), .val (.int i3), .val (.int i4), .val (.ref r1), .val (.ref b2), .val .null, .val (.ref r62), .val (.ref r64), .val (.ref b65), .val (.ref r71)] [(.ref r71)])) (fun _ kk => XS.aload W73.here hx rfl (hb hby at_117) rfl rfl kk) ?_
        refine W73.callV hx hEL (hw _ (List.mem_of_getElem? (i := 74) rfl)) (hw _ (List.mem_of_getElem? (i := 75) rfl)) (hw _ (List.mem_of_getElem? (i := 77) rfl)) (hw _ (List.mem_of_getElem? (i := 76) rfl)) (hw _ (List.mem_of_getElem? (i := 36) rfl)) (hw _ (List.mem_of_getElem? (i := 78) rfl)) (by decide +kernel) E71 (a := r71) (argsL := []) (rest := []) (rm7 l Z a0 hw hEL zc SC hzc fm SF rfm r71 (.ref b2) rfl h71 W73.old Fbody71) all0 (by decide +kernel) (Wd := 0) (by decide +kernel) (by decide +kernel) (by decide +kernel) all0 rfl (by rw [hml]; rfl) (lenOf pd6 rfl) rfl (by show 2 * 0 + _ ≤ _; exact Nat.le_of_eq rfl) (hb hby at_119) (fun T74 h74 v74 W74 K74 q74 => ?_)
        obtain ⟨rfl, rfl⟩ := q74
        show Go p e below _ (T74.setTop (mkF m 122 #[.val (.int i0), .val (.int i1), .val (.int i2), .val (.int i3), .val (.int i4), .val (.ref r1), .val (.ref b2), .val .null, .val (.ref r62), .val (.ref r64), .val (.ref b65), .val (.ref r71)] [(.ref b2)]))
        refine Go.of (t' := T74.setTop (mkF m 124 #[.val (.int i0), .val (.int i1), .val (.int i2), .val (.int i3), .val (.int i4), .val (.ref r1), .val (.ref b2), .val .null, .val (.ref r62), .val (.ref r64), .val (.ref b65), .val (.ref r71)] [(.ref b2), (.ref b2)])) (fun _ kk => XS.aload W74.here hx rfl (hb hby at_122) rfl rfl kk) ?_
        refine Go.of (t' := T74.setTop (mkF m 127 #[.val (.int i0), .val (.int i1), .val (.int i2), .val (.int i3), .val (.int i4), .val (.ref r1), .val (.ref b2), .val .null, .val (.ref r62), .val (.ref r64), .val (.ref b65), .val (.ref r71)] [])) (fun _ kk => XT.acmpNo (g := (mkF m 124 #[.val (.int i0), .val (.int i1), .val (.int i2), .val (.int i3), .val (.int i4), .val (.ref r1), .val (.ref b2), .val .null, .val (.ref r62), .val (.ref r64), .val (.ref b65), .val (.ref r71)] [(.ref b2), (.ref b2)])) W74.here hx rfl (hb hby at_124) (x := (.ref b2)) (y := (.ref b2)) (rest := []) rfl rfl rfl (XT.aa_ne_f (x := (.ref b2)) (y := (.ref b2)) rfl) kk) ?_
        refine Go.of (t' := T74.setTop (mkF m 129 #[.val (.int i0), .val (.int i1), .val (.int i2), .val (.int i3), .val (.int i4), .val (.ref r1), .val (.ref b2), .val .null, .val (.ref r62), .val (.ref r64), .val (.ref b65), .val (.ref r71)] [(.ref r71)])) (fun _ kk => XS.aload W74.here hx rfl (hb hby at_127) rfl rfl kk) ?_
        refine W74.callV hx hEL (hw _ (List.mem_of_getElem? (i := 79) rfl)) (hw _ (List.mem_of_getElem? (i := 80) rfl)) (hw _ (List.mem_of_getElem? (i := 82) rfl)) (hw _ (List.mem_of_getElem? (i := 81) rfl)) (hw _ (List.mem_of_getElem? (i := 36) rfl)) (hw _ (List.mem_of_getElem? (i := 83) rfl)) (by decide +kernel) E71 (a := r71) (argsL := []) (rest := []) (rm8 l Z a0 hw hEL zc SC hzc fm SF rfm r71 (.ref r64) rfl h71 W74.old Fcont71) all0 (by decide +kernel) (Wd := 0) (by decide +kernel) (by decide +kernel) (by decide +kernel) all0 rfl (by rw [hml]; rfl) (lenOf pd5 rfl) rfl (by show 2 * 0 + _ ≤ _; exact Nat.le_of_eq rfl) (hb hby at_129) (fun T75 h75 v75 W75 K75 q75 => ?_)
        obtain ⟨rfl, rfl⟩ := q75
        show Go p e below _ (T75.setTop (mkF m 132 #[.val (.int i0), .val (.int i1), .val (.int i2), .val (.int i3), .val (.int i4), .val (.ref r1), .val (.ref b2), .val .null, .val (.ref r62), .val (.ref r64), .val (.ref b65), .val (.ref r71)] [(.ref r64)]))
        refine Go.of (t' := T75.setTop (mkF m 134 #[.val (.int i0), .val (.int i1), .val (.int i2), .val (.int i3), .val (.int i4), .val (.ref r1), .val (.ref b2), .val .null, .val (.ref r62), .val (.ref r64), .val (.ref b65), .val (.ref r71)] [(.ref r64), (.ref r64)])) (fun _ kk => XS.aload W75.here hx rfl (hb hby at_132) rfl rfl kk) ?_
        refine Go.of (t' := T75.setTop (mkF m 137 #[.val (.int i0), .val (.int i1), .val (.int i2), .val (.int i3), .val (.int i4), .val (.ref r1), .val (.ref b2), .val .null, .val (.ref r62), .val (.ref r64), .val (.ref b65), .val (.ref r71)] [])) (fun _ kk => XT.acmpNo (g := (mkF m 134 #[.val (.int i0), .val (.int i1), .val (.int i2), .val (.int i3), .val (.int i4), .val (.ref r1), .val (.ref b2), .val .null, .val (.ref r62), .val (.ref r64), .val (.ref b65), .val (.ref r71)] [(.ref r64), (.ref r64)])) W75.here hx rfl (hb hby at_134) (x := (.ref r64)) (y := (.ref r64)) (rest := []) rfl rfl rfl (XT.aa_ne_f (x := (.ref r64)) (y := (.ref r64)) rfl) kk) ?_
        refine Go.of (t' := T75.setTop (mkF m 139 #[.val (.int i0), .val (.int i1), .val (.int i2), .val (.int i3), .val (.int i4), .val (.ref r1), .val (.ref b2), .val .null, .val (.ref r62), .val (.ref r64), .val (.ref b65), .val (.ref r71)] [(.ref r71)])) (fun _ kk => XS.aload W75.here hx rfl (hb hby at_137) rfl rfl kk) ?_
        refine W75.callV hx hEL (hw _ (List.mem_of_getElem? (i := 84) rfl)) (hw _ (List.mem_of_getElem? (i := 85) rfl)) (hw _ (List.mem_of_getElem? (i := 87) rfl)) (hw _ (List.mem_of_getElem? (i := 86) rfl)) (hw _ (List.mem_of_getElem? (i := 36) rfl)) (hw _ (List.mem_of_getElem? (i := 88) rfl)) (by decide +kernel) E71 (a := r71) (argsL := []) (rest := []) (rm9 l Z a0 hw hEL zc SC hzc fm SF rfm r71 (.ref r62) rfl h71 W75.old Fcorr71) all0 (by decide +kernel) (Wd := 0) (by decide +kernel) (by decide +kernel) (by decide +kernel) all0 rfl (by rw [hml]; rfl) (lenOf pd5 rfl) rfl (by show 2 * 0 + _ ≤ _; exact Nat.le_of_eq rfl) (hb hby at_139) (fun T76 h76 v76 W76 K76 q76 => ?_)
        obtain ⟨rfl, rfl⟩ := q76
        show Go p e below _ (T76.setTop (mkF m 142 #[.val (.int i0), .val (.int i1), .val (.int i2), .val (.int i3), .val (.int i4), .val (.ref r1), .val (.ref b2), .val .null, .val (.ref r62), .val (.ref r64), .val (.ref b65), .val (.ref r71)] [(.ref r62)]))
        refine Go.of (t' := T76.setTop (mkF m 144 #[.val (.int i0), .val (.int i1), .val (.int i2), .val (.int i3), .val (.int i4), .val (.ref r1), .val (.ref b2), .val .null, .val (.ref r62), .val (.ref r64), .val (.ref b65), .val (.ref r71)] [(.ref r62), (.ref r62)])) (fun _ kk => XS.aload W76.here hx rfl (hb hby at_142) rfl rfl kk) ?_
        refine Go.of (t' := T76.setTop (mkF m 147 #[.val (.int i0), .val (.int i1), .val (.int i2), .val (.int i3), .val (.int i4), .val (.ref r1), .val (.ref b2), .val .null, .val (.ref r62), .val (.ref r64), .val (.ref b65), .val (.ref r71)] [])) (fun _ kk => XT.acmpNo (g := (mkF m 144 #[.val (.int i0), .val (.int i1), .val (.int i2), .val (.int i3), .val (.int i4), .val (.ref r1), .val (.ref b2), .val .null, .val (.ref r62), .val (.ref r64), .val (.ref b65), .val (.ref r71)] [(.ref r62), (.ref r62)])) W76.here hx rfl (hb hby at_144) (x := (.ref r62)) (y := (.ref r62)) (rest := []) rfl rfl rfl (XT.aa_ne_f (x := (.ref r62)) (y := (.ref r62)) rfl) kk) ?_
        refine Go.of (t' := T76.setTop (mkF m 148 #[.val (.int i0), .val (.int i1), .val (.int i2), .val (.int i3), .val (.int i4), .val (.ref r1), .val (.ref b2), .val .null, .val (.ref r62), .val (.ref r64), .val (.ref b65), .val (.ref r71)] [(.int (1 : Int32))])) (fun _ kk => XS.iconst W76.here hx rfl (hb hby at_147) kk) ?_
        refine Go.of (t' := T76.setTop (mkF m 152 #[.val (.int i0), .val (.int i1), .val (.int i2), .val (.int i3), .val (.int i4), .val (.ref r1), .val (.ref b2), .val .null, .val (.ref r62), .val (.ref r64), .val (.ref b65), .val (.ref r71)] [(.int (1 : Int32))])) (fun _ kk => XS.goto W76.here hx rfl (pc0 := 148) (pc' := 152) rfl (hb hby at_148) (by decide +kernel) (by decide +kernel) kk) ?_
        exact W76.retI hx hEL hs hlk (by decide +kernel) (by decide +kernel) hret (by simp) rfl (hb hby at_152) rfl
      · refine Go.of (t' := T62.setTop (mkF m 64 #[.val (.int i0), .val (.int i1), .val (.int i2), .val (.int i3), .val (.int i4), .val (.ref r1), .val (.ref b2), .val .null, .val (.ref r62), .unset, .unset, .unset] [])) (fun _ kk => XS.ifNo W62.here hx rfl (hb hby at_61) rfl (XT.i0_eq_f c63) kk) ?_
        refine Go.of (t' := T62.setTop (mkF m 65 #[.val (.int i0), .val (.int i1), .val (.int i2), .val (.int i3), .val (.int i4), .val (.ref r1), .val (.ref b2), .val .null, .val (.ref r62), .unset, .unset, .unset] [.null])) (fun _ kk => XS.aconstNull W62.here hx rfl (hb hby at_64) kk) ?_
        refine Go.of (t' := T62.setTop (mkF m 72 #[.val (.int i0), .val (.int i1), .val (.int i2), .val (.int i3), .val (.int i4), .val (.ref r1), .val (.ref b2), .val .null, .val (.ref r62), .unset, .unset, .unset] [.null])) (fun _ kk => XS.goto W62.here hx rfl (pc0 := 65) (pc' := 72) rfl (hb hby at_65) (by decide +kernel) (by decide +kernel) kk) ?_
        refine Go.of (t' := T62.setTop (mkF m 74 #[.val (.int i0), .val (.int i1), .val (.int i2), .val (.int i3), .val (.int i4), .val (.ref r1), .val (.ref b2), .val .null, .val (.ref r62), .val .null, .unset, .unset] [])) (fun _ kk => XS.astore W62.here hx rfl (hb hby at_72) rfl rfl (l' := #[.val (.int i0), .val (.int i1), .val (.int i2), .val (.int i3), .val (.int i4), .val (.ref r1), .val (.ref b2), .val .null, .val (.ref r62), .val .null, .unset, .unset]) rfl kk) ?_
        refine W62.newO hx (hw _ (List.mem_of_getElem? (i := 34) rfl)) (hw _ (List.mem_of_getElem? (i := 35) rfl)) (hw _ (List.mem_of_getElem? (i := 36) rfl)) rfl (hb hby at_74) (by decide +kernel) (by decide +kernel) (fun T77 h77 b77 eb77 gb77 W77 K77 E77 D77 => ?_)
        have k78 : Fld Z h77 b77 "com/example/nabu/nabu/NewEvent" "type" "Ljava/lang/String;" .null := D77 (Or.inr (hw _ (List.mem_of_getElem? (i := 55) rfl))) (ty := (.object "java/lang/String")) (by decide +kernel)
        have k79 : Fld Z h77 b77 "com/example/nabu/nabu/NewEvent" "body" "[B" .null := D77 (Or.inr (hw _ (List.mem_of_getElem? (i := 57) rfl))) (ty := (.array .byte)) (by decide +kernel)
        have k80 : Fld Z h77 b77 "com/example/nabu/nabu/NewEvent" "contentType" "Ljava/lang/String;" .null := D77 (Or.inr (hw _ (List.mem_of_getElem? (i := 59) rfl))) (ty := (.object "java/lang/String")) (by decide +kernel)
        have k81 : Fld Z h77 b77 "com/example/nabu/nabu/NewEvent" "correlationId" "Ljava/lang/String;" .null := D77 (Or.inr (hw _ (List.mem_of_getElem? (i := 61) rfl))) (ty := (.object "java/lang/String")) (by decide +kernel)
        show Go p e below _ (T77.setTop (mkF m 77 #[.val (.int i0), .val (.int i1), .val (.int i2), .val (.int i3), .val (.int i4), .val (.ref r1), .val (.ref b2), .val .null, .val (.ref r62), .val .null, .unset, .unset] [(.ref b77)]))
        refine Go.of (t' := T77.setTop (mkF m 78 #[.val (.int i0), .val (.int i1), .val (.int i2), .val (.int i3), .val (.int i4), .val (.ref r1), .val (.ref b2), .val .null, .val (.ref r62), .val .null, .unset, .unset] [(.ref b77), (.ref b77)])) (fun _ kk => XS.dup W77.here hx rfl (hb hby at_77) rfl rfl kk) ?_
        refine Go.of (t' := T77.setTop (mkF m 80 #[.val (.int i0), .val (.int i1), .val (.int i2), .val (.int i3), .val (.int i4), .val (.ref r1), .val (.ref b2), .val .null, .val (.ref r62), .val .null, .unset, .unset] [(.ref r1), (.ref b77), (.ref b77)])) (fun _ kk => XS.aload W77.here hx rfl (hb hby at_78) rfl rfl kk) ?_
        refine Go.of (t' := T77.setTop (mkF m 82 #[.val (.int i0), .val (.int i1), .val (.int i2), .val (.int i3), .val (.int i4), .val (.ref r1), .val (.ref b2), .val .null, .val (.ref r62), .val .null, .unset, .unset] [(.ref b2), (.ref r1), (.ref b77), (.ref b77)])) (fun _ kk => XS.aload W77.here hx rfl (hb hby at_80) rfl rfl kk) ?_
        refine Go.of (t' := T77.setTop (mkF m 84 #[.val (.int i0), .val (.int i1), .val (.int i2), .val (.int i3), .val (.int i4), .val (.ref r1), .val (.ref b2), .val .null, .val (.ref r62), .val .null, .unset, .unset] [.null, (.ref b2), (.ref r1), (.ref b77), (.ref b77)])) (fun _ kk => XS.aload W77.here hx rfl (hb hby at_82) rfl rfl kk) ?_
        refine Go.of (t' := T77.setTop (mkF m 86 #[.val (.int i0), .val (.int i1), .val (.int i2), .val (.int i3), .val (.int i4), .val (.ref r1), .val (.ref b2), .val .null, .val (.ref r62), .val .null, .unset, .unset] [(.ref r62), .null, (.ref b2), (.ref r1), (.ref b77), (.ref b77)])) (fun _ kk => XS.aload W77.here hx rfl (hb hby at_84) rfl rfl kk) ?_
        refine W77.callP hx hEL rfl (hw _ (List.mem_of_getElem? (i := 37) rfl)) (hw _ (List.mem_of_getElem? (i := 38) rfl)) (hw _ (List.mem_of_getElem? (i := 36) rfl)) (hw _ (List.mem_of_getElem? (i := 39) rfl)) (by decide +kernel) (a := b77) (argsL := [(.ref r1), (.ref b2), .null, (.ref r62)]) (rest := [(.ref b77)]) (rm4 l Z a0 hw hEL zc SC hzc fm SF rfm b77 r1 b2 .null (.ref r62) rfl rfl h77 W77.old E77 k78 k79 k80 k81 gb77.1) all0 (by decide +kernel) (Wd := 1) (by decide +kernel) (by decide +kernel) (by decide +kernel) (allS ⟨gb77.1, (Or.inr gb77.2)⟩ all0) rfl (by rw [hml]; rfl) (lenOf pd2 rfl) rfl (by show 2 * 0 + _ ≤ _; exact Nat.le_of_eq rfl) (hb hby at_86) (fun T82 h82 v82 W82 K82 q82 => ?_)
        obtain ⟨rfl, Ftype82, Fbody82, Fcont82, Fcorr82⟩ := q82
        show Go p e below _ (T82.setTop (mkF m 89 #[.val (.int i0), .val (.int i1), .val (.int i2), .val (.int i3), .val (.int i4), .val (.ref r1), .val (.ref b2), .val .null, .val (.ref r62), .val .null, .unset, .unset] [(.ref b77)]))
        refine Go.of (t' := T82.setTop (mkF m 91 #[.val (.int i0), .val (.int i1), .val (.int i2), .val (.int i3), .val (.int i4), .val (.ref r1), .val (.ref b2), .val .null, .val (.ref r62), .val .null, .val (.ref b77), .unset] [])) (fun _ kk => XS.astore W82.here hx rfl (hb hby at_89) rfl rfl (l' := #[.val (.int i0), .val (.int i1), .val (.int i2), .val (.int i3), .val (.int i4), .val (.ref r1), .val (.ref b2), .val .null, .val (.ref r62), .val .null, .val (.ref b77), .unset]) rfl kk) ?_
        refine Go.of (t' := T82.setTop (mkF m 93 #[.val (.int i0), .val (.int i1), .val (.int i2), .val (.int i3), .val (.int i4), .val (.ref r1), .val (.ref b2), .val .null, .val (.ref r62), .val .null, .val (.ref b77), .unset] [(.ref b77)])) (fun _ kk => XS.aload W82.here hx rfl (hb hby at_91) rfl rfl kk) ?_
        refine Go.of (t' := T82.setTop (mkF m 95 #[.val (.int i0), .val (.int i1), .val (.int i2), .val (.int i3), .val (.int i4), .val (.ref r1), .val (.ref b2), .val .null, .val (.ref r62), .val .null, .val (.ref b77), .unset] [.null, (.ref b77)])) (fun _ kk => XS.aload W82.here hx rfl (hb hby at_93) rfl rfl kk) ?_
        have k84 := (E77.keep K82)
        refine W82.callV hx hEL (hw _ (List.mem_of_getElem? (i := 62) rfl)) (hw _ (List.mem_of_getElem? (i := 63) rfl)) (hw _ (List.mem_of_getElem? (i := 65) rfl)) (hw _ (List.mem_of_getElem? (i := 64) rfl)) (hw _ (List.mem_of_getElem? (i := 36) rfl)) (hw _ (List.mem_of_getElem? (i := 66) rfl)) (by decide +kernel) k84 (a := b77) (argsL := [.null]) (rest := []) (rm5 l Z a0 hw hEL zc SC hzc fm SF rfm b77 .null rfl r1 b2 (.ref r62) rfl h82 W82.old Ftype82 Fbody82 Fcorr82) all0 (by decide +kernel) (Wd := 0) (by decide +kernel) (by decide +kernel) (by decide +kernel) all0 rfl (by rw [hml]; rfl) (lenOf pd4 rfl) rfl (by show 2 * 0 + _ ≤ _; exact Nat.le_of_eq rfl) (hb hby at_95) (fun T83 h83 v83 W83 K83 q83 => ?_)
        obtain ⟨r83, rfl, lr83, E83, Ftype83, Fbody83, Fcont83, Fcorr83⟩ := q83
        have gr83 : n0 ≤ r83 ∧ s.heap.size ≤ r83 := ⟨Nat.le_trans W82.n0le lr83, Nat.le_trans W82.s0le lr83⟩
        show Go p e below _ (T83.setTop (mkF m 98 #[.val (.int i0), .val (.int i1), .val (.int i2), .val (.int i3), .val (.int i4), .val (.ref r1), .val (.ref b2), .val .null, .val (.ref r62), .val .null, .val (.ref b77), .unset] [(.ref r83)]))
        refine Go.of (t' := T83.setTop (mkF m 100 #[.val (.int i0), .val (.int i1), .val (.int i2), .val (.int i3), .val (.int i4), .val (.ref r1), .val (.ref b2), .val .null, .val (.ref r62), .val .null, .val (.ref b77), .val (.ref r83)] [])) (fun _ kk => XS.astore W83.here hx rfl (hb hby at_98) rfl rfl (l' := #[.val (.int i0), .val (.int i1), .val (.int i2), .val (.int i3), .val (.int i4), .val (.ref r1), .val (.ref b2), .val .null, .val (.ref r62), .val .null, .val (.ref b77), .val (.ref r83)]) rfl kk) ?_
        refine Go.of (t' := T83.setTop (mkF m 102 #[.val (.int i0), .val (.int i1), .val (.int i2), .val (.int i3), .val (.int i4), .val (.ref r1), .val (.ref b2), .val .null, .val (.ref r62), .val .null, .val (.ref b77), .val (.ref r83)] [(.ref r83)])) (fun _ kk => XS.aload W83.here hx rfl (hb hby at_100) rfl rfl kk) ?_
        refine Go.of (t' := T83.setTop (mkF m 107 #[.val (.int i0), .val (.int i1), .val (.int i2), .val (.int i3), .val (.int i4), .val (.ref r1), .val (.ref b2), .val .null, .val (.ref r62), .val .null, .val (.ref b77), .val (.ref r83)] [])) (fun _ kk => XS.ifnonnullYes W83.here hx rfl (pc0 := 102) (pc' := 107) rfl (hb hby at_102) rfl (by decide +kernel) (by decide +kernel) kk) ?_
        refine Go.of (t' := T83.setTop (mkF m 109 #[.val (.int i0), .val (.int i1), .val (.int i2), .val (.int i3), .val (.int i4), .val (.ref r1), .val (.ref b2), .val .null, .val (.ref r62), .val .null, .val (.ref b77), .val (.ref r83)] [(.ref r83)])) (fun _ kk => XS.aload W83.here hx rfl (hb hby at_107) rfl rfl kk) ?_
        refine W83.callV hx hEL (hw _ (List.mem_of_getElem? (i := 69) rfl)) (hw _ (List.mem_of_getElem? (i := 70) rfl)) (hw _ (List.mem_of_getElem? (i := 72) rfl)) (hw _ (List.mem_of_getElem? (i := 71) rfl)) (hw _ (List.mem_of_getElem? (i := 36) rfl)) (hw _ (List.mem_of_getElem? (i := 73) rfl)) (by decide +kernel) E83 (a := r83) (argsL := []) (rest := []) (rm6 l Z a0 hw hEL zc SC hzc fm SF rfm r83 (.ref r1) rfl h83 W83.old Ftype83) all0 (by decide +kernel) (Wd := 0) (by decide +kernel) (by decide +kernel) (by decide +kernel) all0 rfl (by rw [hml]; rfl) (lenOf pd5 rfl) rfl (by show 2 * 0 + _ ≤ _; exact Nat.le_of_eq rfl) (hb hby at_109) (fun T85 h85 v85 W85 K85 q85 => ?_)
        obtain ⟨rfl, rfl⟩ := q85
        show Go p e below _ (T85.setTop (mkF m 112 #[.val (.int i0), .val (.int i1), .val (.int i2), .val (.int i3), .val (.int i4), .val (.ref r1), .val (.ref b2), .val .null, .val (.ref r62), .val .null, .val (.ref b77), .val (.ref r83)] [(.ref r1)]))
        refine Go.of (t' := T85.setTop (mkF m 114 #[.val (.int i0), .val (.int i1), .val (.int i2), .val (.int i3), .val (.int i4), .val (.ref r1), .val (.ref b2), .val .null, .val (.ref r62), .val .null, .val (.ref b77), .val (.ref r83)] [(.ref r1), (.ref r1)])) (fun _ kk => XS.aload W85.here hx rfl (hb hby at_112) rfl rfl kk) ?_
        refine Go.of (t' := T85.setTop (mkF m 117 #[.val (.int i0), .val (.int i1), .val (.int i2), .val (.int i3), .val (.int i4), .val (.ref r1), .val (.ref b2), .val .null, .val (.ref r62), .val .null, .val (.ref b77), .val (.ref r83)] [])) (fun _ kk => XT.acmpNo (g := (mkF m 114 #[.val (.int i0), .val (.int i1), .val (.int i2), .val (.int i3), .val (.int i4), .val (.ref r1), .val (.ref b2), .val .null, .val (.ref r62), .val .null, .val (.ref b77), .val (.ref r83)] [(.ref r1), (.ref r1)])) W85.here hx rfl (hb hby at_114) (x := (.ref r1)) (y := (.ref r1)) (rest := []) rfl rfl rfl (XT.aa_ne_f (x := (.ref r1)) (y := (.ref r1)) rfl) kk) ?_
        refine Go.of (t' := T85.setTop (mkF m 119 #[.val (.int i0), .val (.int i1), .val (.int i2), .val (.int i3), .val (.int i4), .val (.ref r1), .val (.ref b2), .val .null, .val (.ref r62), .val .null, .val (.ref b77), .val (.ref r83)] [(.ref r83)])) (fun _ kk => XS.aload W85.here hx rfl (hb hby at_117) rfl rfl kk) ?_
        refine W85.callV hx hEL (hw _ (List.mem_of_getElem? (i := 74) rfl)) (hw _ (List.mem_of_getElem? (i := 75) rfl)) (hw _ (List.mem_of_getElem? (i := 77) rfl)) (hw _ (List.mem_of_getElem? (i := 76) rfl)) (hw _ (List.mem_of_getElem? (i := 36) rfl)) (hw _ (List.mem_of_getElem? (i := 78) rfl)) (by decide +kernel) E83 (a := r83) (argsL := []) (rest := []) (rm7 l Z a0 hw hEL zc SC hzc fm SF rfm r83 (.ref b2) rfl h83 W85.old Fbody83) all0 (by decide +kernel) (Wd := 0) (by decide +kernel) (by decide +kernel) (by decide +kernel) all0 rfl (by rw [hml]; rfl) (lenOf pd6 rfl) rfl (by show 2 * 0 + _ ≤ _; exact Nat.le_of_eq rfl) (hb hby at_119) (fun T86 h86 v86 W86 K86 q86 => ?_)
        obtain ⟨rfl, rfl⟩ := q86
        show Go p e below _ (T86.setTop (mkF m 122 #[.val (.int i0), .val (.int i1), .val (.int i2), .val (.int i3), .val (.int i4), .val (.ref r1), .val (.ref b2), .val .null, .val (.ref r62), .val .null, .val (.ref b77), .val (.ref r83)] [(.ref b2)]))
        refine Go.of (t' := T86.setTop (mkF m 124 #[.val (.int i0), .val (.int i1), .val (.int i2), .val (.int i3), .val (.int i4), .val (.ref r1), .val (.ref b2), .val .null, .val (.ref r62), .val .null, .val (.ref b77), .val (.ref r83)] [(.ref b2), (.ref b2)])) (fun _ kk => XS.aload W86.here hx rfl (hb hby at_122) rfl rfl kk) ?_
        refine Go.of (t' := T86.setTop (mkF m 127 #[.val (.int i0), .val (.int i1), .val (.int i2), .val (.int i3), .val (.int i4), .val (.ref r1), .val (.ref b2), .val .null, .val (.ref r62), .val .null, .val (.ref b77), .val (.ref r83)] [])) (fun _ kk => XT.acmpNo (g := (mkF m 124 #[.val (.int i0), .val (.int i1), .val (.int i2), .val (.int i3), .val (.int i4), .val (.ref r1), .val (.ref b2), .val .null, .val (.ref r62), .val .null, .val (.ref b77), .val (.ref r83)] [(.ref b2), (.ref b2)])) W86.here hx rfl (hb hby at_124) (x := (.ref b2)) (y := (.ref b2)) (rest := []) rfl rfl rfl (XT.aa_ne_f (x := (.ref b2)) (y := (.ref b2)) rfl) kk) ?_
        refine Go.of (t' := T86.setTop (mkF m 129 #[.val (.int i0), .val (.int i1), .val (.int i2), .val (.int i3), .val (.int i4), .val (.ref r1), .val (.ref b2), .val .null, .val (.ref r62), .val .null, .val (.ref b77), .val (.ref r83)] [(.ref r83)])) (fun _ kk => XS.aload W86.here hx rfl (hb hby at_127) rfl rfl kk) ?_
        refine W86.callV hx hEL (hw _ (List.mem_of_getElem? (i := 79) rfl)) (hw _ (List.mem_of_getElem? (i := 80) rfl)) (hw _ (List.mem_of_getElem? (i := 82) rfl)) (hw _ (List.mem_of_getElem? (i := 81) rfl)) (hw _ (List.mem_of_getElem? (i := 36) rfl)) (hw _ (List.mem_of_getElem? (i := 83) rfl)) (by decide +kernel) E83 (a := r83) (argsL := []) (rest := []) (rm8 l Z a0 hw hEL zc SC hzc fm SF rfm r83 .null rfl h83 W86.old Fcont83) all0 (by decide +kernel) (Wd := 0) (by decide +kernel) (by decide +kernel) (by decide +kernel) all0 rfl (by rw [hml]; rfl) (lenOf pd5 rfl) rfl (by show 2 * 0 + _ ≤ _; exact Nat.le_of_eq rfl) (hb hby at_129) (fun T87 h87 v87 W87 K87 q87 => ?_)
        obtain ⟨rfl, rfl⟩ := q87
        show Go p e below _ (T87.setTop (mkF m 132 #[.val (.int i0), .val (.int i1), .val (.int i2), .val (.int i3), .val (.int i4), .val (.ref r1), .val (.ref b2), .val .null, .val (.ref r62), .val .null, .val (.ref b77), .val (.ref r83)] [.null]))
        refine Go.of (t' := T87.setTop (mkF m 134 #[.val (.int i0), .val (.int i1), .val (.int i2), .val (.int i3), .val (.int i4), .val (.ref r1), .val (.ref b2), .val .null, .val (.ref r62), .val .null, .val (.ref b77), .val (.ref r83)] [.null, .null])) (fun _ kk => XS.aload W87.here hx rfl (hb hby at_132) rfl rfl kk) ?_
        refine Go.of (t' := T87.setTop (mkF m 137 #[.val (.int i0), .val (.int i1), .val (.int i2), .val (.int i3), .val (.int i4), .val (.ref r1), .val (.ref b2), .val .null, .val (.ref r62), .val .null, .val (.ref b77), .val (.ref r83)] [])) (fun _ kk => XT.acmpNo (g := (mkF m 134 #[.val (.int i0), .val (.int i1), .val (.int i2), .val (.int i3), .val (.int i4), .val (.ref r1), .val (.ref b2), .val .null, .val (.ref r62), .val .null, .val (.ref b77), .val (.ref r83)] [.null, .null])) W87.here hx rfl (hb hby at_134) (x := .null) (y := .null) (rest := []) rfl rfl rfl (XT.aa_ne_f (x := .null) (y := .null) rfl) kk) ?_
        refine Go.of (t' := T87.setTop (mkF m 139 #[.val (.int i0), .val (.int i1), .val (.int i2), .val (.int i3), .val (.int i4), .val (.ref r1), .val (.ref b2), .val .null, .val (.ref r62), .val .null, .val (.ref b77), .val (.ref r83)] [(.ref r83)])) (fun _ kk => XS.aload W87.here hx rfl (hb hby at_137) rfl rfl kk) ?_
        refine W87.callV hx hEL (hw _ (List.mem_of_getElem? (i := 84) rfl)) (hw _ (List.mem_of_getElem? (i := 85) rfl)) (hw _ (List.mem_of_getElem? (i := 87) rfl)) (hw _ (List.mem_of_getElem? (i := 86) rfl)) (hw _ (List.mem_of_getElem? (i := 36) rfl)) (hw _ (List.mem_of_getElem? (i := 88) rfl)) (by decide +kernel) E83 (a := r83) (argsL := []) (rest := []) (rm9 l Z a0 hw hEL zc SC hzc fm SF rfm r83 (.ref r62) rfl h83 W87.old Fcorr83) all0 (by decide +kernel) (Wd := 0) (by decide +kernel) (by decide +kernel) (by decide +kernel) all0 rfl (by rw [hml]; rfl) (lenOf pd5 rfl) rfl (by show 2 * 0 + _ ≤ _; exact Nat.le_of_eq rfl) (hb hby at_139) (fun T88 h88 v88 W88 K88 q88 => ?_)
        obtain ⟨rfl, rfl⟩ := q88
        show Go p e below _ (T88.setTop (mkF m 142 #[.val (.int i0), .val (.int i1), .val (.int i2), .val (.int i3), .val (.int i4), .val (.ref r1), .val (.ref b2), .val .null, .val (.ref r62), .val .null, .val (.ref b77), .val (.ref r83)] [(.ref r62)]))
        refine Go.of (t' := T88.setTop (mkF m 144 #[.val (.int i0), .val (.int i1), .val (.int i2), .val (.int i3), .val (.int i4), .val (.ref r1), .val (.ref b2), .val .null, .val (.ref r62), .val .null, .val (.ref b77), .val (.ref r83)] [(.ref r62), (.ref r62)])) (fun _ kk => XS.aload W88.here hx rfl (hb hby at_142) rfl rfl kk) ?_
        refine Go.of (t' := T88.setTop (mkF m 147 #[.val (.int i0), .val (.int i1), .val (.int i2), .val (.int i3), .val (.int i4), .val (.ref r1), .val (.ref b2), .val .null, .val (.ref r62), .val .null, .val (.ref b77), .val (.ref r83)] [])) (fun _ kk => XT.acmpNo (g := (mkF m 144 #[.val (.int i0), .val (.int i1), .val (.int i2), .val (.int i3), .val (.int i4), .val (.ref r1), .val (.ref b2), .val .null, .val (.ref r62), .val .null, .val (.ref b77), .val (.ref r83)] [(.ref r62), (.ref r62)])) W88.here hx rfl (hb hby at_144) (x := (.ref r62)) (y := (.ref r62)) (rest := []) rfl rfl rfl (XT.aa_ne_f (x := (.ref r62)) (y := (.ref r62)) rfl) kk) ?_
        refine Go.of (t' := T88.setTop (mkF m 148 #[.val (.int i0), .val (.int i1), .val (.int i2), .val (.int i3), .val (.int i4), .val (.ref r1), .val (.ref b2), .val .null, .val (.ref r62), .val .null, .val (.ref b77), .val (.ref r83)] [(.int (1 : Int32))])) (fun _ kk => XS.iconst W88.here hx rfl (hb hby at_147) kk) ?_
        refine Go.of (t' := T88.setTop (mkF m 152 #[.val (.int i0), .val (.int i1), .val (.int i2), .val (.int i3), .val (.int i4), .val (.ref r1), .val (.ref b2), .val .null, .val (.ref r62), .val .null, .val (.ref b77), .val (.ref r83)] [(.int (1 : Int32))])) (fun _ kk => XS.goto W88.here hx rfl (pc0 := 148) (pc' := 152) rfl (hb hby at_148) (by decide +kernel) (by decide +kernel) kk) ?_
        exact W88.retI hx hEL hs hlk (by decide +kernel) (by decide +kernel) hret (by simp) rfl (hb hby at_152) rfl
    · refine Go.of (t' := T4.setTop (mkF m 47 #[.val (.int i0), .val (.int i1), .val (.int i2), .val (.int i3), .val (.int i4), .val (.ref r1), .val (.ref b2), .val .null, .unset, .unset, .unset, .unset] [])) (fun _ kk => XS.ifNo W4.here hx rfl (hb hby at_44) rfl (XT.i0_eq_f c61) kk) ?_
      refine Go.of (t' := T4.setTop (mkF m 48 #[.val (.int i0), .val (.int i1), .val (.int i2), .val (.int i3), .val (.int i4), .val (.ref r1), .val (.ref b2), .val .null, .unset, .unset, .unset, .unset] [.null])) (fun _ kk => XS.aconstNull W4.here hx rfl (hb hby at_47) kk) ?_
      refine Go.of (t' := T4.setTop (mkF m 55 #[.val (.int i0), .val (.int i1), .val (.int i2), .val (.int i3), .val (.int i4), .val (.ref r1), .val (.ref b2), .val .null, .unset, .unset, .unset, .unset] [.null])) (fun _ kk => XS.goto W4.here hx rfl (pc0 := 48) (pc' := 55) rfl (hb hby at_48) (by decide +kernel) (by decide +kernel) kk) ?_
      refine Go.of (t' := T4.setTop (mkF m 57 #[.val (.int i0), .val (.int i1), .val (.int i2), .val (.int i3), .val (.int i4), .val (.ref r1), .val (.ref b2), .val .null, .val .null, .unset, .unset, .unset] [])) (fun _ kk => XS.astore W4.here hx rfl (hb hby at_55) rfl rfl (l' := #[.val (.int i0), .val (.int i1), .val (.int i2), .val (.int i3), .val (.int i4), .val (.ref r1), .val (.ref b2), .val .null, .val .null, .unset, .unset, .unset]) rfl kk) ?_
      refine Go.of (t' := T4.setTop (mkF m 59 #[.val (.int i0), .val (.int i1), .val (.int i2), .val (.int i3), .val (.int i4), .val (.ref r1), .val (.ref b2), .val .null, .val .null, .unset, .unset, .unset] [(.int i4)])) (fun _ kk => XS.iload W4.here hx rfl (hb hby at_57) rfl kk) ?_
      refine Go.of (t' := T4.setTop (mkF m 60 #[.val (.int i0), .val (.int i1), .val (.int i2), .val (.int i3), .val (.int i4), .val (.ref r1), .val (.ref b2), .val .null, .val .null, .unset, .unset, .unset] [(.int (4 : Int32)), (.int i4)])) (fun _ kk => XS.iconst W4.here hx rfl (hb hby at_59) kk) ?_
      refine Go.of (t' := T4.setTop (mkF m 61 #[.val (.int i0), .val (.int i1), .val (.int i2), .val (.int i3), .val (.int i4), .val (.ref r1), .val (.ref b2), .val .null, .val .null, .unset, .unset, .unset] [(.int (i4 &&& (4 : Int32)))])) (fun _ kk => XS.iand W4.here hx rfl (hb hby at_60) rfl kk) ?_
      by_cases c89 : (i4 &&& (4 : Int32)) = (0 : Int32)
      · refine Go.of (t' := T4.setTop (mkF m 68 #[.val (.int i0), .val (.int i1), .val (.int i2), .val (.int i3), .val (.int i4), .val (.ref r1), .val (.ref b2), .val .null, .val .null, .unset, .unset, .unset] [])) (fun _ kk => XS.ifYes W4.here hx rfl (pc0 := 61) (pc' := 68) rfl (hb hby at_61) rfl (XT.i0_eq_t c89) (by decide +kernel) (by decide +kernel) kk) ?_
        refine Go.of (t' := T4.setTop (mkF m 69 #[.val (.int i0), .val (.int i1), .val (.int i2), .val (.int i3), .val (.int i4), .val (.ref r1), .val (.ref b2), .val .null, .val .null, .unset, .unset, .unset] [(.int i3)])) (fun _ kk => XS.iloadN W4.here hx rfl (hb hby at_68) rfl kk) ?_
        refine W4.callS hx hEL (hw _ (List.mem_of_getElem? (i := 0) rfl)) (hw _ (List.mem_of_getElem? (i := 1) rfl)) (hw _ (List.mem_of_getElem? (i := 2) rfl)) (hw _ (List.mem_of_getElem? (i := 3) rfl)) (by decide +kernel) (argsL := [(.int i3)]) (rest := []) (rm1 l Z a0 hw hEL zc SC hzc fm SF rfm i3 h4 W4.old ) all0 (by decide +kernel) (Wd := 0) (by decide +kernel) (by decide +kernel) (by decide +kernel) all0 rfl (by rw [hml]; rfl) (lenOf pd3 rfl) rfl (by show 2 * 0 + _ ≤ _; exact Nat.le_of_eq rfl) (hb hby at_69) (fun T90 h90 v90 W90 K90 q90 => ?_)
        obtain ⟨r90, rfl, lr90, E90⟩ := q90
        have gr90 : n0 ≤ r90 ∧ s.heap.size ≤ r90 := ⟨Nat.le_trans W4.n0le lr90, Nat.le_trans W4.s0le lr90⟩
        show Go p e below _ (T90.setTop (mkF m 72 #[.val (.int i0), .val (.int i1), .val (.int i2), .val (.int i3), .val (.int i4), .val (.ref r1), .val (.ref b2), .val .null, .val .null, .unset, .unset, .unset] [(.ref r90)]))
        refine Go.of (t' := T90.setTop (mkF m 74 #[.val (.int i0), .val (.int i1), .val (.int i2), .val (.int i3), .val (.int i4), .val (.ref r1), .val (.ref b2), .val .null, .val .null, .val (.ref r90), .unset, .unset] [])) (fun _ kk => XS.astore W90.here hx rfl (hb hby at_72) rfl rfl (l' := #[.val (.int i0), .val (.int i1), .val (.int i2), .val (.int i3), .val (.int i4), .val (.ref r1), .val (.ref b2), .val .null, .val .null, .val (.ref r90), .unset, .unset]) rfl kk) ?_
        refine W90.newO hx (hw _ (List.mem_of_getElem? (i := 34) rfl)) (hw _ (List.mem_of_getElem? (i := 35) rfl)) (hw _ (List.mem_of_getElem? (i := 36) rfl)) rfl (hb hby at_74) (by decide +kernel) (by decide +kernel) (fun T91 h91 b91 eb91 gb91 W91 K91 E91 D91 => ?_)
        have k92 : Fld Z h91 b91 "com/example/nabu/nabu/NewEvent" "type" "Ljava/lang/String;" .null := D91 (Or.inr (hw _ (List.mem_of_getElem? (i := 55) rfl))) (ty := (.object "java/lang/String")) (by decide +kernel)
        have k93 : Fld Z h91 b91 "com/example/nabu/nabu/NewEvent" "body" "[B" .null := D91 (Or.inr (hw _ (List.mem_of_getElem? (i := 57) rfl))) (ty := (.array .byte)) (by decide +kernel)
        have k94 : Fld Z h91 b91 "com/example/nabu/nabu/NewEvent" "contentType" "Ljava/lang/String;" .null := D91 (Or.inr (hw _ (List.mem_of_getElem? (i := 59) rfl))) (ty := (.object "java/lang/String")) (by decide +kernel)
        have k95 : Fld Z h91 b91 "com/example/nabu/nabu/NewEvent" "correlationId" "Ljava/lang/String;" .null := D91 (Or.inr (hw _ (List.mem_of_getElem? (i := 61) rfl))) (ty := (.object "java/lang/String")) (by decide +kernel)
        show Go p e below _ (T91.setTop (mkF m 77 #[.val (.int i0), .val (.int i1), .val (.int i2), .val (.int i3), .val (.int i4), .val (.ref r1), .val (.ref b2), .val .null, .val .null, .val (.ref r90), .unset, .unset] [(.ref b91)]))
        refine Go.of (t' := T91.setTop (mkF m 78 #[.val (.int i0), .val (.int i1), .val (.int i2), .val (.int i3), .val (.int i4), .val (.ref r1), .val (.ref b2), .val .null, .val .null, .val (.ref r90), .unset, .unset] [(.ref b91), (.ref b91)])) (fun _ kk => XS.dup W91.here hx rfl (hb hby at_77) rfl rfl kk) ?_
        refine Go.of (t' := T91.setTop (mkF m 80 #[.val (.int i0), .val (.int i1), .val (.int i2), .val (.int i3), .val (.int i4), .val (.ref r1), .val (.ref b2), .val .null, .val .null, .val (.ref r90), .unset, .unset] [(.ref r1), (.ref b91), (.ref b91)])) (fun _ kk => XS.aload W91.here hx rfl (hb hby at_78) rfl rfl kk) ?_
        refine Go.of (t' := T91.setTop (mkF m 82 #[.val (.int i0), .val (.int i1), .val (.int i2), .val (.int i3), .val (.int i4), .val (.ref r1), .val (.ref b2), .val .null, .val .null, .val (.ref r90), .unset, .unset] [(.ref b2), (.ref r1), (.ref b91), (.ref b91)])) (fun _ kk => XS.aload W91.here hx rfl (hb hby at_80) rfl rfl kk) ?_
        refine Go.of (t' := T91.setTop (mkF m 84 #[.val (.int i0), .val (.int i1), .val (.int i2), .val (.int i3), .val (.int i4), .val (.ref r1), .val (.ref b2), .val .null, .val .null, .val (.ref r90), .unset, .unset] [.null, (.ref b2), (.ref r1), (.ref b91), (.ref b91)])) (fun _ kk => XS.aload W91.here hx rfl (hb hby at_82) rfl rfl kk) ?_
        refine Go.of (t' := T91.setTop (mkF m 86 #[.val (.int i0), .val (.int i1), .val (.int i2), .val (.int i3), .val (.int i4), .val (.ref r1), .val (.ref b2), .val .null, .val .null, .val (.ref r90), .unset, .unset] [.null, .null, (.ref b2), (.ref r1), (.ref b91), (.ref b91)])) (fun _ kk => XS.aload W91.here hx rfl (hb hby at_84) rfl rfl kk) ?_
        refine W91.callP hx hEL rfl (hw _ (List.mem_of_getElem? (i := 37) rfl)) (hw _ (List.mem_of_getElem? (i := 38) rfl)) (hw _ (List.mem_of_getElem? (i := 36) rfl)) (hw _ (List.mem_of_getElem? (i := 39) rfl)) (by decide +kernel) (a := b91) (argsL := [(.ref r1), (.ref b2), .null, .null]) (rest := [(.ref b91)]) (rm4 l Z a0 hw hEL zc SC hzc fm SF rfm b91 r1 b2 .null .null rfl rfl h91 W91.old E91 k92 k93 k94 k95 gb91.1) all0 (by decide +kernel) (Wd := 1) (by decide +kernel) (by decide +kernel) (by decide +kernel) (allS ⟨gb91.1, (Or.inr gb91.2)⟩ all0) rfl (by rw [hml]; rfl) (lenOf pd2 rfl) rfl (by show 2 * 0 + _ ≤ _; exact Nat.le_of_eq rfl) (hb hby at_86) (fun T96 h96 v96 W96 K96 q96 => ?_)
        obtain ⟨rfl, Ftype96, Fbody96, Fcont96, Fcorr96⟩ := q96
        show Go p e below _ (T96.setTop (mkF m 89 #[.val (.int i0), .val (.int i1), .val (.int i2), .val (.int i3), .val (.int i4), .val (.ref r1), .val (.ref b2), .val .null, .val .null, .val (.ref r90), .unset, .unset] [(.ref b91)]))
        refine Go.of (t' := T96.setTop (mkF m 91 #[.val (.int i0), .val (.int i1), .val (.int i2), .val (.int i3), .val (.int i4), .val (.ref r1), .val (.ref b2), .val .null, .val .null, .val (.ref r90), .val (.ref b91), .unset] [])) (fun _ kk => XS.astore W96.here hx rfl (hb hby at_89) rfl rfl (l' := #[.val (.int i0), .val (.int i1), .val (.int i2), .val (.int i3), .val (.int i4), .val (.ref r1), .val (.ref b2), .val .null, .val .null, .val (.ref r90), .val (.ref b91), .unset]) rfl kk) ?_
        refine Go.of (t' := T96.setTop (mkF m 93 #[.val (.int i0), .val (.int i1), .val (.int i2), .val (.int i3), .val (.int i4), .val (.ref r1), .val (.ref b2), .val .null, .val .null, .val (.ref r90), .val (.ref b91), .unset] [(.ref b91)])) (fun _ kk => XS.aload W96.here hx rfl (hb hby at_91) rfl rfl kk) ?_
        refine Go.of (t' := T96.setTop (mkF m 95 #[.val (.int i0), .val (.int i1), .val (.int i2), .val (.int i3), .val (.int i4), .val (.ref r1), .val (.ref b2), .val .null, .val .null, .val (.ref r90), .val (.ref b91), .unset] [(.ref r90), (.ref b91)])) (fun _ kk => XS.aload W96.here hx rfl (hb hby at_93) rfl rfl kk) ?_
        have k98 := (E91.keep K96)
        refine W96.callV hx hEL (hw _ (List.mem_of_getElem? (i := 62) rfl)) (hw _ (List.mem_of_getElem? (i := 63) rfl)) (hw _ (List.mem_of_getElem? (i := 65) rfl)) (hw _ (List.mem_of_getElem? (i := 64) rfl)) (hw _ (List.mem_of_getElem? (i := 36) rfl)) (hw _ (List.mem_of_getElem? (i := 66) rfl)) (by decide +kernel) k98 (a := b91) (argsL := [(.ref r90)]) (rest := []) (rm5 l Z a0 hw hEL zc SC hzc fm SF rfm b91 (.ref r90) rfl r1 b2 .null rfl h96 W96.old Ftype96 Fbody96 Fcorr96) all0 (by decide +kernel) (Wd := 0) (by decide +kernel) (by decide +kernel) (by decide +kernel) all0 rfl (by rw [hml]; rfl) (lenOf pd4 rfl) rfl (by show 2 * 0 + _ ≤ _; exact Nat.le_of_eq rfl) (hb hby at_95) (fun T97 h97 v97 W97 K97 q97 => ?_)
        obtain ⟨r97, rfl, lr97, E97, Ftype97, Fbody97, Fcont97, Fcorr97⟩ := q97
        have gr97 : n0 ≤ r97 ∧ s.heap.size ≤ r97 := ⟨Nat.le_trans W96.n0le lr97, Nat.le_trans W96.s0le lr97⟩
        show Go p e below _ (T97.setTop (mkF m 98 #[.val (.int i0), .val (.int i1), .val (.int i2), .val (.int i3), .val (.int i4), .val (.ref r1), .val (.ref b2), .val .null, .val .null, .val (.ref r90), .val (.ref b91), .unset] [(.ref r97)]))
        refine Go.of (t' := T97.setTop (mkF m 100 #[.val (.int i0), .val (.int i1), .val (.int i2), .val (.int i3), .val (.int i4), .val (.ref r1), .val (.ref b2), .val .null, .val .null, .val (.ref r90), .val (.ref b91), .val (.ref r97)] [])) (fun _ kk => XS.astore W97.here hx rfl (hb hby at_98) rfl rfl (l' := #[.val (.int i0), .val (.int i1), .val (.int i2), .val (.int i3), .val (.int i4), .val (.ref r1), .val (.ref b2), .val .null, .val .null, .val (.ref r90), .val (.ref b91), .val (.ref r97)]) rfl kk) ?_
        refine Go.of (t' := T97.setTop (mkF m 102 #[.val (.int i0), .val (.int i1), .val (.int i2), .val (.int i3), .val (.int i4), .val (.ref r1), .val (.ref b2), .val .null, .val .null, .val (.ref r90), .val (.ref b91), .val (.ref r97)] [(.ref r97)])) (fun _ kk => XS.aload W97.here hx rfl (hb hby at_100) rfl rfl kk) ?_
        refine Go.of (t' := T97.setTop (mkF m 107 #[.val (.int i0), .val (.int i1), .val (.int i2), .val (.int i3), .val (.int i4), .val (.ref r1), .val (.ref b2), .val .null, .val .null, .val (.ref r90), .val (.ref b91), .val (.ref r97)] [])) (fun _ kk => XS.ifnonnullYes W97.here hx rfl (pc0 := 102) (pc' := 107) rfl (hb hby at_102) rfl (by decide +kernel) (by decide +kernel) kk) ?_
        refine Go.of (t' := T97.setTop (mkF m 109 #[.val (.int i0), .val (.int i1), .val (.int i2), .val (.int i3), .val (.int i4), .val (.ref r1), .val (.ref b2), .val .null, .val .null, .val (.ref r90), .val (.ref b91), .val (.ref r97)] [(.ref r97)])) (fun _ kk => XS.aload W97.here hx rfl (hb hby at_107) rfl rfl kk) ?_
        refine W97.callV hx hEL (hw _ (List.mem_of_getElem? (i := 69) rfl)) (hw _ (List.mem_of_getElem? (i := 70) rfl)) (hw _ (List.mem_of_getElem? (i := 72) rfl)) (hw _ (List.mem_of_getElem? (i := 71) rfl)) (hw _ (List.mem_of_getElem? (i := 36) rfl)) (hw _ (List.mem_of_getElem? (i := 73) rfl)) (by decide +kernel) E97 (a := r97) (argsL := []) (rest := []) (rm6 l Z a0 hw hEL zc SC hzc fm SF rfm r97 (.ref r1) rfl h97 W97.old Ftype97) all0 (by decide +kernel) (Wd := 0) (by decide +kernel) (by decide +kernel) (by decide +kernel) all0 rfl (by rw [hml]; rfl) (lenOf pd5 rfl) rfl (by show 2 * 0 + _ ≤ _; exact Nat.le_of_eq rfl) (hb hby at_109) (fun T99 h99 v99 W99 K99 q99 => ?_)
        obtain ⟨rfl, rfl⟩ := q99
        show Go p e below _ (T99.setTop (mkF m 112 #[.val (.int i0), .val (.int i1), .val (.int i2), .val (.int i3), .val (.int i4), .val (.ref r1), .val (.ref b2), .val .null, .val .null, .val (.ref r90), .val (.ref b91), .val (.ref r97)] [(.ref r1)]))
        refine Go.of (t' := T99.setTop (mkF m 114 #[.val (.int i0), .val (.int i1), .val (.int i2), .val (.int i3), .val (.int i4), .val (.ref r1), .val (.ref b2), .val .null, .val .null, .val (.ref r90), .val (.ref b91), .val (.ref r97)] [(.ref r1), (.ref r1)])) (fun _ kk => XS.aload W99.here hx rfl (hb hby at_112) rfl rfl kk) ?_
        refine Go.of (t' := T99.setTop (mkF m 117 #[.val (.int i0), .val (.int i1), .val (.int i2), .val (.int i3), .val (.int i4), .val (.ref r1), .val (.ref b2), .val .null, .val .null, .val (.ref r90), .val (.ref b91), .val (.ref r97)] [])) (fun _ kk => XT.acmpNo (g := (mkF m 114 #[.val (.int i0), .val (.int i1), .val (.int i2), .val (.int i3), .val (.int i4), .val (.ref r1), .val (.ref b2), .val .null, .val .null, .val (.ref r90), .val (.ref b91), .val (.ref r97)] [(.ref r1), (.ref r1)])) W99.here hx rfl (hb hby at_114) (x := (.ref r1)) (y := (.ref r1)) (rest := []) rfl rfl rfl (XT.aa_ne_f (x := (.ref r1)) (y := (.ref r1)) rfl) kk) ?_
        refine Go.of (t' := T99.setTop (mkF m 119 #[.val (.int i0), .val (.int i1), .val (.int i2), .val (.int i3), .val (.int i4), .val (.ref r1), .val (.ref b2), .val .null, .val .null, .val (.ref r90), .val (.ref b91), .val (.ref r97)] [(.ref r97)])) (fun _ kk => XS.aload W99.here hx rfl (hb hby at_117) rfl rfl kk) ?_
        refine W99.callV hx hEL (hw _ (List.mem_of_getElem? (i := 74) rfl)) (hw _ (List.mem_of_getElem? (i := 75) rfl)) (hw _ (List.mem_of_getElem? (i := 77) rfl)) (hw _ (List.mem_of_getElem? (i := 76) rfl)) (hw _ (List.mem_of_getElem? (i := 36) rfl)) (hw _ (List.mem_of_getElem? (i := 78) rfl)) (by decide +kernel) E97 (a := r97) (argsL := []) (rest := []) (rm7 l Z a0 hw hEL zc SC hzc fm SF rfm r97 (.ref b2) rfl h97 W99.old Fbody97) all0 (by decide +kernel) (Wd := 0) (by decide +kernel) (by decide +kernel) (by decide +kernel) all0 rfl (by rw [hml]; rfl) (lenOf pd6 rfl) rfl (by show 2 * 0 + _ ≤ _; exact Nat.le_of_eq rfl) (hb hby at_119) (fun T100 h100 v100 W100 K100 q100 => ?_)
        obtain ⟨rfl, rfl⟩ := q100
        show Go p e below _ (T100.setTop (mkF m 122 #[.val (.int i0), .val (.int i1), .val (.int i2), .val (.int i3), .val (.int i4), .val (.ref r1), .val (.ref b2), .val .null, .val .null, .val (.ref r90), .val (.ref b91), .val (.ref r97)] [(.ref b2)]))
        refine Go.of (t' := T100.setTop (mkF m 124 #[.val (.int i0), .val (.int i1), .val (.int i2), .val (.int i3), .val (.int i4), .val (.ref r1), .val (.ref b2), .val .null, .val .null, .val (.ref r90), .val (.ref b91), .val (.ref r97)] [(.ref b2), (.ref b2)])) (fun _ kk => XS.aload W100.here hx rfl (hb hby at_122) rfl rfl kk) ?_
        refine Go.of (t' := T100.setTop (mkF m 127 #[.val (.int i0), .val (.int i1), .val (.int i2), .val (.int i3), .val (.int i4), .val (.ref r1), .val (.ref b2), .val .null, .val .null, .val (.ref r90), .val (.ref b91), .val (.ref r97)] [])) (fun _ kk => XT.acmpNo (g := (mkF m 124 #[.val (.int i0), .val (.int i1), .val (.int i2), .val (.int i3), .val (.int i4), .val (.ref r1), .val (.ref b2), .val .null, .val .null, .val (.ref r90), .val (.ref b91), .val (.ref r97)] [(.ref b2), (.ref b2)])) W100.here hx rfl (hb hby at_124) (x := (.ref b2)) (y := (.ref b2)) (rest := []) rfl rfl rfl (XT.aa_ne_f (x := (.ref b2)) (y := (.ref b2)) rfl) kk) ?_
        refine Go.of (t' := T100.setTop (mkF m 129 #[.val (.int i0), .val (.int i1), .val (.int i2), .val (.int i3), .val (.int i4), .val (.ref r1), .val (.ref b2), .val .null, .val .null, .val (.ref r90), .val (.ref b91), .val (.ref r97)] [(.ref r97)])) (fun _ kk => XS.aload W100.here hx rfl (hb hby at_127) rfl rfl kk) ?_
        refine W100.callV hx hEL (hw _ (List.mem_of_getElem? (i := 79) rfl)) (hw _ (List.mem_of_getElem? (i := 80) rfl)) (hw _ (List.mem_of_getElem? (i := 82) rfl)) (hw _ (List.mem_of_getElem? (i := 81) rfl)) (hw _ (List.mem_of_getElem? (i := 36) rfl)) (hw _ (List.mem_of_getElem? (i := 83) rfl)) (by decide +kernel) E97 (a := r97) (argsL := []) (rest := []) (rm8 l Z a0 hw hEL zc SC hzc fm SF rfm r97 (.ref r90) rfl h97 W100.old Fcont97) all0 (by decide +kernel) (Wd := 0) (by decide +kernel) (by decide +kernel) (by decide +kernel) all0 rfl (by rw [hml]; rfl) (lenOf pd5 rfl) rfl (by show 2 * 0 + _ ≤ _; exact Nat.le_of_eq rfl) (hb hby at_129) (fun T101 h101 v101 W101 K101 q101 => ?_)
        obtain ⟨rfl, rfl⟩ := q101
        show Go p e below _ (T101.setTop (mkF m 132 #[.val (.int i0), .val (.int i1), .val (.int i2), .val (.int i3), .val (.int i4), .val (.ref r1), .val (.ref b2), .val .null, .val .null, .val (.ref r90), .val (.ref b91), .val (.ref r97)] [(.ref r90)]))
        refine Go.of (t' := T101.setTop (mkF m 134 #[.val (.int i0), .val (.int i1), .val (.int i2), .val (.int i3), .val (.int i4), .val (.ref r1), .val (.ref b2), .val .null, .val .null, .val (.ref r90), .val (.ref b91), .val (.ref r97)] [(.ref r90), (.ref r90)])) (fun _ kk => XS.aload W101.here hx rfl (hb hby at_132) rfl rfl kk) ?_
        refine Go.of (t' := T101.setTop (mkF m 137 #[.val (.int i0), .val (.int i1), .val (.int i2), .val (.int i3), .val (.int i4), .val (.ref r1), .val (.ref b2), .val .null, .val .null, .val (.ref r90), .val (.ref b91), .val (.ref r97)] [])) (fun _ kk => XT.acmpNo (g := (mkF m 134 #[.val (.int i0), .val (.int i1), .val (.int i2), .val (.int i3), .val (.int i4), .val (.ref r1), .val (.ref b2), .val .null, .val .null, .val (.ref r90), .val (.ref b91), .val (.ref r97)] [(.ref r90), (.ref r90)])) W101.here hx rfl (hb hby at_134) (x := (.ref r90)) (y := (.ref r90)) (rest := []) rfl rfl rfl (XT.aa_ne_f (x := (.ref r90)) (y := (.ref r90)) rfl) kk) ?_
        refine Go.of (t' := T101.setTop (mkF m 139 #[.val (.int i0), .val (.int i1), .val (.int i2), .val (.int i3), .val (.int i4), .val (.ref r1), .val (.ref b2), .val .null, .val .null, .val (.ref r90), .val (.ref b91), .val (.ref r97)] [(.ref r97)])) (fun _ kk => XS.aload W101.here hx rfl (hb hby at_137) rfl rfl kk) ?_
        refine W101.callV hx hEL (hw _ (List.mem_of_getElem? (i := 84) rfl)) (hw _ (List.mem_of_getElem? (i := 85) rfl)) (hw _ (List.mem_of_getElem? (i := 87) rfl)) (hw _ (List.mem_of_getElem? (i := 86) rfl)) (hw _ (List.mem_of_getElem? (i := 36) rfl)) (hw _ (List.mem_of_getElem? (i := 88) rfl)) (by decide +kernel) E97 (a := r97) (argsL := []) (rest := []) (rm9 l Z a0 hw hEL zc SC hzc fm SF rfm r97 .null rfl h97 W101.old Fcorr97) all0 (by decide +kernel) (Wd := 0) (by decide +kernel) (by decide +kernel) (by decide +kernel) all0 rfl (by rw [hml]; rfl) (lenOf pd5 rfl) rfl (by show 2 * 0 + _ ≤ _; exact Nat.le_of_eq rfl) (hb hby at_139) (fun T102 h102 v102 W102 K102 q102 => ?_)
        obtain ⟨rfl, rfl⟩ := q102
        show Go p e below _ (T102.setTop (mkF m 142 #[.val (.int i0), .val (.int i1), .val (.int i2), .val (.int i3), .val (.int i4), .val (.ref r1), .val (.ref b2), .val .null, .val .null, .val (.ref r90), .val (.ref b91), .val (.ref r97)] [.null]))
        refine Go.of (t' := T102.setTop (mkF m 144 #[.val (.int i0), .val (.int i1), .val (.int i2), .val (.int i3), .val (.int i4), .val (.ref r1), .val (.ref b2), .val .null, .val .null, .val (.ref r90), .val (.ref b91), .val (.ref r97)] [.null, .null])) (fun _ kk => XS.aload W102.here hx rfl (hb hby at_142) rfl rfl kk) ?_
        refine Go.of (t' := T102.setTop (mkF m 147 #[.val (.int i0), .val (.int i1), .val (.int i2), .val (.int i3), .val (.int i4), .val (.ref r1), .val (.ref b2), .val .null, .val .null, .val (.ref r90), .val (.ref b91), .val (.ref r97)] [])) (fun _ kk => XT.acmpNo (g := (mkF m 144 #[.val (.int i0), .val (.int i1), .val (.int i2), .val (.int i3), .val (.int i4), .val (.ref r1), .val (.ref b2), .val .null, .val .null, .val (.ref r90), .val (.ref b91), .val (.ref r97)] [.null, .null])) W102.here hx rfl (hb hby at_144) (x := .null) (y := .null) (rest := []) rfl rfl rfl (XT.aa_ne_f (x := .null) (y := .null) rfl) kk) ?_
        refine Go.of (t' := T102.setTop (mkF m 148 #[.val (.int i0), .val (.int i1), .val (.int i2), .val (.int i3), .val (.int i4), .val (.ref r1), .val (.ref b2), .val .null, .val .null, .val (.ref r90), .val (.ref b91), .val (.ref r97)] [(.int (1 : Int32))])) (fun _ kk => XS.iconst W102.here hx rfl (hb hby at_147) kk) ?_
        refine Go.of (t' := T102.setTop (mkF m 152 #[.val (.int i0), .val (.int i1), .val (.int i2), .val (.int i3), .val (.int i4), .val (.ref r1), .val (.ref b2), .val .null, .val .null, .val (.ref r90), .val (.ref b91), .val (.ref r97)] [(.int (1 : Int32))])) (fun _ kk => XS.goto W102.here hx rfl (pc0 := 148) (pc' := 152) rfl (hb hby at_148) (by decide +kernel) (by decide +kernel) kk) ?_
        exact W102.retI hx hEL hs hlk (by decide +kernel) (by decide +kernel) hret (by simp) rfl (hb hby at_152) rfl
      · refine Go.of (t' := T4.setTop (mkF m 64 #[.val (.int i0), .val (.int i1), .val (.int i2), .val (.int i3), .val (.int i4), .val (.ref r1), .val (.ref b2), .val .null, .val .null, .unset, .unset, .unset] [])) (fun _ kk => XS.ifNo W4.here hx rfl (hb hby at_61) rfl (XT.i0_eq_f c89) kk) ?_
        refine Go.of (t' := T4.setTop (mkF m 65 #[.val (.int i0), .val (.int i1), .val (.int i2), .val (.int i3), .val (.int i4), .val (.ref r1), .val (.ref b2), .val .null, .val .null, .unset, .unset, .unset] [.null])) (fun _ kk => XS.aconstNull W4.here hx rfl (hb hby at_64) kk) ?_
        refine Go.of (t' := T4.setTop (mkF m 72 #[.val (.int i0), .val (.int i1), .val (.int i2), .val (.int i3), .val (.int i4), .val (.ref r1), .val (.ref b2), .val .null, .val .null, .unset, .unset, .unset] [.null])) (fun _ kk => XS.goto W4.here hx rfl (pc0 := 65) (pc' := 72) rfl (hb hby at_65) (by decide +kernel) (by decide +kernel) kk) ?_
        refine Go.of (t' := T4.setTop (mkF m 74 #[.val (.int i0), .val (.int i1), .val (.int i2), .val (.int i3), .val (.int i4), .val (.ref r1), .val (.ref b2), .val .null, .val .null, .val .null, .unset, .unset] [])) (fun _ kk => XS.astore W4.here hx rfl (hb hby at_72) rfl rfl (l' := #[.val (.int i0), .val (.int i1), .val (.int i2), .val (.int i3), .val (.int i4), .val (.ref r1), .val (.ref b2), .val .null, .val .null, .val .null, .unset, .unset]) rfl kk) ?_
        refine W4.newO hx (hw _ (List.mem_of_getElem? (i := 34) rfl)) (hw _ (List.mem_of_getElem? (i := 35) rfl)) (hw _ (List.mem_of_getElem? (i := 36) rfl)) rfl (hb hby at_74) (by decide +kernel) (by decide +kernel) (fun T103 h103 b103 eb103 gb103 W103 K103 E103 D103 => ?_)
        have k104 : Fld Z h103 b103 "com/example/nabu/nabu/NewEvent" "type" "Ljava/lang/String;" .null := D103 (Or.inr (hw _ (List.mem_of_getElem? (i := 55) rfl))) (ty := (.object "java/lang/String")) (by decide +kernel)
        have k105 : Fld Z h103 b103 "com/example/nabu/nabu/NewEvent" "body" "[B" .null := D103 (Or.inr (hw _ (List.mem_of_getElem? (i := 57) rfl))) (ty := (.array .byte)) (by decide +kernel)
        have k106 : Fld Z h103 b103 "com/example/nabu/nabu/NewEvent" "contentType" "Ljava/lang/String;" .null := D103 (Or.inr (hw _ (List.mem_of_getElem? (i := 59) rfl))) (ty := (.object "java/lang/String")) (by decide +kernel)
        have k107 : Fld Z h103 b103 "com/example/nabu/nabu/NewEvent" "correlationId" "Ljava/lang/String;" .null := D103 (Or.inr (hw _ (List.mem_of_getElem? (i := 61) rfl))) (ty := (.object "java/lang/String")) (by decide +kernel)
        show Go p e below _ (T103.setTop (mkF m 77 #[.val (.int i0), .val (.int i1), .val (.int i2), .val (.int i3), .val (.int i4), .val (.ref r1), .val (.ref b2), .val .null, .val .null, .val .null, .unset, .unset] [(.ref b103)]))
        refine Go.of (t' := T103.setTop (mkF m 78 #[.val (.int i0), .val (.int i1), .val (.int i2), .val (.int i3), .val (.int i4), .val (.ref r1), .val (.ref b2), .val .null, .val .null, .val .null, .unset, .unset] [(.ref b103), (.ref b103)])) (fun _ kk => XS.dup W103.here hx rfl (hb hby at_77) rfl rfl kk) ?_
        refine Go.of (t' := T103.setTop (mkF m 80 #[.val (.int i0), .val (.int i1), .val (.int i2), .val (.int i3), .val (.int i4), .val (.ref r1), .val (.ref b2), .val .null, .val .null, .val .null, .unset, .unset] [(.ref r1), (.ref b103), (.ref b103)])) (fun _ kk => XS.aload W103.here hx rfl (hb hby at_78) rfl rfl kk) ?_
        refine Go.of (t' := T103.setTop (mkF m 82 #[.val (.int i0), .val (.int i1), .val (.int i2), .val (.int i3), .val (.int i4), .val (.ref r1), .val (.ref b2), .val .null, .val .null, .val .null, .unset, .unset] [(.ref b2), (.ref r1), (.ref b103), (.ref b103)])) (fun _ kk => XS.aload W103.here hx rfl (hb hby at_80) rfl rfl kk) ?_
        refine Go.of (t' := T103.setTop (mkF m 84 #[.val (.int i0), .val (.int i1), .val (.int i2), .val (.int i3), .val (.int i4), .val (.ref r1), .val (.ref b2), .val .null, .val .null, .val .null, .unset, .unset] [.null, (.ref b2), (.ref r1), (.ref b103), (.ref b103)])) (fun _ kk => XS.aload W103.here hx rfl (hb hby at_82) rfl rfl kk) ?_
        refine Go.of (t' := T103.setTop (mkF m 86 #[.val (.int i0), .val (.int i1), .val (.int i2), .val (.int i3), .val (.int i4), .val (.ref r1), .val (.ref b2), .val .null, .val .null, .val .null, .unset, .unset] [.null, .null, (.ref b2), (.ref r1), (.ref b103), (.ref b103)])) (fun _ kk => XS.aload W103.here hx rfl (hb hby at_84) rfl rfl kk) ?_
        refine W103.callP hx hEL rfl (hw _ (List.mem_of_getElem? (i := 37) rfl)) (hw _ (List.mem_of_getElem? (i := 38) rfl)) (hw _ (List.mem_of_getElem? (i := 36) rfl)) (hw _ (List.mem_of_getElem? (i := 39) rfl)) (by decide +kernel) (a := b103) (argsL := [(.ref r1), (.ref b2), .null, .null]) (rest := [(.ref b103)]) (rm4 l Z a0 hw hEL zc SC hzc fm SF rfm b103 r1 b2 .null .null rfl rfl h103 W103.old E103 k104 k105 k106 k107 gb103.1) all0 (by decide +kernel) (Wd := 1) (by decide +kernel) (by decide +kernel) (by decide +kernel) (allS ⟨gb103.1, (Or.inr gb103.2)⟩ all0) rfl (by rw [hml]; rfl) (lenOf pd2 rfl) rfl (by show 2 * 0 + _ ≤ _; exact Nat.le_of_eq rfl) (hb hby at_86) (fun T108 h108 v108 W108 K108 q108 => ?_)
        obtain ⟨rfl, Ftype108, Fbody108, Fcont108, Fcorr108⟩ := q108
        show Go p e below _ (T108.setTop (mkF m 89 #[.val (.int i0), .val (.int i1), .val (.int i2), .val (.int i3), .val (.int i4), .val (.ref r1), .val (.ref b2), .val .null, .val .null, .val .null, .unset, .unset] [(.ref b103)]))
        refine Go.of (t' := T108.setTop (mkF m 91 #[.val (.int i0), .val (.int i1), .val (.int i2), .val (.int i3), .val (.int i4), .val (.ref r1), .val (.ref b2), .val .null, .val .null, .val .null, .val (.ref b103), .unset] [])) (fun _ kk => XS.astore W108.here hx rfl (hb hby at_89) rfl rfl (l' := #[.val (.int i0), .val (.int i1), .val (.int i2), .val (.int i3), .val (.int i4), .val (.ref r1), .val (.ref b2), .val .null, .val .null, .val .null, .val (.ref b103), .unset]) rfl kk) ?_
        refine Go.of (t' := T108.setTop (mkF m 93 #[.val (.int i0), .val (.int i1), .val (.int i2), .val (.int i3), .val (.int i4), .val (.ref r1), .val (.ref b2), .val .null, .val .null, .val .null, .val (.ref b103), .unset] [(.ref b103)])) (fun _ kk => XS.aload W108.here hx rfl (hb hby at_91) rfl rfl kk) ?_
        refine Go.of (t' := T108.setTop (mkF m 95 #[.val (.int i0), .val (.int i1), .val (.int i2), .val (.int i3), .val (.int i4), .val (.ref r1), .val (.ref b2), .val .null, .val .null, .val .null, .val (.ref b103), .unset] [.null, (.ref b103)])) (fun _ kk => XS.aload W108.here hx rfl (hb hby at_93) rfl rfl kk) ?_
        have k110 := (E103.keep K108)
        refine W108.callV hx hEL (hw _ (List.mem_of_getElem? (i := 62) rfl)) (hw _ (List.mem_of_getElem? (i := 63) rfl)) (hw _ (List.mem_of_getElem? (i := 65) rfl)) (hw _ (List.mem_of_getElem? (i := 64) rfl)) (hw _ (List.mem_of_getElem? (i := 36) rfl)) (hw _ (List.mem_of_getElem? (i := 66) rfl)) (by decide +kernel) k110 (a := b103) (argsL := [.null]) (rest := []) (rm5 l Z a0 hw hEL zc SC hzc fm SF rfm b103 .null rfl r1 b2 .null rfl h108 W108.old Ftype108 Fbody108 Fcorr108) all0 (by decide +kernel) (Wd := 0) (by decide +kernel) (by decide +kernel) (by decide +kernel) all0 rfl (by rw [hml]; rfl) (lenOf pd4 rfl) rfl (by show 2 * 0 + _ ≤ _; exact Nat.le_of_eq rfl) (hb hby at_95) (fun T109 h109 v109 W109 K109 q109 => ?_)
        obtain ⟨r109, rfl, lr109, E109, Ftype109, Fbody109, Fcont109, Fcorr109⟩ := q109
        have gr109 : n0 ≤ r109 ∧ s.heap.size ≤ r109 := ⟨Nat.le_trans W108.n0le lr109, Nat.le_trans W108.s0le lr109⟩
        show Go p e below _ (T109.setTop (mkF m 98 #[.val (.int i0), .val (.int i1), .val (.int i2), .val (.int i3), .val (.int i4), .val (.ref r1), .val (.ref b2), .val .null, .val .null, .val .null, .val (.ref b103), .unset] [(.ref r109)]))
        refine Go.of (t' := T109.setTop (mkF m 100 #[.val (.int i0), .val (.int i1), .val (.int i2), .val (.int i3), .val (.int i4), .val (.ref r1), .val (.ref b2), .val .null, .val .null, .val .null, .val (.ref b103), .val (.ref r109)] [])) (fun _ kk => XS.astore W109.here hx rfl (hb hby at_98) rfl rfl (l' := #[.val (.int i0), .val (.int i1), .val (.int i2), .val (.int i3), .val (.int i4), .val (.ref r1), .val (.ref b2), .val .null, .val .null, .val .null, .val (.ref b103), .val (.ref r109)]) rfl kk) ?_
        refine Go.of (t' := T109.setTop (mkF m 102 #[.val (.int i0), .val (.int i1), .val (.int i2), .val (.int i3), .val (.int i4), .val (.ref r1), .val (.ref b2), .val .null, .val .null, .val .null, .val (.ref b103), .val (.ref r109)] [(.ref r109)])) (fun _ kk => XS.aload W109.here hx rfl (hb hby at_100) rfl rfl kk) ?_
        refine Go.of (t' := T109.setTop (mkF m 107 #[.val (.int i0), .val (.int i1), .val (.int i2), .val (.int i3), .val (.int i4), .val (.ref r1), .val (.ref b2), .val .null, .val .null, .val .null, .val (.ref b103), .val (.ref r109)] [])) (fun _ kk => XS.ifnonnullYes W109.here hx rfl (pc0 := 102) (pc' := 107) rfl (hb hby at_102) rfl (by decide +kernel) (by decide +kernel) kk) ?_
        refine Go.of (t' := T109.setTop (mkF m 109 #[.val (.int i0), .val (.int i1), .val (.int i2), .val (.int i3), .val (.int i4), .val (.ref r1), .val (.ref b2), .val .null, .val .null, .val .null, .val (.ref b103), .val (.ref r109)] [(.ref r109)])) (fun _ kk => XS.aload W109.here hx rfl (hb hby at_107) rfl rfl kk) ?_
        refine W109.callV hx hEL (hw _ (List.mem_of_getElem? (i := 69) rfl)) (hw _ (List.mem_of_getElem? (i := 70) rfl)) (hw _ (List.mem_of_getElem? (i := 72) rfl)) (hw _ (List.mem_of_getElem? (i := 71) rfl)) (hw _ (List.mem_of_getElem? (i := 36) rfl)) (hw _ (List.mem_of_getElem? (i := 73) rfl)) (by decide +kernel) E109 (a := r109) (argsL := []) (rest := []) (rm6 l Z a0 hw hEL zc SC hzc fm SF rfm r109 (.ref r1) rfl h109 W109.old Ftype109) all0 (by decide +kernel) (Wd := 0) (by decide +kernel) (by decide +kernel) (by decide +kernel) all0 rfl (by rw [hml]; rfl) (lenOf pd5 rfl) rfl (by show 2 * 0 + _ ≤ _; exact Nat.le_of_eq rfl) (hb hby at_109) (fun T111 h111 v111 W111 K111 q111 => ?_)
        obtain ⟨rfl, rfl⟩ := q111
        show Go p e below _ (T111.setTop (mkF m 112 #[.val (.int i0), .val (.int i1), .val (.int i2), .val (.int i3), .val (.int i4), .val (.ref r1), .val (.ref b2), .val .null, .val .null, .val .null, .val (.ref b103), .val (.ref r109)] [(.ref r1)]))
        refine Go.of (t' := T111.setTop (mkF m 114 #[.val (.int i0), .val (.int i1), .val (.int i2), .val (.int i3), .val (.int i4), .val (.ref r1), .val (.ref b2), .val .null, .val .null, .val .null, .val (.ref b103), .val (.ref r109)] [(.ref r1), (.ref r1)])) (fun _ kk => XS.aload W111.here hx rfl (hb hby at_112) rfl rfl kk) ?_
        refine Go.of (t' := T111.setTop (mkF m 117 #[.val (.int i0), .val (.int i1), .val (.int i2), .val (.int i3), .val (.int i4), .val (.ref r1), .val (.ref b2), .val .null, .val .null, .val .null, .val (.ref b103), .val (.ref r109)] [])) (fun _ kk => XT.acmpNo (g := (mkF m 114 #[.val (.int i0), .val (.int i1), .val (.int i2), .val (.int i3), .val (.int i4), .val (.ref r1), .val (.ref b2), .val .null, .val .null, .val .null, .val (.ref b103), .val (.ref r109)] [(.ref r1), (.ref r1)])) W111.here hx rfl (hb hby at_114) (x := (.ref r1)) (y := (.ref r1)) (rest := []) rfl rfl rfl (XT.aa_ne_f (x := (.ref r1)) (y := (.ref r1)) rfl) kk) ?_
        refine Go.of (t' := T111.setTop (mkF m 119 #[.val (.int i0), .val (.int i1), .val (.int i2), .val (.int i3), .val (.int i4), .val (.ref r1), .val (.ref b2), .val .null, .val .null, .val .null, .val (.ref b103), .val (.ref r109)] [(.ref r109)])) (fun _ kk => XS.aload W111.here hx rfl (hb hby at_117) rfl rfl kk) ?_
        refine W111.callV hx hEL (hw _ (List.mem_of_getElem? (i := 74) rfl)) (hw _ (List.mem_of_getElem? (i := 75) rfl)) (hw _ (List.mem_of_getElem? (i := 77) rfl)) (hw _ (List.mem_of_getElem? (i := 76) rfl)) (hw _ (List.mem_of_getElem? (i := 36) rfl)) (hw _ (List.mem_of_getElem? (i := 78) rfl)) (by decide +kernel) E109 (a := r109) (argsL := []) (rest := []) (rm7 l Z a0 hw hEL zc SC hzc fm SF rfm r109 (.ref b2) rfl h109 W111.old Fbody109) all0 (by decide +kernel) (Wd := 0) (by decide +kernel) (by decide +kernel) (by decide +kernel) all0 rfl (by rw [hml]; rfl) (lenOf pd6 rfl) rfl (by show 2 * 0 + _ ≤ _; exact Nat.le_of_eq rfl) (hb hby at_119) (fun T112 h112 v112 W112 K112 q112 => ?_)
        obtain ⟨rfl, rfl⟩ := q112
        show Go p e below _ (T112.setTop (mkF m 122 #[.val (.int i0), .val (.int i1), .val (.int i2), .val (.int i3), .val (.int i4), .val (.ref r1), .val (.ref b2), .val .null, .val .null, .val .null, .val (.ref b103), .val (.ref r109)] [(.ref b2)]))
        refine Go.of (t' := T112.setTop (mkF m 124 #[.val (.int i0), .val (.int i1), .val (.int i2), .val (.int i3), .val (.int i4), .val (.ref r1), .val (.ref b2), .val .null, .val .null, .val .null, .val (.ref b103), .val (.ref r109)] [(.ref b2), (.ref b2)])) (fun _ kk => XS.aload W112.here hx rfl (hb hby at_122) rfl rfl kk) ?_
        refine Go.of (t' := T112.setTop (mkF m 127 #[.val (.int i0), .val (.int i1), .val (.int i2), .val (.int i3), .val (.int i4), .val (.ref r1), .val (.ref b2), .val .null, .val .null, .val .null, .val (.ref b103), .val (.ref r109)] [])) (fun _ kk => XT.acmpNo (g := (mkF m 124 #[.val (.int i0), .val (.int i1), .val (.int i2), .val (.int i3), .val (.int i4), .val (.ref r1), .val (.ref b2), .val .null, .val .null, .val .null, .val (.ref b103), .val (.ref r109)] [(.ref b2), (.ref b2)])) W112.here hx rfl (hb hby at_124) (x := (.ref b2)) (y := (.ref b2)) (rest := []) rfl rfl rfl (XT.aa_ne_f (x := (.ref b2)) (y := (.ref b2)) rfl) kk) ?_
        refine Go.of (t' := T112.setTop (mkF m 129 #[.val (.int i0), .val (.int i1), .val (.int i2), .val (.int i3), .val (.int i4), .val (.ref r1), .val (.ref b2), .val .null, .val .null, .val .null, .val (.ref b103), .val (.ref r109)] [(.ref r109)])) (fun _ kk => XS.aload W112.here hx rfl (hb hby at_127) rfl rfl kk) ?_
        refine W112.callV hx hEL (hw _ (List.mem_of_getElem? (i := 79) rfl)) (hw _ (List.mem_of_getElem? (i := 80) rfl)) (hw _ (List.mem_of_getElem? (i := 82) rfl)) (hw _ (List.mem_of_getElem? (i := 81) rfl)) (hw _ (List.mem_of_getElem? (i := 36) rfl)) (hw _ (List.mem_of_getElem? (i := 83) rfl)) (by decide +kernel) E109 (a := r109) (argsL := []) (rest := []) (rm8 l Z a0 hw hEL zc SC hzc fm SF rfm r109 .null rfl h109 W112.old Fcont109) all0 (by decide +kernel) (Wd := 0) (by decide +kernel) (by decide +kernel) (by decide +kernel) all0 rfl (by rw [hml]; rfl) (lenOf pd5 rfl) rfl (by show 2 * 0 + _ ≤ _; exact Nat.le_of_eq rfl) (hb hby at_129) (fun T113 h113 v113 W113 K113 q113 => ?_)
        obtain ⟨rfl, rfl⟩ := q113
        show Go p e below _ (T113.setTop (mkF m 132 #[.val (.int i0), .val (.int i1), .val (.int i2), .val (.int i3), .val (.int i4), .val (.ref r1), .val (.ref b2), .val .null, .val .null, .val .null, .val (.ref b103), .val (.ref r109)] [.null]))
        refine Go.of (t' := T113.setTop (mkF m 134 #[.val (.int i0), .val (.int i1), .val (.int i2), .val (.int i3), .val (.int i4), .val (.ref r1), .val (.ref b2), .val .null, .val .null, .val .null, .val (.ref b103), .val (.ref r109)] [.null, .null])) (fun _ kk => XS.aload W113.here hx rfl (hb hby at_132) rfl rfl kk) ?_
        refine Go.of (t' := T113.setTop (mkF m 137 #[.val (.int i0), .val (.int i1), .val (.int i2), .val (.int i3), .val (.int i4), .val (.ref r1), .val (.ref b2), .val .null, .val .null, .val .null, .val (.ref b103), .val (.ref r109)] [])) (fun _ kk => XT.acmpNo (g := (mkF m 134 #[.val (.int i0), .val (.int i1), .val (.int i2), .val (.int i3), .val (.int i4), .val (.ref r1), .val (.ref b2), .val .null, .val .null, .val .null, .val (.ref b103), .val (.ref r109)] [.null, .null])) W113.here hx rfl (hb hby at_134) (x := .null) (y := .null) (rest := []) rfl rfl rfl (XT.aa_ne_f (x := .null) (y := .null) rfl) kk) ?_
        refine Go.of (t' := T113.setTop (mkF m 139 #[.val (.int i0), .val (.int i1), .val (.int i2), .val (.int i3), .val (.int i4), .val (.ref r1), .val (.ref b2), .val .null, .val .null, .val .null, .val (.ref b103), .val (.ref r109)] [(.ref r109)])) (fun _ kk => XS.aload W113.here hx rfl (hb hby at_137) rfl rfl kk) ?_
        refine W113.callV hx hEL (hw _ (List.mem_of_getElem? (i := 84) rfl)) (hw _ (List.mem_of_getElem? (i := 85) rfl)) (hw _ (List.mem_of_getElem? (i := 87) rfl)) (hw _ (List.mem_of_getElem? (i := 86) rfl)) (hw _ (List.mem_of_getElem? (i := 36) rfl)) (hw _ (List.mem_of_getElem? (i := 88) rfl)) (by decide +kernel) E109 (a := r109) (argsL := []) (rest := []) (rm9 l Z a0 hw hEL zc SC hzc fm SF rfm r109 .null rfl h109 W113.old Fcorr109) all0 (by decide +kernel) (Wd := 0) (by decide +kernel) (by decide +kernel) (by decide +kernel) all0 rfl (by rw [hml]; rfl) (lenOf pd5 rfl) rfl (by show 2 * 0 + _ ≤ _; exact Nat.le_of_eq rfl) (hb hby at_139) (fun T114 h114 v114 W114 K114 q114 => ?_)
        obtain ⟨rfl, rfl⟩ := q114
        show Go p e below _ (T114.setTop (mkF m 142 #[.val (.int i0), .val (.int i1), .val (.int i2), .val (.int i3), .val (.int i4), .val (.ref r1), .val (.ref b2), .val .null, .val .null, .val .null, .val (.ref b103), .val (.ref r109)] [.null]))
        refine Go.of (t' := T114.setTop (mkF m 144 #[.val (.int i0), .val (.int i1), .val (.int i2), .val (.int i3), .val (.int i4), .val (.ref r1), .val (.ref b2), .val .null, .val .null, .val .null, .val (.ref b103), .val (.ref r109)] [.null, .null])) (fun _ kk => XS.aload W114.here hx rfl (hb hby at_142) rfl rfl kk) ?_
        refine Go.of (t' := T114.setTop (mkF m 147 #[.val (.int i0), .val (.int i1), .val (.int i2), .val (.int i3), .val (.int i4), .val (.ref r1), .val (.ref b2), .val .null, .val .null, .val .null, .val (.ref b103), .val (.ref r109)] [])) (fun _ kk => XT.acmpNo (g := (mkF m 144 #[.val (.int i0), .val (.int i1), .val (.int i2), .val (.int i3), .val (.int i4), .val (.ref r1), .val (.ref b2), .val .null, .val .null, .val .null, .val (.ref b103), .val (.ref r109)] [.null, .null])) W114.here hx rfl (hb hby at_144) (x := .null) (y := .null) (rest := []) rfl rfl rfl (XT.aa_ne_f (x := .null) (y := .null) rfl) kk) ?_
        refine Go.of (t' := T114.setTop (mkF m 148 #[.val (.int i0), .val (.int i1), .val (.int i2), .val (.int i3), .val (.int i4), .val (.ref r1), .val (.ref b2), .val .null, .val .null, .val .null, .val (.ref b103), .val (.ref r109)] [(.int (1 : Int32))])) (fun _ kk => XS.iconst W114.here hx rfl (hb hby at_147) kk) ?_
        refine Go.of (t' := T114.setTop (mkF m 152 #[.val (.int i0), .val (.int i1), .val (.int i2), .val (.int i3), .val (.int i4), .val (.ref r1), .val (.ref b2), .val .null, .val .null, .val .null, .val (.ref b103), .val (.ref r109)] [(.int (1 : Int32))])) (fun _ kk => XS.goto W114.here hx rfl (pc0 := 148) (pc' := 152) rfl (hb hby at_148) (by decide +kernel) (by decide +kernel) kk) ?_
        exact W114.retI hx hEL hs hlk (by decide +kernel) (by decide +kernel) hret (by simp) rfl (hb hby at_152) rfl
set_option maxRecDepth 65536 in
set_option maxHeartbeats 40000000 in
theorem comes_1 {Post : Tables → Env → Array Value → State → Outcome → State → Prop} (hpost : ∀ tb e args s v u, (limb_1_1.after args s (.returned v) u = true ∧ limb_1_2.after args s (.returned v) u = true ∧ True) → FramedW s (.returned v) u (Jvm.fieldLocs frame_1_writes args s ++ Jvm.arrayLocs frame_1_arrays args s ++ Jvm.staticLocs frame_1_statics s) 48 2240 → Post tb e args s (.returned v) u) :
    ArmFor flags0 classFile x code maxLocals ret World_1 tables_1 room_1 Calls_1 rest_1 Pre_1 Post := by
  intro l hfl _ _ p e ha hc hk s m args below hf hA hF happ hP
  obtain ⟨hcalls, hrest, hpre⟩ := hP
  obtain ⟨-, -, -, hnamed, -, -, -, hat⟩ := (Spec.applies_iff hf).mp happ
  obtain ⟨hg, hn⟩ := and_e (Cond.before_iff.mp (show (Jvm.Cond.and given_1 narrow_1).before args s = true from hpre))
  obtain ⟨hy0, hz0⟩ := and_e hg
  obtain ⟨hy1, hz1⟩ := and_e hz0
  obtain ⟨hy2, hz2⟩ := and_e hz1
  obtain ⟨hy3, hz3⟩ := and_e hz2
  obtain ⟨hy4, hz4⟩ := and_e hz3
  obtain ⟨w0, w1, w2, w3, w4, rfl⟩ : ∃ w0 w1 w2 w3 w4 : Value, args = #[w0, w1, w2, w3, w4] := by
    have hs : args.size = 5 := by simpa [Cond.value, given_1] using hy0
    obtain ⟨L⟩ := args
    match L, hs with
    | [w0, w1, w2, w3, w4], _ => exact ⟨w0, w1, w2, w3, w4, rfl⟩
  have hw := fun d (hd : d ∈ tables_1) => atoms_spec (ws := Jvm.Cond.code x code maxLocals ret :: tables_1) hat d (List.mem_cons_of_mem _ hd)
  obtain ⟨hsets, hown0⟩ := atoms_of _ (rest_1_c_eq ▸ (show rest_1_c.before _ s = true from hrest))
  have hfit : Fit s := fun {y c} hc i hi => by
    obtain ⟨ha, rfl⟩ := Array.getElem?_eq_some_iff.mp hc
    have q := List.all_eq_true.mp ((Array.all_eq_true_iff_forall_mem.mp hF) _ (Array.getElem_mem ha)) i (List.mem_range.mpr hi)
    simpa [Array.getElem?_eq_getElem hi] using q
  have nzc := not_v (Cond.before_iff.mp (hsets _ (List.mem_of_getElem? (i := 2) rfl)))
  obtain ⟨i0, ei0⟩ := is_v hy1
  obtain rfl : w0 = (.int i0) := Option.some.inj ei0
  obtain ⟨i1, ei1⟩ := is_v hy2
  obtain rfl : w1 = (.int i1) := Option.some.inj ei1
  obtain ⟨i2, ei2⟩ := is_v hy3
  obtain rfl : w2 = (.int i2) := Option.some.inj ei2
  obtain ⟨i3, ei3⟩ := is_v hy4
  obtain rfl : w3 = (.int i3) := Option.some.inj ei3
  obtain ⟨i4, ei4⟩ := is_v hz4
  obtain rfl : w4 = (.int i4) := Option.some.inj ei4
  obtain ⟨zc, ezc⟩ := is_v (Cond.before_iff.mp (hsets _ (List.mem_of_getElem? (i := 1) rfl)))
  have SC : Sta s s.heap "java/lang/String" "COMPACT_STRINGS" "Z" (.int zc) := Sta.start ezc (Or.inl (hsets _ (List.mem_of_getElem? (i := 0) rfl)))
  obtain ⟨fm, efm, rfm⟩ := isR_v (Cond.before_iff.mp (hsets _ (List.mem_of_getElem? (i := 8) rfl)))
  have SF : Sta s s.heap "jdk/internal/util/Preconditions" "SIOOBE_FORMATTER" "Ljava/util/function/BiFunction;" fm := Sta.start efm (Or.inl (hsets _ (List.mem_of_getElem? (i := 7) rfl)))
  have hzc : ¬ (zc = (0 : Int32)) := gotF (Cond.eq_ints ezc (Term.int_eval (0))) nzc
  have hEL : EW s #[(.int i0), (.int i1), (.int i2), (.int i3), (.int i4)] EL0 := EW.nil
  have hCH : CHv s EL0 s.vm s.heap := (fun q hq => nomatch hq)
  obtain ⟨n, o, h1, h2, h3, _, L, rfl, ⟨q1, N, K⟩, -, hq1, hq2, hq3, hq4⟩ := rm0 l s _ hw hEL zc SC hzc fm SF rfm i0 i1 i2 i3 i4 s.heap (Old.start s)  p e ha hc hk s m _ below hf ((Spec.applies_iff_loose hf).mp happ).1 ⟨rfl, State.Warmed39.refl s, rfl, hCH, all0⟩ trivial
  cases q1
  refine ⟨n, _, h1, h2, h3, hpost _ _ _ _ _ _ ⟨Cond.after_iff.mpr rfl, Cond.after_iff.mpr (eq_i res_at (Term.int_eval (1)) rfl), trivial⟩ ⟨hq1, hq2, hq3, (hq4.sift fun y hy => Or.inr (N y hy)).mono (by decide +kernel) (by decide +kernel)⟩⟩
theorem main_1_1 : Claimed_1_1 := comes_1 fun _ _ _ _ _ _ h hF => ⟨h.1, hF⟩
theorem main_1_2 : Claimed_1_2 := comes_1 fun _ _ _ _ _ _ h hF => ⟨h.2.1, hF⟩
end Jvm.Pilot.@@N@@
namespace Jvm.Pilot.@@N@@
open Jvm Jvm.ClassFile Sem Op Lib Jvm.Free Jvm.Stand Jvm.Pilot.@@N@@.Jvm.D
/-! MADE BY PROGRAM (witnessworld.py) out of the Statement's table words and the real class files: 22 classes; the members and pool entries that the words name. The judged class is class 1, her method 2. -/
namespace start1
open Jvm.ClassFile
def u (s : String) : CpInfo := .utf8 (stringToUtf16 s)
/-- a pool by its gaps: so many unusable entries, then the entry; so many at the end -/
def gap : Nat → List CpInfo → List CpInfo
  | 0, r => r
  | n + 1, r => .unusable :: gap n r
def poolList (es : List (Nat × CpInfo)) (last : Nat) : List CpInfo := es.foldr (fun e r => gap e.1 (e.2 :: r)) (gap last [])
def pool (es : List (Nat × CpInfo)) (last : Nat) : Array CpInfo := ⟨poolList es last⟩
def fileOf (pool : Array CpInfo) (this : Nat) (attrs : Array Attribute := #[]) (ms : Array MethodInfo := #[]) (fl : Nat := 33) (sup : Nat := 0) (ifs : Array Nat := #[]) (fds : Array FieldInfo := #[]) : ClassFile where
  minorVersion := 0
  majorVersion := 65
  constantPool := pool
  accessFlags := fl
  thisClass := this
  superClass := sup
  interfaces := ifs
  fields := fds
  methods := ms
  attributes := attrs
def plain (name : String) (sup : Option ClassId) : Class where
  name := name
  kind := .ordinary
  loader := none
  accessFlags := 33
  super := sup
  interfaces := #[]
  cf := none
  fields := #[]
  methods := #[]
  instanceTypes := #[]
  staticTypes := #[]
  resolved := #[]
  callSites := []
  init := .initialized
  statics := none
  mirror := none

def pool0 : Array CpInfo := pool [(5, u "<init>"), (0, u "()V"), (1, .class_ 10), (1, u "java/lang/Object")] 113

def k0c0 : Code := { maxStack := 0, maxLocals := 1, code := object_method_1_code, exceptionTable := #[], attributes := #[] }
def k0m0 : Method := { name := "<init>", desc := "()V", sig := { parameters := [], returnType := none }, accessFlags := 1, code := some k0c0 }
/-- java/lang/Object -/
def k0 : Class := { plain "java/lang/Object" none with
  accessFlags := 33
  interfaces := #[]
  cf := some (fileOf pool0 8 #[] #[{ accessFlags := 1, nameIndex := 5, descriptorIndex := 6, attributes := #[] }] 33 0 #[] #[])
  fields := #[]
  methods := #[k0m0]
  instanceTypes := #[]
  staticTypes := #[]
  resolved := Array.replicate 124 none
  statics := none }

def pool1 : Array CpInfo := pool [(2, .class_ 4), (1, u "java/lang/Object"), (0, u "<init>"), (0, u "()V"), (0, .class_ 8), (0, u "java/lang/String"), (0, .methodref 7 10), (0, .nameAndType 5 11), (0, u "([C)V"), (0, .methodref 13 14), (0, .class_ 15), (0, .nameAndType 16 17), (0, u "com/example/nabu/nabu/NewEventWithContentTypePinLaw"), (0, u "str"), (0, u "(I)Ljava/lang/String;"), (0, .class_ 19), (0, u "com/example/nabu/nabu/NewEvent"), (0, .methodref 18 21), (0, .nameAndType 5 22), (0, u "(Ljava/lang/String;[BLjava/lang/String;Ljava/lang/String;)V"), (0, .methodref 18 24), (0, .nameAndType 25 26), (0, u "withContentType"), (0, u "(Ljava/lang/String;)Lcom/example/nabu/nabu/NewEvent;"), (0, .methodref 18 28), (0, .nameAndType 29 30), (0, u "type"), (0, u "()Ljava/lang/String;"), (0, .methodref 18 32), (0, .nameAndType 33 34), (0, u "body"), (0, u "()[B"), (0, .methodref 18 36), (0, .nameAndType 37 30), (0, u "contentType"), (0, .methodref 18 39), (0, .nameAndType 40 30), (0, u "correlationId"), (2, u "law"), (0, u "(IIIII)Z")] 5

def k1m0 : Method := { name := "<init>", desc := "()V", sig := { parameters := [], returnType := none }, accessFlags := 1, code := none }
def k1c1 : Code := { maxStack := 4, maxLocals := 2, code := method_2_code, exceptionTable := #[], attributes := #[] }
def k1m1 : Method := { name := "str", desc := "(I)Ljava/lang/String;", sig := { parameters := [.int], returnType := some (.object "java/lang/String") }, accessFlags := 10, code := some k1c1 }
def k1c2 : Code := { maxStack := 6, maxLocals := 12, code := code, exceptionTable := #[], attributes := #[] }
def k1m2 : Method := { name := "law", desc := "(IIIII)Z", sig := { parameters := [.int, .int, .int, .int, .int], returnType := some .boolean }, accessFlags := 9, code := some k1c2 }
/-- com/example/nabu/nabu/NewEventWithContentTypePinLaw -/
def k1 : Class := { plain "com/example/nabu/nabu/NewEventWithContentTypePinLaw" (some 0) with
  accessFlags := 49
  interfaces := #[]
  cf := some (fileOf pool1 13 #[] #[{ accessFlags := 1, nameIndex := 5, descriptorIndex := 6, attributes := #[] }, { accessFlags := 10, nameIndex := 16, descriptorIndex := 17, attributes := #[] }, { accessFlags := 9, nameIndex := 43, descriptorIndex := 44, attributes := #[] }] 49 2 #[] #[])
  fields := #[]
  methods := #[k1m0, k1m1, k1m2]
  instanceTypes := #[]
  staticTypes := #[]
  resolved := Array.replicate 50 none
  statics := none }

def pool2 : Array CpInfo := pool [(1, .class_ 2), (0, u "java/io/Serializable"), (0, .class_ 4), (0, u "java/lang/Object")] 2

/-- java/io/Serializable -/
def k2 : Class := { plain "java/io/Serializable" (some 0) with
  accessFlags := 1537
  interfaces := #[]
  cf := some (fileOf pool2 1 #[] #[] 1537 3 #[] #[])
  fields := #[]
  methods := #[]
  instanceTypes := #[]
  staticTypes := #[]
  resolved := Array.replicate 7 none
  statics := none }

def pool3 : Array CpInfo := pool [(1, .class_ 2), (0, u "java/lang/Comparable"), (0, .class_ 4), (0, u "java/lang/Object")] 7

/-- java/lang/Comparable -/
def k3 : Class := { plain "java/lang/Comparable" (some 0) with
  accessFlags := 1537
  interfaces := #[]
  cf := some (fileOf pool3 1 #[] #[] 1537 3 #[] #[])
  fields := #[]
  methods := #[]
  instanceTypes := #[]
  staticTypes := #[]
  resolved := Array.replicate 12 none
  statics := none }

def pool4 : Array CpInfo := pool [(2, .class_ 4), (1, u "java/lang/CharSequence"), (42, .class_ 48), (0, u "java/lang/CharSequence$1CodePointIterator"), (10, .class_ 60), (0, u "java/lang/CharSequence$1CharIterator"), (5, .class_ 67), (0, u "java/lang/Object")] 63

/-- java/lang/CharSequence -/
def k4 : Class := { plain "java/lang/CharSequence" (some 0) with
  accessFlags := 1537
  interfaces := #[]
  cf := some (fileOf pool4 2 #[.nestMembers #[47, 59]] #[] 1537 66 #[] #[])
  fields := #[]
  methods := #[]
  instanceTypes := #[]
  staticTypes := #[]
  resolved := Array.replicate 131 none
  statics := none }

def pool5 : Array CpInfo := pool [(1, .class_ 2), (0, u "java/lang/constant/Constable"), (0, .class_ 4), (0, u "java/lang/Object")] 6

/-- java/lang/constant/Constable -/
def k5 : Class := { plain "java/lang/constant/Constable" (some 0) with
  accessFlags := 1537
  interfaces := #[]
  cf := some (fileOf pool5 1 #[] #[] 1537 3 #[] #[])
  fields := #[]
  methods := #[]
  instanceTypes := #[]
  staticTypes := #[]
  resolved := Array.replicate 11 none
  statics := none }

def pool6 : Array CpInfo := pool [(1, .class_ 2), (0, u "java/lang/constant/ConstantDesc"), (0, .class_ 4), (0, u "java/lang/Object")] 32

/-- java/lang/constant/ConstantDesc -/
def k6 : Class := { plain "java/lang/constant/ConstantDesc" (some 0) with
  accessFlags := 1537
  interfaces := #[]
  cf := some (fileOf pool6 1 #[] #[] 1537 3 #[] #[])
  fields := #[]
  methods := #[]
  instanceTypes := #[]
  staticTypes := #[]
  resolved := Array.replicate 37 none
  statics := none }

def pool7 : Array CpInfo := pool [(1, .methodref 2 3), (0, .class_ 4), (0, .nameAndType 5 6), (0, u "java/lang/Object"), (0, u "<init>"), (0, u "()V"), (2, .fieldref 10 11), (0, .class_ 12), (0, .nameAndType 13 14), (0, u "java/lang/String"), (0, u "value"), (0, u "[B"), (0, .fieldref 10 16), (0, .nameAndType 17 18), (0, u "coder"), (0, u "B"), (2, u "hash"), (0, u "I"), (2, u "hashIsZero"), (0, u "Z"), (0, .methodref 10 28), (0, .nameAndType 5 29), (0, u "([CIILjava/lang/Void;)V"), (8, .fieldref 10 39), (0, .nameAndType 40 26), (0, u "COMPACT_STRINGS"), (1, .class_ 44), (1, u "java/lang/StringUTF16"), (0, u "compress"), (1, .methodref 42 48), (0, .nameAndType 49 50), (0, u "coderFromArrayLen"), (0, u "([BI)B"), (126, .methodref 42 178), (0, .nameAndType 45 179), (0, u "([CII)[B"), (395, .class_ 576), (0, u "java/lang/CharSequence"), (22, u "CASE_INSENSITIVE_ORDER"), (0, u "Ljava/util/Comparator;"), (409, u "([C)V"), (90, u "serialPersistentFields"), (0, u "[Ljava/io/ObjectStreamField;"), (0, .class_ 1104), (0, u "java/lang/String$CaseInsensitiveComparator"), (1, .class_ 1107), (0, u "java/io/Serializable"), (0, .class_ 1109), (0, u "java/lang/Comparable"), (0, .class_ 1111), (0, u "java/lang/constant/Constable"), (0, .class_ 1113), (0, u "java/lang/constant/ConstantDesc"), (2, u "serialVersionUID"), (0, u "J"), (3, u "REPL"), (0, u "C"), (2, u "LATIN1"), (1, u "UTF16")] 323

def k7m0 : Method := { name := "<init>", desc := "()V", sig := { parameters := [], returnType := none }, accessFlags := 1, code := none }
def k7c1 : Code := { maxStack := 5, maxLocals := 2, code := jdk_42_method_3_code, exceptionTable := #[], attributes := #[] }
def k7m1 : Method := { name := "<init>", desc := "([C)V", sig := { parameters := [(.array .char)], returnType := none }, accessFlags := 1, code := some k7c1 }
def k7c2 : Code := { maxStack := 4, maxLocals := 6, code := jdk_42_method_149_code, exceptionTable := #[], attributes := #[] }
def k7m2 : Method := { name := "<init>", desc := "([CIILjava/lang/Void;)V", sig := { parameters := [(.array .char), .int, .int, (.object "java/lang/Void")], returnType := none }, accessFlags := 2, code := some k7c2 }
/-- java/lang/String -/
def k7 : Class := { plain "java/lang/String" (some 0) with
  accessFlags := 49
  interfaces := #[2, 3, 4, 5, 6]
  cf := some (fileOf pool7 10 #[.nestMembers #[1103]] #[{ accessFlags := 1, nameIndex := 5, descriptorIndex := 6, attributes := #[] }, { accessFlags := 1, nameIndex := 5, descriptorIndex := 1010, attributes := #[] }, { accessFlags := 2, nameIndex := 5, descriptorIndex := 29, attributes := #[] }] 49 2 #[1106, 1108, 575, 1110, 1112] #[{ accessFlags := 18, nameIndex := 13, descriptorIndex := 14, attributes := #[] }, { accessFlags := 18, nameIndex := 17, descriptorIndex := 18, attributes := #[] }, { accessFlags := 2, nameIndex := 21, descriptorIndex := 22, attributes := #[] }, { accessFlags := 2, nameIndex := 25, descriptorIndex := 26, attributes := #[] }, { accessFlags := 26, nameIndex := 1116, descriptorIndex := 1117, attributes := #[] }, { accessFlags := 24, nameIndex := 40, descriptorIndex := 26, attributes := #[] }, { accessFlags := 26, nameIndex := 1101, descriptorIndex := 1102, attributes := #[] }, { accessFlags := 26, nameIndex := 1121, descriptorIndex := 1122, attributes := #[] }, { accessFlags := 25, nameIndex := 599, descriptorIndex := 600, attributes := #[] }, { accessFlags := 24, nameIndex := 1125, descriptorIndex := 18, attributes := #[] }, { accessFlags := 24, nameIndex := 1127, descriptorIndex := 18, attributes := #[] }])
  fields := #[{ name := "value", type := (.array .byte), accessFlags := 18, slot := 0, constantValue := 0 }, { name := "coder", type := .byte, accessFlags := 18, slot := 1, constantValue := 0 }, { name := "hash", type := .int, accessFlags := 2, slot := 2, constantValue := 0 }, { name := "hashIsZero", type := .boolean, accessFlags := 2, slot := 3, constantValue := 0 }, { name := "serialVersionUID", type := .long, accessFlags := 26, slot := 0, constantValue := 0 }, { name := "COMPACT_STRINGS", type := .boolean, accessFlags := 24, slot := 1, constantValue := 0 }, { name := "serialPersistentFields", type := (.array (.object "java/io/ObjectStreamField")), accessFlags := 26, slot := 2, constantValue := 0 }, { name := "REPL", type := .char, accessFlags := 26, slot := 3, constantValue := 0 }, { name := "CASE_INSENSITIVE_ORDER", type := (.object "java/util/Comparator"), accessFlags := 25, slot := 4, constantValue := 0 }, { name := "LATIN1", type := .byte, accessFlags := 24, slot := 5, constantValue := 0 }, { name := "UTF16", type := .byte, accessFlags := 24, slot := 6, constantValue := 0 }]
  methods := #[k7m0, k7m1, k7m2]
  instanceTypes := #[(.array .byte), .byte, .int, .boolean]
  staticTypes := #[.long, .boolean, (.array (.object "java/io/ObjectStreamField")), .char, (.object "java/util/Comparator"), .byte, .byte]
  resolved := Array.replicate 1451 none
  statics := some 0 }

def pool8 : Array CpInfo := pool [(6, .class_ 8), (1, u "java/lang/Object"), (0, u "<init>"), (0, u "()V"), (1, .class_ 14), (1, u "java/lang/StringUTF16"), (31, u "$assertionsDisabled"), (0, u "Z"), (13, u "HI_BYTE_SHIFT"), (0, u "I"), (2, u "LO_BYTE_SHIFT"), (49, .methodref 12 116), (0, .nameAndType 117 118), (0, u "compress"), (0, u "([CI[BII)I"), (3, u "([CII)[B"), (138, u "coderFromArrayLen"), (0, u "([BI)B"), (106, .class_ 371), (1, u "java/lang/StringUTF16$LinesSpliterator"), (58, u "MAX_LENGTH"), (196, .class_ 628), (0, u "java/lang/StringUTF16$CodePointsSpliterator"), (0, .class_ 630), (0, u "java/lang/StringUTF16$CharsSpliterator")] 4

def k8m0 : Method := { name := "<init>", desc := "()V", sig := { parameters := [], returnType := none }, accessFlags := 0, code := none }
def k8c1 : Code := { maxStack := 2, maxLocals := 2, code := jdk_52_method_15_code, exceptionTable := #[], attributes := #[] }
def k8m1 : Method := { name := "coderFromArrayLen", desc := "([BI)B", sig := { parameters := [(.array .byte), .int], returnType := some .byte }, accessFlags := 8, code := some k8c1 }
def k8c2 : Code := { maxStack := 5, maxLocals := 6, code := jdk_52_method_16_code, exceptionTable := #[], attributes := #[] }
def k8m2 : Method := { name := "compress", desc := "([CII)[B", sig := { parameters := [(.array .char), .int, .int], returnType := some (.array .byte) }, accessFlags := 9, code := some k8c2 }
def k8c3 : Code := { maxStack := 3, maxLocals := 7, code := jdk_52_method_21_code, exceptionTable := #[], attributes := #[] }
def k8m3 : Method := { name := "compress", desc := "([CI[BII)I", sig := { parameters := [(.array .char), .int, (.array .byte), .int, .int], returnType := some .int }, accessFlags := 9, code := some k8c3 }
/-- java/lang/StringUTF16 -/
def k8 : Class := { plain "java/lang/StringUTF16" (some 0) with
  accessFlags := 48
  interfaces := #[]
  cf := some (fileOf pool8 12 #[.nestMembers #[627, 629, 369]] #[{ accessFlags := 0, nameIndex := 9, descriptorIndex := 10, attributes := #[] }, { accessFlags := 8, nameIndex := 261, descriptorIndex := 262, attributes := #[] }, { accessFlags := 9, nameIndex := 117, descriptorIndex := 122, attributes := #[] }, { accessFlags := 9, nameIndex := 117, descriptorIndex := 118, attributes := #[] }] 48 6 #[] #[{ accessFlags := 26, nameIndex := 61, descriptorIndex := 62, attributes := #[] }, { accessFlags := 26, nameIndex := 65, descriptorIndex := 62, attributes := #[] }, { accessFlags := 24, nameIndex := 430, descriptorIndex := 62, attributes := #[] }, { accessFlags := 4120, nameIndex := 46, descriptorIndex := 47, attributes := #[] }])
  fields := #[{ name := "HI_BYTE_SHIFT", type := .int, accessFlags := 26, slot := 0, constantValue := 0 }, { name := "LO_BYTE_SHIFT", type := .int, accessFlags := 26, slot := 1, constantValue := 0 }, { name := "MAX_LENGTH", type := .int, accessFlags := 24, slot := 2, constantValue := 0 }, { name := "$assertionsDisabled", type := .boolean, accessFlags := 4120, slot := 3, constantValue := 0 }]
  methods := #[k8m0, k8m1, k8m2, k8m3]
  instanceTypes := #[]
  staticTypes := #[.int, .int, .int, .boolean]
  resolved := Array.replicate 635 none
  statics := none }

def pool9 : Array CpInfo := pool [(1, .methodref 2 3), (0, .class_ 4), (0, .nameAndType 5 6), (0, u "java/lang/Object"), (0, u "<init>"), (0, u "()V"), (0, .class_ 8), (0, u "java/lang/Record")] 13

def k9c0 : Code := { maxStack := 1, maxLocals := 1, code := jdk_30_method_1_code, exceptionTable := #[], attributes := #[] }
def k9m0 : Method := { name := "<init>", desc := "()V", sig := { parameters := [], returnType := none }, accessFlags := 4, code := some k9c0 }
/-- java/lang/Record -/
def k9 : Class := { plain "java/lang/Record" (some 0) with
  accessFlags := 1057
  interfaces := #[]
  cf := some (fileOf pool9 7 #[] #[{ accessFlags := 4, nameIndex := 5, descriptorIndex := 6, attributes := #[] }] 1057 2 #[] #[])
  fields := #[]
  methods := #[k9m0]
  instanceTypes := #[]
  staticTypes := #[]
  resolved := Array.replicate 22 none
  statics := none }

def pool10 : Array CpInfo := pool [(1, .methodref 2 3), (0, .class_ 4), (0, .nameAndType 5 6), (0, u "java/lang/Record"), (0, u "<init>"), (0, u "()V"), (0, .string 8), (0, u "type"), (0, .methodref 10 11), (0, .class_ 12), (0, .nameAndType 13 14), (0, u "java/util/Objects"), (0, u "requireNonNull"), (0, u "(Ljava/lang/Object;Ljava/lang/String;)Ljava/lang/Object;"), (0, .string 16), (0, u "body"), (0, .fieldref 18 19), (0, .class_ 20), (0, .nameAndType 8 21), (0, u "com/example/nabu/nabu/NewEvent"), (0, u "Ljava/lang/String;"), (0, .fieldref 18 23), (0, .nameAndType 16 24), (0, u "[B"), (0, .fieldref 18 26), (0, .nameAndType 27 21), (0, u "contentType"), (0, .fieldref 18 29), (0, .nameAndType 30 21), (0, u "correlationId"), (0, .methodref 18 32), (0, .nameAndType 5 33), (0, u "(Ljava/lang/String;[BLjava/lang/String;Ljava/lang/String;)V"), (17, u "withContentType"), (0, u "(Ljava/lang/String;)Lcom/example/nabu/nabu/NewEvent;"), (1, u "()Ljava/lang/String;"), (2, u "()[B")] 23

def k10c0 : Code := { maxStack := 2, maxLocals := 5, code := prog_10_method_1_code, exceptionTable := #[], attributes := #[] }
def k10m0 : Method := { name := "<init>", desc := "(Ljava/lang/String;[BLjava/lang/String;Ljava/lang/String;)V", sig := { parameters := [(.object "java/lang/String"), (.array .byte), (.object "java/lang/String"), (.object "java/lang/String")], returnType := none }, accessFlags := 1, code := some k10c0 }
def k10c1 : Code := { maxStack := 6, maxLocals := 2, code := prog_10_method_3_code, exceptionTable := #[], attributes := #[] }
def k10m1 : Method := { name := "withContentType", desc := "(Ljava/lang/String;)Lcom/example/nabu/nabu/NewEvent;", sig := { parameters := [(.object "java/lang/String")], returnType := some (.object "com/example/nabu/nabu/NewEvent") }, accessFlags := 1, code := some k10c1 }
def k10c2 : Code := { maxStack := 1, maxLocals := 1, code := prog_10_method_8_code, exceptionTable := #[], attributes := #[] }
def k10m2 : Method := { name := "type", desc := "()Ljava/lang/String;", sig := { parameters := [], returnType := some (.object "java/lang/String") }, accessFlags := 1, code := some k10c2 }
def k10c3 : Code := { maxStack := 1, maxLocals := 1, code := prog_10_method_9_code, exceptionTable := #[], attributes := #[] }
def k10m3 : Method := { name := "body", desc := "()[B", sig := { parameters := [], returnType := some (.array .byte) }, accessFlags := 1, code := some k10c3 }
def k10c4 : Code := { maxStack := 1, maxLocals := 1, code := prog_10_method_10_code, exceptionTable := #[], attributes := #[] }
def k10m4 : Method := { name := "contentType", desc := "()Ljava/lang/String;", sig := { parameters := [], returnType := some (.object "java/lang/String") }, accessFlags := 1, code := some k10c4 }
def k10c5 : Code := { maxStack := 1, maxLocals := 1, code := prog_10_method_11_code, exceptionTable := #[], attributes := #[] }
def k10m5 : Method := { name := "correlationId", desc := "()Ljava/lang/String;", sig := { parameters := [], returnType := some (.object "java/lang/String") }, accessFlags := 1, code := some k10c5 }
/-- com/example/nabu/nabu/NewEvent -/
def k10 : Class := { plain "com/example/nabu/nabu/NewEvent" (some 9) with
  accessFlags := 49
  interfaces := #[]
  cf := some (fileOf pool10 18 #[] #[{ accessFlags := 1, nameIndex := 5, descriptorIndex := 33, attributes := #[] }, { accessFlags := 1, nameIndex := 51, descriptorIndex := 52, attributes := #[] }, { accessFlags := 1, nameIndex := 8, descriptorIndex := 54, attributes := #[] }, { accessFlags := 1, nameIndex := 16, descriptorIndex := 57, attributes := #[] }, { accessFlags := 1, nameIndex := 27, descriptorIndex := 54, attributes := #[] }, { accessFlags := 1, nameIndex := 30, descriptorIndex := 54, attributes := #[] }] 49 2 #[] #[{ accessFlags := 18, nameIndex := 8, descriptorIndex := 21, attributes := #[] }, { accessFlags := 18, nameIndex := 16, descriptorIndex := 24, attributes := #[] }, { accessFlags := 18, nameIndex := 27, descriptorIndex := 21, attributes := #[] }, { accessFlags := 18, nameIndex := 30, descriptorIndex := 21, attributes := #[] }])
  fields := #[{ name := "type", type := (.object "java/lang/String"), accessFlags := 18, slot := 0, constantValue := 0 }, { name := "body", type := (.array .byte), accessFlags := 18, slot := 1, constantValue := 0 }, { name := "contentType", type := (.object "java/lang/String"), accessFlags := 18, slot := 2, constantValue := 0 }, { name := "correlationId", type := (.object "java/lang/String"), accessFlags := 18, slot := 3, constantValue := 0 }]
  methods := #[k10m0, k10m1, k10m2, k10m3, k10m4, k10m5]
  instanceTypes := #[(.object "java/lang/String"), (.array .byte), (.object "java/lang/String"), (.object "java/lang/String")]
  staticTypes := #[]
  resolved := Array.replicate 81 none
  statics := none }

def pool11 : Array CpInfo := pool [(2, .class_ 4), (1, u "java/lang/Object"), (0, u "<init>"), (0, u "()V"), (35, .class_ 44), (1, u "java/util/Objects"), (0, u "requireNonNull"), (48, u "(Ljava/lang/Object;Ljava/lang/String;)Ljava/lang/Object;")] 89

def k11m0 : Method := { name := "<init>", desc := "()V", sig := { parameters := [], returnType := none }, accessFlags := 2, code := none }
def k11c1 : Code := { maxStack := 3, maxLocals := 2, code := jdk_31_method_11_code, exceptionTable := #[], attributes := #[] }
def k11m1 : Method := { name := "requireNonNull", desc := "(Ljava/lang/Object;Ljava/lang/String;)Ljava/lang/Object;", sig := { parameters := [(.object "java/lang/Object"), (.object "java/lang/String")], returnType := some (.object "java/lang/Object") }, accessFlags := 9, code := some k11c1 }
/-- java/util/Objects -/
def k11 : Class := { plain "java/util/Objects" (some 0) with
  accessFlags := 49
  interfaces := #[]
  cf := some (fileOf pool11 42 #[] #[{ accessFlags := 2, nameIndex := 5, descriptorIndex := 6, attributes := #[] }, { accessFlags := 9, nameIndex := 45, descriptorIndex := 94, attributes := #[] }] 49 2 #[] #[])
  fields := #[]
  methods := #[k11m0, k11m1]
  instanceTypes := #[]
  staticTypes := #[]
  resolved := Array.replicate 184 none
  statics := none }

def pool12 : Array CpInfo := pool [(4, .class_ 6), (1, u "java/lang/Object"), (0, u "<init>"), (0, u "()V"), (5, .class_ 16), (1, u "java/lang/StringLatin1"), (104, u "$assertionsDisabled"), (0, u "Z"), (98, .class_ 223), (1, u "java/lang/StringLatin1$LinesSpliterator"), (166, .class_ 391), (0, u "java/lang/StringLatin1$CharsSpliterator")] 3

def k12m0 : Method := { name := "<init>", desc := "()V", sig := { parameters := [], returnType := none }, accessFlags := 0, code := none }
/-- java/lang/StringLatin1 -/
def k12 : Class := { plain "java/lang/StringLatin1" (some 0) with
  accessFlags := 48
  interfaces := #[]
  cf := some (fileOf pool12 14 #[.nestMembers #[390, 221]] #[{ accessFlags := 0, nameIndex := 7, descriptorIndex := 8, attributes := #[] }] 48 4 #[] #[{ accessFlags := 4120, nameIndex := 121, descriptorIndex := 122, attributes := #[] }])
  fields := #[{ name := "$assertionsDisabled", type := .boolean, accessFlags := 4120, slot := 0, constantValue := 0 }]
  methods := #[k12m0]
  instanceTypes := #[]
  staticTypes := #[.boolean]
  resolved := Array.replicate 395 none
  statics := none }

def pool13 : Array CpInfo := pool [(2, .class_ 4), (1, u "java/lang/Object"), (0, u "<init>"), (0, u "()V"), (17, .class_ 26), (1, u "jdk/internal/util/Preconditions"), (28, .class_ 56), (0, u "jdk/internal/util/Preconditions$4"), (57, .class_ 115), (0, u "jdk/internal/util/Preconditions$1"), (7, u "SIOOBE_FORMATTER"), (0, u "Ljava/util/function/BiFunction;"), (0, .class_ 126), (0, u "jdk/internal/util/Preconditions$2"), (3, u "AIOOBE_FORMATTER"), (0, .class_ 132), (0, u "jdk/internal/util/Preconditions$3"), (3, u "IOOBE_FORMATTER")] 57

def k13m0 : Method := { name := "<init>", desc := "()V", sig := { parameters := [], returnType := none }, accessFlags := 1, code := none }
/-- jdk/internal/util/Preconditions -/
def k13 : Class := { plain "jdk/internal/util/Preconditions" (some 0) with
  accessFlags := 33
  interfaces := #[]
  cf := some (fileOf pool13 24 #[.nestMembers #[55, 131, 125, 114]] #[{ accessFlags := 1, nameIndex := 5, descriptorIndex := 6, attributes := #[] }] 33 2 #[] #[{ accessFlags := 25, nameIndex := 123, descriptorIndex := 124, attributes := #[] }, { accessFlags := 25, nameIndex := 130, descriptorIndex := 124, attributes := #[] }, { accessFlags := 25, nameIndex := 136, descriptorIndex := 124, attributes := #[] }])
  fields := #[{ name := "SIOOBE_FORMATTER", type := (.object "java/util/function/BiFunction"), accessFlags := 25, slot := 0, constantValue := 0 }, { name := "AIOOBE_FORMATTER", type := (.object "java/util/function/BiFunction"), accessFlags := 25, slot := 1, constantValue := 0 }, { name := "IOOBE_FORMATTER", type := (.object "java/util/function/BiFunction"), accessFlags := 25, slot := 2, constantValue := 0 }]
  methods := #[k13m0]
  instanceTypes := #[]
  staticTypes := #[(.object "java/util/function/BiFunction"), (.object "java/util/function/BiFunction"), (.object "java/util/function/BiFunction")]
  resolved := Array.replicate 194 none
  statics := some 1 }

def pool14 : Array CpInfo := pool [(9, u "<init>"), (6, .class_ 18), (1, u "java/lang/Object"), (0, u "()V"), (1, .class_ 23), (1, u "jdk/internal/util/ArraysSupport"), (0, u "LOG2_ARRAY_LONG_INDEX_SCALE"), (0, u "I"), (2, u "U"), (0, u "Ljdk/internal/misc/Unsafe;"), (8, u "BIG_ENDIAN"), (0, u "Z"), (8, u "LOG2_BYTE_BIT_SIZE"), (4, u "LOG2_ARRAY_INT_INDEX_SCALE"), (54, u "JLA"), (0, u "Ljdk/internal/access/JavaLangAccess;"), (11, u "LOG2_ARRAY_BOOLEAN_INDEX_SCALE"), (9, u "LOG2_ARRAY_BYTE_INDEX_SCALE"), (5, u "LOG2_ARRAY_CHAR_INDEX_SCALE"), (5, u "LOG2_ARRAY_SHORT_INDEX_SCALE"), (18, u "LOG2_ARRAY_FLOAT_INDEX_SCALE"), (24, u "LOG2_ARRAY_DOUBLE_INDEX_SCALE"), (89, u "T_BOOLEAN"), (2, u "T_CHAR"), (1, u "T_FLOAT"), (1, u "T_DOUBLE"), (1, u "T_BYTE"), (1, u "T_SHORT"), (1, u "T_INT"), (1, u "T_LONG"), (1, u "SOFT_MAX_ARRAY_LENGTH")] 83

def k14m0 : Method := { name := "<init>", desc := "()V", sig := { parameters := [], returnType := none }, accessFlags := 2, code := none }
/-- jdk/internal/util/ArraysSupport -/
def k14 : Class := { plain "jdk/internal/util/ArraysSupport" (some 0) with
  accessFlags := 33
  interfaces := #[]
  cf := some (fileOf pool14 21 #[] #[{ accessFlags := 2, nameIndex := 9, descriptorIndex := 19, attributes := #[] }] 33 16 #[] #[{ accessFlags := 24, nameIndex := 28, descriptorIndex := 29, attributes := #[] }, { accessFlags := 26, nameIndex := 38, descriptorIndex := 39, attributes := #[] }, { accessFlags := 25, nameIndex := 121, descriptorIndex := 25, attributes := #[] }, { accessFlags := 25, nameIndex := 131, descriptorIndex := 25, attributes := #[] }, { accessFlags := 25, nameIndex := 137, descriptorIndex := 25, attributes := #[] }, { accessFlags := 25, nameIndex := 143, descriptorIndex := 25, attributes := #[] }, { accessFlags := 25, nameIndex := 53, descriptorIndex := 25, attributes := #[] }, { accessFlags := 25, nameIndex := 24, descriptorIndex := 25, attributes := #[] }, { accessFlags := 25, nameIndex := 162, descriptorIndex := 25, attributes := #[] }, { accessFlags := 25, nameIndex := 187, descriptorIndex := 25, attributes := #[] }, { accessFlags := 26, nameIndex := 48, descriptorIndex := 25, attributes := #[] }, { accessFlags := 25, nameIndex := 277, descriptorIndex := 25, attributes := #[] }, { accessFlags := 25, nameIndex := 280, descriptorIndex := 25, attributes := #[] }, { accessFlags := 25, nameIndex := 282, descriptorIndex := 25, attributes := #[] }, { accessFlags := 25, nameIndex := 284, descriptorIndex := 25, attributes := #[] }, { accessFlags := 25, nameIndex := 286, descriptorIndex := 25, attributes := #[] }, { accessFlags := 25, nameIndex := 288, descriptorIndex := 25, attributes := #[] }, { accessFlags := 25, nameIndex := 290, descriptorIndex := 25, attributes := #[] }, { accessFlags := 25, nameIndex := 292, descriptorIndex := 25, attributes := #[] }, { accessFlags := 26, nameIndex := 108, descriptorIndex := 109, attributes := #[] }, { accessFlags := 25, nameIndex := 294, descriptorIndex := 25, attributes := #[] }])
  fields := #[{ name := "U", type := (.object "jdk/internal/misc/Unsafe"), accessFlags := 24, slot := 0, constantValue := 0 }, { name := "BIG_ENDIAN", type := .boolean, accessFlags := 26, slot := 1, constantValue := 0 }, { name := "LOG2_ARRAY_BOOLEAN_INDEX_SCALE", type := .int, accessFlags := 25, slot := 2, constantValue := 0 }, { name := "LOG2_ARRAY_BYTE_INDEX_SCALE", type := .int, accessFlags := 25, slot := 3, constantValue := 0 }, { name := "LOG2_ARRAY_CHAR_INDEX_SCALE", type := .int, accessFlags := 25, slot := 4, constantValue := 0 }, { name := "LOG2_ARRAY_SHORT_INDEX_SCALE", type := .int, accessFlags := 25, slot := 5, constantValue := 0 }, { name := "LOG2_ARRAY_INT_INDEX_SCALE", type := .int, accessFlags := 25, slot := 6, constantValue := 0 }, { name := "LOG2_ARRAY_LONG_INDEX_SCALE", type := .int, accessFlags := 25, slot := 7, constantValue := 0 }, { name := "LOG2_ARRAY_FLOAT_INDEX_SCALE", type := .int, accessFlags := 25, slot := 8, constantValue := 0 }, { name := "LOG2_ARRAY_DOUBLE_INDEX_SCALE", type := .int, accessFlags := 25, slot := 9, constantValue := 0 }, { name := "LOG2_BYTE_BIT_SIZE", type := .int, accessFlags := 26, slot := 10, constantValue := 0 }, { name := "T_BOOLEAN", type := .int, accessFlags := 25, slot := 11, constantValue := 0 }, { name := "T_CHAR", type := .int, accessFlags := 25, slot := 12, constantValue := 0 }, { name := "T_FLOAT", type := .int, accessFlags := 25, slot := 13, constantValue := 0 }, { name := "T_DOUBLE", type := .int, accessFlags := 25, slot := 14, constantValue := 0 }, { name := "T_BYTE", type := .int, accessFlags := 25, slot := 15, constantValue := 0 }, { name := "T_SHORT", type := .int, accessFlags := 25, slot := 16, constantValue := 0 }, { name := "T_INT", type := .int, accessFlags := 25, slot := 17, constantValue := 0 }, { name := "T_LONG", type := .int, accessFlags := 25, slot := 18, constantValue := 0 }, { name := "JLA", type := (.object "jdk/internal/access/JavaLangAccess"), accessFlags := 26, slot := 19, constantValue := 0 }, { name := "SOFT_MAX_ARRAY_LENGTH", type := .int, accessFlags := 25, slot := 20, constantValue := 0 }]
  methods := #[k14m0]
  instanceTypes := #[]
  staticTypes := #[(.object "jdk/internal/misc/Unsafe"), .boolean, .int, .int, .int, .int, .int, .int, .int, .int, .int, .int, .int, .int, .int, .int, .int, .int, .int, (.object "jdk/internal/access/JavaLangAccess"), .int]
  resolved := Array.replicate 378 none
  statics := none }

def pool15 : Array CpInfo := pool [(1, u "java/lang/Cloneable"), (0, .class_ 1), (0, u "java/lang/Object"), (0, .class_ 3)] 3

/-- java/lang/Cloneable -/
def k15 : Class := { plain "java/lang/Cloneable" (some 0) with
  accessFlags := 1537
  interfaces := #[]
  cf := some (fileOf pool15 2 #[] #[] 1537 4 #[] #[])
  fields := #[]
  methods := #[]
  instanceTypes := #[]
  staticTypes := #[]
  resolved := Array.replicate 8 none
  statics := none }

/-- the primitive byte -/
def k16 : Class := { plain "byte" none with kind := .primitive 'B', accessFlags := 0x411 }
/-- [B -/
def k17 : Class := { plain "[B" (some 0) with kind := .array 16 .byte, interfaces := #[15, 2], accessFlags := 1041 }

/-- the primitive char -/
def k18 : Class := { plain "char" none with kind := .primitive 'C', accessFlags := 0x411 }
/-- [C -/
def k19 : Class := { plain "[C" (some 0) with kind := .array 18 .char, interfaces := #[15, 2], accessFlags := 1041 }

/-- the primitive int -/
def k20 : Class := { plain "int" none with kind := .primitive 'I', accessFlags := 0x411 }
/-- [I -/
def k21 : Class := { plain "[I" (some 0) with kind := .array 20 .int, interfaces := #[15, 2], accessFlags := 1041 }

def heap : Heap := #[{ cls := 7, slots := #[.long 0, .int 1, .null, .int 0, .null, .int 0, .int 0], vm := .statics 7 },
  { cls := 13, slots := #[.null, .null, .null], vm := .statics 13 }]
def classes : Array Class := #[k0, k1, k2, k3, k4, k5, k6, k7, k8, k9, k10, k11, k12, k13, k14, k15, k16, k17, k18, k19, k20, k21]
def interned : List (Array UInt16 × Addr) := []
def slotsUsed : Nat := 10
def theMethod : MethodId := ⟨1, 2⟩
def args0 : Array Value := #[.int 5, .int 6, .int 7, .int 8, .int 9]
def aboutOver (below : List Frame) : State where
  vm := { classes := classes, interned := interned.toArray }
  heap := heap
  slotsUsed := slotsUsed
  threads := #[{ frames := .invoking theMethod args0 :: below }]
def below0 : List Frame := [.native { method := ⟨0, 0⟩, args := #[] }]
def about1 : State := aboutOver below0
def p0 : Program := .bare "" "" ""
def e0 : Env := launch0.env 0 0 0
theorem w_frames : about1.frames = Frame.invoking theMethod args0 :: below0 := rfl
set_option maxRecDepth 65536 in
theorem w_args : argsFit about1.vm theMethod args0 = true := by decide +kernel
set_option maxRecDepth 65536 in
theorem w_heap : heapFits about1 = true := by decide +kernel
set_option maxRecDepth 65536 in
theorem w_runnable : about1.curStatus? = some .runnable := by decide +kernel
set_option maxRecDepth 65536 in
theorem w_alone : about1.alone = true := by decide +kernel
set_option maxRecDepth 65536 in
theorem w_named : about1.methodNamed? x = some theMethod := by decide +kernel
set_option maxRecDepth 65536 in
theorem w_hears : about1.hears theMethod below0 = true := by decide +kernel
set_option maxRecDepth 65536 in
theorem w_ripe : about1.ripe theMethod args0 below0 = true := by decide +kernel
theorem w_running : about1.status = .running := rfl
set_option maxRecDepth 65536 in
theorem w_room : about1.hasRoom e0.platform room_1 = true :=
  launch0.hasRoom_least _ room_1 (by decide +kernel) (by decide +kernel) (by decide +kernel) (by decide +kernel) (by decide +kernel) (by decide +kernel)
theorem allAtoms_all (ts : List Jvm.Cond) (a : Array Jvm.Value) (st : Jvm.State) : (allAtoms ts).before a st = ts.all (fun c => c.before a st) := by
  induction ts with
  | nil => rfl
  | cons c t ih =>
    show (Jvm.Cond.and c (allAtoms t)).before a st = _
    rw [Jvm.Cond.before_and, ih, List.all_cons]
def words1 : List Jvm.Cond := Jvm.Cond.code x code maxLocals ret :: tables_1
/-- a 'code' word, met by the world's own term for the bytes: nothing is compared byte by byte -/
theorem code_word {y : MethodName} {bytes : ByteArray} {mx : Nat} {rt : Option FieldType} {a : Array Value} {s : State} {m : MethodId} {meth : Method} {c : Code} (h1 : s.methodNamed? y = some m) (h2 : s.vm.method? m = some meth) (h3 : meth.code = some c) (h4 : c.code = bytes)
    (h5 : (c.maxLocals == mx && c.exceptionTable.isEmpty && decide (c.maxStack ≤ mostOperands) && decide (meth.sig.returnType = rt) && !meth.locks && decide (parseMethodDescriptor y.desc = some meth.sig)) = true) : (Jvm.Cond.code y bytes mx rt).before a s = true := by
  simp only [Bool.and_eq_true, beq_iff_eq, Bool.not_eq_true', decide_eq_true_eq] at h5
  obtain ⟨⟨⟨⟨⟨g1, g2⟩, g3⟩, g4⟩, g5⟩, g6⟩ := h5
  simp [Cond.before, Cond.holds, Cond.value, h1, h2, h3, h4, g1, g2, g3, g4, g5, g6]
def isCode : Jvm.Cond → Bool
  | .code _ _ _ _ => true
  | _ => false
theorem all_split {L : List Jvm.Cond} {P : Jvm.Cond → Bool} (h1 : L.all (fun c => isCode c || P c) = true) (h2 : ∀ c ∈ L.filter isCode, P c = true) : L.all P = true := by
  refine List.all_eq_true.mpr fun c hc => ?_
  have h := List.all_eq_true.mp h1 c hc
  rcases Bool.eq_false_or_eq_true (isCode c) with hi | hi
  · exact h2 c (List.mem_filter.mpr ⟨hc, hi⟩)
  · simpa [hi] using h
set_option maxRecDepth 65536 in
theorem w_c0 : (Jvm.Cond.code x code maxLocals ret).before args0 about1 = true := code_word (m := ⟨1, 2⟩) (meth := k1m2) (c := k1c2) (by decide +kernel) rfl rfl rfl (by decide +kernel)
set_option maxRecDepth 65536 in
theorem w_c1 : (Jvm.Cond.code ({ cls := "com/example/nabu/nabu/NewEventWithContentTypePinLaw", name := "str", desc := "(I)Ljava/lang/String;" } : Jvm.MethodName) method_2_code (2 : Nat) (Option.some (Jvm.ClassFile.FieldType.object "java/lang/String"))).before args0 about1 = true := code_word (m := ⟨1, 1⟩) (meth := k1m1) (c := k1c1) (by decide +kernel) rfl rfl rfl (by decide +kernel)
set_option maxRecDepth 65536 in
theorem w_c2 : (Jvm.Cond.code ({ cls := "java/lang/String", name := "<init>", desc := "([C)V" } : Jvm.MethodName) jdk_42_method_3_code (2 : Nat) (Option.none : Option Jvm.ClassFile.FieldType)).before args0 about1 = true := code_word (m := ⟨7, 1⟩) (meth := k7m1) (c := k7c1) (by decide +kernel) rfl rfl rfl (by decide +kernel)
set_option maxRecDepth 65536 in
theorem w_c3 : (Jvm.Cond.code ({ cls := "java/lang/String", name := "<init>", desc := "([CIILjava/lang/Void;)V" } : Jvm.MethodName) jdk_42_method_149_code (6 : Nat) (Option.none : Option Jvm.ClassFile.FieldType)).before args0 about1 = true := code_word (m := ⟨7, 2⟩) (meth := k7m2) (c := k7c2) (by decide +kernel) rfl rfl rfl (by decide +kernel)
set_option maxRecDepth 65536 in
theorem w_c4 : (Jvm.Cond.code ({ cls := "java/lang/Object", name := "<init>", desc := "()V" } : Jvm.MethodName) object_method_1_code (1 : Nat) (Option.none : Option Jvm.ClassFile.FieldType)).before args0 about1 = true := code_word (m := ⟨0, 0⟩) (meth := k0m0) (c := k0c0) (by decide +kernel) rfl rfl rfl (by decide +kernel)
set_option maxRecDepth 65536 in
theorem w_c5 : (Jvm.Cond.code ({ cls := "java/lang/StringUTF16", name := "compress", desc := "([CII)[B" } : Jvm.MethodName) jdk_52_method_16_code (6 : Nat) (Option.some (Jvm.ClassFile.FieldType.array Jvm.ClassFile.FieldType.byte))).before args0 about1 = true := code_word (m := ⟨8, 2⟩) (meth := k8m2) (c := k8c2) (by decide +kernel) rfl rfl rfl (by decide +kernel)
set_option maxRecDepth 65536 in
theorem w_c6 : (Jvm.Cond.code ({ cls := "java/lang/StringUTF16", name := "compress", desc := "([CI[BII)I" } : Jvm.MethodName) jdk_52_method_21_code (7 : Nat) (Option.some Jvm.ClassFile.FieldType.int)).before args0 about1 = true := code_word (m := ⟨8, 3⟩) (meth := k8m3) (c := k8c3) (by decide +kernel) rfl rfl rfl (by decide +kernel)
set_option maxRecDepth 65536 in
theorem w_c7 : (Jvm.Cond.code ({ cls := "java/lang/StringUTF16", name := "coderFromArrayLen", desc := "([BI)B" } : Jvm.MethodName) jdk_52_method_15_code (2 : Nat) (Option.some Jvm.ClassFile.FieldType.byte)).before args0 about1 = true := code_word (m := ⟨8, 1⟩) (meth := k8m1) (c := k8c1) (by decide +kernel) rfl rfl rfl (by decide +kernel)
set_option maxRecDepth 65536 in
theorem w_c8 : (Jvm.Cond.code ({ cls := "com/example/nabu/nabu/NewEvent", name := "<init>", desc := "(Ljava/lang/String;[BLjava/lang/String;Ljava/lang/String;)V" } : Jvm.MethodName) prog_10_method_1_code (5 : Nat) (Option.none : Option Jvm.ClassFile.FieldType)).before args0 about1 = true := code_word (m := ⟨10, 0⟩) (meth := k10m0) (c := k10c0) (by decide +kernel) rfl rfl rfl (by decide +kernel)
set_option maxRecDepth 65536 in
theorem w_c9 : (Jvm.Cond.code ({ cls := "java/lang/Record", name := "<init>", desc := "()V" } : Jvm.MethodName) jdk_30_method_1_code (1 : Nat) (Option.none : Option Jvm.ClassFile.FieldType)).before args0 about1 = true := code_word (m := ⟨9, 0⟩) (meth := k9m0) (c := k9c0) (by decide +kernel) rfl rfl rfl (by decide +kernel)
set_option maxRecDepth 65536 in
theorem w_c10 : (Jvm.Cond.code ({ cls := "java/util/Objects", name := "requireNonNull", desc := "(Ljava/lang/Object;Ljava/lang/String;)Ljava/lang/Object;" } : Jvm.MethodName) jdk_31_method_11_code (2 : Nat) (Option.some (Jvm.ClassFile.FieldType.object "java/lang/Object"))).before args0 about1 = true := code_word (m := ⟨11, 1⟩) (meth := k11m1) (c := k11c1) (by decide +kernel) rfl rfl rfl (by decide +kernel)
set_option maxRecDepth 65536 in
theorem w_c11 : (Jvm.Cond.code ({ cls := "com/example/nabu/nabu/NewEvent", name := "withContentType", desc := "(Ljava/lang/String;)Lcom/example/nabu/nabu/NewEvent;" } : Jvm.MethodName) prog_10_method_3_code (2 : Nat) (Option.some (Jvm.ClassFile.FieldType.object "com/example/nabu/nabu/NewEvent"))).before args0 about1 = true := code_word (m := ⟨10, 1⟩) (meth := k10m1) (c := k10c1) (by decide +kernel) rfl rfl rfl (by decide +kernel)
set_option maxRecDepth 65536 in
theorem w_c12 : (Jvm.Cond.code ({ cls := "com/example/nabu/nabu/NewEvent", name := "type", desc := "()Ljava/lang/String;" } : Jvm.MethodName) prog_10_method_8_code (1 : Nat) (Option.some (Jvm.ClassFile.FieldType.object "java/lang/String"))).before args0 about1 = true := code_word (m := ⟨10, 2⟩) (meth := k10m2) (c := k10c2) (by decide +kernel) rfl rfl rfl (by decide +kernel)
set_option maxRecDepth 65536 in
theorem w_c13 : (Jvm.Cond.code ({ cls := "com/example/nabu/nabu/NewEvent", name := "body", desc := "()[B" } : Jvm.MethodName) prog_10_method_9_code (1 : Nat) (Option.some (Jvm.ClassFile.FieldType.array Jvm.ClassFile.FieldType.byte))).before args0 about1 = true := code_word (m := ⟨10, 3⟩) (meth := k10m3) (c := k10c3) (by decide +kernel) rfl rfl rfl (by decide +kernel)
set_option maxRecDepth 65536 in
theorem w_c14 : (Jvm.Cond.code ({ cls := "com/example/nabu/nabu/NewEvent", name := "contentType", desc := "()Ljava/lang/String;" } : Jvm.MethodName) prog_10_method_10_code (1 : Nat) (Option.some (Jvm.ClassFile.FieldType.object "java/lang/String"))).before args0 about1 = true := code_word (m := ⟨10, 4⟩) (meth := k10m4) (c := k10c4) (by decide +kernel) rfl rfl rfl (by decide +kernel)
set_option maxRecDepth 65536 in
theorem w_c15 : (Jvm.Cond.code ({ cls := "com/example/nabu/nabu/NewEvent", name := "correlationId", desc := "()Ljava/lang/String;" } : Jvm.MethodName) prog_10_method_11_code (1 : Nat) (Option.some (Jvm.ClassFile.FieldType.object "java/lang/String"))).before args0 about1 = true := code_word (m := ⟨10, 5⟩) (meth := k10m5) (c := k10c5) (by decide +kernel) rfl rfl rfl (by decide +kernel)
def codes1 : List Jvm.Cond := [Jvm.Cond.code x code maxLocals ret, Jvm.Cond.code ({ cls := "com/example/nabu/nabu/NewEventWithContentTypePinLaw", name := "str", desc := "(I)Ljava/lang/String;" } : Jvm.MethodName) method_2_code (2 : Nat) (Option.some (Jvm.ClassFile.FieldType.object "java/lang/String")), Jvm.Cond.code ({ cls := "java/lang/String", name := "<init>", desc := "([C)V" } : Jvm.MethodName) jdk_42_method_3_code (2 : Nat) (Option.none : Option Jvm.ClassFile.FieldType), Jvm.Cond.code ({ cls := "java/lang/String", name := "<init>", desc := "([CIILjava/lang/Void;)V" } : Jvm.MethodName) jdk_42_method_149_code (6 : Nat) (Option.none : Option Jvm.ClassFile.FieldType), Jvm.Cond.code ({ cls := "java/lang/Object", name := "<init>", desc := "()V" } : Jvm.MethodName) object_method_1_code (1 : Nat) (Option.none : Option Jvm.ClassFile.FieldType), Jvm.Cond.code ({ cls := "java/lang/StringUTF16", name := "compress", desc := "([CII)[B" } : Jvm.MethodName) jdk_52_method_16_code (6 : Nat) (Option.some (Jvm.ClassFile.FieldType.array Jvm.ClassFile.FieldType.byte)), Jvm.Cond.code ({ cls := "java/lang/StringUTF16", name := "compress", desc := "([CI[BII)I" } : Jvm.MethodName) jdk_52_method_21_code (7 : Nat) (Option.some Jvm.ClassFile.FieldType.int), Jvm.Cond.code ({ cls := "java/lang/StringUTF16", name := "coderFromArrayLen", desc := "([BI)B" } : Jvm.MethodName) jdk_52_method_15_code (2 : Nat) (Option.some Jvm.ClassFile.FieldType.byte), Jvm.Cond.code ({ cls := "com/example/nabu/nabu/NewEvent", name := "<init>", desc := "(Ljava/lang/String;[BLjava/lang/String;Ljava/lang/String;)V" } : Jvm.MethodName) prog_10_method_1_code (5 : Nat) (Option.none : Option Jvm.ClassFile.FieldType), Jvm.Cond.code ({ cls := "java/lang/Record", name := "<init>", desc := "()V" } : Jvm.MethodName) jdk_30_method_1_code (1 : Nat) (Option.none : Option Jvm.ClassFile.FieldType), Jvm.Cond.code ({ cls := "java/util/Objects", name := "requireNonNull", desc := "(Ljava/lang/Object;Ljava/lang/String;)Ljava/lang/Object;" } : Jvm.MethodName) jdk_31_method_11_code (2 : Nat) (Option.some (Jvm.ClassFile.FieldType.object "java/lang/Object")), Jvm.Cond.code ({ cls := "com/example/nabu/nabu/NewEvent", name := "withContentType", desc := "(Ljava/lang/String;)Lcom/example/nabu/nabu/NewEvent;" } : Jvm.MethodName) prog_10_method_3_code (2 : Nat) (Option.some (Jvm.ClassFile.FieldType.object "com/example/nabu/nabu/NewEvent")), Jvm.Cond.code ({ cls := "com/example/nabu/nabu/NewEvent", name := "type", desc := "()Ljava/lang/String;" } : Jvm.MethodName) prog_10_method_8_code (1 : Nat) (Option.some (Jvm.ClassFile.FieldType.object "java/lang/String")), Jvm.Cond.code ({ cls := "com/example/nabu/nabu/NewEvent", name := "body", desc := "()[B" } : Jvm.MethodName) prog_10_method_9_code (1 : Nat) (Option.some (Jvm.ClassFile.FieldType.array Jvm.ClassFile.FieldType.byte)), Jvm.Cond.code ({ cls := "com/example/nabu/nabu/NewEvent", name := "contentType", desc := "()Ljava/lang/String;" } : Jvm.MethodName) prog_10_method_10_code (1 : Nat) (Option.some (Jvm.ClassFile.FieldType.object "java/lang/String")), Jvm.Cond.code ({ cls := "com/example/nabu/nabu/NewEvent", name := "correlationId", desc := "()Ljava/lang/String;" } : Jvm.MethodName) prog_10_method_11_code (1 : Nat) (Option.some (Jvm.ClassFile.FieldType.object "java/lang/String"))]
set_option maxRecDepth 65536 in
theorem codes_eq : words1.filter isCode = codes1 := rfl
theorem w_codes : ∀ c ∈ words1.filter isCode, c.before args0 about1 = true := by
  rw [codes_eq]
  intro c hc
  simp only [codes1, List.mem_cons, List.not_mem_nil, or_false] at hc
  rcases hc with rfl | rfl | rfl | rfl | rfl | rfl | rfl | rfl | rfl | rfl | rfl | rfl | rfl | rfl | rfl | rfl
  · exact w_c0
  · exact w_c1
  · exact w_c2
  · exact w_c3
  · exact w_c4
  · exact w_c5
  · exact w_c6
  · exact w_c7
  · exact w_c8
  · exact w_c9
  · exact w_c10
  · exact w_c11
  · exact w_c12
  · exact w_c13
  · exact w_c14
  · exact w_c15
set_option maxRecDepth 65536 in
theorem w_t1 : (words1.take 24).all (fun c => isCode c || c.before args0 about1) = true := by decide +kernel
set_option maxRecDepth 65536 in
theorem w_t2 : ((words1.drop 24).take 24).all (fun c => isCode c || c.before args0 about1) = true := by decide +kernel
set_option maxRecDepth 65536 in
theorem w_t3 : (((words1.drop 24).drop 24).take 24).all (fun c => isCode c || c.before args0 about1) = true := by decide +kernel
set_option maxRecDepth 65536 in
theorem w_t4 : (((words1.drop 24).drop 24).drop 24).all (fun c => isCode c || c.before args0 about1) = true := by decide +kernel
theorem w_tables : (allAtoms (Jvm.Cond.code x code maxLocals ret :: tables_1)).before args0 about1 = true := by
  rw [allAtoms_all]
  show words1.all (fun c => c.before args0 about1) = true
  refine all_split ?_ w_codes
  rw [← List.take_append_drop 24 words1, List.all_append, w_t1, ← List.take_append_drop 24 (words1.drop 24), List.all_append, w_t2, ← List.take_append_drop 24 ((words1.drop 24).drop 24), List.all_append, w_t3, w_t4]
  rfl
set_option maxRecDepth 65536 in
theorem w_rest : rest_1_c.before args0 about1 = true := by decide +kernel
set_option maxRecDepth 65536 in
theorem w_case : (Jvm.Cond.and given_1 narrow_1).before args0 about1 = true := by decide +kernel
theorem w_applies : (headSpec (Jvm.Cond.code x code maxLocals ret :: tables_1) room_1).applies x e0.platform about1 = true :=
  (Spec.applies_iff w_frames).mpr ⟨w_running, w_runnable, w_alone, w_named, w_hears, w_ripe, w_room, w_tables⟩
theorem atStart : AtStart classFile x code maxLocals ret World_1 tables_1 room_1 Calls_1 rest_1 Pre_1 launch0 p0 e0 about1 theMethod args0 below0 :=
  ⟨lists_1, trivial, launch0.admits_env _ _ _, launch0.least_env, fairChoices_fair.cas, fairChoices_fair.clock, w_frames, w_args, w_heap, w_applies, trivial, w_rest, w_case⟩
end start1
theorem witness_1 : WitnessClaimed_1 := ⟨start1.p0, start1.e0, start1.about1, start1.theMethod, start1.args0, start1.below0, start1.atStart⟩
end Jvm.Pilot.@@N@@
