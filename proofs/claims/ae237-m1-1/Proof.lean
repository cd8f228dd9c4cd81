import JvmDerived
import JvmDerived.Pilot.@@N@@Statement
import JvmDerived.Pilot.@@N@@Code
set_option linter.unusedVariables false
set_option linter.unusedSimpArgs false
/- laws to paste: Road.backV, Road.eqW, Road.codOf (cut by pick.py; bodies as the Statement names them) -/
namespace Jvm.Pilot.@@N@@
namespace StrChars
open Jvm Sem ClassFile Op Lib Jvm.Stand Jvm.Free.XT Jvm.Free.ALB Jvm.Free.JM Jvm.Free
open Jvm.Lib.Cold (StaticIs)
/-- a char array whose places are chars -/
def Ch (a : Addr) (A : Cell) (U : State) : Prop := Arr .char a A U ∧ Typed .char A
theorem Ch.mv {a : Addr} {A : Cell} {U U' : State} (h : Ch a A U) (hal : U.vm.Alike U'.vm) (hh : U'.heap = U.heap) : Ch a A U' := ⟨h.1.mv hal hh, h.2⟩
theorem Ch.keep {a : Addr} {A : Cell} {U U' : State} (h : Ch a A U) (hal : U.vm.Alike U'.vm) (hk : U'.heap[a]? = some A) : Ch a A U' := ⟨h.1.keep hal hk, h.2⟩
/-- what place i of a char[]'s cell holds -/
def cv (A : Cell) (i : Nat) : Int32 := match A.slots[i]? with | some (.int x) => x | _ => 0
theorem Ch.get {a : Addr} {A : Cell} {U : State} (h : Ch a A U) {i : Nat} (hi : i < A.slots.size) : A.slots[i]? = some (.int (cv A i)) := by
  have e := Array.getElem?_eq_getElem hi
  have f := h.2 i _ e
  unfold cv; rw [e]
  generalize A.slots[i] = v at f
  cases v <;> simp [fits] at f ⊢
/-- the byte that i2b leaves of a char -/
def lo8 (x : Int32) : Int32 := x.toInt8.toInt32
theorem fits_lo8 (y : Int32) : fits .byte (.int (lo8 y)) = true := by
  have h1 := y.toInt8.le_toInt
  have h2 := y.toInt8.toInt_lt
  simp only [lo8, fits, Bool.and_eq_true, decide_eq_true_eq, Int32.le_iff_toInt_le, Int8.toInt_toInt32, show (-128 : Int32).toInt = -128 from by decide, show (127 : Int32).toInt = 127 from by decide]
  omega
/-- A' is A but that each place j of lo .. hi - 1 holds f j -/
def Laid (A A' : Cell) (lo hi : Nat) (f : Nat → Value) : Prop := A'.cls = A.cls ∧ A'.vm = A.vm ∧ A'.slots.size = A.slots.size ∧ ∀ i, A'.slots[i]? = if lo ≤ i ∧ i < hi then some (f i) else A.slots[i]?
theorem Laid.zero (A : Cell) (lo : Nat) (f : Nat → Value) : Laid A A lo (lo + 0) f := ⟨rfl, rfl, rfl, fun i => by rw [if_neg (by omega)]⟩
theorem Laid.step {A Ak : Cell} {lo k : Nat} {f : Nat → Value} {v : Value} (h : Laid A Ak lo k f) (hlo : lo ≤ k) (hk : k < Ak.slots.size) (hv : v = f k) : Laid A (Ak.setSlot k v) lo (k + 1) f := by
  refine ⟨h.1, h.2.1, by simpa [Cell.setSlot] using h.2.2.1, fun i => ?_⟩
  by_cases e : k = i
  · subst e; rw [Cell.slots_setSlot_self v hk, if_pos (by omega), hv]
  · rw [Cell.slots_setSlot_ne v e, h.2.2.2 i]
    by_cases q : lo ≤ i ∧ i < k
    · rw [if_pos q, if_pos (by omega)]
    · rw [if_neg q, if_neg (by omega)]
def U16 : String := "java/lang/StringUTF16"
namespace Cmp5
def yN : MethodName := ⟨"java/lang/StringUTF16", "compress", "([CI[BII)I"⟩
abbrev yB : ByteArray := jdk_52_method_21_code
theorem d0 : decode yB 0 = .ok (.iconst 0, 1) := by decide +kernel
theorem d1 : decode yB 1 = .ok (.istore 5, 2) := by decide +kernel
theorem d3 : decode yB 3 = .ok (.iload 5, 2) := by decide +kernel
theorem d5 : decode yB 5 = .ok (.iload 4, 2) := by decide +kernel
theorem d7 : decode yB 7 = .ok (.if_icmp (.ge) 37, 3) := by decide +kernel
theorem d10 : decode yB 10 = .ok (.aload_n 0, 1) := by decide +kernel
theorem d11 : decode yB 11 = .ok (.iload_n 1, 1) := by decide +kernel
theorem d12 : decode yB 12 = .ok (.caload, 1) := by decide +kernel
theorem d13 : decode yB 13 = .ok (.istore 6, 2) := by decide +kernel
theorem d15 : decode yB 15 = .ok (.iload 6, 2) := by decide +kernel
theorem d17 : decode yB 17 = .ok (.sipush 255, 3) := by decide +kernel
theorem d20 : decode yB 20 = .ok (.if_icmp (.le) 6, 3) := by decide +kernel
theorem d26 : decode yB 26 = .ok (.aload_n 2, 1) := by decide +kernel
theorem d27 : decode yB 27 = .ok (.iload_n 3, 1) := by decide +kernel
theorem d28 : decode yB 28 = .ok (.iload 6, 2) := by decide +kernel
theorem d30 : decode yB 30 = .ok (.i2b, 1) := by decide +kernel
theorem d31 : decode yB 31 = .ok (.bastore, 1) := by decide +kernel
theorem d32 : decode yB 32 = .ok (.iinc 1 1, 3) := by decide +kernel
theorem d35 : decode yB 35 = .ok (.iinc 3 1, 3) := by decide +kernel
theorem d38 : decode yB 38 = .ok (.iinc 5 1, 3) := by decide +kernel
theorem d41 : decode yB 41 = .ok (.goto (-38), 3) := by decide +kernel
theorem d44 : decode yB 44 = .ok (.iload 4, 2) := by decide +kernel
theorem d46 : decode yB 46 = .ok (.ireturn, 1) := by decide +kernel
def site : List Cond := []
def tab : Cond := tabOf yN yB 7 (some .int) site
def P (b : Addr) (A : Cell) (d : Addr) (B : Cell) (o q len : Nat) (args : Array Value) (s : State) : Prop := args = #[.ref b, .int (Int32.ofNat o), .ref d, .int (Int32.ofNat q), .int (Int32.ofNat len)] ∧ Ch b A s ∧ Arr .byte d B s ∧ b ≠ d ∧ o + len ≤ A.slots.size ∧ q + len ≤ B.slots.size ∧ ∀ i, i < len → ¬ 255 < cv A (o + i)
def E (b : Addr) (A : Cell) (d : Addr) (B : Cell) (o q len : Nat) (r : Option Value) (s u : State) : Prop := r = some (.int (Int32.ofNat len)) ∧ ∃ B', Put d B' s u ∧ Laid B B' q (q + len) (fun j => Value.int (lo8 (cv A (o + (j - q)))))
/-- no char of the range above 255: len; the places written hold each char's low byte -/
theorem law (l : Launch) (b : Addr) (A : Cell) (d : Addr) (B : Cell) (o q len : Nat) : Law l yN 5 5 0 0 yB 7 (some .int) site (P b A d B o q len) (E b A d B o q len) (copyLocs d q len) 0 0 := by
  refine Law.of_walk (plainFor_of_name (by decide +kernel)) (by decide +kernel) (by decide +kernel) (by decide) (fun _ _ h => by rw [h.1]; rfl) (fun _ U U' hal hh h => ⟨h.1, h.2.1.mv hal hh, h.2.2.1.mv hal hh, h.2.2.2⟩) (fun r U U' V V' h1 hal h2 h => ⟨h.1, h.2.elim fun B' q => ⟨B', q.1.mv h1 h2, q.2⟩⟩) ?_
  intro p e s m args below meth c s₁ X0 hexec hbytes hml hret hlk hnm hown hh0 W hP
  obtain ⟨rfl, hA, hB, hne, l1, l2, hp⟩ := hP
  have c1 : Steps p.tables e below (s₁.setTop (entryFrame m #[.ref b, .int (Int32.ofNat o), .ref d, .int (Int32.ofNat q), .int (Int32.ofNat len)] 7)) (s₁.setTop (mkF m 0 #[.val (.ref b), .val (.int (Int32.ofNat o)), .val (.ref d), .val (.int (Int32.ofNat q)), .val (.int (Int32.ofNat len)), .unset, .unset] [])) := entry rfl
  have hA0 := hA.1.mv X0.warmed.alike hh0
  have hB0 := hB.mv X0.warmed.alike hh0
  have a31 := hA.1.2.2.2
  have c2 : Steps p.tables e below (s₁.setTop (entryFrame m #[.ref b, .int (Int32.ofNat o), .ref d, .int (Int32.ofNat q), .int (Int32.ofNat len)] 7)) (s₁.setTop (mkF m 3 #[.val (.ref b), .val (.int (Int32.ofNat o)), .val (.ref d), .val (.int (Int32.ofNat q)), .val (.int (Int32.ofNat len)), .val (.int 0), .unset] [])) := c1.trans (by
    refine iconstV X0.here hexec rfl 0 (hb hbytes d0) (by decide) ?_
    refine XS.istore X0.here hexec rfl (hb hbytes d1) rfl rfl ?_
    exact Steps.refl _)
  have loop : ∀ (r i : Nat), i + r = len → ∀ (z : Slot), (z = .unset ∨ ∃ w, z = .val w ∧ w.category = 1) → ∀ (Tl : State) (Bk : Cell), Stand p l e { frames := 0, locals := 0, cells := 0, slots := 0 } s m #[.ref b, .int (Int32.ofNat o), .ref d, .int (Int32.ofNat q), .int (Int32.ofNat len)] below meth c Tl ([] ++ copyLocs d q i) 0 0 → Put d Bk s₁ Tl → Laid B Bk q (q + i) (fun j => Value.int (lo8 (cv A (o + (j - q))))) →
      Steps p.tables e below (s₁.setTop (entryFrame m #[.ref b, .int (Int32.ofNat o), .ref d, .int (Int32.ofNat q), .int (Int32.ofNat len)] 7)) (Tl.setTop (mkF m 3 #[.val (.ref b), .val (.int (Int32.ofNat (o + i))), .val (.ref d), .val (.int (Int32.ofNat (q + i))), .val (.int (Int32.ofNat len)), .val (.int (Int32.ofNat i)), z] [])) → ∃ (T' : State) (B' : Cell) (z' : Slot), Stand p l e { frames := 0, locals := 0, cells := 0, slots := 0 } s m #[.ref b, .int (Int32.ofNat o), .ref d, .int (Int32.ofNat q), .int (Int32.ofNat len)] below meth c T' ([] ++ copyLocs d q len) 0 0 ∧ Put d B' s₁ T' ∧ Laid B B' q (q + len) (fun j => Value.int (lo8 (cv A (o + (j - q))))) ∧
      Steps p.tables e below (s₁.setTop (entryFrame m #[.ref b, .int (Int32.ofNat o), .ref d, .int (Int32.ofNat q), .int (Int32.ofNat len)] 7)) (T'.setTop (mkF m 3 #[.val (.ref b), .val (.int (Int32.ofNat (o + len))), .val (.ref d), .val (.int (Int32.ofNat (q + len))), .val (.int (Int32.ofNat len)), .val (.int (Int32.ofNat len)), z'] [])) := by
    intro r
    induction r with
    | zero =>
      intro i hi z hz Tl Bk Xl pl fl cl
      have hil : i = len := by omega
      rw [hil] at Xl fl cl
      exact ⟨Tl, Bk, z, Xl, pl, fl, cl⟩
    | succ r ih =>
      intro i hi z hz Tl Bk Xl pl fl cl
      have all := X0.warmed.alike.symm.trans Xl.warmed.alike
      have hAl := hA0.keep all (pl.other hne hA0.1)
      have hBk := hB0.like all pl.1 fl.1 fl.2.1 fl.2.2.1
      have hlt : q + i < Bk.slots.size := by rw [fl.2.2.1]; omega
      have c3 : Steps p.tables e below (s₁.setTop (entryFrame m #[.ref b, .int (Int32.ofNat o), .ref d, .int (Int32.ofNat q), .int (Int32.ofNat len)] 7)) (Tl.setTop (mkF m 12 #[.val (.ref b), .val (.int (Int32.ofNat (o + i))), .val (.ref d), .val (.int (Int32.ofNat (q + i))), .val (.int (Int32.ofNat len)), .val (.int (Int32.ofNat i)), z] [.int (Int32.ofNat (o + i)), .ref b])) := cl.trans (by
        refine XS.iload Xl.here hexec rfl (hb hbytes d3) rfl ?_
        refine XS.iload Xl.here hexec rfl (hb hbytes d5) rfl ?_
        refine XS.icmpNo Xl.here hexec rfl (hb hbytes d7) rfl (ii_ge_f (lt32 (by omega) (by omega))) ?_
        refine XS.aloadN Xl.here hexec rfl (hb hbytes d10) rfl rfl ?_
        refine XS.iloadN Xl.here hexec rfl (hb hbytes d11) rfl ?_
        exact Steps.refl _)
      have c4 : Steps p.tables e below (s₁.setTop (entryFrame m #[.ref b, .int (Int32.ofNat o), .ref d, .int (Int32.ofNat q), .int (Int32.ofNat len)] 7)) (Tl.setTop (mkF m 13 #[.val (.ref b), .val (.int (Int32.ofNat (o + i))), .val (.ref d), .val (.int (Int32.ofNat (q + i))), .val (.int (Int32.ofNat len)), .val (.int (Int32.ofNat i)), z] [.int (cv A (o + i))])) := c3.trans (by
        refine Xl.aget hexec hAl rfl (hA.get (i := o + i) (by omega)) rfl rfl (hb hbytes d12) ?_
        exact Steps.refl _)
      have c5 : Steps p.tables e below (s₁.setTop (entryFrame m #[.ref b, .int (Int32.ofNat o), .ref d, .int (Int32.ofNat q), .int (Int32.ofNat len)] 7)) (Tl.setTop (mkF m 15 #[.val (.ref b), .val (.int (Int32.ofNat (o + i))), .val (.ref d), .val (.int (Int32.ofNat (q + i))), .val (.int (Int32.ofNat len)), .val (.int (Int32.ofNat i)), .val (.int (cv A (o + i)))] [])) := c4.trans (by
        refine XS.istoreS Xl.here hexec rfl (hb hbytes d13) rfl rfl hz ?_
        exact Steps.refl _)
      have c6 : Steps p.tables e below (s₁.setTop (entryFrame m #[.ref b, .int (Int32.ofNat o), .ref d, .int (Int32.ofNat q), .int (Int32.ofNat len)] 7)) (Tl.setTop (mkF m 31 #[.val (.ref b), .val (.int (Int32.ofNat (o + i))), .val (.ref d), .val (.int (Int32.ofNat (q + i))), .val (.int (Int32.ofNat len)), .val (.int (Int32.ofNat i)), .val (.int (cv A (o + i)))] [.int (lo8 (cv A (o + i))), .int (Int32.ofNat (q + i)), .ref d])) := c5.trans (by
        refine XS.iload Xl.here hexec rfl (hb hbytes d15) rfl ?_
        refine sipushV Xl.here hexec rfl 255 (hb hbytes d17) (by decide) ?_
        refine XS.icmpYes Xl.here hexec rfl (pc0 := 20) rfl (hb hbytes d20) rfl (ii_le_t (hp i (by omega))) (by decide) rfl ?_
        refine XS.aloadN Xl.here hexec rfl (hb hbytes d26) rfl rfl ?_
        refine XS.iloadN Xl.here hexec rfl (hb hbytes d27) rfl ?_
        refine XS.iload Xl.here hexec rfl (hb hbytes d28) rfl ?_
        refine i2b Xl.here hexec rfl (hb hbytes d30) rfl ?_
        exact Steps.refl _)
      obtain ⟨T7, X7, p7, st7⟩ := Xl.aput hexec hBk rfl hlt rfl (fits_lo8 (cv A (o + i))) (g := (mkF m 31 #[.val (.ref b), .val (.int (Int32.ofNat (o + i))), .val (.ref d), .val (.int (Int32.ofNat (q + i))), .val (.int (Int32.ofNat len)), .val (.int (Int32.ofNat i)), .val (.int (cv A (o + i)))] [.int (lo8 (cv A (o + i))), .int (Int32.ofNat (q + i)), .ref d])) rfl (rest := []) rfl (hb hbytes d31)
      have c8 : Steps p.tables e below (s₁.setTop (entryFrame m #[.ref b, .int (Int32.ofNat o), .ref d, .int (Int32.ofNat q), .int (Int32.ofNat len)] 7)) (T7.setTop (mkF m 32 #[.val (.ref b), .val (.int (Int32.ofNat (o + i))), .val (.ref d), .val (.int (Int32.ofNat (q + i))), .val (.int (Int32.ofNat len)), .val (.int (Int32.ofNat i)), .val (.int (cv A (o + i)))] [])) := c6.trans (st7 _ (Steps.refl _))
      have c9 : Steps p.tables e below (s₁.setTop (entryFrame m #[.ref b, .int (Int32.ofNat o), .ref d, .int (Int32.ofNat q), .int (Int32.ofNat len)] 7)) (T7.setTop (mkF m 3 #[.val (.ref b), .val (.int (Int32.ofNat (o + i) + 1)), .val (.ref d), .val (.int (Int32.ofNat (q + i) + 1)), .val (.int (Int32.ofNat len)), .val (.int (Int32.ofNat i + 1)), .val (.int (cv A (o + i)))] [])) := c8.trans (by
        refine iincV X7.here hexec rfl 1 (hb hbytes d32) (by decide) rfl rfl ?_
        refine iincV X7.here hexec rfl 1 (hb hbytes d35) (by decide) rfl rfl ?_
        refine iincV X7.here hexec rfl 1 (hb hbytes d38) (by decide) rfl rfl ?_
        refine XS.goto X7.here hexec rfl (pc0 := 41) rfl (hb hbytes d41) (by decide) rfl ?_
        exact Steps.refl _)
      have c10 : Steps p.tables e below (s₁.setTop (entryFrame m #[.ref b, .int (Int32.ofNat o), .ref d, .int (Int32.ofNat q), .int (Int32.ofNat len)] 7)) (T7.setTop (mkF m 3 #[.val (.ref b), .val (.int (Int32.ofNat (o + (i + 1)))), .val (.ref d), .val (.int (Int32.ofNat (q + (i + 1)))), .val (.int (Int32.ofNat len)), .val (.int (Int32.ofNat (i + 1))), .val (.int (cv A (o + i)))] [])) := by
        have := c9
        rw [succ32, succ32, succ32] at this
        exact this
      exact ih (i + 1) (by omega) _ (Or.inr ⟨_, rfl, rfl⟩) T7 _ (by rw [copyLocs_step, ← List.append_assoc]; exact X7) (pl.trans p7) (fl.step (by omega) hlt (by simp)) c10
  obtain ⟨T9, B9, z9, X9, p9, f9, g9⟩ := loop len 0 (by omega) .unset (Or.inl rfl) s₁ B (by simpa [copyLocs] using X0) ⟨hB0.1, fun _ _ => rfl, rfl⟩ (Laid.zero _ _ _) c2
  have c11 : Steps p.tables e below (s₁.setTop (entryFrame m #[.ref b, .int (Int32.ofNat o), .ref d, .int (Int32.ofNat q), .int (Int32.ofNat len)] 7)) (T9.setTop (mkF m 46 #[.val (.ref b), .val (.int (Int32.ofNat (o + len))), .val (.ref d), .val (.int (Int32.ofNat (q + len))), .val (.int (Int32.ofNat len)), .val (.int (Int32.ofNat len)), z9] [.int (Int32.ofNat len)])) := g9.trans (by
    refine XS.iload X9.here hexec rfl (hb hbytes d3) rfl ?_
    refine XS.iload X9.here hexec rfl (hb hbytes d5) rfl ?_
    refine XS.icmpYes X9.here hexec rfl (pc0 := 7) rfl (hb hbytes d7) rfl (ii_ge_t (nlt32 (by omega) (Nat.le_refl _))) (by decide) rfl ?_
    refine XS.iload X9.here hexec rfl (hb hbytes d44) rfl ?_
    exact Steps.refl _)
  exact ⟨T9, some (.int (Int32.ofNat len)), _, _, _, X9, by simp, rfl, rfl, (fun h => by cases h), ⟨rfl, B9, p9.from hh0, f9⟩, fun fs hl => c11.trans (X9.ireturnOut hexec hret rfl (Or.inl rfl) (hb hbytes d46) hl)⟩
end Cmp5
namespace Cmp3
def yN : MethodName := ⟨"java/lang/StringUTF16", "compress", "([CII)[B"⟩
abbrev yB : ByteArray := jdk_52_method_16_code
theorem d0 : decode yB 0 = .ok (.iload_n 2, 1) := by decide +kernel
theorem d1 : decode yB 1 = .ok (.newarray .byte, 2) := by decide +kernel
theorem d3 : decode yB 3 = .ok (.astore_n 3, 1) := by decide +kernel
theorem d4 : decode yB 4 = .ok (.aload_n 0, 1) := by decide +kernel
theorem d5 : decode yB 5 = .ok (.iload_n 1, 1) := by decide +kernel
theorem d6 : decode yB 6 = .ok (.aload_n 3, 1) := by decide +kernel
theorem d7 : decode yB 7 = .ok (.iconst 0, 1) := by decide +kernel
theorem d8 : decode yB 8 = .ok (.iload_n 2, 1) := by decide +kernel
theorem d9 : decode yB 9 = .ok (.invokestatic 115, 3) := by decide +kernel
theorem d12 : decode yB 12 = .ok (.istore 4, 2) := by decide +kernel
theorem d14 : decode yB 14 = .ok (.iload 4, 2) := by decide +kernel
theorem d16 : decode yB 16 = .ok (.iload_n 2, 1) := by decide +kernel
theorem d17 : decode yB 17 = .ok (.if_icmp (.eq) 40, 3) := by decide +kernel
theorem d57 : decode yB 57 = .ok (.aload_n 3, 1) := by decide +kernel
theorem d58 : decode yB 58 = .ok (.areturn, 1) := by decide +kernel
def site : List Cond := [.arrayClass .byte, Cmp5.tab] ++ staticW U16 115 Cmp5.yN
def tab : Cond := tabOf yN yB 6 (some (.array .byte)) site
def P (b : Addr) (A : Cell) (o len : Nat) (args : Array Value) (s : State) : Prop := args = #[.ref b, .int (Int32.ofNat o), .int (Int32.ofNat len)] ∧ Ch b A s ∧ o + len ≤ A.slots.size ∧ len ≤ 536870912 ∧ ∀ i, i < len → ¬ 255 < cv A (o + i)
def E (b : Addr) (A : Cell) (o len : Nat) (r : Option Value) (s u : State) : Prop := NewArr .byte "[B" len (fun j => .int (lo8 (cv A (o + j)))) r s u ∧ u.heap.size = s.heap.size + 1
/-- no char of the range above 255: a new byte[] of their low bytes -/
theorem law (l : Launch) (b : Addr) (A : Cell) (o len : Nat) : Law l yN 3 3 1 18 yB 6 (some (.array .byte)) site (P b A o len) (E b A o len) [] 1 len := by
  refine Law.of_walk (plainFor_of_name (by decide +kernel)) (by decide +kernel) (by decide +kernel) (by decide) (fun _ _ h => by rw [h.1]; rfl) (fun _ U U' hal hh h => ⟨h.1, h.2.1.mv hal hh, h.2.2⟩) (fun r U U' V V' h1 hal h2 h => ⟨NewArr.mv r U U' V V' h1 hal h2 h.1, by rw [h1, h2]; exact h.2⟩) ?_
  intro p e s m args below meth c s₁ X0 hexec hbytes hml hret hlk hnm hown hh0 W hP
  obtain ⟨rfl, hA, l1, l2, hp⟩ := hP
  have a31 := hA.1.2.2.2
  have c1 : Steps p.tables e below (s₁.setTop (entryFrame m #[.ref b, .int (Int32.ofNat o), .int (Int32.ofNat len)] 6)) (s₁.setTop (mkF m 0 #[.val (.ref b), .val (.int (Int32.ofNat o)), .val (.int (Int32.ofNat len)), .unset, .unset, .unset] [])) := entry rfl
  have c2 : Steps p.tables e below (s₁.setTop (entryFrame m #[.ref b, .int (Int32.ofNat o), .int (Int32.ofNat len)] 6)) (s₁.setTop (mkF m 1 #[.val (.ref b), .val (.int (Int32.ofNat o)), .val (.int (Int32.ofNat len)), .unset, .unset, .unset] [.int (Int32.ofNat len)])) := c1.trans (by
    refine XS.iloadN X0.here hexec rfl (hb hbytes d0) rfl ?_
    exact Steps.refl _)
  obtain ⟨T3, B3, X3, ba3, bs3, bv3, bh3, bf3, st3⟩ := X0.anew hexec (atype := .byte) (wk W (.arrayClass .byte)) rfl (by show len * 1 ≤ _; omega) (by omega) (g := (mkF m 1 #[.val (.ref b), .val (.int (Int32.ofNat o)), .val (.int (Int32.ofNat len)), .unset, .unset, .unset] [.int (Int32.ofNat len)])) rfl (hb hbytes d1) (rest := []) rfl (Nat.le_refl _) (by show 0 + len ≤ len; omega)
  rw [hh0] at ba3 st3
  have kp3 : XT.Kept s T3 := (XT.Kept.of_eq hh0).push bh3
  have hA3 := hA.keep X3.warmed.alike (kp3 _ _ hA.1.1)
  have hne : b ≠ s.heap.size := hA.1.ne
  have c4 : Steps p.tables e below (s₁.setTop (entryFrame m #[.ref b, .int (Int32.ofNat o), .int (Int32.ofNat len)] 6)) (T3.setTop (mkF m 3 #[.val (.ref b), .val (.int (Int32.ofNat o)), .val (.int (Int32.ofNat len)), .unset, .unset, .unset] [.ref s.heap.size])) := c2.trans (st3 _ (Steps.refl _))
  have c5 : Steps p.tables e below (s₁.setTop (entryFrame m #[.ref b, .int (Int32.ofNat o), .int (Int32.ofNat len)] 6)) (T3.setTop (mkF m 9 #[.val (.ref b), .val (.int (Int32.ofNat o)), .val (.int (Int32.ofNat len)), .val (.ref s.heap.size), .unset, .unset] [.int (Int32.ofNat len), .int 0, .ref s.heap.size, .int (Int32.ofNat o), .ref b])) := c4.trans (by
    refine XS.astoreN X3.here hexec rfl (hb hbytes d3) rfl rfl rfl ?_
    refine XS.aloadN X3.here hexec rfl (hb hbytes d4) rfl rfl ?_
    refine XS.iloadN X3.here hexec rfl (hb hbytes d5) rfl ?_
    refine XS.aloadN X3.here hexec rfl (hb hbytes d6) rfl rfl ?_
    refine iconstV X3.here hexec rfl 0 (hb hbytes d7) (by decide) ?_
    refine XS.iloadN X3.here hexec rfl (hb hbytes d8) rfl ?_
    exact Steps.refl _)
  obtain ⟨v6, T6, X6, E6, g6⟩ := X3.callS hexec (Cmp5.law l b A s.heap.size B3 o 0 len) hown (wks W (staticW U16 115 Cmp5.yN)) (wk W Cmp5.tab) (W := 0) (Nat.le_of_ble_eq_true rfl) (Nat.le_of_ble_eq_true rfl) (Nat.le_refl _) (by show 0 + len + 0 ≤ len; omega) (g := (mkF m 9 #[.val (.ref b), .val (.int (Int32.ofNat o)), .val (.int (Int32.ofNat len)), .val (.ref s.heap.size), .unset, .unset] [.int (Int32.ofNat len), .int (Int32.ofNat 0), .ref s.heap.size, .int (Int32.ofNat o), .ref b])) rfl (by rw [hml]; rfl) c5 (argsL := [.ref b, .int (Int32.ofNat o), .ref s.heap.size, .int (Int32.ofNat 0), .int (Int32.ofNat len)]) (rest := []) rfl rfl (by show 2 * 0 + 0 ≤ _; decide) (hb hbytes d9) (⟨rfl, hA3, ba3, hne, l1, by rw [bs3]; simp, hp⟩)
  obtain ⟨rfl, B6, p6, f6⟩ := E6
  have c7 : Steps p.tables e below (s₁.setTop (entryFrame m #[.ref b, .int (Int32.ofNat o), .int (Int32.ofNat len)] 6)) (T6.setTop (mkF m 12 #[.val (.ref b), .val (.int (Int32.ofNat o)), .val (.int (Int32.ofNat len)), .val (.ref s.heap.size), .unset, .unset] [.int (Int32.ofNat len)])) := g6
  have c8 : Steps p.tables e below (s₁.setTop (entryFrame m #[.ref b, .int (Int32.ofNat o), .int (Int32.ofNat len)] 6)) (T6.setTop (mkF m 58 #[.val (.ref b), .val (.int (Int32.ofNat o)), .val (.int (Int32.ofNat len)), .val (.ref s.heap.size), .val (.int (Int32.ofNat len)), .unset] [.ref s.heap.size])) := c7.trans (by
    refine XS.istore X6.here hexec rfl (hb hbytes d12) rfl rfl ?_
    refine XS.iload X6.here hexec rfl (hb hbytes d14) rfl ?_
    refine XS.iloadN X6.here hexec rfl (hb hbytes d16) rfl ?_
    refine XS.icmpYes X6.here hexec rfl (pc0 := 17) rfl (hb hbytes d17) rfl (ii_eq_t rfl) (by decide) rfl ?_
    refine XS.aloadN X6.here hexec rfl (hb hbytes d57) rfl rfl ?_
    exact Steps.refl _)
  have X8 := X6.wide (L' := []) (cells' := 1) (slots' := len) (fun x hx hlt => by
    simp only [List.nil_append, copyLocs, List.mem_map, List.mem_range] at hx
    obtain ⟨i, -, rfl⟩ := hx
    exact absurd hlt (Nat.lt_irrefl _)) (Nat.le_refl _) (by omega)
  exact ⟨T6, some (.ref s.heap.size), _, _, _, X8, rfl, rfl, rfl, (fun h => by cases h), ⟨⟨rfl, B6, ba3.like (X3.warmed.alike.symm.trans X6.warmed.alike) p6.1 f6.1 f6.2.1 f6.2.2.1, f6.2.1.trans bv3, by rw [X6.warmed.alike.findClass, f6.1]; exact bf3, by rw [f6.2.2.1, bs3]; simp, fun j hj => by rw [f6.2.2.2 j, if_pos (by omega)]; rfl, kp3.put p6 (Nat.le_refl _)⟩, by rw [p6.2.2, bh3, hh0]; simp⟩, fun fs hl => c8.trans (X8.areturnOut hexec rfl hret rfl (hb hbytes d58) hl)⟩
end Cmp3
namespace CodL
def yN : MethodName := ⟨"java/lang/StringUTF16", "coderFromArrayLen", "([BI)B"⟩
abbrev yB : ByteArray := jdk_52_method_15_code
theorem d0 : decode yB 0 = .ok (.iload_n 1, 1) := by decide +kernel
theorem d1 : decode yB 1 = .ok (.aload_n 0, 1) := by decide +kernel
theorem d2 : decode yB 2 = .ok (.arraylength, 1) := by decide +kernel
theorem d3 : decode yB 3 = .ok (.isub, 1) := by decide +kernel
theorem d4 : decode yB 4 = .ok (.bipush 31, 2) := by decide +kernel
theorem d6 : decode yB 6 = .ok (.iushr, 1) := by decide +kernel
theorem d7 : decode yB 7 = .ok (.i2b, 1) := by decide +kernel
theorem d8 : decode yB 8 = .ok (.ireturn, 1) := by decide +kernel
def site : List Cond := []
def tab : Cond := tabOf yN yB 2 (some .byte) site
def P (d : Addr) (B : Cell) (args : Array Value) (s : State) : Prop := args = #[.ref d, .int (Int32.ofNat B.slots.size)] ∧ Arr .byte d B s
def E (r : Option Value) (s u : State) : Prop := XT.PureE (some (.int 0)) r s u
/-- an array as long as the number of chars: LATIN1 -/
theorem law (l : Launch) (d : Addr) (B : Cell) : Law l yN 2 2 0 0 yB 2 (some .byte) site (P d B) E [] 0 0 := by
  refine Law.of_walk (plainFor_of_name (by decide +kernel)) (by decide +kernel) (by decide +kernel) (by decide) (fun _ _ h => by rw [h.1]; rfl) (fun _ U U' hal hh h => ⟨h.1, h.2.mv hal hh⟩) (fun r U U' V V' h1 hal h2 h => XT.PureE.mv r U U' V V' h1 hal h2 h) ?_
  intro p e s m args below meth c s₁ X0 hexec hbytes hml hret hlk hnm hown hh0 W hP
  obtain ⟨rfl, hB⟩ := hP
  have hB0 := hB.mv X0.warmed.alike hh0
  have c1 : Steps p.tables e below (s₁.setTop (entryFrame m #[.ref d, .int (Int32.ofNat B.slots.size)] 2)) (s₁.setTop (mkF m 0 #[.val (.ref d), .val (.int (Int32.ofNat B.slots.size))] [])) := entry rfl
  have c2 : Steps p.tables e below (s₁.setTop (entryFrame m #[.ref d, .int (Int32.ofNat B.slots.size)] 2)) (s₁.setTop (mkF m 2 #[.val (.ref d), .val (.int (Int32.ofNat B.slots.size))] [.ref d, .int (Int32.ofNat B.slots.size)])) := c1.trans (by
    refine XS.iloadN X0.here hexec rfl (hb hbytes d0) rfl ?_
    refine XS.aloadN X0.here hexec rfl (hb hbytes d1) rfl rfl ?_
    exact Steps.refl _)
  have c3 : Steps p.tables e below (s₁.setTop (entryFrame m #[.ref d, .int (Int32.ofNat B.slots.size)] 2)) (s₁.setTop (mkF m 8 #[.val (.ref d), .val (.int (Int32.ofNat B.slots.size))] [.int (lo8 (ushr (Int32.ofNat B.slots.size - Int32.ofNat B.slots.size) 31))])) := c2.trans (by
    refine X0.alen hexec hB0 rfl rfl (hb hbytes d2) ?_
    refine XS.isub X0.here hexec rfl (hb hbytes d3) rfl ?_
    refine bipushV X0.here hexec rfl 31 (hb hbytes d4) (by decide) ?_
    refine iushr X0.here hexec rfl (hb hbytes d6) rfl ?_
    refine i2b X0.here hexec rfl (hb hbytes d7) rfl ?_
    exact Steps.refl _)
  have e0 : lo8 (ushr (Int32.ofNat B.slots.size - Int32.ofNat B.slots.size) 31) = 0 := by rw [Int32.sub_self]; decide
  rw [e0] at c3
  exact ⟨s₁, some (.int 0), _, _, _, X0, rfl, rfl, rfl, (fun h => by cases h), ⟨rfl, hh0⟩, fun fs hl => c3.trans (X0.ireturnOut hexec hret rfl (Or.inr (Or.inr (Or.inl rfl))) (hb hbytes d8) hl)⟩
end CodL
/-- the String at a is Latin-1 over a new byte[] (the heap's one new cell): the low bytes of the len chars of A from o on; every cell but a is kept -/
def Got (a : Addr) (D : Cell) (fV fC : Field) (A : Cell) (o len : Nat) (r : Option Value) (s u : State) : Prop := r = none ∧ ∃ D' V : Cell, Blank "java/lang/String" a D' u ∧ Same D D' [fV.slot, fC.slot] ∧ D'.slots[fV.slot]? = some (.ref s.heap.size) ∧ D'.slots[fC.slot]? = some (.int 0) ∧ Arr .byte s.heap.size V u ∧ V.vm = .none ∧ u.vm.findClass "[B" = some V.cls ∧ V.slots.size = len ∧ (∀ j, j < len → V.slots[j]? = some (.int (lo8 (cv A (o + j))))) ∧ (∀ (y : Addr) (c : Cell), y ≠ a → s.heap[y]? = some c → u.heap[y]? = some c) ∧ u.heap.size = s.heap.size + 1
theorem Got.mv {a : Addr} {D A : Cell} {fV fC : Field} {o len : Nat} : ∀ r (U U' V V' : State), U'.heap = U.heap → V.vm.Alike V'.vm → V'.heap = V.heap → Got a D fV fC A o len r U V → Got a D fV fC A o len r U' V' :=
  fun r U U' V V' h1 hal h2 ⟨e0, D', X, a1, a2, a3, a4, a5, a6, a7, a8, a9, a10, a11⟩ => ⟨e0, D', X, a1.mv hal h2, a2, by rw [h1]; exact a3, a4, by rw [h1]; exact a5.mv hal h2, a6, by rw [hal.findClass]; exact a7, a8, a9, by rw [h1, h2]; exact a10, by rw [h1, h2]; exact a11⟩
namespace New4
def yN : MethodName := ⟨"java/lang/String", "<init>", "([CIILjava/lang/Void;)V"⟩
abbrev yB : ByteArray := jdk_42_method_149_code
theorem d0 : decode yB 0 = .ok (.aload_n 0, 1) := by decide +kernel
theorem d1 : decode yB 1 = .ok (.invokespecial 1, 3) := by decide +kernel
theorem d4 : decode yB 4 = .ok (.iload_n 3, 1) := by decide +kernel
theorem d5 : decode yB 5 = .ok (.ifCond (.ne) 22, 3) := by decide +kernel
theorem d27 : decode yB 27 = .ok (.getstatic 38, 3) := by decide +kernel
theorem d30 : decode yB 30 = .ok (.ifCond (.eq) 28, 3) := by decide +kernel
theorem d33 : decode yB 33 = .ok (.aload_n 1, 1) := by decide +kernel
theorem d34 : decode yB 34 = .ok (.iload_n 2, 1) := by decide +kernel
theorem d35 : decode yB 35 = .ok (.iload_n 3, 1) := by decide +kernel
theorem d36 : decode yB 36 = .ok (.invokestatic 177, 3) := by decide +kernel
theorem d39 : decode yB 39 = .ok (.astore 5, 2) := by decide +kernel
theorem d41 : decode yB 41 = .ok (.aload_n 0, 1) := by decide +kernel
theorem d42 : decode yB 42 = .ok (.aload 5, 2) := by decide +kernel
theorem d44 : decode yB 44 = .ok (.iload_n 3, 1) := by decide +kernel
theorem d45 : decode yB 45 = .ok (.invokestatic 47, 3) := by decide +kernel
theorem d48 : decode yB 48 = .ok (.putfield 15, 3) := by decide +kernel
theorem d51 : decode yB 51 = .ok (.aload_n 0, 1) := by decide +kernel
theorem d52 : decode yB 52 = .ok (.aload 5, 2) := by decide +kernel
theorem d54 : decode yB 54 = .ok (.putfield 9, 3) := by decide +kernel
theorem d57 : decode yB 57 = .ok (.return_, 1) := by decide +kernel
def site : List Cond := [.fieldLink "java/lang/String" 38 "java/lang/String" "COMPACT_STRINGS" "Z", Cmp3.tab, CodL.tab, .laysFinal "java/lang/String" "java/lang/String" "value" "[B", .fieldLink "java/lang/String" 9 "java/lang/String" "value" "[B", .laysFinal "java/lang/String" "java/lang/String" "coder" "B", .fieldLink "java/lang/String" 15 "java/lang/String" "coder" "B"] ++ objW "java/lang/String" 1 ++ staticW "java/lang/String" 177 Cmp3.yN ++ staticW "java/lang/String" 47 CodL.yN
def tab : Cond := tabOf yN yB 6 none site
def P (a : Addr) (D : Cell) (fV fC : Field) (b : Addr) (A : Cell) (z : Int32) (o len : Nat) (args : Array Value) (s : State) : Prop := args = #[.ref a, .ref b, .int (Int32.ofNat o), .int (Int32.ofNat len), .null] ∧ Blank "java/lang/String" a D s ∧ Found "java/lang/String" "value" "[B" fV s ∧ Found "java/lang/String" "coder" "B" fC s ∧ Ch b A s ∧ StaticIs s "java/lang/String" "COMPACT_STRINGS" "Z" (.int z) ∧ ¬ z = 0 ∧ 0 < len ∧ o + len ≤ A.slots.size ∧ len ≤ 536870912 ∧ ∀ i, i < len → ¬ 255 < cv A (o + i)
def E (a : Addr) (D : Cell) (fV fC : Field) (A : Cell) (o len : Nat) (r : Option Value) (s u : State) : Prop := Got a D fV fC A o len r s u
/-- len > 0, no char of the range above 255: a Latin-1 String of their low bytes -/
theorem law (l : Launch) (a : Addr) (D : Cell) (fV fC : Field) (b : Addr) (A : Cell) (z : Int32) (o len : Nat) : Law l yN 5 4 2 35 yB 6 none site (P a D fV fC b A z o len) (E a D fV fC A o len) [⟨a, fC.slot⟩, ⟨a, fV.slot⟩] 1 len := by
  refine Law.of_walk (plainFor_of_name (by decide +kernel)) (by decide +kernel) (by decide +kernel) (by decide) (fun _ _ h => by rw [h.1]; rfl) (fun _ U U' hal hh h => ⟨h.1, h.2.1.mv hal hh, h.2.2.1.al hal, h.2.2.2.1.al hal, h.2.2.2.2.1.mv hal hh, h.2.2.2.2.2.1.there hal hh, h.2.2.2.2.2.2⟩) (fun r U U' V V' h1 hal h2 h => Got.mv r U U' V V' h1 hal h2 h) ?_
  intro p e s m args below meth c s₁ X0 hexec hbytes hml hret hlk hnm hown hh0 W hP
  obtain ⟨rfl, hB, f1, f2, hA, s1, hz, l0, l1, l2, hp⟩ := hP
  have a31 := hA.1.2.2.2
  have c1 : Steps p.tables e below (s₁.setTop (entryFrame m #[.ref a, .ref b, .int (Int32.ofNat o), .int (Int32.ofNat len), .null] 6)) (s₁.setTop (mkF m 0 #[.val (.ref a), .val (.ref b), .val (.int (Int32.ofNat o)), .val (.int (Int32.ofNat len)), .val .null, .unset] [])) := entry rfl
  have c2 : Steps p.tables e below (s₁.setTop (entryFrame m #[.ref a, .ref b, .int (Int32.ofNat o), .int (Int32.ofNat len), .null] 6)) (s₁.setTop (mkF m 1 #[.val (.ref a), .val (.ref b), .val (.int (Int32.ofNat o)), .val (.int (Int32.ofNat len)), .val .null, .unset] [.ref a])) := c1.trans (by
    refine XS.aloadN X0.here hexec rfl (hb hbytes d0) rfl rfl ?_
    exact Steps.refl _)
  obtain ⟨T3, X3, q3, st3⟩ := X0.oinit hexec hown (wks W (objW "java/lang/String" 1)) (g := (mkF m 1 #[.val (.ref a), .val (.ref b), .val (.int (Int32.ofNat o)), .val (.int (Int32.ofNat len)), .val .null, .unset] [.ref a])) rfl (by rw [hml]; rfl) (rest := []) rfl (hb hbytes d1) (W := 0) (by show 2 * 0 + 0 ≤ _; decide) (Nat.le_of_ble_eq_true rfl) (Nat.le_of_ble_eq_true rfl)
  have hh3 := q3.trans hh0
  have c4 : Steps p.tables e below (s₁.setTop (entryFrame m #[.ref a, .ref b, .int (Int32.ofNat o), .int (Int32.ofNat len), .null] 6)) (T3.setTop (mkF m 27 #[.val (.ref a), .val (.ref b), .val (.int (Int32.ofNat o)), .val (.int (Int32.ofNat len)), .val .null, .unset] [])) := (c2.trans (st3 _ (Steps.refl _))).trans (by
    refine XS.iloadN X3.here hexec rfl (hb hbytes d4) rfl ?_
    refine XS.ifYes X3.here hexec rfl (pc0 := 5) rfl (hb hbytes d5) rfl (i0_ne_t (nz32 (by omega) l0)) (by decide) rfl ?_
    exact Steps.refl _)
  obtain ⟨T5, X5, q5, st5⟩ := X3.sget hexec hown (wk W (.fieldLink "java/lang/String" 38 "java/lang/String" "COMPACT_STRINGS" "Z")) s1 (fun _ _ h => by rw [hh3]; exact h) (g := (mkF m 27 #[.val (.ref a), .val (.ref b), .val (.int (Int32.ofNat o)), .val (.int (Int32.ofNat len)), .val .null, .unset] [])) rfl (hb hbytes d27)
  have hh5 := q5.trans hh3
  have c6 : Steps p.tables e below (s₁.setTop (entryFrame m #[.ref a, .ref b, .int (Int32.ofNat o), .int (Int32.ofNat len), .null] 6)) (T5.setTop (mkF m 30 #[.val (.ref a), .val (.ref b), .val (.int (Int32.ofNat o)), .val (.int (Int32.ofNat len)), .val .null, .unset] [.int z])) := c4.trans (st5 _ (Steps.refl _))
  have c7 : Steps p.tables e below (s₁.setTop (entryFrame m #[.ref a, .ref b, .int (Int32.ofNat o), .int (Int32.ofNat len), .null] 6)) (T5.setTop (mkF m 36 #[.val (.ref a), .val (.ref b), .val (.int (Int32.ofNat o)), .val (.int (Int32.ofNat len)), .val .null, .unset] [.int (Int32.ofNat len), .int (Int32.ofNat o), .ref b])) := c6.trans (by
    refine XS.ifNo X5.here hexec rfl (hb hbytes d30) rfl (i0_eq_f hz) ?_
    refine XS.aloadN X5.here hexec rfl (hb hbytes d33) rfl rfl ?_
    refine XS.iloadN X5.here hexec rfl (hb hbytes d34) rfl ?_
    refine XS.iloadN X5.here hexec rfl (hb hbytes d35) rfl ?_
    exact Steps.refl _)
  obtain ⟨v8, T8, X8, E8, g8⟩ := X5.callS hexec (Cmp3.law l b A o len) hown (wks W (staticW "java/lang/String" 177 Cmp3.yN)) (wk W Cmp3.tab) (W := 0) (Nat.le_of_ble_eq_true rfl) (Nat.le_of_ble_eq_true rfl) (Nat.le_refl _) (by show 0 + len ≤ len; omega) (g := (mkF m 36 #[.val (.ref a), .val (.ref b), .val (.int (Int32.ofNat o)), .val (.int (Int32.ofNat len)), .val .null, .unset] [.int (Int32.ofNat len), .int (Int32.ofNat o), .ref b])) rfl (by rw [hml]; rfl) c7 (argsL := [.ref b, .int (Int32.ofNat o), .int (Int32.ofNat len)]) (rest := []) rfl rfl (by show 2 * 0 + 0 ≤ _; decide) (hb hbytes d36) (⟨rfl, hA.mv X5.warmed.alike hh5, l1, l2, hp⟩)
  obtain ⟨e8, z8⟩ := E8
  obtain ⟨rfl, N, n1, n2, n3, n4, n5, n6⟩ := NewArr.mv _ T5 s _ _ hh5.symm (Vm.Alike.refl _) rfl e8
  rw [hh5] at z8
  have hB1 := hB.keep X8.warmed.alike (n6 _ _ hB.1)
  have hne : s.heap.size ≠ a := (Nat.ne_of_lt (Array.getElem?_eq_some_iff.mp hB.1).1).symm
  have c9 : Steps p.tables e below (s₁.setTop (entryFrame m #[.ref a, .ref b, .int (Int32.ofNat o), .int (Int32.ofNat len), .null] 6)) (T8.setTop (mkF m 39 #[.val (.ref a), .val (.ref b), .val (.int (Int32.ofNat o)), .val (.int (Int32.ofNat len)), .val .null, .unset] [.ref s.heap.size])) := g8
  have c10 : Steps p.tables e below (s₁.setTop (entryFrame m #[.ref a, .ref b, .int (Int32.ofNat o), .int (Int32.ofNat len), .null] 6)) (T8.setTop (mkF m 45 #[.val (.ref a), .val (.ref b), .val (.int (Int32.ofNat o)), .val (.int (Int32.ofNat len)), .val .null, .val (.ref s.heap.size)] [.int (Int32.ofNat N.slots.size), .ref s.heap.size, .ref a])) := by
    have hc : Steps p.tables e below (s₁.setTop (entryFrame m #[.ref a, .ref b, .int (Int32.ofNat o), .int (Int32.ofNat len), .null] 6)) (T8.setTop (mkF m 45 #[.val (.ref a), .val (.ref b), .val (.int (Int32.ofNat o)), .val (.int (Int32.ofNat len)), .val .null, .val (.ref s.heap.size)] [.int (Int32.ofNat len), .ref s.heap.size, .ref a])) := c9.trans (by
      refine XS.astore X8.here hexec rfl (hb hbytes d39) rfl rfl rfl ?_
      refine XS.aloadN X8.here hexec rfl (hb hbytes d41) rfl rfl ?_
      refine XS.aload X8.here hexec rfl (hb hbytes d42) rfl rfl ?_
      refine XS.iloadN X8.here hexec rfl (hb hbytes d44) rfl ?_
      exact Steps.refl _)
    rw [n4]; exact hc
  obtain ⟨v11, T11, X11, E11, g11⟩ := X8.callS hexec (CodL.law l s.heap.size N) hown (wks W (staticW "java/lang/String" 47 CodL.yN)) (wk W CodL.tab) (W := 1) (Nat.le_of_ble_eq_true rfl) (Nat.le_of_ble_eq_true rfl) (Nat.le_refl _) (by show 0 + len + 0 ≤ len; omega) (g := (mkF m 45 #[.val (.ref a), .val (.ref b), .val (.int (Int32.ofNat o)), .val (.int (Int32.ofNat len)), .val .null, .val (.ref s.heap.size)] [.int (Int32.ofNat N.slots.size), .ref s.heap.size, .ref a])) rfl (by rw [hml]; rfl) c10 (argsL := [.ref s.heap.size, .int (Int32.ofNat N.slots.size)]) (rest := [.ref a]) rfl rfl (by show 2 * 0 + (1 + 0) ≤ _; decide) (hb hbytes d45) (⟨rfl, n1⟩)
  obtain ⟨rfl, q11⟩ := E11
  have hB11 := hB1.mv (X8.warmed.alike.symm.trans X11.warmed.alike) q11
  have c12 : Steps p.tables e below (s₁.setTop (entryFrame m #[.ref a, .ref b, .int (Int32.ofNat o), .int (Int32.ofNat len), .null] 6)) (T11.setTop (mkF m 48 #[.val (.ref a), .val (.ref b), .val (.int (Int32.ofNat o)), .val (.int (Int32.ofNat len)), .val .null, .val (.ref s.heap.size)] [.int 0, .ref a])) := g11
  obtain ⟨T13, X13, p13, bl13, sl13, st13⟩ := X11.finit hexec hown (wk W (.fieldLink "java/lang/String" 15 "java/lang/String" "coder" "B")) (Or.inr ⟨_, (wk W (.laysFinal "java/lang/String" "java/lang/String" "coder" "B"))⟩) (Or.inl ⟨rfl, hnm⟩) f2 (Or.inl rfl) hB11 (t := .byte) (by decide +kernel) rfl (g := (mkF m 48 #[.val (.ref a), .val (.ref b), .val (.int (Int32.ofNat o)), .val (.int (Int32.ofNat len)), .val .null, .val (.ref s.heap.size)] [.int 0, .ref a])) rfl (rest := []) rfl (hb hbytes d48)
  have c14 : Steps p.tables e below (s₁.setTop (entryFrame m #[.ref a, .ref b, .int (Int32.ofNat o), .int (Int32.ofNat len), .null] 6)) (T13.setTop (mkF m 54 #[.val (.ref a), .val (.ref b), .val (.int (Int32.ofNat o)), .val (.int (Int32.ofNat len)), .val .null, .val (.ref s.heap.size)] [.ref s.heap.size, .ref a])) := (c12.trans (st13 _ (Steps.refl _))).trans (by
    refine XS.aloadN X13.here hexec rfl (hb hbytes d51) rfl rfl ?_
    refine XS.aload X13.here hexec rfl (hb hbytes d52) rfl rfl ?_
    exact Steps.refl _)
  obtain ⟨T15, X15, p15, bl15, sl15, st15⟩ := X13.finit hexec hown (wk W (.fieldLink "java/lang/String" 9 "java/lang/String" "value" "[B")) (Or.inr ⟨_, (wk W (.laysFinal "java/lang/String" "java/lang/String" "value" "[B"))⟩) (Or.inl ⟨rfl, hnm⟩) f1 (Or.inl rfl) bl13 (t := (.array .byte)) (by decide +kernel) rfl (g := (mkF m 54 #[.val (.ref a), .val (.ref b), .val (.int (Int32.ofNat o)), .val (.int (Int32.ofNat len)), .val .null, .val (.ref s.heap.size)] [.ref s.heap.size, .ref a])) rfl (rest := []) rfl (hb hbytes d54)
  have c16 : Steps p.tables e below (s₁.setTop (entryFrame m #[.ref a, .ref b, .int (Int32.ofNat o), .int (Int32.ofNat len), .null] 6)) (T15.setTop (mkF m 57 #[.val (.ref a), .val (.ref b), .val (.int (Int32.ofNat o)), .val (.int (Int32.ofNat len)), .val .null, .val (.ref s.heap.size)] [])) := c14.trans (st15 _ (Steps.refl _))
  have ap := apart (Or.inr ⟨_, (wk W (.laysFinal "java/lang/String" "java/lang/String" "value" "[B"))⟩) (Or.inr ⟨_, (wk W (.laysFinal "java/lang/String" "java/lang/String" "coder" "B"))⟩) f1 f2 (t₁ := .array .byte) (t₂ := .byte) (by decide +kernel) (by decide +kernel) (by decide)
  have al := X8.warmed.alike.symm.trans X15.warmed.alike
  have n7 : T11.heap[s.heap.size]? = some N := by rw [q11]; exact n1.1
  exact ⟨T15, none, _, _, _, X15, by simp, rfl, by omega, (fun _ => rfl), ⟨rfl, _, N, bl15, ((Same.refl D _).set _ (by simp)).set _ (by simp), sl15, (Cell.slots_setSlot_ne _ ap).trans sl13, n1.keep al (p15.other hne (p13.other hne n7)), n2, by rw [al.findClass]; exact n3, n4, n5, fun y c h1 h2 => p15.other h1 (p13.other h1 (by rw [q11]; exact n6 y c h2)), by rw [p15.2.2, p13.2.2, q11]; exact z8⟩, fun fs hl => c16.trans (X15.returnOut hexec hret (hb hbytes d57) hl)⟩
end New4
namespace New1
def yN : MethodName := ⟨"java/lang/String", "<init>", "([C)V"⟩
abbrev yB : ByteArray := jdk_42_method_3_code
theorem d0 : decode yB 0 = .ok (.aload_n 0, 1) := by decide +kernel
theorem d1 : decode yB 1 = .ok (.aload_n 1, 1) := by decide +kernel
theorem d2 : decode yB 2 = .ok (.iconst 0, 1) := by decide +kernel
theorem d3 : decode yB 3 = .ok (.aload_n 1, 1) := by decide +kernel
theorem d4 : decode yB 4 = .ok (.arraylength, 1) := by decide +kernel
theorem d5 : decode yB 5 = .ok (.aconst_null, 1) := by decide +kernel
theorem d6 : decode yB 6 = .ok (.invokespecial 27, 3) := by decide +kernel
theorem d9 : decode yB 9 = .ok (.return_, 1) := by decide +kernel
def site : List Cond := [New4.tab] ++ initW "java/lang/String" 27 New4.yN
def tab : Cond := tabOf yN yB 2 none site
def P (a : Addr) (D : Cell) (fV fC : Field) (b : Addr) (A : Cell) (z : Int32) (args : Array Value) (s : State) : Prop := args = #[.ref a, .ref b] ∧ Blank "java/lang/String" a D s ∧ Found "java/lang/String" "value" "[B" fV s ∧ Found "java/lang/String" "coder" "B" fC s ∧ Ch b A s ∧ StaticIs s "java/lang/String" "COMPACT_STRINGS" "Z" (.int z) ∧ ¬ z = 0 ∧ 0 < A.slots.size ∧ A.slots.size ≤ 536870912 ∧ ∀ i, i < A.slots.size → ¬ 255 < cv A i
def E (a : Addr) (D : Cell) (fV fC : Field) (A : Cell) (r : Option Value) (s u : State) : Prop := Got a D fV fC A 0 A.slots.size r s u
/-- new String(chars), not empty, no char above 255: a Latin-1 String of their low bytes -/
theorem law (l : Launch) (a : Addr) (D : Cell) (fV fC : Field) (b : Addr) (A : Cell) (z : Int32) : Law l yN 2 1 3 52 yB 2 none site (P a D fV fC b A z) (E a D fV fC A) [⟨a, fC.slot⟩, ⟨a, fV.slot⟩] 1 A.slots.size := by
  refine Law.of_walk (plainFor_of_name (by decide +kernel)) (by decide +kernel) (by decide +kernel) (by decide) (fun _ _ h => by rw [h.1]; rfl) (fun _ U U' hal hh h => ⟨h.1, h.2.1.mv hal hh, h.2.2.1.al hal, h.2.2.2.1.al hal, h.2.2.2.2.1.mv hal hh, h.2.2.2.2.2.1.there hal hh, h.2.2.2.2.2.2⟩) (fun r U U' V V' h1 hal h2 h => Got.mv r U U' V V' h1 hal h2 h) ?_
  intro p e s m args below meth c s₁ X0 hexec hbytes hml hret hlk hnm hown hh0 W hP
  obtain ⟨rfl, hB, f1, f2, hA, s1, hz, l0, l2, hp⟩ := hP
  have c1 : Steps p.tables e below (s₁.setTop (entryFrame m #[.ref a, .ref b] 2)) (s₁.setTop (mkF m 0 #[.val (.ref a), .val (.ref b)] [])) := entry rfl
  have c2 : Steps p.tables e below (s₁.setTop (entryFrame m #[.ref a, .ref b] 2)) (s₁.setTop (mkF m 6 #[.val (.ref a), .val (.ref b)] [.null, .int (Int32.ofNat A.slots.size), .int 0, .ref b, .ref a])) := c1.trans (by
    refine XS.aloadN X0.here hexec rfl (hb hbytes d0) rfl rfl ?_
    refine XS.aloadN X0.here hexec rfl (hb hbytes d1) rfl rfl ?_
    refine iconstV X0.here hexec rfl 0 (hb hbytes d2) (by decide) ?_
    refine XS.aloadN X0.here hexec rfl (hb hbytes d3) rfl rfl ?_
    refine X0.alen hexec (hA.1.mv X0.warmed.alike hh0) rfl rfl (hb hbytes d4) ?_
    refine XS.aconstNull X0.here hexec rfl (hb hbytes d5) ?_
    exact Steps.refl _)
  obtain ⟨v3, T3, X3, E3, g3⟩ := X0.callN hexec (New4.law l a D fV fC b A z 0 A.slots.size) rfl hown (wks W (initW "java/lang/String" 27 New4.yN)) (W New4.tab (by simp only [site, List.mem_cons, List.mem_append, true_or, or_true])) (W := 0) (Nat.le_of_ble_eq_true rfl) (Nat.le_of_ble_eq_true rfl) (Nat.le_refl _) (by show 0 + A.slots.size ≤ A.slots.size; omega) (g := (mkF m 6 #[.val (.ref a), .val (.ref b)] [.null, .int (Int32.ofNat A.slots.size), .int (Int32.ofNat 0), .ref b, .ref a])) rfl (by rw [hml]; rfl) c2 (argsL := [.ref b, .int (Int32.ofNat 0), .int (Int32.ofNat A.slots.size), .null]) (rest := []) rfl rfl (by show 2 * 0 + 0 ≤ _; decide) (hb hbytes d6) (⟨rfl, hB.mv X0.warmed.alike hh0, f1.al X0.warmed.alike, f2.al X0.warmed.alike, hA.mv X0.warmed.alike hh0, s1.there X0.warmed.alike hh0, hz, l0, by omega, l2, fun i hi => by rw [Nat.zero_add]; exact hp i hi⟩)
  have e0 := Got.mv _ s₁ s _ _ hh0.symm (Vm.Alike.refl _) rfl E3
  obtain rfl := e0.1
  have c4 : Steps p.tables e below (s₁.setTop (entryFrame m #[.ref a, .ref b] 2)) (T3.setTop (mkF m 9 #[.val (.ref a), .val (.ref b)] [])) := g3
  exact ⟨T3, none, _, _, _, X3, by simp, rfl, by omega, (fun _ => rfl), e0, fun fs hl => c4.trans (X3.returnOut hexec hret (hb hbytes d9) hl)⟩
theorem pays {l : Launch} {R : Room} {p : Program} {e : Env} {below : List Frame} {s : State} {sargs : Array Value} {len W : Nat} (a : Addr) (D : Cell) (fV fC : Field) (b : Addr) (A : Cell) (z : Int32) (htab : tab.before sargs s = true) (hfr : 4 ≤ R.frames) (hlo : W + 65 ≤ R.locals) :
    Back l R p e below s sargs yN len W (fun A₁ a₁ => A₁.cells + 1 ≤ R.cells ∧ A₁.slots + A.slots.size ≤ R.slots ∧ P a D fV fC b A z a₁ A₁.U) (fun A₁ _ v₁ B₁ => E a D fV fC A v₁ A₁.U B₁.U ∧ B₁.locs = A₁.locs ++ [⟨a, fC.slot⟩, ⟨a, fV.slot⟩] ∧ B₁.cells = A₁.cells + 1 ∧ B₁.slots = A₁.slots + A.slots.size) :=
  (law l a D fV fC b A z).pays htab hfr (by omega)
end New1
/-- the byte, read back as charAt reads it, is the char -/
theorem lo8_mask {x : Int32} (h0 : ¬ x < 0) (h1 : ¬ 255 < x) : lo8 x &&& 255 = x := by
  have t : ∀ k : Fin 256, lo8 (Int32.ofNat k.val) &&& 255 = Int32.ofNat k.val := by decide +kernel
  rw [Int32.lt_iff_toInt_lt] at h0 h1
  have e0 : (0 : Int32).toInt = 0 := rfl
  have e1 : (255 : Int32).toInt = 255 := rfl
  obtain ⟨k, hk⟩ : ∃ k : Nat, x.toInt = k := ⟨x.toInt.toNat, by omega⟩
  have hx : x = Int32.ofNat k := Int32.toInt_inj.mp (by rw [hk, Int32.toInt_ofNat_small (by omega)])
  rw [hx]
  exact t ⟨k, by omega⟩
end StrChars
namespace StrChars.Road
open Jvm Sem ClassFile Op Lib Jvm.Stand Jvm.Free Jvm.Free.XT
open Jvm.Lib.Cold (StaticIs)
abbrev ST : String := "java/lang/String"
/-- every table word that New1's law asks, flat -/
abbrev words : List Jvm.Cond := [.code New1.yN New1.yB 2 none, .initialized ST, .methodLink ST 27 New4.yN, .instanceMethod New4.yN,
  .code New4.yN New4.yB 6 none, .fieldLink ST 38 ST "COMPACT_STRINGS" "Z", .laysFinal ST ST "value" "[B", .fieldLink ST 9 ST "value" "[B", .laysFinal ST ST "coder" "B", .fieldLink ST 15 ST "coder" "B",
  .methodLink ST 1 Lib.objectInit, .instanceMethod Lib.objectInit, .code Lib.objectInit ⟨#[0xb1]⟩ 1 none, .methodLink ST 177 Cmp3.yN, .static Cmp3.yN, .methodLink ST 47 CodL.yN, .static CodL.yN,
  .code Cmp3.yN Cmp3.yB 6 (some (.array .byte)), .initialized U16, .arrayClass .byte, .methodLink U16 115 Cmp5.yN, .static Cmp5.yN, .code Cmp5.yN Cmp5.yB 7 (some .int), .code CodL.yN CodL.yB 2 (some .byte)]
theorem tab_of {a : Array Value} {s : State} (h : ∀ w ∈ words, w.before a s = true) : New1.tab.before a s = true := by
  have h5 : Cmp5.tab.before a s = true := unparts (wk h (.code Cmp5.yN Cmp5.yB 7 (some .int))) (wks h (.initialized Cmp5.yN.cls :: Cmp5.site))
  have hc : CodL.tab.before a s = true := unparts (wk h (.code CodL.yN CodL.yB 2 (some .byte))) (wks h (.initialized CodL.yN.cls :: CodL.site))
  have q5 : ∀ w ∈ Cmp5.tab :: words, w.before a s = true := fun w hw => (List.mem_cons.mp hw).elim (fun e => e ▸ h5) (h w)
  have h3 : Cmp3.tab.before a s = true := unparts (wk q5 (.code Cmp3.yN Cmp3.yB 6 (some (.array .byte)))) (wks q5 (.initialized Cmp3.yN.cls :: Cmp3.site))
  have q3 : ∀ w ∈ Cmp3.tab :: CodL.tab :: words, w.before a s = true := fun w hw => (List.mem_cons.mp hw).elim (fun e => e ▸ h3) fun hw => (List.mem_cons.mp hw).elim (fun e => e ▸ hc) (h w)
  have h4 : New4.tab.before a s = true := unparts (wk q3 (.code New4.yN New4.yB 6 none)) (wks q3 (.initialized New4.yN.cls :: New4.site))
  have q4 : ∀ w ∈ New4.tab :: words, w.before a s = true := fun w hw => (List.mem_cons.mp hw).elim (fun e => e ▸ h4) (h w)
  exact unparts (wk q4 (.code New1.yN New1.yB 2 none)) (wks q4 (.initialized New1.yN.cls :: New1.site))
/-- the words ride from the start Z to the walk's own state -/
theorem moved {Z s : State} {a0 args : Array Value} (hZ : Z.Warmed39 s.vm) (hw : ∀ d ∈ words, d.before a0 Z = true) : ∀ d ∈ words, d.before args s = true := fun d hd => by
  have q := hw d hd
  have t : ∀ d ∈ words, d = .arrayClass .byte ∨ (d.onTables && d.keepsFace) = true := by decide +kernel
  rcases t d hd with rfl | t
  · exact RoadKit.mvA hZ q
  · exact RoadKit.mv hZ q t
/-- WHAT COMES BACK, over the tables of the start Z: h the heap at the call, h' behind it -/
def Q (Z : State) (x : Addr) (A : Cell) (h : Heap) (v : Option Value) (h' : Heap) (L : List Loc) : Prop := v = none ∧ (∀ y ∈ L, y.base = x) ∧ RoadKit.Keep h h' [x] ∧ h'.size = h.size + 1 ∧ RoadKit.Exa Z h' x ST ∧ RoadKit.Fld Z h' x ST "value" "[B" (.ref h.size) ∧ RoadKit.Fld Z h' x ST "coder" "B" (.int 0) ∧
  (∃ V : Cell, RoadKit.Arr Z h' h.size V .byte ∧ V.vm = .none ∧ Z.vm.findClass "[B" = some V.cls ∧ V.slots.size = A.slots.size ∧ ∀ j, j < A.slots.size → V.slots[j]? = some (.int (lo8 (cv A j)))) ∧
  ∀ (O n d : String) (w : Value), RoadKit.Fld Z h x O n d w → RoadKit.slotOf Z O n d ≠ RoadKit.slotOf Z ST "value" "[B" → RoadKit.slotOf Z O n d ≠ RoadKit.slotOf Z ST "coder" "B" → RoadKit.Fld Z h' x O n d w
/-- **new String(chars) AT A CALL, IN THE ROAD'S FORM**: for specialBack behind newO: x the fresh String, b the char[] with the cell A -/
theorem back {p : Program} {l : Launch} {e : Env} {R : Room} {s : State} {args : Array Value} {below : List Frame} {len W : Nat} {Z : State} {a0 : Array Value} {h : Heap} (hZ : Z.Warmed39 s.vm) (hw : ∀ d ∈ words, d.before a0 Z = true) {kI : Nat} (wi : (Jvm.Cond.instantiable ST kI).before a0 Z = true)
    {x b : Addr} {A : Cell} {z : Int32} {v0 c0 : Value} (E : RoadKit.Exa Z h x ST) (V : RoadKit.Fld Z h x ST "value" "[B" v0) (C : RoadKit.Fld Z h x ST "coder" "B" c0) (K : RoadKit.Arr Z h b A .char) (hty : Typed .char A) (S : RoadKit.Sta Z h ST "COMPACT_STRINGS" "Z" (.int z)) (hz : ¬ z = 0)
    (l0 : 0 < A.slots.size) (l2 : A.slots.size ≤ 536870912) (hp : ∀ i, i < A.slots.size → ¬ 255 < cv A i) (hfr : 4 ≤ R.frames) (hlo : W + 65 ≤ R.locals) :
    Back l R p e below s args New1.yN len W (fun P a => a = #[.ref x, .ref b] ∧ P.U.heap = h ∧ P.cells + 1 ≤ R.cells ∧ P.slots + A.slots.size ≤ R.slots)
      (fun P _ v B => ∃ L, Q Z x A h v B.U.heap L ∧ B.locs = P.locs ++ L ∧ B.cells = P.cells + 1 ∧ B.slots = P.slots + A.slots.size) := by
  intro m meth c P g ig mk a X hg hsize hdg hW hn hp'
  obtain ⟨rfl, rfl, r1, r2⟩ := hp'
  have al : Z.vm.Alike P.U.vm := hZ.alike.trans X.warmed.alike
  obtain ⟨D, cfV, kV, iV, fV, hD, gV, stV, knV, obV, asV, slV⟩ := id V
  obtain ⟨D', cfC, kC, iC, fC, hD', gC, stC, -, -, asC, slC⟩ := id C
  cases hD.symm.trans hD'
  obtain ⟨D2, kD, e1, e2, e3, e4, e5⟩ := id E
  cases hD.symm.trans e1
  obtain ⟨c2, k2, i1, i2, i3, -⟩ := Cond.instantiable_spec wi
  cases e2.symm.trans i1
  cases e3.symm.trans i2
  obtain ⟨kU, u1, u2⟩ := al.2.2 _ _ e3
  have hB : Blank ST x D P.U := ⟨hD, ⟨knV, fun q hq => by rw [hq] at obV; cases obV⟩, by rw [al.findClass]; exact e2, kU, u1, by rw [u2]; exact i3, by rw [u2]; exact e5 i3⟩
  have F1 : Found ST "value" "[B" fV P.U := ⟨SBG.found_only al ⟨cfV, kV, iV, gV⟩, stV⟩
  have F2 : Found ST "coder" "B" fC P.U := ⟨SBG.found_only al ⟨cfC, kC, iC, gC⟩, stC⟩
  have hA : Ch b A P.U := ⟨⟨K.1, State.isArrayOf_alike al K.2.1, K.2.2, by omega⟩, hty⟩
  have hS : StaticIs P.U ST "COMPACT_STRINGS" "Z" (.int z) := by
    obtain ⟨cfS, iS, kS, fS, st, cS, t1, t2, t3, t4, t5, t6, t7⟩ := S
    exact StaticIs.there (s := { Z with heap := P.U.heap }) ⟨cfS, iS, kS, fS, st, cS, t1, t2, t3, t4, t5, (fun q => by rw [q] at t6; cases t6), t7⟩ al rfl
  obtain ⟨v, B, X', ⟨⟨hv, E', V', q1, q2, q3, q4, q5, q6, q7, q8, q9, q10, q11⟩, hl, hc, hs⟩, st⟩ := New1.pays x D fV fC b A z (tab_of (moved hZ hw)) hfr hlo m meth c P g ig mk _ X hg hsize hdg hW hn ⟨r1, r2, rfl, hB, F1, F2, hA, hS, hz, l0, l2, hp⟩
  have al' : Z.vm.Alike B.U.vm := hZ.alike.trans X'.warmed.alike
  have hsz : E'.slots.size = D.slots.size := by
    obtain ⟨-, -, -, kB, w1, w2, w3⟩ := q1
    obtain ⟨kB', y1, y2⟩ := al'.2.2 _ _ e3
    rw [q2.2.1] at w1
    cases w1.symm.trans y1
    rw [w3, e5 i3, y2]
  refine ⟨v, B, X', ⟨_, ⟨hv, ?_, ⟨by omega, fun y cy hy hn' => q10 y cy (by simpa using hn') hy, fun y cy hy => ?_⟩, q11, ⟨E', _, q1.1, by rw [q2.2.1]; exact e2, by rw [q2.2.1]; exact e3, by rw [q2.1]; exact obV, fun _ => by rw [hsz]; exact e5 i3⟩,
    ⟨E', cfV, kV, iV, fV, q1.1, gV, stV, by rw [q2.1]; exact knV, by rw [q2.1]; exact obV, by rw [q2.2.1]; exact asV, q3⟩, ⟨E', cfC, kC, iC, fC, q1.1, gC, stC, by rw [q2.1]; exact knV, by rw [q2.1]; exact obV, by rw [q2.2.1]; exact asC, q4⟩,
    ⟨V', ⟨q5.1, State.isArrayOf_alike al'.symm q5.2.1, q5.2.2.1⟩, q6, by rw [← al'.findClass]; exact q7, q8, fun j hj => by have := q9 j hj; rwa [Nat.zero_add] at this⟩, fun O n d w F n1 n2 => ?_⟩, hl, hc, hs⟩, st⟩
  · intro y hy
    simp only [List.mem_cons, List.not_mem_nil, or_false] at hy
    rcases hy with rfl | rfl <;> rfl
  · by_cases q : y = x
    · subst q
      cases hD.symm.trans hy
      exact ⟨E', q1.1, q2.2.1, q2.1, hsz⟩
    · exact ⟨cy, q10 y cy q hy, rfl, rfl, rfl⟩
  · obtain ⟨D3, cf, k, i, f, g1, g2, g3, g4, g5, g6, g7⟩ := F
    cases hD.symm.trans g1
    simp only [RoadKit.slotOf, g2, gV, gC, Option.map_some, Option.getD_some] at n1 n2
    exact ⟨E', cf, k, i, f, q1.1, g2, g3, by rw [q2.1]; exact g4, by rw [q2.1]; exact g5, by rw [q2.2.1]; exact g6, by rw [q2.2.2 f.slot (by simp [n1, n2])]; exact g7⟩
end StrChars.Road
namespace StrChars.Road
open Jvm Sem ClassFile Op Lib Jvm.Stand Jvm.Free Jvm.Free.XT
/-- WHAT COMES BACK, the byte[] as a list of values -/
def QA (Z : State) (x : Addr) (zn : Int32) (cs : List Int32) (h : Heap) (v : Option Value) (h' : Heap) (L : List Loc) : Prop := v = none ∧ (∀ y ∈ L, y.base = x) ∧ RoadKit.Keep h h' [x] ∧ h'.size = h.size + 1 ∧ RoadKit.Exa Z h' x ST ∧ RoadKit.Fld Z h' x ST "value" "[B" (.ref h.size) ∧ RoadKit.Fld Z h' x ST "coder" "B" (.int 0) ∧
  (∃ kb, Z.vm.findClass "[B" = some kb ∧ RoadKit.Arv Z h' h.size kb .byte zn (cs.map fun c => .int (lo8 c)) (.int 0)) ∧
  ∀ (O n d : String) (w : Value), RoadKit.Fld Z h x O n d w → RoadKit.slotOf Z O n d ≠ RoadKit.slotOf Z ST "value" "[B" → RoadKit.slotOf Z O n d ≠ RoadKit.slotOf Z ST "coder" "B" → RoadKit.Fld Z h' x O n d w
/-- **new String(chars) AT A CALL, THE ARRAYS AS LISTS**: the char[] at b holds cs, not empty, no char above 255 -/
theorem backArv {p : Program} {l : Launch} {e : Env} {R : Room} {s : State} {args : Array Value} {below : List Frame} {len W : Nat} {Z : State} {a0 : Array Value} {h : Heap} (hZ : Z.Warmed39 s.vm) (hw : ∀ d ∈ words, d.before a0 Z = true) {kI : Nat} (wi : (Jvm.Cond.instantiable ST kI).before a0 Z = true)
    {x b : Addr} {k : ClassId} {zn z : Int32} {cs : List Int32} {dv v0 c0 : Value} (E : RoadKit.Exa Z h x ST) (V : RoadKit.Fld Z h x ST "value" "[B" v0) (C : RoadKit.Fld Z h x ST "coder" "B" c0) (K : RoadKit.Arv Z h b k .char zn (cs.map Value.int) dv) (S : RoadKit.Sta Z h ST "COMPACT_STRINGS" "Z" (.int z)) (hz : ¬ z = 0)
    (hlen : zn.toNatClampNeg = cs.length) (h0 : 0 < cs.length) (hbig : cs.length ≤ 536870912) (hall : ∀ c ∈ cs, ¬ 255 < c) (hfr : 4 ≤ R.frames) (hlo : W + 65 ≤ R.locals) :
    Back l R p e below s args New1.yN len W (fun P a => a = #[.ref x, .ref b] ∧ P.U.heap = h ∧ P.cells + 1 ≤ R.cells ∧ P.slots + cs.length ≤ R.slots)
      (fun P _ v B => ∃ L, QA Z x zn cs h v B.U.heap L ∧ B.locs = P.locs ++ L ∧ B.cells = P.cells + 1 ∧ B.slots = P.slots + cs.length) := by
  obtain ⟨A, K1, K2, K3, K4, K5, K6⟩ := K
  have e : A.slots.size = cs.length := K3.trans hlen
  have hat : ∀ (i : Nat) (hi : i < cs.length), A.slots[i]? = some (.int cs[i]) := fun i hi => by rw [K5 i (by omega)]; simp [List.getD_eq_getElem?_getD, hi]
  have hcv : ∀ (i : Nat) (hi : i < cs.length), cv A i = cs[i] := fun i hi => by unfold cv; rw [hat i hi]
  have hty : Typed .char A := fun i v hv => by
    have hi : i < A.slots.size := (Array.getElem?_eq_some_iff.mp hv).1
    have q := K5 i hi
    rw [hv] at q
    rw [Option.some.inj q]
    exact K6 i hi
  refine Back.mono (back hZ hw wi E V C K1 hty S hz (by omega) (by omega) (fun i hi => by rw [hcv i (by omega)]; exact hall _ (List.getElem_mem _)) hfr hlo) (fun P a hp => ⟨hp.1, hp.2.1, hp.2.2.1, by rw [e]; exact hp.2.2.2⟩) (fun P a v B hp hq => ?_)
  obtain ⟨L, ⟨q1, q2, q3, q4, q5, q6, q7, ⟨V', v1, v2, v3, v4, v5⟩, q9⟩, hl, hc, hs⟩ := hq
  refine ⟨L, ⟨q1, q2, q3, q4, q5, q6, q7, ⟨V'.cls, v3, V', v1, rfl, by rw [v4, e, hlen], K4, fun i hi => ?_, fun i hi => ?_⟩, q9⟩, hl, hc, by rw [hs, e]⟩
  · have hi' : i < cs.length := by omega
    rw [v5 i (by omega), hcv i hi']; simp [List.getD_eq_getElem?_getD, hi']
  · have hi' : i < cs.length := by omega
    simp only [List.getD_eq_getElem?_getD, List.getElem?_map, List.getElem?_eq_getElem hi', Option.map_some, Option.getD_some]
    exact fits_lo8 _
end StrChars.Road
namespace StrChars.Road
open Jvm Sem ClassFile Op Lib Jvm.Stand Jvm.Free Jvm.Free.XT
/-- WHAT COMES BACK, in the writer's own shape -/
def QV (Z : State) (x : Addr) (N : Int32) (bs : List Int32) (h : Heap) (n0 : Nat) (v : Option Value) (h' : Heap) (L : List Loc) : Prop := v = none ∧ RoadKit.Fr n0 L ∧ RoadKit.Keep h h' [x] ∧ RoadKit.Exa Z h' x ST ∧ RoadKit.Fld Z h' x ST "coder" "B" (.int 0) ∧
  ∃ (t : Addr) (kb : ClassId), n0 ≤ t ∧ h.size ≤ t ∧ ¬ t = x ∧ RoadKit.Fld Z h' x ST "value" "[B" (.ref t) ∧ RoadKit.Arv Z h' t kb .byte N (bs.map Value.int) (.int 0)
/-- **new String(chars) AT A CALL, FOR THE WRITER**: a char[] of n known ints, each 0 to 255 -/
theorem backV {p : Program} {l : Launch} {e : Env} {R : Room} {s : State} {args : Array Value} {below : List Frame} {len W : Nat} {Z : State} {a0 : Array Value} {h : Heap} (hZ : Z.Warmed39 s.vm) (hw : ∀ d ∈ words, d.before a0 Z = true) {kI : Nat} (wi : (Jvm.Cond.instantiable ST kI).before a0 Z = true)
    {x b : Addr} {kC : ClassId} {cs bs : List Int32} {d v0 c0 : Value} {z N : Int32} {n n0 : Nat} (hx0 : n0 ≤ x) (hh0 : n0 ≤ h.size) (E : RoadKit.Exa Z h x ST) (V : RoadKit.Fld Z h x ST "value" "[B" v0) (C : RoadKit.Fld Z h x ST "coder" "B" c0) (K : RoadKit.Arv Z h b kC .char N (cs.map Value.int) d) (S : RoadKit.Sta Z h ST "COMPACT_STRINGS" "Z" (.int z)) (hz : ¬ z = 0)
    (hn : cs.length = n) (hN : N = Int32.ofNat n) (l0 : 0 < n) (l2 : n ≤ 4000) (hp : ∀ c ∈ cs, ¬ c < 0 ∧ ¬ (255 : Int32) < c) (hb : bs = cs.map (fun c => c.toInt8.toInt32)) (hfr : 4 ≤ R.frames) (hlo : W + 65 ≤ R.locals) :
    Back l R p e below s args (⟨"java/lang/String", "<init>", "([C)V"⟩ : MethodName) len W (fun P a => a = #[.ref x, .ref b] ∧ P.U.heap = h ∧ P.cells + 1 ≤ R.cells ∧ P.slots + n ≤ R.slots)
      (fun P _ v B => ∃ L, QV Z x N bs h n0 v B.U.heap L ∧ B.locs = P.locs ++ L ∧ B.cells = P.cells + 1 ∧ B.slots = P.slots + n) := by
  subst hn hN hb
  refine Back.mono (backArv hZ hw wi E V C K S hz (n32 (by omega)) l0 (by omega) (fun c hc => (hp c hc).2) hfr hlo) (fun P a hp => hp) (fun P a v B hp hq => ?_)
  obtain ⟨L, ⟨q1, q2, q3, q4, q5, q6, q7, ⟨kb, v1, v2⟩, q9⟩, hl, hc, hs⟩ := hq
  exact ⟨L, ⟨q1, fun y hy => by rw [q2 y hy]; exact hx0, q3, q5, q7, h.size, kb, hh0, Nat.le_refl _, Nat.ne_of_gt E.lt, q6, by rw [List.map_map]; exact v2⟩, hl, hc, hs⟩
end StrChars.Road
namespace StrChars
open Jvm Sem ClassFile Op Lib Jvm.Stand Jvm.Free.XT Jvm.Free.ALB Jvm.Free.JM Jvm.Free
open Jvm.Lib.Cold (StaticIs)
def hi8 (x : Int32) : Int32 := lo8 (x >>> ((8 : Int32) &&& 31))
/-- what StringUTF16.getChar makes of two bytes -/
def pairCh (u v : Int32) : Int32 := (((u &&& 255) <<< ((0 : Int32) &&& 31)) ||| ((v &&& 255) <<< ((8 : Int32) &&& 31))).toUInt32.toUInt16.toUInt32.toInt32
theorem lo8_and (x : Int32) : (lo8 x &&& 255).toBitVec.toNat = x.toBitVec.toNat % 256 := by
  have h : (lo8 x).toBitVec = (x.toBitVec.signExtend 8).signExtend 32 := by rw [lo8, Int8.toBitVec_toInt32, Int32.toBitVec_toInt8]
  rw [Int32.toBitVec_and, BitVec.toNat_and, h]
  have e : ((x.toBitVec.signExtend 8).signExtend 32).toNat % 256 = x.toBitVec.toNat % 256 := by
    rw [BitVec.toNat_signExtend]
    have hlt := x.toBitVec.isLt
    simp only [BitVec.toNat_setWidth, BitVec.toNat_signExtend]
    split <;> split <;> omega
  rw [← e]
  exact Nat.and_two_pow_sub_one_eq_mod _ 8
theorem pair_says {c : Int32} (h0 : ¬ c < 0) (h1 : ¬ 65535 < c) : pairCh (lo8 c) (hi8 c) = c := by
  rw [Int32.lt_iff_toInt_lt] at h0 h1
  have e0 : (0 : Int32).toInt = 0 := rfl
  have e1 : (65535 : Int32).toInt = 65535 := rfl
  have hc : c.toInt = c.toBitVec.toNat := by
    have := c.toBitVec.isLt
    have e : c.toInt = c.toBitVec.toInt := rfl
    rw [e] at h0 h1
    rw [e]
    rw [BitVec.toInt_eq_toNat_cond] at h0 h1 ⊢
    split at h0 <;> split <;> omega
  have hn : c.toBitVec.toNat < 65536 := by omega
  have a1 := lo8_and c
  have a2 : (hi8 c &&& 255).toBitVec.toNat = c.toBitVec.toNat / 256 := by
    rw [hi8, lo8_and]
    have e : ((8 : Int32) &&& 31) = 8 := by decide
    rw [e, Int32.toBitVec_shiftRight]
    have e2 : ((8 : Int32).toBitVec.smod 32) = 8#32 := by decide
    rw [e2, BitVec.sshiftRight_eq', BitVec.toNat_sshiftRight_of_msb_false (by rw [BitVec.msb_eq_false_iff_two_mul_lt]; omega)]
    show c.toBitVec.toNat >>> 8 % 256 = _
    rw [Nat.shiftRight_eq_div_pow]
    omega
  unfold pairCh
  apply Int32.toBitVec_inj.mp
  apply BitVec.eq_of_toNat_eq
  have f0 : ((0 : Int32) &&& 31) = 0 := by decide
  have f8 : ((8 : Int32) &&& 31) = 8 := by decide
  rw [f0, f8]
  have g : (((lo8 c &&& 255) <<< (0 : Int32)) ||| ((hi8 c &&& 255) <<< (8 : Int32))).toBitVec.toNat = c.toBitVec.toNat := by
    rw [Int32.toBitVec_or, Int32.toBitVec_shiftLeft, Int32.toBitVec_shiftLeft]
    have s0 : ((0 : Int32).toBitVec.smod 32) = 0#32 := by decide
    have s8 : ((8 : Int32).toBitVec.smod 32) = 8#32 := by decide
    rw [s0, s8, BitVec.toNat_or]
    simp only [BitVec.shiftLeft_eq', BitVec.toNat_shiftLeft, a1, a2]
    show (c.toBitVec.toNat % 256) <<< 0 % 2 ^ 32 ||| (c.toBitVec.toNat / 256) <<< 8 % 2 ^ 32 = _
    rw [Nat.shiftLeft_zero, Nat.mod_eq_of_lt (show c.toBitVec.toNat % 256 < 2 ^ 32 by omega), Nat.mod_eq_of_lt (show (c.toBitVec.toNat / 256) <<< 8 < 2 ^ 32 by rw [Nat.shiftLeft_eq]; omega), Nat.or_comm, ← Nat.shiftLeft_add_eq_or_of_lt (by omega), Nat.shiftLeft_eq]
    omega
  show BitVec.toNat (((((lo8 c &&& 255) <<< (0 : Int32)) ||| ((hi8 c &&& 255) <<< (8 : Int32))).toBitVec.setWidth 16).setWidth 32) = _
  rw [BitVec.toNat_setWidth, BitVec.toNat_setWidth, g]
  omega
end StrChars
namespace StrChars
open Jvm Sem ClassFile Op Lib Jvm.Stand Jvm.Free.XT Jvm.Free.ALB Jvm.Free.JM Jvm.Free
open Jvm.Lib.Cold (StaticIs)
/-- the array's cell V codes the n chars f 0 .. f (n - 1) by the coder cd, as the JDK does: coder 1 just where some char is above 255 -/
def Cod (cd : Int32) (n : Nat) (f : Nat → Int32) (V : Cell) : Prop := (cd = 0 ∧ V.slots.size = n ∧ ∀ j, j < n → V.slots[j]? = some (.int (lo8 (f j))) ∧ ¬ 255 < f j) ∨ (cd = 1 ∧ V.slots.size = 2 * n ∧ (∀ j, j < n → V.slots[2 * j]? = some (.int (lo8 (f j))) ∧ V.slots[2 * j + 1]? = some (.int (hi8 (f j)))) ∧ ∃ j, j < n ∧ 255 < f j)
/-- **x is a String of the n chars f 0 .. f (n - 1)**, Latin-1 or UTF-16; its array at t has the cell V -/
def Txt (x t : Addr) (V : Cell) (cd : Int32) (n : Nat) (f : Nat → Int32) (U : State) : Prop := Exact "java/lang/String" x U ∧ Has x "java/lang/String" "value" "[B" (.ref t) U ∧ Has x "java/lang/String" "coder" "B" (.int cd) U ∧ XT.Arr .byte t V U ∧ Cod cd n f V ∧ ∀ j, j < n → ¬ f j < 0 ∧ ¬ 65535 < f j
theorem Txt.mv {x t : Addr} {V : Cell} {cd : Int32} {n : Nat} {f : Nat → Int32} {U U' : State} (h : Txt x t V cd n f U) (hal : U.vm.Alike U'.vm) (hh : U'.heap = U.heap) : Txt x t V cd n f U' := ⟨h.1.mv hal hh, h.2.1.mv hal hh, h.2.2.1.mv hal hh, h.2.2.2.1.mv hal hh, h.2.2.2.2⟩
end StrChars
namespace StrChars.Road
open Jvm Sem ClassFile Op Lib Jvm.Stand Jvm.Free Jvm.Free.XT
open Jvm.Lib.Cold (StaticIs)
theorem consq {a : Array Value} {s : State} {c : Jvm.Cond} {L : List Jvm.Cond} (h0 : c.before a s = true) (h : ∀ w ∈ L, w.before a s = true) : ∀ w ∈ c :: L, w.before a s = true := fun w hw => (List.mem_cons.mp hw).elim (fun e => e ▸ h0) (h w)
/-- the bytes of the chars cs, low before high -/
def wideBytes : List Int32 → List Value
  | [] => []
  | c :: cs => .int (lo8 c) :: .int (hi8 c) :: wideBytes cs
theorem wide_lo (d : Value) : ∀ (cs : List Int32) (j : Nat), j < cs.length → (wideBytes cs).getD (2 * j) d = .int (lo8 (cs.getD j 0))
  | [], j, h => absurd h (Nat.not_lt_zero j)
  | c :: cs, 0, _ => rfl
  | c :: cs, j + 1, h => by
    have q := wide_lo d cs j (by simpa using h)
    rw [show 2 * (j + 1) = 2 * j + 1 + 1 from by omega]
    simpa [wideBytes] using q
theorem wide_hi (d : Value) : ∀ (cs : List Int32) (j : Nat), j < cs.length → (wideBytes cs).getD (2 * j + 1) d = .int (hi8 (cs.getD j 0))
  | [], j, h => absurd h (Nat.not_lt_zero j)
  | c :: cs, 0, _ => rfl
  | c :: cs, j + 1, h => by
    have q := wide_hi d cs j (by simpa using h)
    rw [show 2 * (j + 1) + 1 = 2 * j + 1 + 1 + 1 from by omega]
    simpa [wideBytes] using q
theorem low_at (d : Value) (cs : List Int32) (j : Nat) (h : j < cs.length) : (cs.map fun c => Value.int (lo8 c)).getD j d = .int (lo8 (cs.getD j 0)) := by
  simp [List.getD_eq_getElem?_getD, h]
/-- an array of N2 bytes vs codes the chars cs by the coder cd -/
def CodA (cs : List Int32) (cd N2 : Int32) (vs : List Value) : Prop := (cd = 0 ∧ N2 = Int32.ofNat cs.length ∧ vs = (cs.map fun c => Value.int (lo8 c)) ∧ ∀ c ∈ cs, ¬ 255 < c) ∨ (cd = 1 ∧ N2 = Int32.ofNat (2 * cs.length) ∧ vs = wideBytes cs ∧ ∃ c ∈ cs, 255 < c)
theorem CodA.cod {cs : List Int32} {cd N2 : Int32} {vs : List Value} {V : Cell} (h : CodA cs cd N2 vs) (hn : 2 * cs.length < 2 ^ 31) (hs : V.slots.size = N2.toNatClampNeg) (hv : RoadKit.Has V vs (.int 0)) : Cod cd cs.length (fun j => cs.getD j 0) V := by
  rcases h with ⟨rfl, rfl, rfl, h⟩ | ⟨rfl, rfl, rfl, c, hc, hw⟩
  · rw [n32 (by omega)] at hs
    exact Or.inl ⟨rfl, hs, fun j hj => ⟨by rw [hv j (by omega), low_at _ _ _ hj], by
      have e : cs.getD j 0 = cs[j] := by simp [List.getD_eq_getElem?_getD, hj]
      show ¬ 255 < cs.getD j 0
      rw [e]; exact h _ (List.getElem_mem _)⟩⟩
  · rw [n32 (by omega)] at hs
    obtain ⟨j, hj, rfl⟩ := List.getElem_of_mem hc
    exact Or.inr ⟨rfl, hs, fun j hj => ⟨by rw [hv _ (by omega), wide_lo _ _ _ hj], by rw [hv _ (by omega), wide_hi _ _ _ hj]⟩, j, hj, by
      have e : cs.getD j 0 = cs[j] := by simp [List.getD_eq_getElem?_getD, hj]
      show 255 < cs.getD j 0
      rw [e]; exact hw⟩
/-- an object of exactly java/lang/String, its two fields found: as the laws ask it -/
theorem strObj {Z U : State} {a0 : Array Value} {kI : Nat} (wi : (Jvm.Cond.instantiable ST kI).before a0 Z = true) (al : Z.vm.Alike U.vm) {x : Addr} {v0 c0 : Value} (E : RoadKit.Exa Z U.heap x ST) (V : RoadKit.Fld Z U.heap x ST "value" "[B" v0) (C : RoadKit.Fld Z U.heap x ST "coder" "B" c0) :
    ∃ (D : Cell) (fV fC : Field), Blank ST x D U ∧ Found ST "value" "[B" fV U ∧ Found ST "coder" "B" fC U ∧ D.slots[fV.slot]? = some v0 ∧ D.slots[fC.slot]? = some c0 ∧ RoadKit.slotOf Z ST "value" "[B" = fV.slot ∧ RoadKit.slotOf Z ST "coder" "B" = fC.slot := by
  obtain ⟨D, cfV, kV, iV, fV, hD, gV, stV, knV, obV, asV, slV⟩ := V
  obtain ⟨D', cfC, kC, iC, fC, hD', gC, stC, -, -, asC, slC⟩ := C
  cases hD.symm.trans hD'
  obtain ⟨D2, kD, e1, e2, e3, e4, e5⟩ := E
  cases hD.symm.trans e1
  obtain ⟨c2, k2, i1, i2, i3, -⟩ := Cond.instantiable_spec wi
  cases e2.symm.trans i1
  cases e3.symm.trans i2
  obtain ⟨kU, u1, u2⟩ := al.2.2 _ _ e3
  exact ⟨D, fV, fC, ⟨hD, ⟨knV, fun q hq => by rw [hq] at obV; cases obV⟩, by rw [al.findClass]; exact e2, kU, u1, by rw [u2]; exact i3, by rw [u2]; exact e5 i3⟩, ⟨SBG.found_only al ⟨cfV, kV, iV, gV⟩, stV⟩, ⟨SBG.found_only al ⟨cfC, kC, iC, gC⟩, stC⟩, slV, slC, by simp [RoadKit.slotOf, gV], by simp [RoadKit.slotOf, gC]⟩
theorem sta_is {Z U : State} (al : Z.vm.Alike U.vm) {C n d : String} {v : Value} (S : RoadKit.Sta Z U.heap C n d v) : StaticIs U C n d v := by
  obtain ⟨cfS, iS, kS, fS, st, cS, t1, t2, t3, t4, t5, t6, t7⟩ := S
  exact StaticIs.there (s := { Z with heap := U.heap }) ⟨cfS, iS, kS, fS, st, cS, t1, t2, t3, t4, t5, (fun q => by rw [q] at t6; cases t6), t7⟩ al rfl
end StrChars.Road
namespace StrChars
open Jvm Sem ClassFile Op Lib Jvm.Stand Jvm.Free.XT Jvm.Free.ALB Jvm.Free.JM Jvm.Free
open Jvm.Lib.Cold (StaticIs)
/-- what place i of a byte[]'s cell holds -/
def yv (A : Cell) (i : Nat) : Int32 := match A.slots[i]? with | some (.int x) => x | _ => 0
theorem yv_get {a : Addr} {A : Cell} {U : State} (h : XT.Arr .byte a A U) (ht : Typed .byte A) {i : Nat} (hi : i < A.slots.size) : A.slots[i]? = some (.int (yv A i)) := by
  have e := Array.getElem?_eq_getElem hi
  have f := ht i _ e
  unfold yv; rw [e]
  generalize A.slots[i] = v at f
  cases v <;> simp [fits] at f ⊢
/-- the two arrays are equal, place for place -/
def EqC (A B : Cell) : Prop := A.slots.size = B.slots.size ∧ ∀ i, i < A.slots.size → yv A i = yv B i
/-- a boolean that says whether p -/
def Says01 (q : Prop) (r : Option Value) (s u : State) : Prop := ∃ v : Int32, r = some (.int v) ∧ u.heap = s.heap ∧ ((v = 1 ∧ q) ∨ (v = 0 ∧ ¬ q))
theorem Says01.mv {q : Prop} : ∀ r (U U' V V' : State), U'.heap = U.heap → V.vm.Alike V'.vm → V'.heap = V.heap → Says01 q r U V → Says01 q r U' V' :=
  fun r U U' V V' h1 _ h2 ⟨v, a, b, c⟩ => ⟨v, a, by rw [h1, h2]; exact b, c⟩
namespace LEq
def yN : MethodName := ⟨"java/lang/StringLatin1", "equals", "([B[B)Z"⟩
abbrev yB : ByteArray := jdk_43_method_13_code
theorem d0 : decode yB 0 = .ok (.aload_n 0, 1) := by decide +kernel
theorem d1 : decode yB 1 = .ok (.arraylength, 1) := by decide +kernel
theorem d2 : decode yB 2 = .ok (.aload_n 1, 1) := by decide +kernel
theorem d3 : decode yB 3 = .ok (.arraylength, 1) := by decide +kernel
theorem d4 : decode yB 4 = .ok (.if_icmp (.ne) 30, 3) := by decide +kernel
theorem d7 : decode yB 7 = .ok (.iconst 0, 1) := by decide +kernel
theorem d8 : decode yB 8 = .ok (.istore_n 2, 1) := by decide +kernel
theorem d9 : decode yB 9 = .ok (.iload_n 2, 1) := by decide +kernel
theorem d10 : decode yB 10 = .ok (.aload_n 0, 1) := by decide +kernel
theorem d11 : decode yB 11 = .ok (.arraylength, 1) := by decide +kernel
theorem d12 : decode yB 12 = .ok (.if_icmp (.ge) 20, 3) := by decide +kernel
theorem d15 : decode yB 15 = .ok (.aload_n 0, 1) := by decide +kernel
theorem d16 : decode yB 16 = .ok (.iload_n 2, 1) := by decide +kernel
theorem d17 : decode yB 17 = .ok (.baload, 1) := by decide +kernel
theorem d18 : decode yB 18 = .ok (.aload_n 1, 1) := by decide +kernel
theorem d19 : decode yB 19 = .ok (.iload_n 2, 1) := by decide +kernel
theorem d20 : decode yB 20 = .ok (.baload, 1) := by decide +kernel
theorem d21 : decode yB 21 = .ok (.if_icmp (.eq) 5, 3) := by decide +kernel
theorem d24 : decode yB 24 = .ok (.iconst 0, 1) := by decide +kernel
theorem d25 : decode yB 25 = .ok (.ireturn, 1) := by decide +kernel
theorem d26 : decode yB 26 = .ok (.iinc 2 1, 3) := by decide +kernel
theorem d29 : decode yB 29 = .ok (.goto (-20), 3) := by decide +kernel
theorem d32 : decode yB 32 = .ok (.iconst 1, 1) := by decide +kernel
theorem d33 : decode yB 33 = .ok (.ireturn, 1) := by decide +kernel
theorem d34 : decode yB 34 = .ok (.iconst 0, 1) := by decide +kernel
theorem d35 : decode yB 35 = .ok (.ireturn, 1) := by decide +kernel
def site : List Cond := []
def tab : Cond := tabOf yN yB 3 (some .boolean) site
def P (a : Addr) (A : Cell) (b : Addr) (B : Cell) (args : Array Value) (s : State) : Prop := args = #[.ref a, .ref b] ∧ XT.Arr .byte a A s ∧ Typed .byte A ∧ XT.Arr .byte b B s ∧ Typed .byte B
/-- whether two byte[] are equal, place for place -/
theorem law (l : Launch) (a : Addr) (A : Cell) (b : Addr) (B : Cell) : Law l yN 2 2 0 0 yB 3 (some .boolean) site (P a A b B) (Says01 (EqC A B)) [] 0 0 := by
  refine Law.of_walk (plainFor_of_name (by decide +kernel)) (by decide +kernel) (by decide +kernel) (by decide) (fun _ _ h => by rw [h.1]; rfl) (fun _ U U' hal hh h => ⟨h.1, h.2.1.mv hal hh, h.2.2.1, h.2.2.2.1.mv hal hh, h.2.2.2.2⟩) (fun r U U' V V' h1 hal h2 h => Says01.mv r U U' V V' h1 hal h2 h) ?_
  intro p e s m args below meth c s₁ X0 hexec hbytes hml hret hlk hnm hown hh0 W hP
  obtain ⟨rfl, hA, tA, hB, tB⟩ := hP
  have a31 := hA.2.2.2
  have b31 := hB.2.2.2
  have hA0 := hA.mv X0.warmed.alike hh0
  have hB0 := hB.mv X0.warmed.alike hh0
  have c1 : Steps p.tables e below (s₁.setTop (entryFrame m #[.ref a, .ref b] 3)) (s₁.setTop (mkF m 0 #[.val (.ref a), .val (.ref b), .unset] [])) := entry rfl
  have c2 : Steps p.tables e below (s₁.setTop (entryFrame m #[.ref a, .ref b] 3)) (s₁.setTop (mkF m 4 #[.val (.ref a), .val (.ref b), .unset] [.int (Int32.ofNat B.slots.size), .int (Int32.ofNat A.slots.size)])) := c1.trans (by
    refine XS.aloadN X0.here hexec rfl (hb hbytes d0) rfl rfl ?_
    refine X0.alen hexec hA0 rfl rfl (hb hbytes d1) ?_
    refine XS.aloadN X0.here hexec rfl (hb hbytes d2) rfl rfl ?_
    refine X0.alen hexec hB0 rfl rfl (hb hbytes d3) ?_
    exact Steps.refl _)
  by_cases hs : A.slots.size = B.slots.size
  · have c3 : Steps p.tables e below (s₁.setTop (entryFrame m #[.ref a, .ref b] 3)) (s₁.setTop (mkF m 9 #[.val (.ref a), .val (.ref b), .val (.int 0)] [])) := c2.trans (by
      refine XS.icmpNo X0.here hexec rfl (hb hbytes d4) rfl (ii_ne_f (by rw [hs])) ?_
      refine iconstV X0.here hexec rfl 0 (hb hbytes d7) (by decide) ?_
      refine XS.istoreN X0.here hexec rfl (hb hbytes d8) rfl rfl ?_
      exact Steps.refl _)
    have loop : ∀ (r i : Nat), i + r = A.slots.size → (∀ j, j < i → yv A j = yv B j) → Steps p.tables e below (s₁.setTop (entryFrame m #[.ref a, .ref b] 3)) (s₁.setTop (mkF m 9 #[.val (.ref a), .val (.ref b), .val (.int (Int32.ofNat i))] [])) → ∃ (pc : Nat) (Ls : Array Slot) (v : Int32), (pc = 25 ∨ pc = 33) ∧ ((v = 1 ∧ EqC A B) ∨ (v = 0 ∧ ¬ EqC A B)) ∧ Steps p.tables e below (s₁.setTop (entryFrame m #[.ref a, .ref b] 3)) (s₁.setTop (mkF m pc Ls [.int v])) := by
      intro r
      induction r with
      | zero =>
        intro i hi he cl
        exact ⟨33, _, 1, Or.inr rfl, Or.inl ⟨rfl, hs, fun j hj => he j (by omega)⟩, cl.trans (by
          refine XS.iloadN X0.here hexec rfl (hb hbytes d9) rfl ?_
          refine XS.aloadN X0.here hexec rfl (hb hbytes d10) rfl rfl ?_
          refine X0.alen hexec hA0 rfl rfl (hb hbytes d11) ?_
          refine XS.icmpYes X0.here hexec rfl (pc0 := 12) rfl (hb hbytes d12) rfl (ii_ge_t (nlt32 (by omega) (by omega))) (by decide) rfl ?_
          refine iconstV X0.here hexec rfl 1 (hb hbytes d32) (by decide) ?_
          exact Steps.refl _)⟩
      | succ r ih =>
        intro i hi he cl
        have c4 : Steps p.tables e below (s₁.setTop (entryFrame m #[.ref a, .ref b] 3)) (s₁.setTop (mkF m 21 #[.val (.ref a), .val (.ref b), .val (.int (Int32.ofNat i))] [.int (yv B i), .int (yv A i)])) := cl.trans (by
          refine XS.iloadN X0.here hexec rfl (hb hbytes d9) rfl ?_
          refine XS.aloadN X0.here hexec rfl (hb hbytes d10) rfl rfl ?_
          refine X0.alen hexec hA0 rfl rfl (hb hbytes d11) ?_
          refine XS.icmpNo X0.here hexec rfl (hb hbytes d12) rfl (ii_ge_f (lt32 (by omega) (by omega))) ?_
          refine XS.aloadN X0.here hexec rfl (hb hbytes d15) rfl rfl ?_
          refine XS.iloadN X0.here hexec rfl (hb hbytes d16) rfl ?_
          refine X0.aget hexec hA0 rfl (yv_get hA tA (i := i) (by omega)) rfl rfl (hb hbytes d17) ?_
          refine XS.aloadN X0.here hexec rfl (hb hbytes d18) rfl rfl ?_
          refine XS.iloadN X0.here hexec rfl (hb hbytes d19) rfl ?_
          refine X0.aget hexec hB0 rfl (yv_get hB tB (i := i) (by omega)) rfl rfl (hb hbytes d20) ?_
          exact Steps.refl _)
        by_cases hv : yv A i = yv B i
        · have c5 : Steps p.tables e below (s₁.setTop (entryFrame m #[.ref a, .ref b] 3)) (s₁.setTop (mkF m 9 #[.val (.ref a), .val (.ref b), .val (.int (Int32.ofNat i + 1))] [])) := c4.trans (by
            refine XS.icmpYes X0.here hexec rfl (pc0 := 21) rfl (hb hbytes d21) rfl (ii_eq_t hv) (by decide) rfl ?_
            refine iincV X0.here hexec rfl 1 (hb hbytes d26) (by decide) rfl rfl ?_
            refine XS.goto X0.here hexec rfl (pc0 := 29) rfl (hb hbytes d29) (by decide) rfl ?_
            exact Steps.refl _)
          rw [succ32] at c5
          exact ih (i + 1) (by omega) (fun j hj => by
            by_cases e : j = i
            · rw [e]; exact hv
            · exact he j (by omega)) c5
        · exact ⟨25, _, 0, Or.inl rfl, Or.inr ⟨rfl, fun q => hv (q.2 i (by omega))⟩, c4.trans (by
            refine XS.icmpNo X0.here hexec rfl (hb hbytes d21) rfl (ii_eq_f hv) ?_
            refine iconstV X0.here hexec rfl 0 (hb hbytes d24) (by decide) ?_
            exact Steps.refl _)⟩
    obtain ⟨pc, Ls, v, hpc, hv, cz⟩ := loop A.slots.size 0 (by omega) (fun j hj => absurd hj (Nat.not_lt_zero j)) c3
    have nv : narrow .boolean (.int v) = .int v := by rcases hv with ⟨rfl, -⟩ | ⟨rfl, -⟩ <;> rfl
    rcases hpc with rfl | rfl
    · exact ⟨s₁, some (.int v), _, _, _, X0, rfl, rfl, rfl, (fun h => by cases h), ⟨v, rfl, hh0, hv⟩, fun fs hl => cz.trans (X0.ireturnOut hexec hret nv (Or.inr (Or.inl rfl)) (hb hbytes d25) hl)⟩
    · exact ⟨s₁, some (.int v), _, _, _, X0, rfl, rfl, rfl, (fun h => by cases h), ⟨v, rfl, hh0, hv⟩, fun fs hl => cz.trans (X0.ireturnOut hexec hret nv (Or.inr (Or.inl rfl)) (hb hbytes d33) hl)⟩
  · have c3 : Steps p.tables e below (s₁.setTop (entryFrame m #[.ref a, .ref b] 3)) (s₁.setTop (mkF m 35 #[.val (.ref a), .val (.ref b), .unset] [.int 0])) := c2.trans (by
      refine XS.icmpYes X0.here hexec rfl (pc0 := 4) rfl (hb hbytes d4) rfl (ii_ne_t (ne32 a31 b31 hs)) (by decide) rfl ?_
      refine iconstV X0.here hexec rfl 0 (hb hbytes d34) (by decide) ?_
      exact Steps.refl _)
    exact ⟨s₁, some (.int 0), _, _, _, X0, rfl, rfl, rfl, (fun h => by cases h), ⟨0, rfl, hh0, Or.inr ⟨rfl, fun q => hs q.1⟩⟩, fun fs hl => c3.trans (X0.ireturnOut hexec hret rfl (Or.inr (Or.inl rfl)) (hb hbytes d35) hl)⟩
end LEq
theorem Cod.ty {cd : Int32} {n : Nat} {f : Nat → Int32} {V : Cell} (h : Cod cd n f V) : Typed .byte V := fun i v hv => by
  have hi : i < V.slots.size := (Array.getElem?_eq_some_iff.mp hv).1
  rcases h with ⟨-, k1, k2⟩ | ⟨-, k1, k2, -⟩
  · rw [(k2 i (by omega)).1] at hv; cases hv; exact fits_lo8 _
  · rcases Nat.mod_two_eq_zero_or_one i with e | e
    · obtain ⟨j, rfl⟩ : ∃ j, i = 2 * j := ⟨i / 2, by omega⟩
      rw [(k2 j (by omega)).1] at hv; cases hv; exact fits_lo8 _
    · obtain ⟨j, rfl⟩ : ∃ j, i = 2 * j + 1 := ⟨i / 2, by omega⟩
      rw [(k2 j (by omega)).2] at hv; cases hv; exact fits_lo8 _
/-- the same text -/
def SameT (n : Nat) (f : Nat → Int32) (k : Nat) (g : Nat → Int32) : Prop := n = k ∧ ∀ j, j < n → f j = g j
theorem lo8_inj {x y : Int32} (h0 : ¬ x < 0) (h1 : ¬ 255 < x) (k0 : ¬ y < 0) (k1 : ¬ 255 < y) (h : lo8 x = lo8 y) : x = y := by
  rw [← lo8_mask h0 h1, ← lo8_mask k0 k1, h]
/-- arrays coded by one coder are equal just where the texts are -/
theorem Cod.eqv {cd : Int32} {n k : Nat} {f g : Nat → Int32} {V V' : Cell} (h : Cod cd n f V) (h' : Cod cd k g V') (hf : ∀ j, j < n → ¬ f j < 0 ∧ ¬ 65535 < f j) (hg : ∀ j, j < k → ¬ g j < 0 ∧ ¬ 65535 < g j) : EqC V V' ↔ SameT n f k g := by
  have yvv : ∀ {W : Cell} {i : Nat} {x : Int32}, W.slots[i]? = some (.int x) → yv W i = x := fun q => by unfold yv; rw [q]
  rcases h with ⟨rfl, k1, k2⟩ | ⟨rfl, k1, k2, -⟩
  · rcases h' with ⟨-, m1, m2⟩ | ⟨e, -⟩
    · constructor
      · rintro ⟨e1, e2⟩
        refine ⟨by omega, fun j hj => ?_⟩
        have q := e2 j (by omega)
        rw [yvv (k2 j hj).1, yvv (m2 j (by omega)).1] at q
        exact lo8_inj (hf j hj).1 (k2 j hj).2 (hg j (by omega)).1 (m2 j (by omega)).2 q
      · rintro ⟨rfl, e2⟩
        refine ⟨by omega, fun j hj => ?_⟩
        rw [yvv (k2 j (by omega)).1, yvv (m2 j (by omega)).1, e2 j (by omega)]
    · exact absurd e (by decide)
  · rcases h' with ⟨e, -⟩ | ⟨-, m1, m2, -⟩
    · exact absurd e (by decide)
    · constructor
      · rintro ⟨e1, e2⟩
        refine ⟨by omega, fun j hj => ?_⟩
        have q1 := e2 (2 * j) (by omega)
        have q2 := e2 (2 * j + 1) (by omega)
        rw [yvv (k2 j hj).1, yvv (m2 j (by omega)).1] at q1
        rw [yvv (k2 j hj).2, yvv (m2 j (by omega)).2] at q2
        rw [← pair_says (hf j hj).1 (hf j hj).2, ← pair_says (hg j (by omega)).1 (hg j (by omega)).2, q1, q2]
      · rintro ⟨rfl, e2⟩
        refine ⟨by omega, fun i hi => ?_⟩
        rcases Nat.mod_two_eq_zero_or_one i with e | e
        · obtain ⟨j, rfl⟩ : ∃ j, i = 2 * j := ⟨i / 2, by omega⟩
          rw [yvv (k2 j (by omega)).1, yvv (m2 j (by omega)).1, e2 j (by omega)]
        · obtain ⟨j, rfl⟩ : ∃ j, i = 2 * j + 1 := ⟨i / 2, by omega⟩
          rw [yvv (k2 j (by omega)).2, yvv (m2 j (by omega)).2, e2 j (by omega)]
/-- two codings differ: so do the texts -/
theorem Cod.dif {cd cd' : Int32} {n k : Nat} {f g : Nat → Int32} {V V' : Cell} (h : Cod cd n f V) (h' : Cod cd' k g V') (hne : ¬ cd = cd') : ¬ SameT n f k g := by
  rintro ⟨rfl, e⟩
  rcases h with ⟨rfl, -, k2⟩ | ⟨rfl, -, -, j, hj, hw⟩
  · rcases h' with ⟨rfl, -⟩ | ⟨-, -, -, j, hj, hw⟩
    · exact hne rfl
    · exact (k2 j hj).2 (by rw [e j hj]; exact hw)
  · rcases h' with ⟨-, -, m2⟩ | ⟨rfl, -⟩
    · exact (m2 j hj).2 (by rw [← e j hj]; exact hw)
    · exact hne rfl
/-- an object of exactly C is an instance of C -/
theorem cinst {p : Program} {l : Launch} {e : Env} {R : Room} {s : State} {m : MethodId} {args : Array Value} {below : List Frame} {meth : Method} {c : Code} {T : State} {locs : List Loc} {cells slots : Nat} (X : Stand p l e R s m args below meth c T locs cells slots) (hexec : p.tables.exec = Jvm.exec) {own C : String} {index : Nat} (hown : s.vm.findClass own = some m.cls) (hlink : (Cond.classLink own index C).before args s = true) {a : Addr} (hE : Exact C a T)
    {g : JFrame} (hg : g.method = m) {rest : List Value} (hstack : g.stack = .ref a :: rest) (hdg : decode c.code g.pc = .ok (.instanceof index, 3)) :
    ∃ T', Stand p l e R s m args below meth c T' locs cells slots ∧ T'.heap = T.heap ∧ ∀ target, Steps p.tables e below (T'.setTop { g with pc := g.pc + 3, stack := .int 1 :: rest }) target → Steps p.tables e below (T.setTop g) target := by
  obtain ⟨cB, h1, D, h2, h3, h4⟩ := hE
  have h1' : s.vm.findClass C = some cB := by rw [← X.warmed.alike.findClass]; exact h1
  obtain ⟨vm', X', st⟩ := X.instanceofYes hexec hown hlink h2 h4 h1' (by rw [h3]; exact Jvm.Free.SB.assignable_self _ _) hg hstack hdg
  exact ⟨_, X', rfl, st⟩
theorem cself {p : Program} {l : Launch} {e : Env} {R : Room} {s : State} {m : MethodId} {args : Array Value} {below : List Frame} {meth : Method} {c : Code} {T : State} {locs : List Loc} {cells slots : Nat} (X : Stand p l e R s m args below meth c T locs cells slots) (hexec : p.tables.exec = Jvm.exec) {own C : String} {index : Nat} (hown : s.vm.findClass own = some m.cls) (hlink : (Cond.classLink own index C).before args s = true) {a : Addr} (hE : Exact C a T)
    {g : JFrame} (hg : g.method = m) {rest : List Value} (hstack : g.stack = .ref a :: rest) (hdg : decode c.code g.pc = .ok (.checkcast index, 3)) :
    ∃ T', Stand p l e R s m args below meth c T' locs cells slots ∧ T'.heap = T.heap ∧ ∀ target, Steps p.tables e below (T'.setTop { g with pc := g.pc + 3, stack := .ref a :: rest }) target → Steps p.tables e below (T.setTop g) target := by
  obtain ⟨cB, h1, D, h2, h3, h4⟩ := hE
  have h1' : s.vm.findClass C = some cB := by rw [← X.warmed.alike.findClass]; exact h1
  obtain ⟨vm', X', st⟩ := X.checkcastYes hexec hown hlink h2 h4 h1' (by rw [h3]; exact Jvm.Free.SB.assignable_self _ _) hg hstack hdg
  exact ⟨_, X', rfl, fun t h => st t (by rw [← hstack] at h; exact h)⟩
namespace SEq
def yN : MethodName := ⟨"java/lang/String", "equals", "(Ljava/lang/Object;)Z"⟩
abbrev yB : ByteArray := jdk_42_method_66_code
theorem d0 : decode yB 0 = .ok (.aload_n 0, 1) := by decide +kernel
theorem d1 : decode yB 1 = .ok (.aload_n 1, 1) := by decide +kernel
theorem d2 : decode yB 2 = .ok (.if_acmp (.ne) 5, 3) := by decide +kernel
theorem d5 : decode yB 5 = .ok (.iconst 1, 1) := by decide +kernel
theorem d6 : decode yB 6 = .ok (.ireturn, 1) := by decide +kernel
theorem d7 : decode yB 7 = .ok (.aload_n 1, 1) := by decide +kernel
theorem d8 : decode yB 8 = .ok (.instanceof 10, 3) := by decide +kernel
theorem d11 : decode yB 11 = .ok (.ifCond (.eq) 43, 3) := by decide +kernel
theorem d14 : decode yB 14 = .ok (.aload_n 1, 1) := by decide +kernel
theorem d15 : decode yB 15 = .ok (.checkcast 10, 3) := by decide +kernel
theorem d18 : decode yB 18 = .ok (.astore_n 2, 1) := by decide +kernel
theorem d19 : decode yB 19 = .ok (.getstatic 38, 3) := by decide +kernel
theorem d22 : decode yB 22 = .ok (.ifCond (.eq) 14, 3) := by decide +kernel
theorem d25 : decode yB 25 = .ok (.aload_n 0, 1) := by decide +kernel
theorem d26 : decode yB 26 = .ok (.getfield 15, 3) := by decide +kernel
theorem d29 : decode yB 29 = .ok (.aload_n 2, 1) := by decide +kernel
theorem d30 : decode yB 30 = .ok (.getfield 15, 3) := by decide +kernel
theorem d33 : decode yB 33 = .ok (.if_icmp (.ne) 21, 3) := by decide +kernel
theorem d36 : decode yB 36 = .ok (.aload_n 0, 1) := by decide +kernel
theorem d37 : decode yB 37 = .ok (.getfield 9, 3) := by decide +kernel
theorem d40 : decode yB 40 = .ok (.aload_n 2, 1) := by decide +kernel
theorem d41 : decode yB 41 = .ok (.getfield 9, 3) := by decide +kernel
theorem d44 : decode yB 44 = .ok (.invokestatic 541, 3) := by decide +kernel
theorem d47 : decode yB 47 = .ok (.ifCond (.eq) 7, 3) := by decide +kernel
theorem d50 : decode yB 50 = .ok (.iconst 1, 1) := by decide +kernel
theorem d51 : decode yB 51 = .ok (.goto 4, 3) := by decide +kernel
theorem d54 : decode yB 54 = .ok (.iconst 0, 1) := by decide +kernel
theorem d55 : decode yB 55 = .ok (.ireturn, 1) := by decide +kernel
def site : List Cond := [.classLink "java/lang/String" 10 "java/lang/String", .fieldLink "java/lang/String" 38 "java/lang/String" "COMPACT_STRINGS" "Z", .fieldLink "java/lang/String" 15 "java/lang/String" "coder" "B", .fieldLink "java/lang/String" 9 "java/lang/String" "value" "[B", LEq.tab] ++ staticW "java/lang/String" 541 LEq.yN
def tab : Cond := tabOf yN yB 3 (some .boolean) site
def P (x t : Addr) (V : Cell) (cd : Int32) (n : Nat) (f : Nat → Int32) (y t' : Addr) (V' : Cell) (cd' : Int32) (k : Nat) (g : Nat → Int32) (z : Int32) (args : Array Value) (s : State) : Prop := args = #[.ref x, .ref y] ∧ Txt x t V cd n f s ∧ Txt y t' V' cd' k g s ∧ StaticIs s "java/lang/String" "COMPACT_STRINGS" "Z" (.int z) ∧ ¬ z = 0
/-- equals(Object) of two Strings: whether the texts are the same -/
theorem law (l : Launch) (x t : Addr) (V : Cell) (cd : Int32) (n : Nat) (f : Nat → Int32) (y t' : Addr) (V' : Cell) (cd' : Int32) (k : Nat) (g : Nat → Int32) (z : Int32) : Law l yN 2 1 1 14 yB 3 (some .boolean) site (P x t V cd n f y t' V' cd' k g z) (Says01 (SameT n f k g)) [] 0 0 := by
  refine Law.of_walk (plainFor_of_name (by decide +kernel)) (by decide +kernel) (by decide +kernel) (by decide) (fun _ _ h => by rw [h.1]; rfl) (fun _ U U' hal hh h => ⟨h.1, h.2.1.mv hal hh, h.2.2.1.mv hal hh, h.2.2.2.1.there hal hh, h.2.2.2.2⟩) (fun r U U' V V' h1 hal h2 h => Says01.mv r U U' V V' h1 hal h2 h) ?_
  intro p e s m args below meth c s₁ X0 hexec hbytes hml hret hlk hnm hown hh0 W hP
  obtain ⟨rfl, hx, hy, s1, hz⟩ := hP
  have c1 : Steps p.tables e below (s₁.setTop (entryFrame m #[.ref x, .ref y] 3)) (s₁.setTop (mkF m 2 #[.val (.ref x), .val (.ref y), .unset] [.ref y, .ref x])) := Steps.trans (entry rfl) (by
    show Steps p.tables e below (s₁.setTop (mkF m 0 #[.val (.ref x), .val (.ref y), .unset] [])) _
    refine XS.aloadN X0.here hexec rfl (hb hbytes d0) rfl rfl ?_
    refine XS.aloadN X0.here hexec rfl (hb hbytes d1) rfl rfl ?_
    exact Steps.refl _)
  by_cases hxy : x = y
  · have c2 : Steps p.tables e below (s₁.setTop (entryFrame m #[.ref x, .ref y] 3)) (s₁.setTop (mkF m 6 #[.val (.ref x), .val (.ref y), .unset] [.int 1])) := c1.trans (by
      refine acmpNo X0.here hexec rfl (hb hbytes d2) rfl rfl rfl (by simp [acmp, hxy]) ?_
      refine iconstV X0.here hexec rfl 1 (hb hbytes d5) (by decide) ?_
      exact Steps.refl _)
    subst hxy
    have ec : cd = cd' := by
      obtain ⟨D, fd, a1, a2, a3⟩ := hx.2.2.1
      obtain ⟨D', fd', b1, b2, b3⟩ := hy.2.2.1
      cases a1.symm.trans b1
      obtain ⟨q1, q2, q3, q4⟩ := a2.1
      obtain ⟨r1, r2, r3, r4⟩ := b2.1
      cases q4.symm.trans r4
      cases a3.symm.trans b3; rfl
    have et : t = t' := by
      obtain ⟨D, fd, a1, a2, a3⟩ := hx.2.1
      obtain ⟨D', fd', b1, b2, b3⟩ := hy.2.1
      cases a1.symm.trans b1
      obtain ⟨q1, q2, q3, q4⟩ := a2.1
      obtain ⟨r1, r2, r3, r4⟩ := b2.1
      cases q4.symm.trans r4
      cases a3.symm.trans b3; rfl
    subst ec et
    have ev : V = V' := by cases hx.2.2.2.1.1.symm.trans hy.2.2.2.1.1; rfl
    subst ev
    have hs : SameT n f k g := (Cod.eqv hx.2.2.2.2.1 hy.2.2.2.2.1 hx.2.2.2.2.2 hy.2.2.2.2.2).mp ⟨rfl, fun _ _ => rfl⟩
    exact ⟨s₁, some (.int 1), _, _, _, X0, rfl, rfl, rfl, (fun h => by cases h), ⟨1, rfl, hh0, Or.inl ⟨rfl, hs⟩⟩, fun fs hl => c2.trans (X0.ireturnOut hexec hret rfl (Or.inr (Or.inl rfl)) (hb hbytes d6) hl)⟩
  · have c2 : Steps p.tables e below (s₁.setTop (entryFrame m #[.ref x, .ref y] 3)) (s₁.setTop (mkF m 8 #[.val (.ref x), .val (.ref y), .unset] [.ref y])) := c1.trans (by
      refine acmpYes X0.here hexec rfl (pc0 := 2) rfl (hb hbytes d2) rfl rfl rfl (by simp [acmp, hxy]) (by decide) rfl ?_
      refine XS.aloadN X0.here hexec rfl (hb hbytes d7) rfl rfl ?_
      exact Steps.refl _)
    obtain ⟨T3, X3, q3, st3⟩ := cinst X0 hexec hown (wk W (.classLink "java/lang/String" 10 "java/lang/String")) (hy.mv X0.warmed.alike hh0).1 (g := (mkF m 8 #[.val (.ref x), .val (.ref y), .unset] [.ref y])) rfl (rest := []) rfl (hb hbytes d8)
    have hh3 := q3.trans hh0
    have c4 : Steps p.tables e below (s₁.setTop (entryFrame m #[.ref x, .ref y] 3)) (T3.setTop (mkF m 15 #[.val (.ref x), .val (.ref y), .unset] [.ref y])) := (c2.trans (st3 _ (Steps.refl _))).trans (by
      refine XS.ifNo X3.here hexec rfl (hb hbytes d11) rfl (i0_eq_f (by decide)) ?_
      refine XS.aloadN X3.here hexec rfl (hb hbytes d14) rfl rfl ?_
      exact Steps.refl _)
    obtain ⟨T5, X5, q5, st5⟩ := cself X3 hexec hown (wk W (.classLink "java/lang/String" 10 "java/lang/String")) (hy.mv X3.warmed.alike hh3).1 (g := (mkF m 15 #[.val (.ref x), .val (.ref y), .unset] [.ref y])) rfl (rest := []) rfl (hb hbytes d15)
    have hh5 := q5.trans hh3
    have c6 : Steps p.tables e below (s₁.setTop (entryFrame m #[.ref x, .ref y] 3)) (T5.setTop (mkF m 19 #[.val (.ref x), .val (.ref y), .val (.ref y)] [])) := (c4.trans (st5 _ (Steps.refl _))).trans (by
      refine XS.astoreN X5.here hexec rfl (hb hbytes d18) rfl rfl rfl ?_
      exact Steps.refl _)
    obtain ⟨T7, X7, q7, st7⟩ := X5.sget hexec hown (wk W (.fieldLink "java/lang/String" 38 "java/lang/String" "COMPACT_STRINGS" "Z")) s1 (fun _ _ h => by rw [hh5]; exact h) (g := (mkF m 19 #[.val (.ref x), .val (.ref y), .val (.ref y)] [])) rfl (hb hbytes d19)
    have hh7 := q7.trans hh5
    have c8 : Steps p.tables e below (s₁.setTop (entryFrame m #[.ref x, .ref y] 3)) (T7.setTop (mkF m 26 #[.val (.ref x), .val (.ref y), .val (.ref y)] [.ref x])) := (c6.trans (st7 _ (Steps.refl _))).trans (by
      refine XS.ifNo X7.here hexec rfl (hb hbytes d22) rfl (i0_eq_f hz) ?_
      refine XS.aloadN X7.here hexec rfl (hb hbytes d25) rfl rfl ?_
      exact Steps.refl _)
    obtain ⟨T9, X9, q9, st9⟩ := X7.hget hexec hown (wk W (.fieldLink "java/lang/String" 15 "java/lang/String" "coder" "B")) (hx.mv X7.warmed.alike hh7).2.2.1 (g := (mkF m 26 #[.val (.ref x), .val (.ref y), .val (.ref y)] [.ref x])) rfl (rest := []) rfl (hb hbytes d26)
    have hh9 := q9.trans hh7
    have c10 : Steps p.tables e below (s₁.setTop (entryFrame m #[.ref x, .ref y] 3)) (T9.setTop (mkF m 30 #[.val (.ref x), .val (.ref y), .val (.ref y)] [.ref y, .int cd])) := (c8.trans (st9 _ (Steps.refl _))).trans (by
      refine XS.aloadN X9.here hexec rfl (hb hbytes d29) rfl rfl ?_
      exact Steps.refl _)
    obtain ⟨T11, X11, q11, st11⟩ := X9.hget hexec hown (wk W (.fieldLink "java/lang/String" 15 "java/lang/String" "coder" "B")) (hy.mv X9.warmed.alike hh9).2.2.1 (g := (mkF m 30 #[.val (.ref x), .val (.ref y), .val (.ref y)] [.ref y, .int cd])) rfl (rest := [.int cd]) rfl (hb hbytes d30)
    have hh11 := q11.trans hh9
    have c12 : Steps p.tables e below (s₁.setTop (entryFrame m #[.ref x, .ref y] 3)) (T11.setTop (mkF m 33 #[.val (.ref x), .val (.ref y), .val (.ref y)] [.int cd', .int cd])) := c10.trans (st11 _ (Steps.refl _))
    by_cases hcd : cd = cd'
    · subst hcd
      have c13 : Steps p.tables e below (s₁.setTop (entryFrame m #[.ref x, .ref y] 3)) (T11.setTop (mkF m 37 #[.val (.ref x), .val (.ref y), .val (.ref y)] [.ref x])) := c12.trans (by
        refine XS.icmpNo X11.here hexec rfl (hb hbytes d33) rfl (ii_ne_f rfl) ?_
        refine XS.aloadN X11.here hexec rfl (hb hbytes d36) rfl rfl ?_
        exact Steps.refl _)
      obtain ⟨T14, X14, q14, st14⟩ := X11.hget hexec hown (wk W (.fieldLink "java/lang/String" 9 "java/lang/String" "value" "[B")) (hx.mv X11.warmed.alike hh11).2.1 (g := (mkF m 37 #[.val (.ref x), .val (.ref y), .val (.ref y)] [.ref x])) rfl (rest := []) rfl (hb hbytes d37)
      have hh14 := q14.trans hh11
      have c15 : Steps p.tables e below (s₁.setTop (entryFrame m #[.ref x, .ref y] 3)) (T14.setTop (mkF m 41 #[.val (.ref x), .val (.ref y), .val (.ref y)] [.ref y, .ref t])) := (c13.trans (st14 _ (Steps.refl _))).trans (by
        refine XS.aloadN X14.here hexec rfl (hb hbytes d40) rfl rfl ?_
        exact Steps.refl _)
      obtain ⟨T16, X16, q16, st16⟩ := X14.hget hexec hown (wk W (.fieldLink "java/lang/String" 9 "java/lang/String" "value" "[B")) (hy.mv X14.warmed.alike hh14).2.1 (g := (mkF m 41 #[.val (.ref x), .val (.ref y), .val (.ref y)] [.ref y, .ref t])) rfl (rest := [.ref t]) rfl (hb hbytes d41)
      have hh16 := q16.trans hh14
      have c17 : Steps p.tables e below (s₁.setTop (entryFrame m #[.ref x, .ref y] 3)) (T16.setTop (mkF m 44 #[.val (.ref x), .val (.ref y), .val (.ref y)] [.ref t', .ref t])) := c15.trans (st16 _ (Steps.refl _))
      obtain ⟨v18, T18, X18, E18, g18⟩ := X16.callS hexec (LEq.law l t V t' V') hown (wks W (staticW "java/lang/String" 541 LEq.yN)) (wk W LEq.tab) (W := 0) (Nat.le_of_ble_eq_true rfl) (Nat.le_of_ble_eq_true rfl) (Nat.le_refl _) (Nat.le_refl _) (g := (mkF m 44 #[.val (.ref x), .val (.ref y), .val (.ref y)] [.ref t', .ref t])) rfl (by rw [hml]; rfl) c17 (argsL := [.ref t, .ref t']) (rest := []) rfl rfl (by show 2 * 0 + 0 ≤ _; decide) (hb hbytes d44) (⟨rfl, hx.2.2.2.1.mv X16.warmed.alike hh16, hx.2.2.2.2.1.ty, hy.2.2.2.1.mv X16.warmed.alike hh16, hy.2.2.2.2.1.ty⟩)
      obtain ⟨v, rfl, q18, hv⟩ := E18
      have iff := Cod.eqv hx.2.2.2.2.1 hy.2.2.2.2.1 hx.2.2.2.2.2 hy.2.2.2.2.2
      rcases hv with ⟨rfl, he⟩ | ⟨rfl, he⟩
      · have c19 : Steps p.tables e below (s₁.setTop (entryFrame m #[.ref x, .ref y] 3)) (T18.setTop (mkF m 55 #[.val (.ref x), .val (.ref y), .val (.ref y)] [.int 1])) := Steps.trans g18 (by
          refine XS.ifNo X18.here hexec rfl (hb hbytes d47) rfl (i0_eq_f (by decide)) ?_
          refine iconstV X18.here hexec rfl 1 (hb hbytes d50) (by decide) ?_
          refine XS.goto X18.here hexec rfl (pc0 := 51) rfl (hb hbytes d51) (by decide) rfl ?_
          exact Steps.refl _)
        exact ⟨T18, some (.int 1), _, _, _, X18, rfl, rfl, rfl, (fun h => by cases h), ⟨1, rfl, q18.trans hh16, Or.inl ⟨rfl, iff.mp he⟩⟩, fun fs hl => c19.trans (X18.ireturnOut hexec hret rfl (Or.inr (Or.inl rfl)) (hb hbytes d55) hl)⟩
      · have c19 : Steps p.tables e below (s₁.setTop (entryFrame m #[.ref x, .ref y] 3)) (T18.setTop (mkF m 55 #[.val (.ref x), .val (.ref y), .val (.ref y)] [.int 0])) := Steps.trans g18 (by
          refine XS.ifYes X18.here hexec rfl (pc0 := 47) rfl (hb hbytes d47) rfl (i0_eq_t rfl) (by decide) rfl ?_
          refine iconstV X18.here hexec rfl 0 (hb hbytes d54) (by decide) ?_
          exact Steps.refl _)
        exact ⟨T18, some (.int 0), _, _, _, X18, rfl, rfl, rfl, (fun h => by cases h), ⟨0, rfl, q18.trans hh16, Or.inr ⟨rfl, fun q => he (iff.mpr q)⟩⟩, fun fs hl => c19.trans (X18.ireturnOut hexec hret rfl (Or.inr (Or.inl rfl)) (hb hbytes d55) hl)⟩
    · have c13 : Steps p.tables e below (s₁.setTop (entryFrame m #[.ref x, .ref y] 3)) (T11.setTop (mkF m 55 #[.val (.ref x), .val (.ref y), .val (.ref y)] [.int 0])) := c12.trans (by
        refine XS.icmpYes X11.here hexec rfl (pc0 := 33) rfl (hb hbytes d33) rfl (ii_ne_t hcd) (by decide) rfl ?_
        refine iconstV X11.here hexec rfl 0 (hb hbytes d54) (by decide) ?_
        exact Steps.refl _)
      exact ⟨T11, some (.int 0), _, _, _, X11, rfl, rfl, rfl, (fun h => by cases h), ⟨0, rfl, hh11, Or.inr ⟨rfl, Cod.dif hx.2.2.2.2.1 hy.2.2.2.2.1 hcd⟩⟩, fun fs hl => c13.trans (X11.ireturnOut hexec hret rfl (Or.inr (Or.inl rfl)) (hb hbytes d55) hl)⟩
theorem pays {l : Launch} {R : Room} {p : Program} {e : Env} {below : List Frame} {s : State} {sargs : Array Value} {len W : Nat} (x t : Addr) (V : Cell) (cd : Int32) (n : Nat) (f : Nat → Int32) (y t' : Addr) (V' : Cell) (cd' : Int32) (k : Nat) (g : Nat → Int32) (z : Int32) (htab : tab.before sargs s = true) (hfr : 2 ≤ R.frames) (hlo : W + 28 ≤ R.locals) :
    Back l R p e below s sargs yN len W (fun A₁ a₁ => A₁.cells + 0 ≤ R.cells ∧ A₁.slots + 0 ≤ R.slots ∧ P x t V cd n f y t' V' cd' k g z a₁ A₁.U) (fun A₁ _ v₁ B₁ => Says01 (SameT n f k g) v₁ A₁.U B₁.U ∧ B₁.locs = A₁.locs ++ [] ∧ B₁.cells = A₁.cells + 0 ∧ B₁.slots = A₁.slots + 0) :=
  (law l x t V cd n f y t' V' cd' k g z).pays htab hfr (by omega)
end SEq
end StrChars
namespace StrChars.Road
open Jvm Sem ClassFile Op Lib Jvm.Stand Jvm.Free Jvm.Free.XT
open Jvm.Lib.Cold (StaticIs)
/-- the words of String.equals(Object) -/
abbrev wordsEq : List Jvm.Cond := [.code SEq.yN SEq.yB 3 (some .boolean), .initialized ST, .classLink ST 10 ST, .fieldLink ST 38 ST "COMPACT_STRINGS" "Z", .fieldLink ST 15 ST "coder" "B", .fieldLink ST 9 ST "value" "[B", .methodLink ST 541 LEq.yN, .static LEq.yN, .code LEq.yN LEq.yB 3 (some .boolean), .initialized "java/lang/StringLatin1"]
theorem tabEq_of {a : Array Value} {s : State} (h : ∀ w ∈ wordsEq, w.before a s = true) : SEq.tab.before a s = true := by
  have hl : LEq.tab.before a s = true := unparts (wk h (.code LEq.yN LEq.yB 3 (some .boolean))) (wks h (.initialized LEq.yN.cls :: LEq.site))
  have q := consq hl h
  exact unparts (wk q (.code SEq.yN SEq.yB 3 (some .boolean))) (wks q (.initialized SEq.yN.cls :: SEq.site))
theorem movedEq {Z s : State} {a0 args : Array Value} (hZ : Z.Warmed39 s.vm) (hw : ∀ d ∈ wordsEq, d.before a0 Z = true) : ∀ d ∈ wordsEq, d.before args s = true := fun d hd => by
  have t : ∀ d ∈ wordsEq, (d.onTables && d.keepsFace) = true := by decide +kernel
  exact RoadKit.mv hZ (hw d hd) (t d hd)
/-- the road's facts of a String, as the laws ask it -/
theorem txt_of {Z U : State} {a0 : Array Value} {kI : Nat} (wi : (Jvm.Cond.instantiable ST kI).before a0 Z = true) (al : Z.vm.Alike U.vm) {x t : Addr} {kb : ClassId} {cs : List Int32} {cd N2 : Int32} {vs : List Value} (E : RoadKit.Exa Z U.heap x ST) (V : RoadKit.Fld Z U.heap x ST "value" "[B" (.ref t)) (C : RoadKit.Fld Z U.heap x ST "coder" "B" (.int cd)) (K : RoadKit.Arv Z U.heap t kb .byte N2 vs (.int 0)) (hc : CodA cs cd N2 vs) (hb : ∀ c ∈ cs, ¬ c < 0 ∧ ¬ (65535 : Int32) < c) (l2 : cs.length ≤ 4000) :
    ∃ A, Txt x t A cd cs.length (fun j => cs.getD j 0) U := by
  obtain ⟨A, K1, K2, K3, K4, K5, K6⟩ := K
  have hcod := hc.cod (by omega) K3 K5
  obtain ⟨D, fV, fC, hB, F1, F2, g1, g2, -, -⟩ := strObj wi al E V C
  exact ⟨A, ⟨_, hB.2.2.1, D, hB.1, rfl, by cases q : D.vm <;> first | rfl | exact absurd q (hB.2.1.2 _)⟩, Has.of hB F1 g1, Has.of hB F2 g2, ⟨K1.1, State.isArrayOf_alike al K1.2.1, K1.2.2, by rcases hcod with ⟨-, q, -⟩ | ⟨-, q, -⟩ <;> omega⟩, hcod, fun j hj => by
    have e : cs.getD j 0 = cs[j] := by simp [List.getD_eq_getElem?_getD, hj]
    show ¬ cs.getD j 0 < 0 ∧ ¬ 65535 < cs.getD j 0
    rw [e]; exact hb _ (List.getElem_mem _)⟩
theorem same_list (cs ds : List Int32) : SameT cs.length (fun j => cs.getD j 0) ds.length (fun j => ds.getD j 0) ↔ cs = ds := by
  constructor
  · rintro ⟨e, q⟩
    refine List.ext_getElem e fun j h1 h2 => ?_
    have := q j h1
    simpa [List.getD_eq_getElem?_getD, h1, h2] using this
  · rintro rfl
    exact ⟨rfl, fun _ _ => rfl⟩
/-- **equals(Object) OF TWO SUCH STRINGS**: 1 just where the chars are the same -/
theorem eqW {p : Program} {l : Launch} {e : Env} {R : Room} {s : State} {args : Array Value} {below : List Frame} {len W : Nat} {Z : State} {a0 : Array Value} {h : Heap} (hZ : Z.Warmed39 s.vm) (hw : ∀ d ∈ wordsEq, d.before a0 Z = true) {kI : Nat} (wi : (Jvm.Cond.instantiable ST kI).before a0 Z = true)
    {x t : Addr} {kb : ClassId} {cs : List Int32} {cd N2 : Int32} {vs : List Value} (E : RoadKit.Exa Z h x ST) (V : RoadKit.Fld Z h x ST "value" "[B" (.ref t)) (C : RoadKit.Fld Z h x ST "coder" "B" (.int cd)) (K : RoadKit.Arv Z h t kb .byte N2 vs (.int 0)) (hc : CodA cs cd N2 vs) (hb : ∀ c ∈ cs, ¬ c < 0 ∧ ¬ (65535 : Int32) < c) (l2 : cs.length ≤ 4000)
    {y t' : Addr} {kb' : ClassId} {ds : List Int32} {cd' N2' : Int32} {vs' : List Value} (E' : RoadKit.Exa Z h y ST) (V' : RoadKit.Fld Z h y ST "value" "[B" (.ref t')) (C' : RoadKit.Fld Z h y ST "coder" "B" (.int cd')) (K' : RoadKit.Arv Z h t' kb' .byte N2' vs' (.int 0)) (hc' : CodA ds cd' N2' vs') (hb' : ∀ c ∈ ds, ¬ c < 0 ∧ ¬ (65535 : Int32) < c) (l2' : ds.length ≤ 4000)
    {z : Int32} (S : RoadKit.Sta Z h ST "COMPACT_STRINGS" "Z" (.int z)) (hz : ¬ z = 0) (hfr : 2 ≤ R.frames) (hlo : W + 28 ≤ R.locals) :
    Back l R p e below s args (⟨"java/lang/String", "equals", "(Ljava/lang/Object;)Z"⟩ : MethodName) len W (fun P a => a = #[.ref x, .ref y] ∧ P.U.heap = h ∧ P.cells + 0 ≤ R.cells ∧ P.slots + 0 ≤ R.slots)
      (fun P _ v B => ∃ L, (((v = some (.int 1) ∧ cs = ds) ∨ (v = some (.int 0) ∧ ¬ cs = ds)) ∧ L = [] ∧ B.U.heap = h) ∧ B.locs = P.locs ++ L ∧ B.cells = P.cells + 0 ∧ B.slots = P.slots + 0) := by
  intro m meth c P g ig mk a X hg hsize hdg hW hn hp'
  obtain ⟨rfl, rfl, r1, r2⟩ := hp'
  have al : Z.vm.Alike P.U.vm := hZ.alike.trans X.warmed.alike
  obtain ⟨A, hx⟩ := txt_of wi al E V C K hc hb l2
  obtain ⟨A', hy⟩ := txt_of wi al E' V' C' K' hc' hb' l2'
  obtain ⟨v, B, X', ⟨⟨w, hv, hh, hq⟩, hl, hk, hs⟩, st⟩ := SEq.pays x t A cd cs.length (fun j => cs.getD j 0) y t' A' cd' ds.length (fun j => ds.getD j 0) z (tabEq_of (movedEq hZ hw)) hfr hlo m meth c P g ig mk _ X hg hsize hdg hW hn ⟨r1, r2, rfl, hx, hy, sta_is al S, hz⟩
  refine ⟨v, B, X', ⟨[], ⟨?_, rfl, hh⟩, hl, hk, hs⟩, st⟩
  rcases hq with ⟨rfl, q⟩ | ⟨rfl, q⟩
  · exact Or.inl ⟨hv, (same_list cs ds).mp q⟩
  · exact Or.inr ⟨hv, fun e => q ((same_list cs ds).mpr e)⟩
end StrChars.Road
namespace StrChars.Road
open Jvm Sem ClassFile Op Lib Jvm.Stand Jvm.Free Jvm.Free.XT
open Jvm.Lib.Cold (StaticIs)
/-- what backV says of its String, as the contracts of this text ask it: cs's low bytes, coder 0 -/
theorem codOf {cs : List Int32} {n : Nat} (hn : cs.length = n) (hb : ∀ c ∈ cs, ¬ 255 < c) : CodA cs 0 (Int32.ofNat n) ((cs.map lo8).map Value.int) := Or.inl ⟨rfl, by rw [hn], by simp [List.map_map, Function.comp_def], hb⟩
end StrChars.Road
end Jvm.Pilot.@@N@@
namespace Jvm.Pilot.@@N@@
open Jvm Jvm.ClassFile Sem Op Lib Jvm.Free Jvm.Stand Jvm.LawKit Jvm.RoadKit Bundle Jvm.Pilot.@@N@@.Jvm.D
section OwnKit
variable {p : Program} {l : Launch} {e : Env} {R : Room} {s : State} {m : MethodId} {args : Array Value} {below : List Frame} {meth : Method} {c : Code} {T T' : State} {locs : List Loc} {cells slots : Nat} {Z : State} {a0 : Array Value} {h h' : Heap} {EL : List (String × Nat)} {n0 k0 : Nat} {ws ws' sf : List Addr} {own : String} {vm0 vm1 : Vm} {Q : Outcome → State → Prop} {a b x : Addr} {v : Value} {sl : Nat}
/-- the run goes on from t to an end that Q takes -/
def Go (p : Program) (e : Env) (below : List Frame) (Q : Outcome → State → Prop) (t : State) : Prop := ∃ s₂ o, Steps p.tables e below t s₂ ∧ s₂.status = .running ∧ Ended s₂ below o ∧ Q o s₂
theorem Go.of {t t' : State} (k : ∀ z, Steps p.tables e below t' z → Steps p.tables e below t z) (g : Go p e below Q t') : Go p e below Q t := by
  obtain ⟨a, o, st, r⟩ := g
  exact ⟨a, o, k _ st, r⟩
theorem Go.on {t t' : State} (st : Steps p.tables e below t t') (g : Go p e below Q t') : Go p e below Q t := by
  obtain ⟨a, o, st', r⟩ := g
  exact ⟨a, o, st.trans st', r⟩
/-- where a walk stands: the tables at hand, the places written, all hidden -/
def Wk (p : Program) (l : Launch) (e : Env) (R : Room) (s : State) (m : MethodId) (args : Array Value) (below : List Frame) (meth : Method) (c : Code) (Z : State) (EL : List (String × Nat)) (n0 : Nat) (ws : List Addr) (own : String) (sf : List Addr) (T : State) (cells slots : Nat) (h : Heap) : Prop :=
  ∃ (vm0 : Vm) (locs : List Loc) (k0 : Nat), Stand p l e R (s.setVm vm0) m args below meth c T locs cells slots ∧ T.heap = h ∧ s.Since vm0 k0 ∧ k0 ≤ h.size ∧ Z.Warmed39 vm0 ∧ vm0.findClass own = some m.cls ∧ CHr Z EL s.vm s.heap vm0 h ∧ Fr n0 locs ∧ Keep s.heap h ws ∧ Old Z n0 h ∧ ∀ x ∈ sf, Safe Z EL vm0 h x ∧ x < h.size
abbrev Wkk (p : Program) (l : Launch) (e : Env) (R : Room) (s : State) (m : MethodId) (args : Array Value) (below : List Frame) (meth : Method) (c : Code) (Z : State) (EL : List (String × Nat)) (n0 : Nat) (ws : List Addr) (own : String) (sf : List Addr) (cells slots : Nat) (h : Heap) (T : State) : Prop := Wk p l e R s m args below meth c Z EL n0 ws own sf T cells slots h
theorem wk_wr (X : Stand p l e R (s.setVm vm0) m args below meth c T' (locs ++ [⟨a, sl⟩]) cells slots) (e' : T'.heap = h') (W : Wr h h' a sl v) (hS : s.Since vm0 k0) (hk : k0 ≤ h.size) (hZ : Z.Warmed39 vm0) (hown : vm0.findClass own = some m.cls) (hC : CHr Z EL s.vm s.heap vm0 h) (N : Fr n0 locs) (K : Keep s.heap h ws) (O : Old Z n0 h)
    (F : ∀ x ∈ sf, Safe Z EL vm0 h x ∧ x < h.size) (S : Safe Z EL vm0 h a) (ga : n0 ≤ a) (gw : a ∈ ws ∨ s.heap.size ≤ a) : Wk p l e R s m args below meth c Z EL n0 ws own sf T' cells slots h' :=
  ⟨vm0, _, k0, X, e', hS, by rw [Wr.size W]; exact hk, hZ, hown, hC.trans (CHr.wr W S hC.1), Fr.snoc X N ga, K.wr W gw, O.wr W ga, fun y hy => ⟨Safe.wr W S hC.1 (F y hy).1, by rw [Wr.size W]; exact (F y hy).2⟩⟩
theorem wk_ext (X : Stand p l e R (s.setVm vm0) m args below meth c T' locs cells slots) (e' : T'.heap = h') (E : Ext h h') (hS : s.Since vm0 k0) (hk : k0 ≤ h.size) (hZ : Z.Warmed39 vm0) (hown : vm0.findClass own = some m.cls) (hC : CHr Z EL s.vm s.heap vm0 h) (N : Fr n0 locs) (K : Keep s.heap h ws) (O : Old Z n0 h)
    (F : ∀ x ∈ sf, Safe Z EL vm0 h x ∧ x < h.size) : Wk p l e R s m args below meth c Z EL n0 ws own sf T' cells slots h' :=
  ⟨vm0, locs, k0, X, e', hS, Nat.le_trans hk E.1, hZ, hown, hC.trans (CHr.ext E hC.1), N, K.ext E, O.ext E, fun y hy => ⟨Safe.ext E hC.1 (F y hy).1, Nat.lt_of_lt_of_le (F y hy).2 E.1⟩⟩
theorem wk_new (X : Stand p l e R (s.setVm vm0) m args below meth c T' locs cells slots) (e' : T'.heap = h') (E : Ext h h') (hlt : h.size < h'.size) (hS : s.Since vm0 k0) (hk : k0 ≤ h.size) (hZ : Z.Warmed39 vm0) (hown : vm0.findClass own = some m.cls) (hC : CHr Z EL s.vm s.heap vm0 h) (N : Fr n0 locs) (K : Keep s.heap h ws) (O : Old Z n0 h)
    (F : ∀ x ∈ sf, Safe Z EL vm0 h x ∧ x < h.size) : Wk p l e R s m args below meth c Z EL n0 ws own (h.size :: sf) T' cells slots h' :=
  ⟨vm0, locs, k0, X, e', hS, Nat.le_trans hk E.1, hZ, hown, hC.trans (CHr.ext E hC.1), N, K.ext E, O.ext E, fun y hy => by
    rcases List.mem_cons.mp hy with rfl | hy
    · exact ⟨Safe.ext E hC.1 (Safe.new (Nat.le_refl _)), hlt⟩
    · exact ⟨Safe.ext E hC.1 (F y hy).1, Nat.lt_of_lt_of_le (F y hy).2 E.1⟩⟩
theorem Wk.here (W : Wk p l e R s m args below meth c Z EL n0 ws own sf T cells slots h) : At T m c below := by
  obtain ⟨_, _, _, X, _⟩ := W
  exact X.here
theorem Wk.n0le (W : Wk p l e R s m args below meth c Z EL n0 ws own sf T cells slots h) : n0 ≤ h.size := by
  obtain ⟨_, _, _, _, _, _, _, _, _, _, _, _, O, _⟩ := W
  exact O.1 ▸ O.2.1
theorem Wk.s0le (W : Wk p l e R s m args below meth c Z EL n0 ws own sf T cells slots h) : s.heap.size ≤ h.size := by
  obtain ⟨_, _, _, _, _, _, _, _, _, _, _, K, _, _⟩ := W
  exact K.1
theorem Wk.old (W : Wk p l e R s m args below meth c Z EL n0 ws own sf T cells slots h) : Old Z n0 h := by
  obtain ⟨_, _, _, _, _, _, _, _, _, _, _, _, O, _⟩ := W
  exact O
theorem Wk.more (W : Wk p l e R s m args below meth c Z EL n0 ws own sf T cells slots h) {cells' slots' : Nat} (hc : cells ≤ cells') (hs : slots ≤ slots') : Wk p l e R s m args below meth c Z EL n0 ws own sf T cells' slots' h := by
  obtain ⟨vm0, locs, k0, X, r⟩ := W
  exact ⟨vm0, locs, k0, X.more hc hs, r⟩
theorem Wk.sub {sf' : List Addr} (W : Wk p l e R s m args below meth c Z EL n0 ws own sf T cells slots h) (hs : ∀ x ∈ sf', x ∈ sf) : Wk p l e R s m args below meth c Z EL n0 ws own sf' T cells slots h := by
  obtain ⟨vm0, locs, k0, X, eT, hS, hk, hZ, hown, hC, N, K, O, F⟩ := W
  exact ⟨vm0, locs, k0, X, eT, hS, hk, hZ, hown, hC, N, K, O, fun y hy => F y (hs y hy)⟩
/-! single steps -/
theorem Wk.getF (W : Wk p l e R s m args below meth c Z EL n0 ws own sf T cells slots h) (hx : p.tables.exec = Jvm.exec) {R0 O n d host : String} {index : Nat} (w : (Cond.fieldLink own index R0 n d).before a0 Z = true ∨ (Cond.fieldLinkNest own index R0 n d host).before a0 Z = true) (via : Via Z R0 O n d)
    (F : Fld Z h a O n d v) {g : JFrame} (hg : g.method = m) {rest : List Value} (hs : g.stack = .ref a :: rest) (hd : decode c.code g.pc = .ok (.getfield index, 3))
    (k : ∀ T', Wk p l e R s m args below meth c Z EL n0 ws own sf T' cells slots h → Go p e below Q (T'.setTop { g with pc := g.pc + 3, stack := v :: rest })) : Go p e below Q (T.setTop g) := by
  obtain ⟨vm0, locs, k0, X, eT, hS, hk, hZ, hown, r⟩ := W
  obtain ⟨T', X', e', st⟩ := RoadKit.getF X hx hZ hown w via eT F hg hs hd
  exact Go.of st (k T' ⟨vm0, locs, k0, X', e', hS, hk, hZ, hown, r⟩)
theorem Wk.getS (W : Wk p l e R s m args below meth c Z EL n0 ws own sf T cells slots h) (hx : p.tables.exec = Jvm.exec) {R0 O n d host : String} {index : Nat} (w : (Cond.fieldLink own index R0 n d).before a0 Z = true ∨ (Cond.fieldLinkNest own index R0 n d host).before a0 Z = true) (via : Via Z R0 O n d)
    (F : Sta Z Z.heap O n d v) {g : JFrame} (hg : g.method = m) (hd : decode c.code g.pc = .ok (.getstatic index, 3))
    (k : ∀ T', Wk p l e R s m args below meth c Z EL n0 ws own sf T' cells slots h → Go p e below Q (T'.setTop { g with pc := g.pc + 3, stack := v :: g.stack })) : Go p e below Q (T.setTop g) := by
  have F' := F.ext W.old.2
  obtain ⟨vm0, locs, k0, X, eT, hS, hk, hZ, hown, r⟩ := W
  obtain ⟨T', X', e', st⟩ := RoadKit.getS2 X hx hZ hown w via eT F' hg hd
  exact Go.of st (k T' ⟨vm0, locs, k0, X', e', hS, hk, hZ, hown, r⟩)
theorem Wk.castY (W : Wk p l e R s m args below meth c Z EL n0 ws own sf T cells slots h) (hx : p.tables.exec = Jvm.exec) {K : String} {index : Nat} (w : (Cond.classLink own index K).before a0 Z = true) (F : Ins Z h a K true) {g : JFrame} (hg : g.method = m) {rest : List Value} (hs : g.stack = .ref a :: rest) (hd : decode c.code g.pc = .ok (.checkcast index, 3))
    (k : ∀ T', Wk p l e R s m args below meth c Z EL n0 ws own sf T' cells slots h → Go p e below Q (T'.setTop { g with pc := g.pc + 3 })) : Go p e below Q (T.setTop g) := by
  obtain ⟨vm0, locs, k0, X, eT, hS, hk, hZ, hown, r⟩ := W
  obtain ⟨T', X', e', st⟩ := RoadKit.castY X hx hZ hown w eT F hg hs hd
  exact Go.of st (k T' ⟨vm0, locs, k0, X', e', hS, hk, hZ, hown, r⟩)
theorem Wk.instY (W : Wk p l e R s m args below meth c Z EL n0 ws own sf T cells slots h) (hx : p.tables.exec = Jvm.exec) {K : String} {index : Nat} (w : (Cond.classLink own index K).before a0 Z = true) (F : Ins Z h a K true) {g : JFrame} (hg : g.method = m) {rest : List Value} (hs : g.stack = .ref a :: rest) (hd : decode c.code g.pc = .ok (.instanceof index, 3))
    (k : ∀ T', Wk p l e R s m args below meth c Z EL n0 ws own sf T' cells slots h → Go p e below Q (T'.setTop { g with pc := g.pc + 3, stack := .int 1 :: rest })) : Go p e below Q (T.setTop g) := by
  obtain ⟨vm0, locs, k0, X, eT, hS, hk, hZ, hown, r⟩ := W
  obtain ⟨T', X', e', st⟩ := RoadKit.instY X hx hZ hown w eT F hg hs hd
  exact Go.of st (k T' ⟨vm0, locs, k0, X', e', hS, hk, hZ, hown, r⟩)
theorem Wk.instNo (W : Wk p l e R s m args below meth c Z EL n0 ws own sf T cells slots h) (hx : p.tables.exec = Jvm.exec) {K C : String} {index : Nat} (w : (Cond.classLink own index K).before a0 Z = true) (E : Exa Z h a C) (F : ∃ c t, Z.vm.findClass C = some c ∧ Z.vm.findClass K = some t ∧ Z.vm.assignable c t = false) {g : JFrame} (hg : g.method = m) {rest : List Value} (hs : g.stack = .ref a :: rest) (hd : decode c.code g.pc = .ok (.instanceof index, 3))
    (k : ∀ T', Wk p l e R s m args below meth c Z EL n0 ws own sf T' cells slots h → Go p e below Q (T'.setTop { g with pc := g.pc + 3, stack := .int 0 :: rest })) : Go p e below Q (T.setTop g) := by
  obtain ⟨vm0, locs, k0, X, eT, hS, hk, hZ, hown, r⟩ := W
  obtain ⟨T', X', e', st⟩ := RoadKit.instNo X hx hZ hown w eT E F hg hs hd
  exact Go.of st (k T' ⟨vm0, locs, k0, X', e', hS, hk, hZ, hown, r⟩)
theorem Wk.instNull (W : Wk p l e R s m args below meth c Z EL n0 ws own sf T cells slots h) (hx : p.tables.exec = Jvm.exec) {index : Nat} {g : JFrame} (hg : g.method = m) {rest : List Value} (hs : g.stack = .null :: rest) (hd : decode c.code g.pc = .ok (.instanceof index, 3))
    (k : Go p e below Q (T.setTop { g with pc := g.pc + 3, stack := .int 0 :: rest })) : Go p e below Q (T.setTop g) := by
  obtain ⟨vm0, locs, k0, X, eT, hS, hk, hZ, hown, r⟩ := W
  exact Go.of (X.instanceofNull hx hg hs hd) k
theorem Wk.initO (W : Wk p l e R s m args below meth c Z EL n0 ws own sf T cells slots h) (hx : p.tables.exec = Jvm.exec) {idx : Nat} (w1 : (Cond.methodLink own idx Lib.objectInit).before a0 Z = true) (w2 : (Cond.instanceMethod Lib.objectInit).before a0 Z = true)
    (w3 : (Cond.code Lib.objectInit ⟨#[0xb1]⟩ 1 none).before a0 Z = true) {g : JFrame} (hg : g.method = m) (hsize : g.locals.size = c.maxLocals) {rest : List Value} (hs : g.stack = .ref a :: rest) (hd : decode c.code g.pc = .ok (.invokespecial idx, 3))
    (hf : 1 ≤ R.frames) {Wd : Nat} (hW : 2 * g.monitorRoom + (rest.map fun v => v.category).sum ≤ Wd) (hl : Wd + 12 ≤ R.locals)
    (k : ∀ T', Wk p l e R s m args below meth c Z EL n0 ws own sf T' cells slots h → Go p e below Q (T'.setTop { g with pc := g.pc + 3, stack := rest })) : Go p e below Q (T.setTop g) := by
  obtain ⟨vm0, locs, k0, X, eT, hS, hk, hZ, hown, r⟩ := W
  obtain ⟨T', X', e', st⟩ := RoadKit.initO X hx hZ hown w1 w2 w3 eT hg hsize hs hd hf hW hl
  exact Go.of st (k T' ⟨vm0, locs, k0, X', e', hS, hk, hZ, hown, r⟩)
theorem Wk.newO (W : Wk p l e R s m args below meth c Z EL n0 ws own sf T cells slots h) (hx : p.tables.exec = Jvm.exec) {C : String} {index n : Nat} (w : (Cond.classLink own index C).before a0 Z = true) (wi : (Cond.instantiable C n).before a0 Z = true) (wz : (Cond.initialized C).before a0 Z = true)
    {g : JFrame} (hg : g.method = m) (hd : decode c.code g.pc = .ok (.new index, 3)) (hc : cells + 1 ≤ R.cells) (hl : slots + n ≤ R.slots)
    (k : ∀ T' h' b, b = h.size → n0 ≤ b ∧ s.heap.size ≤ b → Wk p l e R s m args below meth c Z EL n0 ws own (b :: sf) T' (cells + 1) (slots + n) h' → Keep h h' [] → Exa Z h' b C → (∀ {O nm d : String} {ty : FieldType}, Laid Z a0 C O nm d → parseFieldDescriptor d = some ty → Fld Z h' b O nm d (defaultValue ty)) →
      Go p e below Q (T'.setTop { g with pc := g.pc + 3, stack := .ref b :: g.stack })) : Go p e below Q (T.setTop g) := by
  have hle := W.n0le
  have hle' := W.s0le
  obtain ⟨vm0, locs, k0, X, eT, hS, hk, hZ, hown, hC, N, K, O, F⟩ := W
  obtain ⟨T', h', X', e', E, A, D, -, st⟩ := RoadKit.newO X hx hZ hown w wi wz eT hg hd hc hl
  exact Go.of st (k T' h' h.size rfl ⟨hle, hle'⟩ (wk_new X' e' E A.lt hS hk hZ hown hC N K O F) ((Keep.refl h []).ext E) A D)
theorem Wk.newP (W : Wk p l e R s m args below meth c Z EL n0 ws own sf T cells slots h) (hx : p.tables.exec = Jvm.exec) {aty : ArrayType} (w : (Cond.arrayClass (newarray.typeOf aty)).before a0 Z = true)
    {g : JFrame} (hg : g.method = m) (hd : decode c.code g.pc = .ok (.newarray aty, 2)) {n : Int32} {rest : List Value} (hs : g.stack = .int n :: rest)
    (hn : ¬ n < 0) {cap : Nat} (hcap : n.toNatClampNeg ≤ cap) (hb : cap * 8 ≤ 536870912) (hc : cells + 1 ≤ R.cells) (hl : slots + cap ≤ R.slots)
    (k : ∀ T' h' b kc, b = h.size → n0 ≤ b ∧ s.heap.size ≤ b → Wk p l e R s m args below meth c Z EL n0 ws own (b :: sf) T' (cells + 1) (slots + cap) h' → Keep h h' [] → Arv Z h' b kc (newarray.typeOf aty) n (List.replicate cap (defaultValue (newarray.typeOf aty))) (defaultValue (newarray.typeOf aty)) →
      Go p e below Q (T'.setTop { g with pc := g.pc + 2, stack := .ref b :: rest })) : Go p e below Q (T.setTop g) := by
  have hle := W.n0le
  have hle' := W.s0le
  obtain ⟨vm0, locs, k0, X, eT, hS, hk, hZ, hown, hC, N, K, O, F⟩ := W
  obtain ⟨T', h', kc, X', e', E, A, st⟩ := RoadKit.newP X hx hZ w eT hg hd hs hn hcap hb hc hl
  exact Go.of st (k T' h' h.size kc rfl ⟨hle, hle'⟩ (wk_new X' e' E A.lt hS hk hZ hown hC N K O F) ((Keep.refl h []).ext E) ((Arv.new A hn).pad (pad_rep [] _ cap)))
theorem Wk.putF (W : Wk p l e R s m args below meth c Z EL n0 ws own sf T cells slots h) (hx : p.tables.exec = Jvm.exec) {R0 O n d host C : String} {index kk : Nat} {ty : FieldType} (w : (Cond.fieldLink own index R0 n d).before a0 Z = true ∨ (Cond.fieldLinkNest own index R0 n d host).before a0 Z = true) (via : Via Z R0 O n d)
    {old : Value} (F : Fld Z h a O n d old) (E : Exa Z h a C) (L : (Cond.lays C O n d).before a0 Z = true ∨ ((Cond.laysFinal C O n d).before a0 Z = true ∧ own = O ∧ meth.name = "<init>")) (wi : (Cond.instantiable C kk).before a0 Z = true)
    (hty : parseFieldDescriptor d = some ty) (hn : narrow ty v = v) (hf : fits ty v = true) (ga : n0 ≤ a) (gw : a ∈ ws ∨ s.heap.size ≤ a) (sa : a ∈ sf ∨ (C ≠ "java/lang/String" ∧ C ≠ "[B")) {g : JFrame} (hg : g.method = m) {rest : List Value} (hs : g.stack = v :: .ref a :: rest) (hd : decode c.code g.pc = .ok (.putfield index, 3))
    (k : ∀ T' h', Wk p l e R s m args below meth c Z EL n0 ws own sf T' cells slots h' → Wr h h' a (RoadKit.slotOf Z O n d) v → Go p e below Q (T'.setTop { g with pc := g.pc + 3, stack := rest })) : Go p e below Q (T.setTop g) := by
  obtain ⟨vm0, locs, k0, X, eT, hS, hk, hZ, hown, hC, N, K, Ol, Fs⟩ := W
  have S : Safe Z EL vm0 h a := by
    rcases sa with q | ⟨q1, q2⟩
    · exact (Fs a q).1
    · exact Safe.exa hZ.alike E q1 q2
  obtain ⟨T', h', X', e', W', st⟩ := RoadKit.putF X hx hZ hown w via eT F E L wi hty hn hf hg hs hd
  exact Go.of st (k T' h' (wk_wr X' e' W' hS hk hZ hown hC N K Ol Fs S ga gw) W')
theorem Wk.stC (W : Wk p l e R s m args below meth c Z EL n0 ws own sf T cells slots h) (hx : p.tables.exec = Jvm.exec) {kc : ClassId} {z j y : Int32} {vs : List Value} {dv : Value} (V : Arv Z h a kc .char z vs dv) (hj : ¬ j < 0 ∧ j < z) (i : Nat) (hji : j.toNatClampNeg = i) (hi : i < vs.length) (ga : n0 ≤ a) (gw : a ∈ ws ∨ s.heap.size ≤ a)
    {g : JFrame} (hg : g.method = m) {rest : List Value} (hs : g.stack = .int y :: .int j :: .ref a :: rest) (hd : decode c.code g.pc = .ok (.castore, 1))
    (k : ∀ T' h', Wk p l e R s m args below meth c Z EL n0 ws own sf T' cells slots h' → Keep h h' [a] → Arv Z h' a kc .char z (vs.set i (.int (nar .char y))) dv → Go p e below Q (T'.setTop { g with pc := g.pc + 1, stack := rest })) : Go p e below Q (T.setTop g) := by
  obtain ⟨vm0, locs, k0, X, eT, hS, hk, hZ, hown, hC, N, K, Ol, Fs⟩ := W
  obtain ⟨cl, A, q1, S1, q3, H, G⟩ := V
  obtain ⟨T', h', X', e', W', st⟩ := RoadKit.stC X hx hZ eT A (j := j) (inb_of S1 hj) hg hs hd
  exact Go.of st (k T' h' (wk_wr X' e' W' hS hk hZ hown hC N K Ol Fs (Safe.arr hZ.alike A (by decide)) ga gw) (Keep.of_wr W') (Arv.set A q1 S1 q3 H G (fits_nar_char _) W' i hji hi))
theorem Wk.stB (W : Wk p l e R s m args below meth c Z EL n0 ws own sf T cells slots h) (hx : p.tables.exec = Jvm.exec) {kc : ClassId} {z j y : Int32} {vs : List Value} {dv : Value} (V : Arv Z h a kc .byte z vs dv) (hj : ¬ j < 0 ∧ j < z) (i : Nat) (hji : j.toNatClampNeg = i) (hi : i < vs.length) (ga : n0 ≤ a) (gw : a ∈ ws ∨ s.heap.size ≤ a) (sa : a ∈ sf)
    {g : JFrame} (hg : g.method = m) {rest : List Value} (hs : g.stack = .int y :: .int j :: .ref a :: rest) (hd : decode c.code g.pc = .ok (.bastore, 1))
    (k : ∀ T' h', Wk p l e R s m args below meth c Z EL n0 ws own sf T' cells slots h' → Keep h h' [a] → Arv Z h' a kc .byte z (vs.set i (.int (nar .byte y))) dv → Go p e below Q (T'.setTop { g with pc := g.pc + 1, stack := rest })) : Go p e below Q (T.setTop g) := by
  obtain ⟨vm0, locs, k0, X, eT, hS, hk, hZ, hown, hC, N, K, Ol, Fs⟩ := W
  obtain ⟨cl, A, q1, S1, q3, H, G⟩ := V
  obtain ⟨T', h', X', e', W', st⟩ := RoadKit.stB X hx hZ eT A (j := j) (inb_of S1 hj) hg hs hd
  exact Go.of st (k T' h' (wk_wr X' e' W' hS hk hZ hown hC N K Ol Fs (Fs a sa).1 ga gw) (Keep.of_wr W') (Arv.set A q1 S1 q3 H G (fits_nar_byte _) W' i hji hi))
theorem Wk.caload (W : Wk p l e R s m args below meth c Z EL n0 ws own sf T cells slots h) (hx : p.tables.exec = Jvm.exec) {kc : ClassId} {z j : Int32} {vs : List Value} {dv : Value} (V : Arv Z h a kc .char z vs dv) (hj : ¬ j < 0 ∧ j < z) (hv : vs.getD j.toNatClampNeg dv = v)
    {g : JFrame} (hg : g.method = m) {rest : List Value} (hs : g.stack = .int j :: .ref a :: rest) (hd : decode c.code g.pc = .ok (.caload, 1)) (k : Go p e below Q (T.setTop { g with pc := g.pc + 1, stack := v :: rest })) : Go p e below Q (T.setTop g) := by
  obtain ⟨vm0, locs, k0, X, eT, hS, hk, hZ, hown, r⟩ := W
  obtain ⟨cl, A, q1, S1, q3, H, G⟩ := V
  exact Go.of (fun t q => X.caload hx (by rw [eT]; exact A.1) (State.isArrayOf_alike hZ.alike A.2.1) A.2.2 (inb_of S1 hj) (H.at (inb_of S1 hj) hv) hg hs hd t q) k
theorem Wk.baload (W : Wk p l e R s m args below meth c Z EL n0 ws own sf T cells slots h) (hx : p.tables.exec = Jvm.exec) {kc : ClassId} {z j : Int32} {vs : List Value} {dv : Value} (V : Arv Z h a kc .byte z vs dv) (hj : ¬ j < 0 ∧ j < z) (hv : vs.getD j.toNatClampNeg dv = v)
    {g : JFrame} (hg : g.method = m) {rest : List Value} (hs : g.stack = .int j :: .ref a :: rest) (hd : decode c.code g.pc = .ok (.baload, 1)) (k : Go p e below Q (T.setTop { g with pc := g.pc + 1, stack := v :: rest })) : Go p e below Q (T.setTop g) := by
  obtain ⟨vm0, locs, k0, X, eT, hS, hk, hZ, hown, r⟩ := W
  obtain ⟨cl, A, q1, S1, q3, H, G⟩ := V
  exact Go.of (fun t q => X.baloadBytes hx (by rw [eT]; exact A.1) (State.isArrayOf_alike hZ.alike A.2.1) A.2.2 (inb_of S1 hj) (H.at (inb_of S1 hj) hv) hg hs hd t q) k
theorem Wk.alen (W : Wk p l e R s m args below meth c Z EL n0 ws own sf T cells slots h) (hx : p.tables.exec = Jvm.exec) {kc : ClassId} {z : Int32} {ty : FieldType} {vs : List Value} {dv : Value} (V : Arv Z h a kc ty z vs dv)
    {g : JFrame} (hg : g.method = m) {rest : List Value} (hs : g.stack = .ref a :: rest) (hd : decode c.code g.pc = .ok (.arraylength, 1)) (k : Go p e below Q (T.setTop { g with pc := g.pc + 1, stack := .int z :: rest })) : Go p e below Q (T.setTop g) := by
  obtain ⟨vm0, locs, k0, X, eT, hS, hk, hZ, hown, r⟩ := W
  obtain ⟨cl, A, q1, S1, q3, H, G⟩ := V
  exact Go.of (fun t q => X.arraylength hx (by rw [eT]; exact A.1) (State.isArrayOf_alike hZ.alike A.2.1) hg hs hd t (by rw [len_of S1 q3]; exact q)) k
theorem Wk.ldcI (W : Wk p l e R s m args below meth c Z EL n0 ws own sf T cells slots h) (hx : p.tables.exec = Jvm.exec) {index : Nat} {z : Int32} (w : (Cond.constant own index z).before a0 Z = true)
    {g : JFrame} (hg : g.method = m) (hd : decode c.code g.pc = .ok (.ldc index, 2)) (k : Go p e below Q (T.setTop { g with pc := g.pc + 2, stack := .int z :: g.stack })) : Go p e below Q (T.setTop g) := by
  obtain ⟨vm0, locs, k0, X, eT, hS, hk, hZ, hown, r⟩ := W
  exact Go.of (fun t q => X.ldcInt hx hown (mvT (s := s.setVm vm0) hZ w) hg hd t q) k
theorem Wk.ldcJ (W : Wk p l e R s m args below meth c Z EL n0 ws own sf T cells slots h) (hx : p.tables.exec = Jvm.exec) {index : Nat} {z : Int64} (w : (Cond.constantLong own index z).before a0 Z = true)
    {g : JFrame} (hg : g.method = m) (hd : decode c.code g.pc = .ok (.ldc2_w index, 3)) (k : Go p e below Q (T.setTop { g with pc := g.pc + 3, stack := .long z :: g.stack })) : Go p e below Q (T.setTop g) := by
  obtain ⟨vm0, locs, k0, X, eT, hS, hk, hZ, hown, r⟩ := W
  exact Go.of (fun t q => X.ldc2Long hx hown (mvT (s := s.setVm vm0) hZ w) hg hd t q) k
/-! String constants -/
theorem wk_tab {k1 : Nat} (X : Stand p l e R (s.setVm vm1) m args below meth c T' locs cells slots) (e' : T'.heap = h') (E : Keep h h' ws') (gws : ∀ x ∈ ws', n0 ≤ x ∧ (x ∈ ws ∨ s.heap.size ≤ x)) (hS : s.Since vm1 k1) (hk : k1 ≤ h'.size) (hZ : Z.Warmed39 vm1) (hown : vm1.findClass own = some m.cls) (A : CHr Z EL vm0 h vm1 h') (hC : CHr Z EL s.vm s.heap vm0 h) (N : Fr n0 locs) (K : Keep s.heap h ws) (O : Old Z n0 h)
    (F : ∀ x ∈ sf, Safe Z EL vm0 h x ∧ x < h.size) : Wk p l e R s m args below meth c Z EL n0 ws own sf T' cells slots h' :=
  ⟨vm1, locs, k1, X, e', hS, hk, hZ, hown, hC.trans A, N, K.trans E fun y hy => (gws y hy).2, O.keep E fun y hy => (gws y hy).1, fun y hy => ⟨CHr.safe A (F y hy).2 (F y hy).1, Nat.lt_of_lt_of_le (F y hy).2 E.1⟩⟩
theorem Wk.ldcO (W : Wk p l e R s m args below meth c Z EL n0 ws own sf T cells slots h) (hx : p.tables.exec = Jvm.exec) (hEL : EW Z a0 EL) {text : String} {index : Nat} (w : (Cond.stringLink own index text).before a0 Z = true) (wS : ∀ a ∈ Bundle.stringAtoms, a.before a0 Z = true)
    {g : JFrame} (hg : g.method = m) (hd : decode c.code g.pc = .ok (.ldc index, 2)) {n : Nat} (hn : 4 * text.toList.length ≤ n) (hbig : n ≤ 536870912) (hc : cells + 2 ≤ R.cells) (hl : slots + (n + 4) ≤ R.slots)
    (k : ∀ T' h' b, Wk p l e R s m args below meth c Z EL n0 ws own sf T' (cells + 2) (slots + (n + 4)) h' → Keep h h' [] → Go p e below Q (T'.setTop { g with pc := g.pc + 2, stack := .ref b :: g.stack })) : Go p e below Q (T.setTop g) := by
  obtain ⟨vm0, locs, k0, X, eT, hS, hk, hZ, hown, hC, N, K, Ol, Fs⟩ := W
  obtain ⟨b, T', h', k1, X', e', E, hS', hk', hZ', hown', A, -, st⟩ := ldcOH X hx hZ hown w wS eT hS hk hEL hC.1 hg hd hn hbig hc hl
  have K1 : Keep h h' [] := (Keep.refl h []).ext E
  exact Go.of st (k T' h' b (wk_tab X' e' K1 all0 hS' hk' hZ' hown' A hC N K Ol Fs) K1)
theorem Wk.ldcC (W : Wk p l e R s m args below meth c Z EL n0 ws own sf T cells slots h) (hx : p.tables.exec = Jvm.exec) (hEL : EW Z a0 EL) {text : String} {index : Nat} (hmem : (own, index) ∈ EL) (w : (Cond.stringLink own index text).before a0 Z = true) (wS : ∀ a ∈ Bundle.stringAtoms, a.before a0 Z = true)
    (vs : List Value) (z : Int32) (ht : (∀ c ∈ text.toList, c.toNat < 256) ∧ text.toList.map (fun c => Value.int (Jvm.Lit.byteI c.toNat.toUInt16)) = vs) (hz : ¬ z < 0) (hl : z.toNatClampNeg = vs.length)
    {g : JFrame} (hg : g.method = m) (hd : decode c.code g.pc = .ok (.ldc index, 2)) {n : Nat} (hn : 4 * text.toList.length ≤ n) (hbig : n ≤ 536870912) (hc : cells + 2 ≤ R.cells) (hsl : slots + (n + 4) ≤ R.slots)
    (k : ∀ T' h' b t kb, Wk p l e R s m args below meth c Z EL n0 ws own sf T' (cells + 2) (slots + (n + 4)) h' → Keep h h' [] → Exa Z h' b "java/lang/String" → Fld Z h' b "java/lang/String" "value" "[B" (.ref t) → Fld Z h' b "java/lang/String" "coder" "B" (.int 0) → Arv Z h' t kb .byte z vs (.int 0) → (∀ x ∈ sf, x ≠ b ∧ x ≠ t) → Go p e below Q (T'.setTop { g with pc := g.pc + 2, stack := .ref b :: g.stack })) : Go p e below Q (T.setTop g) := by
  obtain ⟨vm0, locs, k0, X, eT, hS, hk, hZ, hown, hC, N, K, Ol, Fs⟩ := W
  obtain ⟨b, T', h', k1, t, kb, X', e', E, hS', hk', hZ', hown', E1, F1, F2, A1, -, -, A, -, hne, st⟩ := ldcCH X hx hZ hown w wS eT hS hk hEL hmem hC.1 ht hz hl hg hd hn hbig hc hsl
  have K1 : Keep h h' [] := (Keep.refl h []).ext E
  exact Go.of st (k T' h' b t kb (wk_tab X' e' K1 all0 hS' hk' hZ' hown' A hC N K Ol Fs) K1 E1 F2 F1 A1 (fun x hx => hne x (CHr.safe A (Fs x hx).2 (Fs x hx).1)))
/-! contracts -/
def Met (l : Launch) (Z : State) (EL : List (String × Nat)) (n0 : Nat) (y : MethodName) (bytes : ByteArray) (maxL : Nat) (ret : Option FieldType) (wl : List Cond) (rm : Room) (as' : Array Value) (h : Heap) (ws sf : List Addr) (Qv : Option Value → Heap → Prop) : Prop :=
  MetFree l y (head1 (Cond.code y bytes maxL ret :: wl) rm) (fun a U => a = as' ∧ Z.Warmed39 U.vm ∧ U.heap = h ∧ CHv Z EL U.vm h ∧ ∀ x ∈ sf, Safe Z EL U.vm h x ∧ x < h.size) (fun _ _ _ _ _ => True)
    (fun _ U o U' => ∃ v L, o = .returned v ∧ (Qv v U'.heap ∧ Fr n0 L ∧ Keep h U'.heap ws) ∧ CHr Z EL U.vm U.heap U'.vm U'.heap ∧ ReturnedEndW U o U' L rm.cells rm.slots)
def Fend (Z : State) (EL : List (String × Nat)) (n0 : Nat) (s : State) (h : Heap) (ws : List Addr) (Qv : Option Value → Heap → Prop) (rm : Room) (o : Outcome) (t : State) : Prop :=
  ∃ v L, o = .returned v ∧ (Qv v t.heap ∧ Fr n0 L ∧ Keep h t.heap ws) ∧ CHr Z EL s.vm s.heap t.vm t.heap ∧ ReturnedEndW s o t L rm.cells rm.slots
variable {y : MethodName} {bytes : ByteArray} {maxL : Nat} {ret : Option FieldType} {wl : List Cond} {rm : Room} {as' : Array Value} {Qv : Option Value → Heap → Prop}
theorem Met.of (hy : plainFor y = true) (O : Old Z n0 h) (body : ∀ (p : Program) (e : Env) (s : State) (m : MethodId) (below : List Frame) (meth : Method) (c : Code) (T : State), p.tables.exec = Jvm.exec → c.code = bytes → c.maxLocals = maxL → meth.sig.returnType = ret → meth.locks = false → meth.name = y.name → s.heap = h →
      Wk p l e rm s m as' below meth c Z EL n0 ws y.cls sf T 0 0 h → Go p e below (Fend Z EL n0 s h ws Qv rm) (T.setTop (entryFrame m as' maxL))) : Met l Z EL n0 y bytes maxL ret wl rm as' h ws sf Qv := by
  refine MetFree.of_bodySF hy hisR ?_
  intro p e s m args below meth c s₁ Bd hml0 hP hK
  obtain ⟨rfl, hZ, hh, hC, hF⟩ := hP
  subst hh
  have e0 : s₁.heap = s.heap := by rw [Bd.state]; rfl
  have hown := findClass_of_methodNamed Bd.named
  have X0 : Stand p l e rm s m args below meth c s₁ [] 0 0 := Stand.of_body Bd
  obtain ⟨s₂, o, st, r1, r2, q⟩ := body p e s m below meth c s₁ Bd.exec Bd.bytes hml0 Bd.returns Bd.notSynchronized (name_of_methodNamed Bd.named Bd.method).1 rfl ⟨s.vm, [], 0, X0, e0, (State.WarmedH.refl s).since 0, Nat.zero_le _, hZ, hown, CHr.refl hC, Fr.nil n0, Keep.refl _ _, O, hF⟩
  exact ⟨s₂, o, st, r1, r2, q⟩
theorem Wk.fin {g : JFrame} (W : Wk p l e rm s m args below meth c Z EL n0 ws own sf T cells slots h') (hEL : EW Z a0 EL) (hs : s.heap = h) (hlk : meth.locks = false) (hc : cells ≤ rm.cells) (hl : slots ≤ rm.slots) {w : Option Value} (hv : meth.sig.returnType = none → w = none) (hq : Qv w h')
    (k : ∀ (vm0 : Vm) (locs : List Loc) (fs : List Frame), Stand p l e rm (s.setVm vm0) m args below meth c T locs cells slots → (∀ (f : JFrame) (acts : List Action), f.method = m → f.locked = none → f.entered = [] → (doReturn e (T.setTop f) acts w).1 = T.setFrames fs) → Steps p.tables e below (T.setTop g) (T.setFrames fs)) : Go p e below (Fend Z EL n0 s h ws Qv rm) (T.setTop g) := by
  obtain ⟨vm0, locs, k0, X, eT, hS, hk, hZ, hown, hC, N, K, Ol, Fs⟩ := W
  subst hs eT
  obtain ⟨fs, hr, hrun, hended, q1, q2, q3, q4⟩ := X.leaveW hS hk hv hlk
  refine ⟨T.setFrames fs, .returned w, k vm0 locs fs X hr, hrun, hended, w, locs, rfl, ⟨hq, N, K⟩, (show CHr Z EL s.vm s.heap T.vm T.heap from hC.trans (CHv.at X hZ hEL hC.1)), q1, q2, q3, q4.mono hc hl⟩
theorem Wk.retG (W : Wk p l e rm s m args below meth c Z EL n0 ws own sf T cells slots h') (hx : p.tables.exec = Jvm.exec) (hEL : EW Z a0 EL) (hs : s.heap = h) (hlk : meth.locks = false) (hc : cells ≤ rm.cells) (hl : slots ≤ rm.slots) {pc : Nat} {Ls : Array Slot} {w : Value} {t : FieldType} {i : Instr} {rest : List Value} (hret : meth.sig.returnType = some t) (hn : narrow t w = w)
    (hi : (i = .ireturn ∧ (t = .int ∨ t = .boolean ∨ t = .byte ∨ t = .char ∨ t = .short) ∧ ∃ z, w = .int z) ∨ (i = .lreturn ∧ t = .long ∧ ∃ z, w = .long z) ∨ (i = .dreturn ∧ t = .double ∧ ∃ z, w = .double z) ∨ (i = .freturn ∧ t = .float ∧ ∃ z, w = .float z) ∨ (i = .areturn ∧ t.isReference = true ∧ w.isRef = true))
    (hd : decode c.code pc = .ok (i, 1)) (hq : Qv (some w) h') : Go p e below (Fend Z EL n0 s h ws Qv rm) (T.setTop (mkF m pc Ls (w :: rest))) :=
  W.fin hEL hs hlk hc hl (w := some w) (fun q => by rw [hret] at q; cases q) hq (fun vm0 locs fs X hr => RoadKit.retOut X hx hret hn hi hd hr)
theorem Wk.retI (W : Wk p l e rm s m args below meth c Z EL n0 ws own sf T cells slots h') (hx : p.tables.exec = Jvm.exec) (hEL : EW Z a0 EL) (hs : s.heap = h) (hlk : meth.locks = false) (hc : cells ≤ rm.cells) (hl : slots ≤ rm.slots) {pc : Nat} {Ls : Array Slot} {w : Int32} {t : FieldType} {rest : List Value} (hret : meth.sig.returnType = some t) (ht : t = .int ∨ t = .boolean ∨ t = .byte ∨ t = .char ∨ t = .short) (hn : narrow t (.int w) = .int w)
    (hd : decode c.code pc = .ok (.ireturn, 1)) (hq : Qv (some (.int w)) h') : Go p e below (Fend Z EL n0 s h ws Qv rm) (T.setTop (mkF m pc Ls (.int w :: rest))) :=
  W.retG hx hEL hs hlk hc hl hret hn (Or.inl ⟨rfl, ht, w, rfl⟩) hd hq
theorem Wk.retA (W : Wk p l e rm s m args below meth c Z EL n0 ws own sf T cells slots h') (hx : p.tables.exec = Jvm.exec) (hEL : EW Z a0 EL) (hs : s.heap = h) (hlk : meth.locks = false) (hc : cells ≤ rm.cells) (hl : slots ≤ rm.slots) {pc : Nat} {Ls : Array Slot} {w : Value} {t : FieldType} {rest : List Value} (hret : meth.sig.returnType = some t) (ht : t.isReference = true) (hw : w.isRef = true)
    (hd : decode c.code pc = .ok (.areturn, 1)) (hq : Qv (some w) h') : Go p e below (Fend Z EL n0 s h ws Qv rm) (T.setTop (mkF m pc Ls (w :: rest))) :=
  W.retG hx hEL hs hlk hc hl hret (by cases t <;> cases w <;> first | rfl | cases ht | cases hw) (Or.inr (Or.inr (Or.inr (Or.inr ⟨rfl, ht, hw⟩)))) hd hq
theorem Wk.retL (W : Wk p l e rm s m args below meth c Z EL n0 ws own sf T cells slots h') (hx : p.tables.exec = Jvm.exec) (hEL : EW Z a0 EL) (hs : s.heap = h) (hlk : meth.locks = false) (hc : cells ≤ rm.cells) (hl : slots ≤ rm.slots) {pc : Nat} {Ls : Array Slot} {w : Int64} {rest : List Value} (hret : meth.sig.returnType = some .long)
    (hd : decode c.code pc = .ok (.lreturn, 1)) (hq : Qv (some (.long w)) h') : Go p e below (Fend Z EL n0 s h ws Qv rm) (T.setTop (mkF m pc Ls (.long w :: rest))) :=
  W.retG hx hEL hs hlk hc hl hret rfl (Or.inr (Or.inl ⟨rfl, rfl, w, rfl⟩)) hd hq
theorem Wk.retV (W : Wk p l e rm s m args below meth c Z EL n0 ws own sf T cells slots h') (hx : p.tables.exec = Jvm.exec) (hEL : EW Z a0 EL) (hs : s.heap = h) (hlk : meth.locks = false) (hc : cells ≤ rm.cells) (hl : slots ≤ rm.slots) {pc : Nat} {Ls : Array Slot} (hret : meth.sig.returnType = none)
    (hd : decode c.code pc = .ok (.return_, 1)) (hq : Qv none h') : Go p e below (Fend Z EL n0 s h ws Qv rm) (T.setTop (mkF m pc Ls [])) :=
  W.fin hEL hs hlk hc hl (w := none) (fun _ => rfl) hq (fun vm0 locs fs X hr => X.returnOut hx hret hd hr)
/-! calls of what has a contract -/
theorem wk_call {U : State} {L : List Loc} {rcells rslots : Nat} (X : Stand p l e R (s.setVm vm0) m args below meth c T locs cells slots) (X' : Stand p l e R ((s.setVm vm0).setVm U.vm) m args below meth c U (locs ++ L) (cells + rcells) (slots + rslots)) (hS' : (s.setVm vm0).Since U.vm U.heap.size) (hle : T.heap.size ≤ U.heap.size) (eT : T.heap = h) (N' : Fr n0 L) (K' : Keep h U.heap ws') (A : CHr Z EL vm0 h U.vm U.heap) (gws : ∀ x ∈ ws', n0 ≤ x ∧ (x ∈ ws ∨ s.heap.size ≤ x))
    (hS : s.Since vm0 k0) (hk : k0 ≤ h.size) (hZ : Z.Warmed39 vm0) (hown : vm0.findClass own = some m.cls) (hC : CHr Z EL s.vm s.heap vm0 h) (N : Fr n0 locs) (K : Keep s.heap h ws) (O : Old Z n0 h) (F : ∀ x ∈ sf, Safe Z EL vm0 h x ∧ x < h.size) : Wk p l e R s m args below meth c Z EL n0 ws own sf U (cells + rcells) (slots + rslots) U.heap :=
  wk_tab (T' := U) (h' := U.heap) (vm1 := U.vm) (locs := locs ++ L) X' rfl K' gws (hS.trans hS' (Nat.le_trans hk (eT ▸ hle))) (Nat.le_refl _) (State.Warmed39.trans (t := s.setVm vm0) hZ hS'.1) ((hS'.1.alike.findClass _ _).trans hown) A hC (N.app N') K O F
theorem Met.pay {sf' : List Addr} {len Wd : Nat} (M : Met l Z EL n0 y bytes maxL ret [] rm as' h ws' sf' Qv) (hZ : Z.Warmed39 vm0) (wc : (Cond.code y bytes maxL ret).before a0 Z = true) (wz : (Cond.initialized y.cls).before a0 Z = true) (hf : rm.frames + 1 ≤ R.frames) (hl : Wd + (maxL + 11) + rm.locals ≤ R.locals) (hEL : EW Z a0 EL) (H : CHv Z EL vm0 h) (HS : ∀ x ∈ sf', Safe Z EL vm0 h x ∧ x < h.size) :
    BackS l R p e below (s.setVm vm0) args y len Wd (fun A a => a = as' ∧ A.U.heap = h ∧ A.cells + rm.cells ≤ R.cells ∧ A.slots + rm.slots ≤ R.slots)
      (fun A _ v B => ∃ L, (Qv v B.U.heap ∧ Fr n0 L ∧ Keep h B.U.heap ws') ∧ B.locs = A.locs ++ L ∧ B.cells = A.cells + rm.cells ∧ B.slots = A.slots + rm.slots ∧ CHr Z EL vm0 h B.U.vm B.U.heap) := by
  refine BackS.of_freeW (bytes := bytes) (maxL := maxL) (ret := ret) (E := fun _ first o t L k n => k = rm.cells ∧ n = rm.slots ∧ (∃ v, o = .returned v ∧ (Qv v t.heap ∧ Fr n0 L ∧ Keep h t.heap ws')) ∧ CHr Z EL first.vm first.heap t.vm t.heap) M hf hl ?_ ?_ (fun _ _ _ _ _ _ _ _ _ => trivial) ?_ ?_
  · intro m meth c A a Y hp
    have hU : Z.Warmed39 A.U.vm := wtrans (s := s.setVm vm0) hZ Y.warmed
    exact ⟨by show (Cond.and _ .tt).before a A.U = true; rw [Cond.before_and, mv hU wc]; rfl, mv hU wc, mv hU wz, hp.2.2.1, hp.2.2.2⟩
  · intro m meth c A a g mk Y hp
    have C0 := CHv.at Y hZ hEL H
    exact ⟨hp.1, wtrans (s := s.setVm vm0) hZ Y.warmed, hp.2.1, C0.1, fun x hx => ⟨C0.safe (HS x hx).2 (HS x hx).1, (HS x hx).2⟩⟩
  · rintro _ _ _ _ ⟨v, L, h1, h2, h3, h4⟩
    exact ⟨L, _, _, h4, rfl, rfl, ⟨v, h1, h2⟩, h3⟩
  · rintro m meth c A a g mk v t L k n Y hp _ _ ⟨e1, e2, ⟨v', e3, e4⟩, e5⟩
    cases e3; subst e1 e2
    refine ⟨L, e4, rfl, rfl, rfl, (CHv.at Y hZ hEL H).trans ?_⟩
    rw [← hp.2.1]; exact e5
theorem Wk.callS (W : Wk p l e R s m args below meth c Z EL n0 ws own sf T cells slots h) (hx : p.tables.exec = Jvm.exec) (hEL : EW Z a0 EL) {index : Nat} (w1 : (Cond.methodLink own index y).before a0 Z = true) (w2 : (Cond.static y).before a0 Z = true) (w3 : (Cond.initialized y.cls).before a0 Z = true) (w4 : (Cond.code y bytes maxL ret).before a0 Z = true)
    (hy : y.cls ≠ "java/lang/invoke/MethodHandle" ∧ y.cls ≠ "java/lang/invoke/VarHandle") {argsL rest : List Value} {sf' : List Addr} (M : Met l Z EL n0 y bytes maxL ret [] rm argsL.toArray h ws' sf' Qv) (hsf : ∀ x ∈ sf', x ∈ sf) (hf : rm.frames + 1 ≤ R.frames) {Wd : Nat} (hl : Wd + (maxL + 11) + rm.locals ≤ R.locals) (hc : cells + rm.cells ≤ R.cells) (hsl : slots + rm.slots ≤ R.slots)
    (gws : ∀ x ∈ ws', n0 ≤ x ∧ (x ∈ ws ∨ s.heap.size ≤ x)) {g : JFrame} (hg : g.method = m) (hsize : g.locals.size = c.maxLocals) (hlen : ∀ sig, parseMethodDescriptor y.desc = some sig → argsL.length = sig.parameters.length) (hstack : g.stack = argsL.reverse ++ rest) (hW : 2 * g.monitorRoom + (rest.map fun v => v.category).sum ≤ Wd)
    (hd : decode c.code g.pc = .ok (.invokestatic index, 3)) (k : ∀ T' h' v, Wk p l e R s m args below meth c Z EL n0 ws own sf T' (cells + rm.cells) (slots + rm.slots) h' → Keep h h' ws' → Qv v h' → Go p e below Q (T'.setTop { g with pc := g.pc + 3, stack := v.toList ++ rest })) : Go p e below Q (T.setTop g) := by
  obtain ⟨vm0, locs, k0, X, eT, hS, hk, hZ, hown, hC, N, K, Ol, Fs⟩ := W
  obtain ⟨v, vm₁, ⟨U, Lb, kb, nb⟩, hw, X', hS', hle, ⟨L, ⟨q, N', K'⟩, e1, e2, e3, A⟩, st⟩ := callSS X hx hown (mvT (s := s.setVm vm0) hZ w1) (mvT (s := s.setVm vm0) hZ w2) (mvT (s := s.setVm vm0) hZ w3) (mvT (s := s.setVm vm0) hZ w4) hy (Met.pay (s := s) (Wd := Wd) M hZ w4 w3 hf hl hEL hC.1 (fun x hx => Fs x (hsf x hx))) hg hsize hlen hstack hW hd (fun _ _ => ⟨rfl, eT, hc, hsl⟩)
  dsimp only [Pt.U, Pt.locs, Pt.cells, Pt.slots] at X' hS' hle q K' e1 e2 e3 A st
  subst e1 e2 e3
  exact Go.on st (k U U.heap v (wk_call X X' hS' hle eT N' K' A gws hS hk hZ hown hC N K Ol Fs) K' q)
theorem Wk.callP (W : Wk p l e R s m args below meth c Z EL n0 ws own sf T cells slots h) (hx : p.tables.exec = Jvm.exec) (hEL : EW Z a0 EL) {index : Nat} (hy1 : y.name = "<init>") (w1 : (Cond.methodLink own index y).before a0 Z = true) (w2 : (Cond.instanceMethod y).before a0 Z = true) (w3 : (Cond.initialized y.cls).before a0 Z = true) (w4 : (Cond.code y bytes maxL none).before a0 Z = true)
    (hy : y.cls ≠ "java/lang/invoke/MethodHandle" ∧ y.cls ≠ "java/lang/invoke/VarHandle") {argsL rest : List Value} {sf' : List Addr} (M : Met l Z EL n0 y bytes maxL none [] rm (.ref a :: argsL).toArray h ws' sf' Qv) (hsf : ∀ x ∈ sf', x ∈ sf) (hf : rm.frames + 1 ≤ R.frames) {Wd : Nat} (hl : Wd + (maxL + 11) + rm.locals ≤ R.locals) (hc : cells + rm.cells ≤ R.cells) (hsl : slots + rm.slots ≤ R.slots)
    (gws : ∀ x ∈ ws', n0 ≤ x ∧ (x ∈ ws ∨ s.heap.size ≤ x)) {g : JFrame} (hg : g.method = m) (hsize : g.locals.size = c.maxLocals) (hlen : ∀ sig, parseMethodDescriptor y.desc = some sig → argsL.length = sig.parameters.length) (hstack : g.stack = argsL.reverse ++ .ref a :: rest) (hW : 2 * g.monitorRoom + (rest.map fun v => v.category).sum ≤ Wd)
    (hd : decode c.code g.pc = .ok (.invokespecial index, 3)) (k : ∀ T' h' v, Wk p l e R s m args below meth c Z EL n0 ws own sf T' (cells + rm.cells) (slots + rm.slots) h' → Keep h h' ws' → Qv v h' → Go p e below Q (T'.setTop { g with pc := g.pc + 3, stack := v.toList ++ rest })) : Go p e below Q (T.setTop g) := by
  obtain ⟨vm0, locs, k0, X, eT, hS, hk, hZ, hown, hC, N, K, Ol, Fs⟩ := W
  obtain ⟨v, vm₁, ⟨U, Lb, kb, nb⟩, hw, X', hS', hle, ⟨L, ⟨q, N', K'⟩, e1, e2, e3, A⟩, st⟩ := X.specialBackS hx hy1 hown (mvT (s := s.setVm vm0) hZ w1) (mvT (s := s.setVm vm0) hZ w2) (mvT (s := s.setVm vm0) hZ w4) hy (Met.pay (s := s) (Wd := Wd) M hZ w4 w3 hf hl hEL hC.1 (fun x hx => Fs x (hsf x hx))) hg hsize (Steps.refl _) hlen hstack hW hd (fun _ _ => ⟨rfl, eT, hc, hsl⟩)
  dsimp only [Pt.U, Pt.locs, Pt.cells, Pt.slots] at X' hS' hle q K' e1 e2 e3 A st
  subst e1 e2 e3
  exact Go.on st (k U U.heap v (wk_call X X' hS' hle eT N' K' A gws hS hk hZ hown hC N K Ol Fs) K' q)
theorem Wk.callV (W : Wk p l e R s m args below meth c Z EL n0 ws own sf T cells slots h) (hx : p.tables.exec = Jvm.exec) (hEL : EW Z a0 EL) {index : Nat} {C : String} (w1 : (Cond.methodLink own index y).before a0 Z = true) (w2 : (Cond.declares y).before a0 Z = true) (w5 : (Cond.selects C y y).before a0 Z = true) (w6 : (Cond.instanceMethod y).before a0 Z = true) (w3 : (Cond.initialized y.cls).before a0 Z = true) (w4 : (Cond.code y bytes maxL ret).before a0 Z = true)
    (hy : y.cls ≠ "java/lang/invoke/MethodHandle" ∧ y.cls ≠ "java/lang/invoke/VarHandle") (Ea : Exa Z h a C) {argsL rest : List Value} {sf' : List Addr} (M : Met l Z EL n0 y bytes maxL ret [] rm (.ref a :: argsL).toArray h ws' sf' Qv) (hsf : ∀ x ∈ sf', x ∈ sf) (hf : rm.frames + 1 ≤ R.frames) {Wd : Nat} (hl : Wd + (maxL + 11) + rm.locals ≤ R.locals) (hc : cells + rm.cells ≤ R.cells) (hsl : slots + rm.slots ≤ R.slots)
    (gws : ∀ x ∈ ws', n0 ≤ x ∧ (x ∈ ws ∨ s.heap.size ≤ x)) {g : JFrame} (hg : g.method = m) (hsize : g.locals.size = c.maxLocals) (hlen : ∀ sig, parseMethodDescriptor y.desc = some sig → argsL.length = sig.parameters.length) (hstack : g.stack = argsL.reverse ++ .ref a :: rest) (hW : 2 * g.monitorRoom + (rest.map fun v => v.category).sum ≤ Wd)
    (hd : decode c.code g.pc = .ok (.invokevirtual index, 3)) (k : ∀ T' h' v, Wk p l e R s m args below meth c Z EL n0 ws own sf T' (cells + rm.cells) (slots + rm.slots) h' → Keep h h' ws' → Qv v h' → Go p e below Q (T'.setTop { g with pc := g.pc + 3, stack := v.toList ++ rest })) : Go p e below Q (T.setTop g) := by
  obtain ⟨vm0, locs, k0, X, eT, hS, hk, hZ, hown, hC, N, K, Ol, Fs⟩ := W
  obtain ⟨cB, kB, qa, qb, qc⟩ := isOf (s := s.setVm vm0) hZ eT Ea
  obtain ⟨v, vm₁, ⟨U, Lb, kb, nb⟩, hw, X', hS', hle, ⟨L, ⟨q, N', K'⟩, e1, e2, e3, A⟩, st⟩ := X.virtualBackS hx (z := y) hown (mvT (s := s.setVm vm0) hZ w1) (mvT (s := s.setVm vm0) hZ w2) (notFace_of_selects (args := #[]) (mvT (s := s.setVm vm0) hZ w5)) (mvT (s := s.setVm vm0) hZ w5) (mvT (s := s.setVm vm0) hZ w6) hy (Met.pay (s := s) (Wd := Wd) M hZ w4 w3 hf hl hEL hC.1 (fun x hx => Fs x (hsf x hx))) qa qc hg hsize (Steps.refl _) hlen hstack hW hd (fun _ _ => ⟨rfl, eT, hc, hsl⟩)
  dsimp only [Pt.U, Pt.locs, Pt.cells, Pt.slots] at X' hS' hle q K' e1 e2 e3 A st
  subst e1 e2 e3
  exact Go.on st (k U U.heap v (wk_call X X' hS' hle eT N' K' A gws hS hk hZ hown hC N K Ol Fs) K' q)
/-! calls that a law of the JDK pays -/
theorem wk_keep (X : Stand p l e R (s.setVm vm0) m args below meth c T' locs cells slots) (e' : T'.heap = h') (E : Keep h h' ws') (gws : ∀ x ∈ ws', n0 ≤ x ∧ (x ∈ ws ∨ s.heap.size ≤ x)) (sws : ∀ x ∈ ws', x ∈ sf) (hS : s.Since vm0 k0) (hk : k0 ≤ h.size) (hZ : Z.Warmed39 vm0) (hown : vm0.findClass own = some m.cls) (hC : CHr Z EL s.vm s.heap vm0 h) (N : Fr n0 locs) (K : Keep s.heap h ws) (O : Old Z n0 h)
    (F : ∀ x ∈ sf, Safe Z EL vm0 h x ∧ x < h.size) : Wk p l e R s m args below meth c Z EL n0 ws own sf T' cells slots h' :=
  wk_tab X e' E gws hS (Nat.le_trans hk E.1) hZ hown (CHr.keep E (fun y hy => (F y (sws y hy)).1) hC.1) hC N K O F
variable {Q1 : Option Value → Heap → List Loc → Prop} {kk nn : Nat}
theorem Wk.specB (W : Wk p l e R s m args below meth c Z EL n0 ws own sf T cells slots h) (hx : p.tables.exec = Jvm.exec) {index : Nat} (hy1 : y.name = "<init>") (w1 : (Cond.methodLink own index y).before a0 Z = true) (w2 : (Cond.instanceMethod y).before a0 Z = true) (w4 : (Cond.code y bytes maxL none).before a0 Z = true)
    (hy : y.cls ≠ "java/lang/invoke/MethodHandle" ∧ y.cls ≠ "java/lang/invoke/VarHandle") {argsL rest : List Value} {Wd : Nat} (hK : ∀ s' : State, Z.Warmed39 s'.vm → Back l R p e below s' args y 3 Wd (fun A as => as = (.ref a :: argsL).toArray ∧ A.U.heap = h ∧ A.cells + kk ≤ R.cells ∧ A.slots + nn ≤ R.slots) (fun A _ v B => ∃ L, Q1 v B.U.heap L ∧ B.locs = A.locs ++ L ∧ B.cells = A.cells + kk ∧ B.slots = A.slots + nn))
    (hq : ∀ v h' L, Q1 v h' L → Fr n0 L ∧ Keep h h' ws' ∧ Qv v h') (hc : cells + kk ≤ R.cells) (hsl : slots + nn ≤ R.slots)
    (gws : ∀ x ∈ ws', n0 ≤ x ∧ (x ∈ ws ∨ s.heap.size ≤ x)) (sws : ∀ x ∈ ws', x ∈ sf) {g : JFrame} (hg : g.method = m) (hsize : g.locals.size = c.maxLocals) (hlen : ∀ sig, parseMethodDescriptor y.desc = some sig → argsL.length = sig.parameters.length) (hstack : g.stack = argsL.reverse ++ .ref a :: rest) (hW : 2 * g.monitorRoom + (rest.map fun v => v.category).sum ≤ Wd)
    (hd : decode c.code g.pc = .ok (.invokespecial index, 3)) (k : ∀ T' h' v, Wk p l e R s m args below meth c Z EL n0 ws own sf T' (cells + kk) (slots + nn) h' → Keep h h' ws' → Qv v h' → Go p e below Q (T'.setTop { g with pc := g.pc + 3, stack := v.toList ++ rest })) : Go p e below Q (T.setTop g) := by
  obtain ⟨vm0, locs, k0, X, eT, hS, hk, hZ, hown, hC, N, K, Ol, Fs⟩ := W
  obtain ⟨v, vm₁, ⟨U, Lb, kb, nb⟩, hw, X', ⟨L, q, e1, e2, e3⟩, st⟩ := X.specialBack hx hy1 hown (mvT (s := s.setVm vm0) hZ w1) (mvT (s := s.setVm vm0) hZ w2) (mvT (s := s.setVm vm0) hZ w4) hy (hK (s.setVm vm0) hZ) hg hsize (Steps.refl _) hlen hstack hW hd (fun _ _ => ⟨rfl, eT, hc, hsl⟩)
  dsimp only [Pt.U, Pt.locs, Pt.cells, Pt.slots] at X' q e1 e2 e3 st
  subst e1 e2 e3
  obtain ⟨N', K', q'⟩ := hq _ _ _ q
  exact Go.on st (k U U.heap v (wk_keep X' rfl K' gws sws hS hk hZ hown hC (N.app N') K Ol Fs) K' q')
theorem Wk.virtB (W : Wk p l e R s m args below meth c Z EL n0 ws own sf T cells slots h) (hx : p.tables.exec = Jvm.exec) {index : Nat} {C : String} (w1 : (Cond.methodLink own index y).before a0 Z = true) (w2 : (Cond.declares y).before a0 Z = true) (w5 : (Cond.selects C y y).before a0 Z = true) (w6 : (Cond.instanceMethod y).before a0 Z = true)
    (hy : y.cls ≠ "java/lang/invoke/MethodHandle" ∧ y.cls ≠ "java/lang/invoke/VarHandle") (Ea : Exa Z h a C) {argsL rest : List Value} {Wd : Nat} (hK : ∀ s' : State, Z.Warmed39 s'.vm → Back l R p e below s' args y 3 Wd (fun A as => as = (.ref a :: argsL).toArray ∧ A.U.heap = h ∧ A.cells + kk ≤ R.cells ∧ A.slots + nn ≤ R.slots) (fun A _ v B => ∃ L, Q1 v B.U.heap L ∧ B.locs = A.locs ++ L ∧ B.cells = A.cells + kk ∧ B.slots = A.slots + nn))
    (hq : ∀ v h' L, Q1 v h' L → Fr n0 L ∧ Keep h h' ws' ∧ Qv v h') (hc : cells + kk ≤ R.cells) (hsl : slots + nn ≤ R.slots)
    (gws : ∀ x ∈ ws', n0 ≤ x ∧ (x ∈ ws ∨ s.heap.size ≤ x)) (sws : ∀ x ∈ ws', x ∈ sf) {g : JFrame} (hg : g.method = m) (hsize : g.locals.size = c.maxLocals) (hlen : ∀ sig, parseMethodDescriptor y.desc = some sig → argsL.length = sig.parameters.length) (hstack : g.stack = argsL.reverse ++ .ref a :: rest) (hW : 2 * g.monitorRoom + (rest.map fun v => v.category).sum ≤ Wd)
    (hd : decode c.code g.pc = .ok (.invokevirtual index, 3)) (k : ∀ T' h' v, Wk p l e R s m args below meth c Z EL n0 ws own sf T' (cells + kk) (slots + nn) h' → Keep h h' ws' → Qv v h' → Go p e below Q (T'.setTop { g with pc := g.pc + 3, stack := v.toList ++ rest })) : Go p e below Q (T.setTop g) := by
  obtain ⟨vm0, locs, k0, X, eT, hS, hk, hZ, hown, hC, N, K, Ol, Fs⟩ := W
  obtain ⟨cB, kB, qa, qb, qc⟩ := isOf (s := s.setVm vm0) hZ eT Ea
  obtain ⟨v, vm₁, ⟨U, Lb, kb, nb⟩, hw, X', ⟨L, q, e1, e2, e3⟩, st⟩ := X.virtualBack hx (z := y) hown (mvT (s := s.setVm vm0) hZ w1) (mvT (s := s.setVm vm0) hZ w2) (notFace_of_selects (args := #[]) (mvT (s := s.setVm vm0) hZ w5)) (mvT (s := s.setVm vm0) hZ w5) (mvT (s := s.setVm vm0) hZ w6) hy (hK (s.setVm vm0) hZ) qa qc hg hsize (Steps.refl _) hlen hstack hW hd (fun _ _ => ⟨rfl, eT, hc, hsl⟩)
  dsimp only [Pt.U, Pt.locs, Pt.cells, Pt.slots] at X' q e1 e2 e3 st
  subst e1 e2 e3
  obtain ⟨N', K', q'⟩ := hq _ _ _ q
  exact Go.on st (k U U.heap v (wk_keep X' rfl K' gws sws hS hk hZ hown hC (N.app N') K Ol Fs) K' q')
theorem Wk.cp (W : Wk p l e R s m args below meth c Z EL n0 ws own sf T cells slots h) (hx : p.tables.exec = Jvm.exec) {index : Nat} (w1 : (Cond.methodLink own index Jvm.Stand.acN).before a0 Z = true) (w2 : (Cond.native Jvm.Stand.acN).before a0 Z = true) (w3 : (Cond.static Jvm.Stand.acN).before a0 Z = true) (w4 : (Cond.initialized "java/lang/System").before a0 Z = true)
    {k1 k2 : ClassId} {ty : FieldType} {z z' sp dp nn : Int32} {vs vd us : List Value} {dv dd : Value} (A : Arv Z h a k1 ty z vs dv) (B : Arv Z h b k2 ty z' vd dd) (hty : refKind ty = false) (h1 : ¬ sp < 0) (h2 : ¬ dp < 0) (h3 : ¬ nn < 0) (h4 : sp.toNatClampNeg + nn.toNatClampNeg ≤ z.toNatClampNeg) (h5 : dp.toNatClampNeg + nn.toNatClampNeg ≤ z'.toNatClampNeg)
    (hus : us = (List.range nn.toNatClampNeg).map fun i => vs.getD (sp.toNatClampNeg + i) dv) (hl : dp.toNatClampNeg + nn.toNatClampNeg ≤ vd.length) (ga : n0 ≤ b) (gw : b ∈ ws ∨ s.heap.size ≤ b) (sb : b ∈ sf)
    {g : JFrame} (hg : g.method = m) (hsize : g.locals.size = c.maxLocals) {rest : List Value} (hs : g.stack = .int nn :: .int dp :: .ref b :: .int sp :: .ref a :: rest) (hd : decode c.code g.pc = .ok (.invokestatic index, 3))
    (hf : 1 ≤ R.frames) {Wd : Nat} (hW : 2 * g.monitorRoom + (rest.map fun v => v.category).sum ≤ Wd) (hlo : Wd + (nativeFrameWords "java/lang/System" "arraycopy" 5 + 11) ≤ R.locals)
    (k : ∀ T' h', Wk p l e R s m args below meth c Z EL n0 ws own sf T' cells slots h' → Keep h h' [b] → Arv Z h' b k2 ty z' (vd.take dp.toNatClampNeg ++ us ++ vd.drop (dp.toNatClampNeg + nn.toNatClampNeg)) dd → Go p e below Q (T'.setTop { g with pc := g.pc + 3, stack := rest })) : Go p e below Q (T.setTop g) := by
  obtain ⟨vm0, locs, k0, X, eT, hS, hk, hZ, hown, hC, N, K, Ol, Fs⟩ := W
  obtain ⟨T', h', L, X', e', N', K', A', st⟩ := RoadKit.cpA X hx hZ hown w1 w2 w3 w4 eT A B (Or.inl ⟨rfl, hty⟩) h1 h2 h3 h4 h5 hus hl N ga hg hsize hs hd hf hW hlo
  exact Go.of st (k T' h' (wk_keep X' e' K' (allS ⟨ga, gw⟩ all0) (allS sb all0) hS hk hZ hown hC N' K Ol Fs) K' A')
theorem Wk.aaload (W : Wk p l e R s m args below meth c Z EL n0 ws own sf T cells slots h) (hx : p.tables.exec = Jvm.exec) {kc : ClassId} {ty : FieldType} {z j : Int32} {vs : List Value} {dv : Value} (V : Arv Z h a kc ty z vs dv) (hty : ty.isReference = true) (hj : ¬ j < 0 ∧ j < z) (hv : vs.getD j.toNatClampNeg dv = v)
    {g : JFrame} (hg : g.method = m) {rest : List Value} (hs : g.stack = .int j :: .ref a :: rest) (hd : decode c.code g.pc = .ok (.aaload, 1)) (k : Go p e below Q (T.setTop { g with pc := g.pc + 1, stack := v :: rest })) : Go p e below Q (T.setTop g) := by
  obtain ⟨vm0, locs, k0, X, eT, hS, hk, hZ, hown, r⟩ := W
  obtain ⟨cl, A, q1, S1, q3, H, G⟩ := V
  exact Go.of (fun t q => X.aaload hx (by rw [eT]; exact A.1) (State.isArrayOf_alike hZ.alike A.2.1) hty A.2.2 (inb_of S1 hj) (H.at (inb_of S1 hj) hv) hg hs hd t q) k
theorem Wk.cloneV (W : Wk p l e R s m args below meth c Z EL n0 ws own sf T cells slots h) (hx : p.tables.exec = Jvm.exec) {ad : String} {index : Nat} (w1 : (Cond.methodLink own index ⟨ad, "clone", "()Ljava/lang/Object;"⟩).before a0 Z = true) (w2 : (Cond.sameMethod ad "java/lang/Object" "clone" "()Ljava/lang/Object;").before a0 Z = true) (w3 : (Cond.native ⟨"java/lang/Object", "clone", "()Ljava/lang/Object;"⟩).before a0 Z = true)
    (w4 : (Cond.instanceMethod ⟨"java/lang/Object", "clone", "()Ljava/lang/Object;"⟩).before a0 Z = true) (w5 : (Cond.selects ad ⟨ad, "clone", "()Ljava/lang/Object;"⟩ ⟨"java/lang/Object", "clone", "()Ljava/lang/Object;"⟩).before a0 Z = true) (w6 : (Cond.castable ad "java/lang/Cloneable").before a0 Z = true)
    {kc : ClassId} {ty : FieldType} {z : Int32} {vs : List Value} {dv : Value} (V : Arv Z h a kc ty z vs dv) (E : Exa Z h a ad) (F : ∀ cl : Cell, Arr Z h a cl ty → FitC Z cl) {g : JFrame} (hg : g.method = m) (hsize : g.locals.size = c.maxLocals) {rest : List Value} (hs : g.stack = .ref a :: rest) (hd : decode c.code g.pc = .ok (.invokevirtual index, 3))
    (hf : 1 ≤ R.frames) {Wd cap : Nat} (hW : 2 * g.monitorRoom + (rest.map fun v => v.category).sum ≤ Wd) (hl : Wd + 14 ≤ R.locals) (hcap : z.toNatClampNeg ≤ cap) (hc : cells + 1 ≤ R.cells) (hsl : slots + cap ≤ R.slots)
    (k : ∀ T' h' b, b = h.size → n0 ≤ b ∧ s.heap.size ≤ b → Wk p l e R s m args below meth c Z EL n0 ws own (b :: sf) T' (cells + 1) (slots + cap) h' → Keep h h' [] → Arv Z h' b kc ty z vs dv → Exa Z h' b ad → Go p e below Q (T'.setTop { g with pc := g.pc + 3, stack := .ref b :: rest })) : Go p e below Q (T.setTop g) := by
  have hle := W.n0le
  have hle' := W.s0le
  obtain ⟨vm0, locs, k0, X, eT, hS, hk, hZ, hown, hC, N, K, O, Fs⟩ := W
  obtain ⟨cl, A, q1, S1, q3, H, G⟩ := V
  obtain ⟨T', h', X', e', Ex, A', E', st⟩ := RoadKit.cloneA X hx hZ hown w1 w2 w3 w4 w5 w6 eT A E (F cl A) hg hsize hs hd hf hW hl (by rw [S1]; exact hcap) hc hsl
  exact Go.of st (k T' h' h.size rfl ⟨hle, hle'⟩ (wk_new X' e' Ex A'.lt hS hk hZ hown hC N K O Fs) ((Keep.refl h []).ext Ex) ⟨cloneOf cl, A', q1, S1, q3, H, G⟩ E')
theorem ne_of_born {h h1 : Heap} (hb : h.size ≤ b) (hlt : a < h1.size) (hle : h1.size ≤ h.size) : a ≠ b := Nat.ne_of_lt (Nat.lt_of_lt_of_le hlt (Nat.le_trans hle hb))
theorem nin1 (q : a ≠ b) : a ∉ [b] := ninS q nin0
theorem all1 {P : Addr → Prop} (q : P a) : ∀ x ∈ [a], P x := allS q all0
theorem all0i {P : Int32 → Prop} : ∀ x ∈ ([] : List Int32), P x := fun _ q => nomatch q
theorem allSi {P : Int32 → Prop} {y : Int32} {L : List Int32} (q : P y) (r : ∀ x ∈ L, P x) : ∀ x ∈ y :: L, P x := fun x z => (List.mem_cons.mp z).elim (fun u => u ▸ q) (r x)
theorem fin256 {P : Int32 → Prop} (t : ∀ k : Fin 256, P (Int32.ofNat k.val)) {q : Int32} (hq : ¬ q < 0 ∧ ¬ (255 : Int32) < q) : P q := by
  have h0 : ¬ q.toInt < 0 := fun z => hq.1 (by rw [Int32.lt_iff_toInt_lt]; exact z)
  have h1 : ¬ 255 < q.toInt := fun z => hq.2 (by rw [Int32.lt_iff_toInt_lt]; exact z)
  have e : q = Int32.ofNat q.toInt.toNat := by
    apply Int32.toInt_inj.mp
    rw [Int32.toInt_ofNat_of_lt (by omega)]
    omega
  rw [e]
  exact t ⟨q.toInt.toNat, by omega⟩
theorem and255 (x : Int32) : ¬ (x &&& (255 : Int32)) < 0 ∧ ¬ (255 : Int32) < (x &&& (255 : Int32)) := by
  have t : ∀ k : Fin 256, ¬ (Int32.ofNat k.val) < 0 ∧ ¬ (255 : Int32) < (Int32.ofNat k.val) := by decide +kernel
  have h : (x &&& 255).toBitVec.toNat < 256 := by
    simp only [Int32.toBitVec_and, BitVec.toNat_and]
    exact Nat.lt_succ_of_le Nat.and_le_right
  have e : (x &&& 255) = Int32.ofNat (x &&& 255).toBitVec.toNat := by
    apply Int32.toBitVec_inj.mp
    show _ = BitVec.ofNat 32 _
    rw [BitVec.ofNat_toNat]; simp
  rw [e]
  exact t ⟨_, h⟩
theorem snd255 {cs : List Int32} (h : ∀ c ∈ cs, ¬ c < 0 ∧ ¬ (255 : Int32) < c) : ∀ c ∈ cs, ¬ (255 : Int32) < c := fun c hc => (h c hc).2
theorem irr32 (x : Int32) : ¬ x < x := by rw [Int32.lt_iff_toInt_lt]; exact Int.lt_irrefl _
theorem char_id {q : Int32} (hq : ¬ q < 0 ∧ ¬ (255 : Int32) < q) : q.toUInt32.toUInt16.toUInt32.toInt32 = q := fin256 (P := fun q => q.toUInt32.toUInt16.toUInt32.toInt32 = q) (by decide +kernel) hq
theorem char255 (x : Int32) : ∃ q : Int32, (x &&& (255 : Int32)).toUInt32.toUInt16.toUInt32.toInt32 = q ∧ (¬ q < 0 ∧ ¬ (255 : Int32) < q) ∧ q = x &&& (255 : Int32) := ⟨x &&& 255, char_id (and255 x), and255 x, rfl⟩
theorem nar_char {q : Int32} (hq : ¬ q < 0 ∧ ¬ (255 : Int32) < q) : nar .char q = q := fin256 (P := fun q => nar .char q = q) (by decide +kernel) hq
theorem and1 (x : Int32) : (x &&& (1 : Int32)) = (0 : Int32) ∨ (x &&& (1 : Int32)) = (1 : Int32) := by
  have t : ∀ k : Fin 2, (Int32.ofNat k.val) = (0 : Int32) ∨ (Int32.ofNat k.val) = (1 : Int32) := by decide +kernel
  have h : (x &&& 1).toBitVec.toNat < 2 := by
    simp only [Int32.toBitVec_and, BitVec.toNat_and]
    exact Nat.lt_succ_of_le Nat.and_le_right
  have e : (x &&& 1) = Int32.ofNat (x &&& 1).toBitVec.toNat := by
    apply Int32.toBitVec_inj.mp
    show _ = BitVec.ofNat 32 _
    rw [BitVec.ofNat_toNat]; simp
  rw [e]
  exact t ⟨_, h⟩
theorem and3 (x : Int32) : (x &&& (3 : Int32)) = (0 : Int32) ∨ (x &&& (3 : Int32)) = (1 : Int32) ∨ (x &&& (3 : Int32)) = (2 : Int32) ∨ (x &&& (3 : Int32)) = (3 : Int32) := by
  have t : ∀ k : Fin 4, (Int32.ofNat k.val) = (0 : Int32) ∨ (Int32.ofNat k.val) = (1 : Int32) ∨ (Int32.ofNat k.val) = (2 : Int32) ∨ (Int32.ofNat k.val) = (3 : Int32) := by decide +kernel
  have h : (x &&& 3).toBitVec.toNat < 4 := by
    simp only [Int32.toBitVec_and, BitVec.toNat_and]
    exact Nat.lt_succ_of_le Nat.and_le_right
  have e : (x &&& 3) = Int32.ofNat (x &&& 3).toBitVec.toNat := by
    apply Int32.toBitVec_inj.mp
    show _ = BitVec.ofNat 32 _
    rw [BitVec.ofNat_toNat]; simp
  rw [e]
  exact t ⟨_, h⟩
theorem and7 (x : Int32) : (x &&& (7 : Int32)) = (0 : Int32) ∨ (x &&& (7 : Int32)) = (1 : Int32) ∨ (x &&& (7 : Int32)) = (2 : Int32) ∨ (x &&& (7 : Int32)) = (3 : Int32) ∨ (x &&& (7 : Int32)) = (4 : Int32) ∨ (x &&& (7 : Int32)) = (5 : Int32) ∨ (x &&& (7 : Int32)) = (6 : Int32) ∨ (x &&& (7 : Int32)) = (7 : Int32) := by
  have t : ∀ k : Fin 8, (Int32.ofNat k.val) = (0 : Int32) ∨ (Int32.ofNat k.val) = (1 : Int32) ∨ (Int32.ofNat k.val) = (2 : Int32) ∨ (Int32.ofNat k.val) = (3 : Int32) ∨ (Int32.ofNat k.val) = (4 : Int32) ∨ (Int32.ofNat k.val) = (5 : Int32) ∨ (Int32.ofNat k.val) = (6 : Int32) ∨ (Int32.ofNat k.val) = (7 : Int32) := by decide +kernel
  have h : (x &&& 7).toBitVec.toNat < 8 := by
    simp only [Int32.toBitVec_and, BitVec.toNat_and]
    exact Nat.lt_succ_of_le Nat.and_le_right
  have e : (x &&& 7) = Int32.ofNat (x &&& 7).toBitVec.toNat := by
    apply Int32.toBitVec_inj.mp
    show _ = BitVec.ofNat 32 _
    rw [BitVec.ofNat_toNat]; simp
  rw [e]
  exact t ⟨_, h⟩
theorem and3_cap (x : Int32) : ¬ (x &&& (3 : Int32)) < 0 ∧ (x &&& (3 : Int32)).toNatClampNeg ≤ 3 := by
  rcases and3 x with e | e | e | e <;> rw [e] <;> decide
theorem nar_byte (x : Int32) : nar .byte (x.toInt8.toInt32) = x.toInt8.toInt32 := by
  show x.toInt8.toInt32.toInt8.toInt32 = x.toInt8.toInt32
  simp
theorem ne_tys {c1 c2 : Cell} {t1 t2 : FieldType} (F : Arr Z h a c1 t1) (G : Arr Z h b c2 t2) (hn : t1 ≠ t2) : a ≠ b := fun q => by
  subst q
  cases F.1.symm.trans G.1
  obtain ⟨-, k1, e1, p1, r1⟩ := F.2.1
  obtain ⟨-, k2, e2, p2, r2⟩ := G.2.1
  cases e1.symm.trans e2
  cases r1.symm.trans r2
  exact hn rfl
end OwnKit
end Jvm.Pilot.@@N@@
namespace Jvm.Pilot.@@N@@
open Jvm Jvm.ClassFile Sem Op Lib Jvm.Free Jvm.Stand Jvm.LawKit Jvm.RoadKit Bundle Jvm.Pilot.@@N@@.Jvm.D
section OwnStr
variable {p : Program} {l : Launch} {e : Env} {R : Room} {s : State} {m : MethodId} {args : Array Value} {below : List Frame} {meth : Method} {c : Code} {T T' : State} {locs : List Loc} {cells slots : Nat} {Z : State} {a0 : Array Value} {h h' : Heap} {EL : List (String × Nat)} {n0 k0 : Nat} {ws ws' sf : List Addr} {own : String} {Q : Outcome → State → Prop} {a b x : Addr} {v : Value} {sl : Nat}
variable {y : MethodName} {bytes : ByteArray} {maxL : Nat} {zc : Int32} {cs ds : List Int32} {kC : ClassId} {N : Int32} {d : Value} {n : Nat} {v0 c0 : Value} {index : Nat} {Wd : Nat} {g : JFrame} {rest : List Value}
/-- a String at x that spells cs -/
def Str (Z : State) (h : Heap) (x : Addr) (cs : List Int32) : Prop := ∃ (t : Addr) (kb : ClassId) (cd N2 : Int32) (vs : List Value), Exa Z h x "java/lang/String" ∧ Fld Z h x "java/lang/String" "value" "[B" (.ref t) ∧ Fld Z h x "java/lang/String" "coder" "B" (.int cd) ∧ Arv Z h t kb .byte N2 vs (.int 0) ∧ StrChars.Road.CodA cs cd N2 vs ∧ (∀ c ∈ cs, ¬ c < 0 ∧ ¬ (65535 : Int32) < c) ∧ cs.length ≤ 4000
theorem Str.exa (S : Str Z h x cs) : Exa Z h x "java/lang/String" := by
  obtain ⟨_, _, _, _, _, E, _⟩ := S
  exact E
theorem Str.keep0 (S : Str Z h x cs) (K : Keep h h' []) : Str Z h' x cs := by
  obtain ⟨t, kb, cd, N2, vs, E, V, C, A, r⟩ := S
  exact ⟨t, kb, cd, N2, vs, E.keep K, V.keep K nin0, C.keep K nin0, A.keep K nin0, r⟩
theorem Str.ext (S : Str Z h x cs) (E : Ext h h') : Str Z h' x cs := S.keep0 ((Keep.refl h []).ext E)
/-- carried over a step that may have written the one object b, no String of hers and no array -/
theorem Str.keepE {C : String} {kI : Nat} (S : Str Z h x cs) (K : Keep h h' [b]) (Eb : Exa Z h b C) (wi : (Cond.instantiable C kI).before a0 Z = true) (hne : x ≠ b) : Str Z h' x cs := by
  obtain ⟨t, kb, cd, N2, vs, E, V, D, A, r⟩ := S
  have ht : t ≠ b := by
    obtain ⟨cl, A1, -⟩ := A
    exact (ne_arr Eb wi A1).symm
  exact ⟨t, kb, cd, N2, vs, E.keep K, V.keep K (nin1 hne), D.keep K (nin1 hne), A.keep K (nin1 ht), r⟩
theorem Str.keepC {C : String} {kI : Nat} (S : Str Z h x cs) (K : Keep h h' [b]) (Eb : Exa Z h b C) (wi : (Cond.instantiable C kI).before a0 Z = true) (hC : "java/lang/String" ≠ C) : Str Z h' x cs := S.keepE K Eb wi (ne_exa S.exa Eb hC)
/-- carried over a step that may have written one array of another kind than byte -/
theorem Str.keepA {kc : ClassId} {ty : FieldType} {z : Int32} {vs : List Value} {dv : Value} (S : Str Z h x cs) (K : Keep h h' [b]) (V : Arv Z h b kc ty z vs dv) (wi : (Cond.instantiable "java/lang/String" 4).before a0 Z = true) (ht : ∀ t : Addr, t < h.size → ∀ (kb : ClassId) (N2 : Int32) (us : List Value), Arv Z h t kb .byte N2 us (.int 0) → t ≠ b) : Str Z h' x cs := by
  obtain ⟨t, kb, cd, N2, us, E, V1, D, A, r⟩ := S
  have hx : x ≠ b := by
    obtain ⟨cl, A1, -⟩ := V
    exact ne_arr E wi A1
  have ht := ht t A.lt kb N2 us A
  exact ⟨t, kb, cd, N2, us, E.keep K, V1.keep K (nin1 hx), D.keep K (nin1 hx), A.keep K (nin1 ht), r⟩
theorem Str.keepT {kc : ClassId} {ty : FieldType} {z : Int32} {vs : List Value} {dv : Value} (S : Str Z h x cs) (K : Keep h h' [b]) (V : Arv Z h b kc ty z vs dv) (wi : (Cond.instantiable "java/lang/String" 4).before a0 Z = true) (ht : FieldType.byte ≠ ty) : Str Z h' x cs :=
  S.keepA K V wi fun t _ kb N2 us A => by
    obtain ⟨c1, A1, -⟩ := A
    obtain ⟨c2, A2, -⟩ := V
    exact ne_tys A1 A2 ht
theorem Str.open_ (S : Str Z h x cs) (hlat : ∀ c ∈ cs, ¬ (255 : Int32) < c) : ∃ (t : Addr) (kb : ClassId), Exa Z h x "java/lang/String" ∧ Fld Z h x "java/lang/String" "value" "[B" (.ref t) ∧ Fld Z h x "java/lang/String" "coder" "B" (.int 0) ∧ Arv Z h t kb .byte (Int32.ofNat cs.length) (cs.map fun c => Value.int (StrChars.lo8 c)) (.int 0) := by
  obtain ⟨t, kb, cd, N2, vs, E, V, C, A, hc, -, -⟩ := S
  rcases hc with ⟨rfl, rfl, rfl, -⟩ | ⟨-, -, -, c, hc, hw⟩
  · exact ⟨t, kb, E, V, C, A⟩
  · exact absurd hw (hlat c hc)
theorem up255 (h : ∀ c ∈ cs, ¬ c < 0 ∧ ¬ (255 : Int32) < c) : ∀ c ∈ cs, ¬ c < 0 ∧ ¬ (65535 : Int32) < c := fun c hc => ⟨(h c hc).1, fun q => (h c hc).2 (by rw [Int32.lt_iff_toInt_lt] at q ⊢; have e1 : (65535 : Int32).toInt = 65535 := rfl; have e2 : (255 : Int32).toInt = 255 := rfl; omega)⟩
theorem pdChars : parseMethodDescriptor "([C)V" = some ⟨[.array .char], none⟩ := by decide +kernel
theorem Wk.newStr (W : Wk p l e R s m args below meth c Z EL n0 ws own sf T cells slots h) (hx : p.tables.exec = Jvm.exec) (hws : ∀ d ∈ StrChars.Road.words, d.before a0 Z = true) (wi : (Cond.instantiable "java/lang/String" 4).before a0 Z = true) (SC : Sta Z Z.heap "java/lang/String" "COMPACT_STRINGS" "Z" (.int zc)) (hz : ¬ zc = 0)
    (w1 : (Cond.methodLink own index ⟨"java/lang/String", "<init>", "([C)V"⟩).before a0 Z = true) (w2 : (Cond.instanceMethod ⟨"java/lang/String", "<init>", "([C)V"⟩).before a0 Z = true) (w4 : (Cond.code ⟨"java/lang/String", "<init>", "([C)V"⟩ bytes maxL none).before a0 Z = true)
    (Ex : Exa Z h x "java/lang/String") (V : Fld Z h x "java/lang/String" "value" "[B" v0) (C : Fld Z h x "java/lang/String" "coder" "B" c0) (A : Arv Z h b kC .char N (cs.map Value.int) d) (hn : cs.length = n) (hN : N = Int32.ofNat n) (l0 : 0 < n) (l2 : n ≤ 4000) (hp : ∀ c ∈ cs, ¬ c < 0 ∧ ¬ (255 : Int32) < c) (gx : n0 ≤ x) (gw : x ∈ ws ∨ s.heap.size ≤ x) (sx : x ∈ sf)
    (hfr : 4 ≤ R.frames) (hlo : Wd + 65 ≤ R.locals) (hc : cells + 1 ≤ R.cells) (hsl : slots + n ≤ R.slots) (hg : g.method = m) (hsize : g.locals.size = c.maxLocals) (hstack : g.stack = .ref b :: .ref x :: rest) (hW : 2 * g.monitorRoom + (rest.map fun v => v.category).sum ≤ Wd) (hd : decode c.code g.pc = .ok (.invokespecial index, 3))
    (k : ∀ T' h', Wk p l e R s m args below meth c Z EL n0 ws own sf T' (cells + 1) (slots + n) h' → Keep h h' [x] → Str Z h' x cs → Go p e below Q (T'.setTop { g with pc := g.pc + 3, stack := rest })) : Go p e below Q (T.setTop g) := by
  have hle := W.n0le
  have hO := W.old
  refine W.specB hx (y := ⟨"java/lang/String", "<init>", "([C)V"⟩) rfl w1 w2 w4 (by decide) (kk := 1) (nn := n) (ws' := [x]) (a := x) (Qv := fun v h' => v = none ∧ Str Z h' x cs) (Q1 := fun v h' L => StrChars.Road.QV Z x N (cs.map fun c => c.toInt8.toInt32) h n0 v h' L) (argsL := [.ref b]) (rest := rest) (Wd := Wd)
    (fun s' hZ' => StrChars.Road.backV (W := Wd) hZ' hws wi gx hle Ex V C A (SC.ext hO.2) hz hn hN l0 l2 hp rfl hfr hlo) (fun v h' L q => ?_) hc hsl (all1 ⟨gx, gw⟩) (all1 sx) hg hsize (lenOf pdChars rfl) hstack hW hd (fun T' h' v W' K' q => ?_)
  · obtain ⟨rfl, q1, q2, q3, q4, t, kb, -, -, -, q5, q6⟩ := q
    refine ⟨q1, q2, rfl, t, kb, 0, N, _, q3, q5, q4, q6, ?_, up255 hp, by omega⟩
    subst hN
    exact StrChars.Road.codOf hn (fun c hc => (hp c hc).2)
  · obtain ⟨rfl, S⟩ := q
    exact k T' h' W' K' S
end OwnStr
end Jvm.Pilot.@@N@@
namespace Jvm.Pilot.@@N@@
open Jvm Jvm.ClassFile Sem Op Lib Jvm.Free Jvm.Stand Jvm.LawKit Jvm.RoadKit Bundle Jvm.Pilot.@@N@@.Jvm.D
section OwnStrMore
variable {p : Program} {l : Launch} {e : Env} {R : Room} {s : State} {m : MethodId} {args : Array Value} {below : List Frame} {meth : Method} {c : Code} {T T' : State} {cells slots : Nat} {Z : State} {a0 : Array Value} {h h' : Heap} {EL : List (String × Nat)} {n0 : Nat} {ws sf : List Addr} {own : String} {Q : Outcome → State → Prop} {a b x y : Addr}
variable {zc : Int32} {cs ds : List Int32} {n : Nat} {index : Nat} {Wd : Nat} {g : JFrame} {rest : List Value} {fm : Value}
theorem pdStrEq : parseMethodDescriptor "(Ljava/lang/Object;)Z" = some ⟨[.object "java/lang/Object"], some .boolean⟩ := by decide +kernel
theorem Wk.strEq (W : Wk p l e R s m args below meth c Z EL n0 ws own sf T cells slots h) (hx : p.tables.exec = Jvm.exec) (hsw : ∀ d ∈ StrChars.Road.wordsEq, d.before a0 Z = true) (wi : (Cond.instantiable "java/lang/String" 4).before a0 Z = true) (SC : Sta Z Z.heap "java/lang/String" "COMPACT_STRINGS" "Z" (.int zc)) (hz : ¬ zc = 0) (S : Str Z h x cs) (S' : Str Z h y ds)
    (w1 : (Cond.methodLink own index ⟨"java/lang/String", "equals", "(Ljava/lang/Object;)Z"⟩).before a0 Z = true) (w2 : (Cond.declares ⟨"java/lang/String", "equals", "(Ljava/lang/Object;)Z"⟩).before a0 Z = true) (w5 : (Cond.selects "java/lang/String" ⟨"java/lang/String", "equals", "(Ljava/lang/Object;)Z"⟩ ⟨"java/lang/String", "equals", "(Ljava/lang/Object;)Z"⟩).before a0 Z = true) (w6 : (Cond.instanceMethod ⟨"java/lang/String", "equals", "(Ljava/lang/Object;)Z"⟩).before a0 Z = true)
    (hfr : 2 ≤ R.frames) (hlo : Wd + 28 ≤ R.locals) (hc : cells ≤ R.cells) (hsl : slots ≤ R.slots) (hg : g.method = m) (hsize : g.locals.size = c.maxLocals) (hstack : g.stack = .ref y :: .ref x :: rest) (hW : 2 * g.monitorRoom + (rest.map fun v => v.category).sum ≤ Wd) (hd : decode c.code g.pc = .ok (.invokevirtual index, 3))
    (k : ∀ T' (r : Int32), (r = 1 ∧ cs = ds ∨ r = 0 ∧ ¬ cs = ds) → Wk p l e R s m args below meth c Z EL n0 ws own sf T' cells slots h → Go p e below Q (T'.setTop { g with pc := g.pc + 3, stack := .int r :: rest })) : Go p e below Q (T.setTop g) := by
  have hO := W.old
  have hEx := S.exa
  obtain ⟨t, kb, cd, N2, vs, E1, V1, C1, A1, hcd, hbd, hln⟩ := S
  obtain ⟨t', kb', cd', N2', vs', E1', V1', C1', A1', hcd', hbd', hln'⟩ := S'
  refine W.virtB hx w1 w2 w5 w6 (by decide) hEx (kk := 0) (nn := 0) (ws' := []) (Qv := fun v h' => ((v = some (.int 1) ∧ cs = ds) ∨ (v = some (.int 0) ∧ ¬ cs = ds)) ∧ h = h') (Q1 := fun v h' L => ((v = some (.int 1) ∧ cs = ds) ∨ (v = some (.int 0) ∧ ¬ cs = ds)) ∧ L = [] ∧ h' = h) (argsL := [.ref y]) (rest := rest) (Wd := Wd)
    (fun s' hZ' => StrChars.Road.eqW (W := Wd) hZ' hsw wi E1 V1 C1 A1 hcd hbd hln E1' V1' C1' A1' hcd' hbd' hln' (SC.ext hO.2) hz hfr hlo) (fun v h' L q => ?_) hc hsl all0 all0 hg hsize (lenOf pdStrEq rfl) hstack hW hd (fun T' h' v W' K' q => ?_)
  · obtain ⟨q1, rfl, rfl⟩ := q
    exact ⟨Fr.nil n0, Keep.refl _ _, q1, rfl⟩
  · obtain ⟨q1, rfl⟩ := q
    rcases q1 with ⟨rfl, q1⟩ | ⟨rfl, q1⟩
    · exact k T' 1 (Or.inl ⟨rfl, q1⟩) W'
    · exact k T' 0 (Or.inr ⟨rfl, q1⟩) W'
end OwnStrMore
end Jvm.Pilot.@@N@@
namespace Jvm.Pilot.@@N@@
open Jvm Jvm.ClassFile Sem Op Lib Jvm.Free Jvm.Stand Jvm.LawKit Jvm.RoadKit Bundle Jvm.Pilot.@@N@@.Jvm.D
open Jvm.Free.XT (cmpL)
abbrev EL0 : List (String × Nat) := [("java/lang/String", 7)]
set_option maxRecDepth 65536 in
theorem sa_in : ∀ d ∈ Bundle.stringAtoms, d ∈ tables_1 := by decide +kernel
set_option maxRecDepth 65536 in
theorem ws_in : ∀ d ∈ StrChars.Road.words, d ∈ tables_1 := by decide +kernel
set_option maxRecDepth 65536 in
theorem eq_in : ∀ d ∈ StrChars.Road.wordsEq, d ∈ tables_1 := by decide +kernel
theorem eq_eval {s : State} {args : Array Value} {a b : Term} {v : Value} (h : (Cond.eq a b).value args s none s [] = some true) (hb : b.eval args s none [] s = some v) : a.eval args s none [] s = some v := by
  cases ha : a.eval args s none [] s with
  | none => simp [Cond.value, ha, hb] at h
  | some w => cases w <;> cases v <;> simp [Cond.value, ha, hb] at h <;> simp [h]
theorem arvStart {s : State} {args : Array Value} {t : Term} {ty : FieldType} {a : Addr} {z : Int32} {vs : List Value} {dv : Value} (hf : Fit s) (ev : t.eval args s none [] s = some (.ref a)) (ha : (Cond.arrayOf t ty).value args s none s [] = some true) (hl : (Cond.eq (.length t) (.int z)).value args s none s [] = some true) (hz : ¬ z < 0) (hn : z.toNatClampNeg = vs.length) (H : ∀ c, s.arrayAt? a = some c → HasL c 0 vs) :
    ∃ k, Arv s s.heap a k ty z vs dv ∧ ∀ cl, Arr s s.heap a cl ty → FitC s cl := by
  obtain ⟨c, A⟩ := Arr.start ev ha
  have hA : s.arrayAt? a = some c := Arr.fin (Vm.Alike.refl _) A
  by_cases hs : c.slots.size < 2 ^ 31
  · have e := len_f ev hA hs
    have e2 := gotT (Cond.eq_ints e (Term.int_eval z)) hl
    exact ⟨c.cls, Arv.start hf A hs e2 hz hn (H c hA), fun cl A' => FitC.start hf A'⟩
  · simp [Cond.value, Term.eval, ev, hA, hs] at hl
theorem fitOld {Z : State} {h : Heap} {a : Addr} {k : ClassId} {ty : FieldType} {z : Int32} {vs : List Value} {dv : Value} (V0 : Arv Z Z.heap a k ty z vs dv) (E : Ext Z.heap h) (hF : ∀ cl, Arr Z Z.heap a cl ty → FitC Z cl) : ∀ cl, Arr Z h a cl ty → FitC Z cl := fun cl A => by
  obtain ⟨c, A0, -⟩ := V0
  cases (E.2 _ _ A0.1).symm.trans A.1
  exact hF _ A0
def wrOf (e0 e1 e2 e3 e4 e5 : Addr) (cs : List Int32) : Value := if [(61 : Int32), (61 : Int32)] = cs then .ref e0 else if [(33 : Int32), (61 : Int32)] = cs then .ref e1 else if [(60 : Int32)] = cs then .ref e2 else if [(60 : Int32), (61 : Int32)] = cs then .ref e3 else if [(62 : Int32)] = cs then .ref e4 else if [(62 : Int32), (61 : Int32)] = cs then .ref e5 else .null
theorem mod5 (x : Int32) : ((x &&& (7 : Int32)) % (5 : Int32)) = (0 : Int32) ∨ ((x &&& (7 : Int32)) % (5 : Int32)) = (1 : Int32) ∨ ((x &&& (7 : Int32)) % (5 : Int32)) = (2 : Int32) ∨ ((x &&& (7 : Int32)) % (5 : Int32)) = (3 : Int32) ∨ ((x &&& (7 : Int32)) % (5 : Int32)) = (4 : Int32) := by
  rcases and7 x with e | e | e | e | e | e | e | e <;> rw [e] <;> decide
theorem nar_ret {q : Int32} (hq : ¬ q < 0 ∧ ¬ (255 : Int32) < q) : narrow .char (.int q) = .int q := fin256 (P := fun q => narrow .char (.int q) = .int q) (by decide +kernel) hq
theorem wrOf_ref (e0 e1 e2 e3 e4 e5 : Addr) (cs : List Int32) : (wrOf e0 e1 e2 e3 e4 e5 cs).isRef = true := by
  unfold wrOf
  repeat (first | rfl | split)
theorem pn0 : plainName "java/lang/String" = true := by first | (simp [plainName, overriddenIn]; done) | decide +kernel
theorem pn1 : plainName "java/lang/StringLatin1" = true := by first | (simp [plainName, overriddenIn]; done) | decide +kernel
theorem pn2 : plainName "org/portcullis/expression/OperatorWrittenPinLaw" = true := by first | (simp [plainName, overriddenIn]; done) | decide +kernel
theorem pn3 : plainName "org/portcullis/expression/Node$Comparison$Operator" = true := by first | (simp [plainName, overriddenIn]; done) | decide +kernel
theorem pd0 : parseMethodDescriptor "([CIILjava/lang/Void;)V" = some ⟨[(.array .char), .int, .int, (.object "java/lang/Void")], none⟩ := by decide +kernel
theorem pd1 : parseMethodDescriptor "(C)Z" = some ⟨[.char], (some .boolean)⟩ := by decide +kernel
theorem pd2 : parseMethodDescriptor "(C)[B" = some ⟨[.char], (some (.array .byte))⟩ := by decide +kernel
theorem pd3 : parseMethodDescriptor "([BB)V" = some ⟨[(.array .byte), .byte], none⟩ := by decide +kernel
theorem pd4 : parseMethodDescriptor "()[Lorg/portcullis/expression/Node$Comparison$Operator;" = some ⟨[], (some (.array (.object "org/portcullis/expression/Node$Comparison$Operator")))⟩ := by decide +kernel
theorem pd5 : parseMethodDescriptor "(Ljava/lang/Object;)Z" = some ⟨[(.object "java/lang/Object")], (some .boolean)⟩ := by decide +kernel
theorem pd6 : parseMethodDescriptor "(I)C" = some ⟨[.int], (some .char)⟩ := by decide +kernel
theorem pd7 : parseMethodDescriptor "([C)V" = some ⟨[(.array .char)], none⟩ := by decide +kernel
theorem pd8 : parseMethodDescriptor "(Ljava/lang/String;)Lorg/portcullis/expression/Node$Comparison$Operator;" = some ⟨[(.object "java/lang/String")], (some (.object "org/portcullis/expression/Node$Comparison$Operator"))⟩ := by decide +kernel
theorem pd9 : parseMethodDescriptor "(C)Ljava/lang/String;" = some ⟨[.char], (some (.object "java/lang/String"))⟩ := by decide +kernel
theorem d20_0 : decode jdk_42_method_149_code 0 = .ok (.aload_n 0, 1) := by decide +kernel
theorem d20_1 : decode jdk_42_method_149_code 1 = .ok (.invokespecial 1, 3) := by decide +kernel
theorem d20_4 : decode jdk_42_method_149_code 4 = .ok (.iload_n 3, 1) := by decide +kernel
theorem d20_5 : decode jdk_42_method_149_code 5 = .ok (.ifCond .ne 22, 3) := by decide +kernel
theorem d20_8 : decode jdk_42_method_149_code 8 = .ok (.aload_n 0, 1) := by decide +kernel
theorem d20_9 : decode jdk_42_method_149_code 9 = .ok (.ldc 7, 2) := by decide +kernel
theorem d20_11 : decode jdk_42_method_149_code 11 = .ok (.getfield 9, 3) := by decide +kernel
theorem d20_14 : decode jdk_42_method_149_code 14 = .ok (.putfield 9, 3) := by decide +kernel
theorem d20_17 : decode jdk_42_method_149_code 17 = .ok (.aload_n 0, 1) := by decide +kernel
theorem d20_18 : decode jdk_42_method_149_code 18 = .ok (.ldc 7, 2) := by decide +kernel
theorem d20_20 : decode jdk_42_method_149_code 20 = .ok (.getfield 15, 3) := by decide +kernel
theorem d20_23 : decode jdk_42_method_149_code 23 = .ok (.putfield 15, 3) := by decide +kernel
theorem d20_26 : decode jdk_42_method_149_code 26 = .ok (.return_, 1) := by decide +kernel
theorem ef20 (m : MethodId) (x0 : Addr) (x1 : Addr) (x2 : Int32) (x3 : Int32)  : entryFrame m #[(.ref x0), (.ref x1), (.int x2), (.int x3), .null] 6 = mkF m 0 #[.val (.ref x0), .val (.ref x1), .val (.int x2), .val (.int x3), .val .null, .unset] [] := by first | (simp [entryFrame, mkF, argsToLocals, Value.category]; done) | rfl | rfl
set_option maxRecDepth 65536 in
set_option maxHeartbeats 40000000 in
theorem rm20 (l : Launch) (Z : State) (a0 : Array Value) (hw : ∀ d ∈ tables_1, d.before a0 Z = true) (hEL : EW Z a0 EL0) (zc : Int32) (SC : Sta Z Z.heap "java/lang/String" "COMPACT_STRINGS" "Z" (.int zc)) (hzc : ¬ zc = 0) (fm : Value) (SF : Sta Z Z.heap "jdk/internal/util/Preconditions" "SIOOBE_FORMATTER" "Ljava/util/function/BiFunction;" fm) (rfm : fm.isRef = true) (x1 : Addr) (x2 : Addr) (h0 : Heap) {n0 : Nat} (O0 : Old Z n0 h0) (E1 : Exa Z h0 x1 "java/lang/String") (F1 : Fld Z h0 x1 "java/lang/String" "value" "[B" .null) (F2 : Fld Z h0 x1 "java/lang/String" "coder" "B" (.int (0 : Int32))) (g1 : n0 ≤ x1) :
    Met l Z EL0 n0 (⟨"java/lang/String", "<init>", "([CIILjava/lang/Void;)V"⟩ : MethodName) jdk_42_method_149_code 6 none [] ({ frames := 1, cells := 4, slots := 8, locals := 12 } : Room) #[(.ref x1), (.ref x2), (.int (0 : Int32)), (.int (0 : Int32)), .null] h0 [x1] [x1] (fun v h' => v = none ∧ Str Z h' x1 []) := by
  refine Met.of (plainFor_of_name pn0) O0 ?_
  intro p e s m below meth c T0 hx hby hml hret hlk hnm hs W0
  have W0 : Wk p l e _ s m _ below meth c Z EL0 n0 [x1] "java/lang/String" [x1] T0 0 0 h0 := W0
  have hSA := fun d hd => hw d (sa_in d hd)
  have hws := fun d hd => hw d (ws_in d hd)
  have heq := fun d hd => hw d (eq_in d hd)
  refine Go.of (fun _ kk => castTop (ef20 m x1 x2 (0 : Int32) (0 : Int32)) kk) ?_
  show Go p e below _ (T0.setTop (mkF m 0 #[.val (.ref x1), .val (.ref x2), .val (.int (0 : Int32)), .val (.int (0 : Int32)), .val .null, .unset] []))
  refine Go.of (t' := T0.setTop (mkF m 1 #[.val (.ref x1), .val (.ref x2), .val (.int (0 : Int32)), .val (.int (0 : Int32)), .val .null, .unset] [(.ref x1)])) (fun _ kk => XS.aloadN W0.here hx rfl (hb hby d20_0) rfl rfl kk) ?_
  refine W0.initO hx (hw _ (List.mem_of_getElem? (i := 15) rfl)) (hw _ (List.mem_of_getElem? (i := 16) rfl)) (hw _ (List.mem_of_getElem? (i := 17) rfl)) rfl (by rw [hml]; rfl) rfl (hb hby d20_1) (by decide +kernel) (Wd := 0) (by show 2 * 0 + _ ≤ _; exact Nat.le_of_eq rfl) (by decide +kernel) (fun T1 W1 => ?_)
  show Go p e below _ (T1.setTop (mkF m 4 #[.val (.ref x1), .val (.ref x2), .val (.int (0 : Int32)), .val (.int (0 : Int32)), .val .null, .unset] []))
  refine Go.of (t' := T1.setTop (mkF m 5 #[.val (.ref x1), .val (.ref x2), .val (.int (0 : Int32)), .val (.int (0 : Int32)), .val .null, .unset] [(.int (0 : Int32))])) (fun _ kk => XS.iloadN W1.here hx rfl (hb hby d20_4) rfl kk) ?_
  refine Go.of (t' := T1.setTop (mkF m 8 #[.val (.ref x1), .val (.ref x2), .val (.int (0 : Int32)), .val (.int (0 : Int32)), .val .null, .unset] [])) (fun _ kk => XS.ifNo W1.here hx rfl (hb hby d20_5) rfl (XT.i0_ne_f (by decide +kernel)) kk) ?_
  refine Go.of (t' := T1.setTop (mkF m 9 #[.val (.ref x1), .val (.ref x2), .val (.int (0 : Int32)), .val (.int (0 : Int32)), .val .null, .unset] [(.ref x1)])) (fun _ kk => XS.aloadN W1.here hx rfl (hb hby d20_8) rfl rfl kk) ?_
  refine W1.ldcC hx hEL (by decide +kernel) (hw _ (List.mem_of_getElem? (i := 18) rfl)) hSA [] (0 : Int32) (by decide +kernel) (by decide +kernel) (by decide +kernel) rfl (hb hby d20_9) (n := 0) (by decide +kernel) (by decide +kernel) (by decide +kernel) (by decide +kernel) (fun T2 h2 b2 t2 kb2 W2 K2 E2 Fv2 Fc2 A2 N2 => ?_)
  have S2 : Str Z h2 b2 [] := ⟨t2, kb2, 0, (0 : Int32), _, E2, Fv2, Fc2, A2, Or.inl ⟨rfl, by decide +kernel, by decide +kernel, by decide +kernel⟩, by decide +kernel, by decide⟩
  show Go p e below _ (T2.setTop (mkF m 11 #[.val (.ref x1), .val (.ref x2), .val (.int (0 : Int32)), .val (.int (0 : Int32)), .val .null, .unset] [(.ref b2), (.ref x1)]))
  refine W2.getF hx (host := "") (Or.inl (hw _ (List.mem_of_getElem? (i := 24) rfl))) Via.refl Fv2 rfl rfl (hb hby d20_11) (fun T3 W3 => ?_)
  show Go p e below _ (T3.setTop (mkF m 14 #[.val (.ref x1), .val (.ref x2), .val (.int (0 : Int32)), .val (.int (0 : Int32)), .val .null, .unset] [(.ref t2), (.ref x1)]))
  have k4 := (F1.keep K2 nin0)
  have k5 := (E1.keep K2)
  refine W3.putF hx (host := "") (Or.inl (hw _ (List.mem_of_getElem? (i := 24) rfl))) Via.refl k4 k5 (Or.inr ⟨(hw _ (List.mem_of_getElem? (i := 20) rfl)), rfl, hnm⟩) (hw _ (List.mem_of_getElem? (i := 6) rfl)) (ty := (.array .byte)) (by decide +kernel) rfl rfl g1 (Or.inl (List.mem_of_getElem? (i := 0) rfl)) (Or.inl (List.mem_of_getElem? (i := 0) rfl)) rfl rfl (hb hby d20_14) (fun T6 h6 W6 w6 => ?_)
  have k7 := (F2.keep K2 nin0)
  have K6 := Keep.of_wr w6
  have k8 := k7.other w6 (Or.inr (slot_ne (Or.inr (hw _ (List.mem_of_getElem? (i := 21) rfl))) (Or.inr (hw _ (List.mem_of_getElem? (i := 20) rfl))) (by decide +kernel) (t := .byte) (t' := (.array .byte)) (by decide +kernel) (by decide +kernel)))
  have k9 := k4.same w6
  show Go p e below _ (T6.setTop (mkF m 17 #[.val (.ref x1), .val (.ref x2), .val (.int (0 : Int32)), .val (.int (0 : Int32)), .val .null, .unset] []))
  refine Go.of (t' := T6.setTop (mkF m 18 #[.val (.ref x1), .val (.ref x2), .val (.int (0 : Int32)), .val (.int (0 : Int32)), .val .null, .unset] [(.ref x1)])) (fun _ kk => XS.aloadN W6.here hx rfl (hb hby d20_17) rfl rfl kk) ?_
  refine W6.ldcC hx hEL (by decide +kernel) (hw _ (List.mem_of_getElem? (i := 18) rfl)) hSA [] (0 : Int32) (by decide +kernel) (by decide +kernel) (by decide +kernel) rfl (hb hby d20_18) (n := 0) (by decide +kernel) (by decide +kernel) (by decide +kernel) (by decide +kernel) (fun T10 h10 b10 t10 kb10 W10 K10 E10 Fv10 Fc10 A10 N10 => ?_)
  have S10 : Str Z h10 b10 [] := ⟨t10, kb10, 0, (0 : Int32), _, E10, Fv10, Fc10, A10, Or.inl ⟨rfl, by decide +kernel, by decide +kernel, by decide +kernel⟩, by decide +kernel, by decide⟩
  show Go p e below _ (T10.setTop (mkF m 20 #[.val (.ref x1), .val (.ref x2), .val (.int (0 : Int32)), .val (.int (0 : Int32)), .val .null, .unset] [(.ref b10), (.ref x1)]))
  refine W10.getF hx (host := "") (Or.inl (hw _ (List.mem_of_getElem? (i := 25) rfl))) Via.refl Fc10 rfl rfl (hb hby d20_20) (fun T11 W11 => ?_)
  show Go p e below _ (T11.setTop (mkF m 23 #[.val (.ref x1), .val (.ref x2), .val (.int (0 : Int32)), .val (.int (0 : Int32)), .val .null, .unset] [(.int (0 : Int32)), (.ref x1)]))
  have k12 := (k8.keep K10 nin0)
  have k13 := ((k5.keep K6).keep K10)
  refine W11.putF hx (host := "") (Or.inl (hw _ (List.mem_of_getElem? (i := 25) rfl))) Via.refl k12 k13 (Or.inr ⟨(hw _ (List.mem_of_getElem? (i := 21) rfl)), rfl, hnm⟩) (hw _ (List.mem_of_getElem? (i := 6) rfl)) (ty := .byte) (by decide +kernel) rfl rfl g1 (Or.inl (List.mem_of_getElem? (i := 0) rfl)) (Or.inl (List.mem_of_getElem? (i := 0) rfl)) rfl rfl (hb hby d20_23) (fun T14 h14 W14 w14 => ?_)
  have k15 := (k9.keep K10 nin0)
  have K14 := Keep.of_wr w14
  have k16 := k15.other w14 (Or.inr (slot_ne (Or.inr (hw _ (List.mem_of_getElem? (i := 20) rfl))) (Or.inr (hw _ (List.mem_of_getElem? (i := 21) rfl))) (by decide +kernel) (t := (.array .byte)) (t' := .byte) (by decide +kernel) (by decide +kernel)))
  have k17 := k12.same w14
  show Go p e below _ (T14.setTop (mkF m 26 #[.val (.ref x1), .val (.ref x2), .val (.int (0 : Int32)), .val (.int (0 : Int32)), .val .null, .unset] []))
  have k18 := (k13.keep K14)
  have k19 := (((A2.keep K6 (ninS ((N2 _ (List.mem_of_getElem? (i := 0) rfl)).2).symm nin0)).keep K10 nin0).keep K14 (ninS ((N2 _ (List.mem_of_getElem? (i := 0) rfl)).2).symm nin0))
  exact W14.retV hx hEL hs hlk (by decide +kernel) (by decide +kernel) hret (hb hby d20_26) ⟨rfl, ⟨t2, kb2, _, _, _, k18, k16, k17, k19, StrChars.Road.codOf (cs := []) (n := 0) rfl all0i, all0i, Nat.le_of_ble_eq_true rfl⟩⟩
theorem d21_0 : decode jdk_42_method_3_code 0 = .ok (.aload_n 0, 1) := by decide +kernel
theorem d21_1 : decode jdk_42_method_3_code 1 = .ok (.aload_n 1, 1) := by decide +kernel
theorem d21_2 : decode jdk_42_method_3_code 2 = .ok (.iconst 0, 1) := by decide +kernel
theorem d21_3 : decode jdk_42_method_3_code 3 = .ok (.aload_n 1, 1) := by decide +kernel
theorem d21_4 : decode jdk_42_method_3_code 4 = .ok (.arraylength, 1) := by decide +kernel
theorem d21_5 : decode jdk_42_method_3_code 5 = .ok (.aconst_null, 1) := by decide +kernel
theorem d21_6 : decode jdk_42_method_3_code 6 = .ok (.invokespecial 27, 3) := by decide +kernel
theorem d21_9 : decode jdk_42_method_3_code 9 = .ok (.return_, 1) := by decide +kernel
theorem ef21 (m : MethodId) (x0 : Addr) (x1 : Addr)  : entryFrame m #[(.ref x0), (.ref x1)] 2 = mkF m 0 #[.val (.ref x0), .val (.ref x1)] [] := by first | (simp [entryFrame, mkF, argsToLocals, Value.category]; done) | rfl | rfl
set_option maxRecDepth 65536 in
set_option maxHeartbeats 40000000 in
theorem rm21 (l : Launch) (Z : State) (a0 : Array Value) (hw : ∀ d ∈ tables_1, d.before a0 Z = true) (hEL : EW Z a0 EL0) (zc : Int32) (SC : Sta Z Z.heap "java/lang/String" "COMPACT_STRINGS" "Z" (.int zc)) (hzc : ¬ zc = 0) (fm : Value) (SF : Sta Z Z.heap "jdk/internal/util/Preconditions" "SIOOBE_FORMATTER" "Ljava/util/function/BiFunction;" fm) (rfm : fm.isRef = true) (x1 : Addr) (x2 : Addr) (kc : ClassId) (h0 : Heap) {n0 : Nat} (O0 : Old Z n0 h0) (E1 : Exa Z h0 x1 "java/lang/String") (F1 : Fld Z h0 x1 "java/lang/String" "value" "[B" .null) (F2 : Fld Z h0 x1 "java/lang/String" "coder" "B" (.int (0 : Int32))) (g1 : n0 ≤ x1) (A1 : Arv Z h0 x2 kc .char (0 : Int32) [] (.int (0 : Int32))) :
    Met l Z EL0 n0 (⟨"java/lang/String", "<init>", "([C)V"⟩ : MethodName) jdk_42_method_3_code 2 none [] ({ frames := 2, cells := 4, slots := 8, locals := 29 } : Room) #[(.ref x1), (.ref x2)] h0 [x1] [x1] (fun v h' => v = none ∧ Str Z h' x1 []) := by
  refine Met.of (plainFor_of_name pn0) O0 ?_
  intro p e s m below meth c T0 hx hby hml hret hlk hnm hs W0
  have W0 : Wk p l e _ s m _ below meth c Z EL0 n0 [x1] "java/lang/String" [x1] T0 0 0 h0 := W0
  have hSA := fun d hd => hw d (sa_in d hd)
  have hws := fun d hd => hw d (ws_in d hd)
  have heq := fun d hd => hw d (eq_in d hd)
  refine Go.of (fun _ kk => castTop (ef21 m x1 x2) kk) ?_
  show Go p e below _ (T0.setTop (mkF m 0 #[.val (.ref x1), .val (.ref x2)] []))
  refine Go.of (t' := T0.setTop (mkF m 1 #[.val (.ref x1), .val (.ref x2)] [(.ref x1)])) (fun _ kk => XS.aloadN W0.here hx rfl (hb hby d21_0) rfl rfl kk) ?_
  refine Go.of (t' := T0.setTop (mkF m 2 #[.val (.ref x1), .val (.ref x2)] [(.ref x2), (.ref x1)])) (fun _ kk => XS.aloadN W0.here hx rfl (hb hby d21_1) rfl rfl kk) ?_
  refine Go.of (t' := T0.setTop (mkF m 3 #[.val (.ref x1), .val (.ref x2)] [(.int (0 : Int32)), (.ref x2), (.ref x1)])) (fun _ kk => XS.iconst W0.here hx rfl (hb hby d21_2) kk) ?_
  refine Go.of (t' := T0.setTop (mkF m 4 #[.val (.ref x1), .val (.ref x2)] [(.ref x2), (.int (0 : Int32)), (.ref x2), (.ref x1)])) (fun _ kk => XS.aloadN W0.here hx rfl (hb hby d21_3) rfl rfl kk) ?_
  refine W0.alen hx A1 rfl rfl (hb hby d21_4) ?_
  show Go p e below _ (T0.setTop (mkF m 5 #[.val (.ref x1), .val (.ref x2)] [(.int (0 : Int32)), (.int (0 : Int32)), (.ref x2), (.ref x1)]))
  refine Go.of (t' := T0.setTop (mkF m 6 #[.val (.ref x1), .val (.ref x2)] [.null, (.int (0 : Int32)), (.int (0 : Int32)), (.ref x2), (.ref x1)])) (fun _ kk => XS.aconstNull W0.here hx rfl (hb hby d21_5) kk) ?_
  refine W0.callP hx hEL rfl (hw _ (List.mem_of_getElem? (i := 11) rfl)) (hw _ (List.mem_of_getElem? (i := 12) rfl)) (hw _ (List.mem_of_getElem? (i := 7) rfl)) (hw _ (List.mem_of_getElem? (i := 14) rfl)) (by decide +kernel) (a := x1) (argsL := [(.ref x2), (.int (0 : Int32)), (.int (0 : Int32)), .null]) (rest := []) (rm20 l Z a0 hw hEL zc SC hzc fm SF rfm x1 x2 h0 W0.old E1 F1 F2 g1) (allS (List.mem_of_getElem? (i := 0) rfl) all0) (by decide +kernel) (Wd := 0) (by decide +kernel) (by decide +kernel) (by decide +kernel) (allS ⟨g1, (Or.inl (List.mem_of_getElem? (i := 0) rfl))⟩ all0) rfl (by rw [hml]; rfl) (lenOf pd0 rfl) rfl (by show 2 * 0 + _ ≤ _; exact Nat.le_of_eq rfl) (hb hby d21_6) (fun T1 h1 v1 W1 K1 q1 => ?_)
  obtain ⟨rfl, S1⟩ := q1
  show Go p e below _ (T1.setTop (mkF m 9 #[.val (.ref x1), .val (.ref x2)] []))
  exact W1.retV hx hEL hs hlk (by decide +kernel) (by decide +kernel) hret (hb hby d21_9) ⟨rfl, S1⟩
theorem d24_0 : decode jdk_43_method_3_code 0 = .ok (.iload_n 0, 1) := by decide +kernel
theorem d24_1 : decode jdk_43_method_3_code 1 = .ok (.sipush 255, 3) := by decide +kernel
theorem d24_4 : decode jdk_43_method_3_code 4 = .ok (.if_icmp .gt 7, 3) := by decide +kernel
theorem d24_7 : decode jdk_43_method_3_code 7 = .ok (.iconst 1, 1) := by decide +kernel
theorem d24_8 : decode jdk_43_method_3_code 8 = .ok (.goto 4, 3) := by decide +kernel
theorem d24_12 : decode jdk_43_method_3_code 12 = .ok (.ireturn, 1) := by decide +kernel
theorem ef24 (m : MethodId) (x0 : Int32)  : entryFrame m #[(.int x0)] 1 = mkF m 0 #[.val (.int x0)] [] := by first | (simp [entryFrame, mkF, argsToLocals, Value.category]; done) | rfl | rfl
set_option maxRecDepth 65536 in
set_option maxHeartbeats 40000000 in
theorem rm24 (l : Launch) (Z : State) (a0 : Array Value) (hw : ∀ d ∈ tables_1, d.before a0 Z = true) (hEL : EW Z a0 EL0) (zc : Int32) (SC : Sta Z Z.heap "java/lang/String" "COMPACT_STRINGS" "Z" (.int zc)) (hzc : ¬ zc = 0) (fm : Value) (SF : Sta Z Z.heap "jdk/internal/util/Preconditions" "SIOOBE_FORMATTER" "Ljava/util/function/BiFunction;" fm) (rfm : fm.isRef = true) (q1 : Int32) (h0 : Heap) {n0 : Nat} (O0 : Old Z n0 h0) (cq1 : ¬ q1 < 0 ∧ ¬ (255 : Int32) < q1) :
    Met l Z EL0 n0 (⟨"java/lang/StringLatin1", "canEncode", "(C)Z"⟩ : MethodName) jdk_43_method_3_code 1 (some .boolean) [] ({ frames := 0, cells := 0, slots := 0, locals := 0 } : Room) #[(.int q1)] h0 [] [] (fun v h' => v = some (.int 1) ∧ h0 = h') := by
  refine Met.of (plainFor_of_name pn1) O0 ?_
  intro p e s m below meth c T0 hx hby hml hret hlk hnm hs W0
  have W0 : Wk p l e _ s m _ below meth c Z EL0 n0 [] "java/lang/StringLatin1" [] T0 0 0 h0 := W0
  have hSA := fun d hd => hw d (sa_in d hd)
  have hws := fun d hd => hw d (ws_in d hd)
  have heq := fun d hd => hw d (eq_in d hd)
  refine Go.of (fun _ kk => castTop (ef24 m q1) kk) ?_
  show Go p e below _ (T0.setTop (mkF m 0 #[.val (.int q1)] []))
  refine Go.of (t' := T0.setTop (mkF m 1 #[.val (.int q1)] [(.int q1)])) (fun _ kk => XS.iloadN W0.here hx rfl (hb hby d24_0) rfl kk) ?_
  refine Go.of (t' := T0.setTop (mkF m 4 #[.val (.int q1)] [(.int (255 : Int32)), (.int q1)])) (fun _ kk => XS.sipush W0.here hx rfl (hb hby d24_1) kk) ?_
  refine Go.of (t' := T0.setTop (mkF m 7 #[.val (.int q1)] [])) (fun _ kk => XS.icmpNo W0.here hx rfl (hb hby d24_4) rfl (XT.ii_gt_f cq1.2) kk) ?_
  refine Go.of (t' := T0.setTop (mkF m 8 #[.val (.int q1)] [(.int (1 : Int32))])) (fun _ kk => XS.iconst W0.here hx rfl (hb hby d24_7) kk) ?_
  refine Go.of (t' := T0.setTop (mkF m 12 #[.val (.int q1)] [(.int (1 : Int32))])) (fun _ kk => XS.goto W0.here hx rfl (pc0 := 8) (pc' := 12) rfl (hb hby d24_8) (by decide +kernel) (by decide +kernel) kk) ?_
  exact W0.retI hx hEL hs hlk (by decide +kernel) (by decide +kernel) hret (by simp) rfl (hb hby d24_12) ⟨rfl, rfl⟩
theorem d25_0 : decode jdk_43_method_46_code 0 = .ok (.iconst 1, 1) := by decide +kernel
theorem d25_1 : decode jdk_43_method_46_code 1 = .ok (.newarray .byte, 2) := by decide +kernel
theorem d25_3 : decode jdk_43_method_46_code 3 = .ok (.dup, 1) := by decide +kernel
theorem d25_4 : decode jdk_43_method_46_code 4 = .ok (.iconst 0, 1) := by decide +kernel
theorem d25_5 : decode jdk_43_method_46_code 5 = .ok (.iload_n 0, 1) := by decide +kernel
theorem d25_6 : decode jdk_43_method_46_code 6 = .ok (.i2b, 1) := by decide +kernel
theorem d25_7 : decode jdk_43_method_46_code 7 = .ok (.bastore, 1) := by decide +kernel
theorem d25_8 : decode jdk_43_method_46_code 8 = .ok (.areturn, 1) := by decide +kernel
theorem ef25 (m : MethodId) (x0 : Int32)  : entryFrame m #[(.int x0)] 1 = mkF m 0 #[.val (.int x0)] [] := by first | (simp [entryFrame, mkF, argsToLocals, Value.category]; done) | rfl | rfl
set_option maxRecDepth 65536 in
set_option maxHeartbeats 40000000 in
theorem rm25 (l : Launch) (Z : State) (a0 : Array Value) (hw : ∀ d ∈ tables_1, d.before a0 Z = true) (hEL : EW Z a0 EL0) (zc : Int32) (SC : Sta Z Z.heap "java/lang/String" "COMPACT_STRINGS" "Z" (.int zc)) (hzc : ¬ zc = 0) (fm : Value) (SF : Sta Z Z.heap "jdk/internal/util/Preconditions" "SIOOBE_FORMATTER" "Ljava/util/function/BiFunction;" fm) (rfm : fm.isRef = true) (q1 : Int32) (h0 : Heap) {n0 : Nat} (O0 : Old Z n0 h0)  :
    Met l Z EL0 n0 (⟨"java/lang/StringLatin1", "toBytes", "(C)[B"⟩ : MethodName) jdk_43_method_46_code 1 (some (.array .byte)) [] ({ frames := 0, cells := 1, slots := 1, locals := 0 } : Room) #[(.int q1)] h0 [] [] (fun v h' => ∃ (r : Addr) (kc : ClassId), v = some (.ref r) ∧ h0.size ≤ r ∧ Arv Z h' r kc .byte (1 : Int32) [(.int (q1.toInt8.toInt32))] (.int (0 : Int32))) := by
  refine Met.of (plainFor_of_name pn1) O0 ?_
  intro p e s m below meth c T0 hx hby hml hret hlk hnm hs W0
  have W0 : Wk p l e _ s m _ below meth c Z EL0 n0 [] "java/lang/StringLatin1" [] T0 0 0 h0 := W0
  have hSA := fun d hd => hw d (sa_in d hd)
  have hws := fun d hd => hw d (ws_in d hd)
  have heq := fun d hd => hw d (eq_in d hd)
  refine Go.of (fun _ kk => castTop (ef25 m q1) kk) ?_
  show Go p e below _ (T0.setTop (mkF m 0 #[.val (.int q1)] []))
  refine Go.of (t' := T0.setTop (mkF m 1 #[.val (.int q1)] [(.int (1 : Int32))])) (fun _ kk => XS.iconst W0.here hx rfl (hb hby d25_0) kk) ?_
  refine W0.newP hx (hw _ (List.mem_of_getElem? (i := 19) rfl)) rfl (hb hby d25_1) rfl (by decide +kernel) (cap := 1) (by decide +kernel) (by decide +kernel) (by decide +kernel) (by decide +kernel) (fun T1 h1 b1 c1 eb1 gb1 W1 K1 A1 => ?_)
  have V1 : Arv Z h1 b1 c1 .byte (1 : Int32) [(.int (0 : Int32))] (.int (0 : Int32)) := A1
  show Go p e below _ (T1.setTop (mkF m 3 #[.val (.int q1)] [(.ref b1)]))
  refine Go.of (t' := T1.setTop (mkF m 4 #[.val (.int q1)] [(.ref b1), (.ref b1)])) (fun _ kk => XS.dup W1.here hx rfl (hb hby d25_3) rfl rfl kk) ?_
  refine Go.of (t' := T1.setTop (mkF m 5 #[.val (.int q1)] [(.int (0 : Int32)), (.ref b1), (.ref b1)])) (fun _ kk => XS.iconst W1.here hx rfl (hb hby d25_4) kk) ?_
  refine Go.of (t' := T1.setTop (mkF m 6 #[.val (.int q1)] [(.int q1), (.int (0 : Int32)), (.ref b1), (.ref b1)])) (fun _ kk => XS.iloadN W1.here hx rfl (hb hby d25_5) rfl kk) ?_
  refine Go.of (t' := T1.setTop (mkF m 7 #[.val (.int q1)] [(.int (q1.toInt8.toInt32)), (.int (0 : Int32)), (.ref b1), (.ref b1)])) (fun _ kk => XS.i2b W1.here hx rfl (hb hby d25_6) rfl kk) ?_
  refine W1.stB hx V1 ⟨by decide, by decide⟩ 0 rfl (Nat.le_of_ble_eq_true rfl) gb1.1 (Or.inr gb1.2) (List.mem_of_getElem? (i := 0) rfl) rfl rfl (hb hby d25_7) (fun T2 h2 W2 K2 A2 => ?_)
  have V2 : Arv Z h2 b1 c1 .byte (1 : Int32) [(.int (q1.toInt8.toInt32))] (.int (0 : Int32)) := (by rw [(nar_byte _)] at A2; exact A2)
  show Go p e below _ (T2.setTop (mkF m 8 #[.val (.int q1)] [(.ref b1)]))
  exact W2.retA hx hEL hs hlk (by decide +kernel) (by decide +kernel) hret rfl rfl (hb hby d25_8) ⟨b1, c1, rfl, hs ▸ gb1.2, V2⟩
theorem d26_0 : decode jdk_42_method_151_code 0 = .ok (.aload_n 0, 1) := by decide +kernel
theorem d26_1 : decode jdk_42_method_151_code 1 = .ok (.invokespecial 1, 3) := by decide +kernel
theorem d26_4 : decode jdk_42_method_151_code 4 = .ok (.aload_n 0, 1) := by decide +kernel
theorem d26_5 : decode jdk_42_method_151_code 5 = .ok (.aload_n 1, 1) := by decide +kernel
theorem d26_6 : decode jdk_42_method_151_code 6 = .ok (.putfield 9, 3) := by decide +kernel
theorem d26_9 : decode jdk_42_method_151_code 9 = .ok (.aload_n 0, 1) := by decide +kernel
theorem d26_10 : decode jdk_42_method_151_code 10 = .ok (.iload_n 2, 1) := by decide +kernel
theorem d26_11 : decode jdk_42_method_151_code 11 = .ok (.putfield 15, 3) := by decide +kernel
theorem d26_14 : decode jdk_42_method_151_code 14 = .ok (.return_, 1) := by decide +kernel
theorem ef26 (m : MethodId) (x0 : Addr) (x1 : Addr) (x2 : Int32)  : entryFrame m #[(.ref x0), (.ref x1), (.int x2)] 3 = mkF m 0 #[.val (.ref x0), .val (.ref x1), .val (.int x2)] [] := by first | (simp [entryFrame, mkF, argsToLocals, Value.category]; done) | rfl | rfl
set_option maxRecDepth 65536 in
set_option maxHeartbeats 40000000 in
theorem rm26 (l : Launch) (Z : State) (a0 : Array Value) (hw : ∀ d ∈ tables_1, d.before a0 Z = true) (hEL : EW Z a0 EL0) (zc : Int32) (SC : Sta Z Z.heap "java/lang/String" "COMPACT_STRINGS" "Z" (.int zc)) (hzc : ¬ zc = 0) (fm : Value) (SF : Sta Z Z.heap "jdk/internal/util/Preconditions" "SIOOBE_FORMATTER" "Ljava/util/function/BiFunction;" fm) (rfm : fm.isRef = true) (x1 : Addr) (x2 : Addr) (z3 : Int32) (h0 : Heap) {n0 : Nat} (O0 : Old Z n0 h0) (E1 : Exa Z h0 x1 "java/lang/String") (F1 : Fld Z h0 x1 "java/lang/String" "value" "[B" .null) (F2 : Fld Z h0 x1 "java/lang/String" "coder" "B" (.int (0 : Int32))) (g1 : n0 ≤ x1) (hn3 : narrow .byte (.int z3) = .int z3) (hf3 : fits .byte (.int z3) = true) :
    Met l Z EL0 n0 (⟨"java/lang/String", "<init>", "([BB)V"⟩ : MethodName) jdk_42_method_151_code 3 none [] ({ frames := 1, cells := 0, slots := 0, locals := 12 } : Room) #[(.ref x1), (.ref x2), (.int z3)] h0 [x1] [x1] (fun v h' => v = none ∧ Fld Z h' x1 "java/lang/String" "value" "[B" (.ref x2) ∧ Fld Z h' x1 "java/lang/String" "coder" "B" (.int z3)) := by
  refine Met.of (plainFor_of_name pn0) O0 ?_
  intro p e s m below meth c T0 hx hby hml hret hlk hnm hs W0
  have W0 : Wk p l e _ s m _ below meth c Z EL0 n0 [x1] "java/lang/String" [x1] T0 0 0 h0 := W0
  have hSA := fun d hd => hw d (sa_in d hd)
  have hws := fun d hd => hw d (ws_in d hd)
  have heq := fun d hd => hw d (eq_in d hd)
  refine Go.of (fun _ kk => castTop (ef26 m x1 x2 z3) kk) ?_
  show Go p e below _ (T0.setTop (mkF m 0 #[.val (.ref x1), .val (.ref x2), .val (.int z3)] []))
  refine Go.of (t' := T0.setTop (mkF m 1 #[.val (.ref x1), .val (.ref x2), .val (.int z3)] [(.ref x1)])) (fun _ kk => XS.aloadN W0.here hx rfl (hb hby d26_0) rfl rfl kk) ?_
  refine W0.initO hx (hw _ (List.mem_of_getElem? (i := 15) rfl)) (hw _ (List.mem_of_getElem? (i := 16) rfl)) (hw _ (List.mem_of_getElem? (i := 17) rfl)) rfl (by rw [hml]; rfl) rfl (hb hby d26_1) (by decide +kernel) (Wd := 0) (by show 2 * 0 + _ ≤ _; exact Nat.le_of_eq rfl) (by decide +kernel) (fun T1 W1 => ?_)
  show Go p e below _ (T1.setTop (mkF m 4 #[.val (.ref x1), .val (.ref x2), .val (.int z3)] []))
  refine Go.of (t' := T1.setTop (mkF m 5 #[.val (.ref x1), .val (.ref x2), .val (.int z3)] [(.ref x1)])) (fun _ kk => XS.aloadN W1.here hx rfl (hb hby d26_4) rfl rfl kk) ?_
  refine Go.of (t' := T1.setTop (mkF m 6 #[.val (.ref x1), .val (.ref x2), .val (.int z3)] [(.ref x2), (.ref x1)])) (fun _ kk => XS.aloadN W1.here hx rfl (hb hby d26_5) rfl rfl kk) ?_
  refine W1.putF hx (host := "") (Or.inl (hw _ (List.mem_of_getElem? (i := 24) rfl))) Via.refl F1 E1 (Or.inr ⟨(hw _ (List.mem_of_getElem? (i := 20) rfl)), rfl, hnm⟩) (hw _ (List.mem_of_getElem? (i := 6) rfl)) (ty := (.array .byte)) (by decide +kernel) rfl rfl g1 (Or.inl (List.mem_of_getElem? (i := 0) rfl)) (Or.inl (List.mem_of_getElem? (i := 0) rfl)) rfl rfl (hb hby d26_6) (fun T2 h2 W2 w2 => ?_)
  have K2 := Keep.of_wr w2
  have k3 := F2.other w2 (Or.inr (slot_ne (Or.inr (hw _ (List.mem_of_getElem? (i := 21) rfl))) (Or.inr (hw _ (List.mem_of_getElem? (i := 20) rfl))) (by decide +kernel) (t := .byte) (t' := (.array .byte)) (by decide +kernel) (by decide +kernel)))
  have k4 := F1.same w2
  show Go p e below _ (T2.setTop (mkF m 9 #[.val (.ref x1), .val (.ref x2), .val (.int z3)] []))
  refine Go.of (t' := T2.setTop (mkF m 10 #[.val (.ref x1), .val (.ref x2), .val (.int z3)] [(.ref x1)])) (fun _ kk => XS.aloadN W2.here hx rfl (hb hby d26_9) rfl rfl kk) ?_
  refine Go.of (t' := T2.setTop (mkF m 11 #[.val (.ref x1), .val (.ref x2), .val (.int z3)] [(.int z3), (.ref x1)])) (fun _ kk => XS.iloadN W2.here hx rfl (hb hby d26_10) rfl kk) ?_
  have k5 := (E1.keep K2)
  refine W2.putF hx (host := "") (Or.inl (hw _ (List.mem_of_getElem? (i := 25) rfl))) Via.refl k3 k5 (Or.inr ⟨(hw _ (List.mem_of_getElem? (i := 21) rfl)), rfl, hnm⟩) (hw _ (List.mem_of_getElem? (i := 6) rfl)) (ty := .byte) (by decide +kernel) hn3 hf3 g1 (Or.inl (List.mem_of_getElem? (i := 0) rfl)) (Or.inl (List.mem_of_getElem? (i := 0) rfl)) rfl rfl (hb hby d26_11) (fun T6 h6 W6 w6 => ?_)
  have K6 := Keep.of_wr w6
  have k7 := k4.other w6 (Or.inr (slot_ne (Or.inr (hw _ (List.mem_of_getElem? (i := 20) rfl))) (Or.inr (hw _ (List.mem_of_getElem? (i := 21) rfl))) (by decide +kernel) (t := (.array .byte)) (t' := .byte) (by decide +kernel) (by decide +kernel)))
  have k8 := k3.same w6
  show Go p e below _ (T6.setTop (mkF m 14 #[.val (.ref x1), .val (.ref x2), .val (.int z3)] []))
  exact W6.retV hx hEL hs hlk (by decide +kernel) (by decide +kernel) hret (hb hby d26_14) ⟨rfl, k7, k8⟩
theorem d27_0 : decode jdk_42_method_139_code 0 = .ok (.getstatic 38, 3) := by decide +kernel
theorem d27_3 : decode jdk_42_method_139_code 3 = .ok (.ifCond .eq 23, 3) := by decide +kernel
theorem d27_6 : decode jdk_42_method_139_code 6 = .ok (.iload_n 0, 1) := by decide +kernel
theorem d27_7 : decode jdk_42_method_139_code 7 = .ok (.invokestatic 1015, 3) := by decide +kernel
theorem d27_10 : decode jdk_42_method_139_code 10 = .ok (.ifCond .eq 16, 3) := by decide +kernel
theorem d27_13 : decode jdk_42_method_139_code 13 = .ok (.new 10, 3) := by decide +kernel
theorem d27_16 : decode jdk_42_method_139_code 16 = .ok (.dup, 1) := by decide +kernel
theorem d27_17 : decode jdk_42_method_139_code 17 = .ok (.iload_n 0, 1) := by decide +kernel
theorem d27_18 : decode jdk_42_method_139_code 18 = .ok (.invokestatic 1018, 3) := by decide +kernel
theorem d27_21 : decode jdk_42_method_139_code 21 = .ok (.iconst 0, 1) := by decide +kernel
theorem d27_22 : decode jdk_42_method_139_code 22 = .ok (.invokespecial 209, 3) := by decide +kernel
theorem d27_25 : decode jdk_42_method_139_code 25 = .ok (.areturn, 1) := by decide +kernel
theorem ef27 (m : MethodId) (x0 : Int32)  : entryFrame m #[(.int x0)] 1 = mkF m 0 #[.val (.int x0)] [] := by first | (simp [entryFrame, mkF, argsToLocals, Value.category]; done) | rfl | rfl
set_option maxRecDepth 65536 in
set_option maxHeartbeats 40000000 in
theorem rm27 (l : Launch) (Z : State) (a0 : Array Value) (hw : ∀ d ∈ tables_1, d.before a0 Z = true) (hEL : EW Z a0 EL0) (zc : Int32) (SC : Sta Z Z.heap "java/lang/String" "COMPACT_STRINGS" "Z" (.int zc)) (hzc : ¬ zc = 0) (fm : Value) (SF : Sta Z Z.heap "jdk/internal/util/Preconditions" "SIOOBE_FORMATTER" "Ljava/util/function/BiFunction;" fm) (rfm : fm.isRef = true) (q1 : Int32) (h0 : Heap) {n0 : Nat} (O0 : Old Z n0 h0) (cq1 : ¬ q1 < 0 ∧ ¬ (255 : Int32) < q1) :
    Met l Z EL0 n0 (⟨"java/lang/String", "valueOf", "(C)Ljava/lang/String;"⟩ : MethodName) jdk_42_method_139_code 1 (some (.object "java/lang/String")) [] ({ frames := 2, cells := 2, slots := 5, locals := 27 } : Room) #[(.int q1)] h0 [] [] (fun v h' => ∃ r : Addr, v = some (.ref r) ∧ h0.size ≤ r ∧ Str Z h' r [q1]) := by
  refine Met.of (plainFor_of_name pn0) O0 ?_
  intro p e s m below meth c T0 hx hby hml hret hlk hnm hs W0
  have W0 : Wk p l e _ s m _ below meth c Z EL0 n0 [] "java/lang/String" [] T0 0 0 h0 := W0
  have hSA := fun d hd => hw d (sa_in d hd)
  have hws := fun d hd => hw d (ws_in d hd)
  have heq := fun d hd => hw d (eq_in d hd)
  refine Go.of (fun _ kk => castTop (ef27 m q1) kk) ?_
  show Go p e below _ (T0.setTop (mkF m 0 #[.val (.int q1)] []))
  refine W0.getS hx (host := "") (Or.inl (hw _ (List.mem_of_getElem? (i := 59) rfl))) Via.refl SC rfl (hb hby d27_0) (fun T1 W1 => ?_)
  show Go p e below _ (T1.setTop (mkF m 3 #[.val (.int q1)] [(.int zc)]))
  refine Go.of (t' := T1.setTop (mkF m 6 #[.val (.int q1)] [])) (fun _ kk => XS.ifNo W1.here hx rfl (hb hby d27_3) rfl (XT.i0_eq_f hzc) kk) ?_
  refine Go.of (t' := T1.setTop (mkF m 7 #[.val (.int q1)] [(.int q1)])) (fun _ kk => XS.iloadN W1.here hx rfl (hb hby d27_6) rfl kk) ?_
  refine W1.callS hx hEL (hw _ (List.mem_of_getElem? (i := 78) rfl)) (hw _ (List.mem_of_getElem? (i := 79) rfl)) (hw _ (List.mem_of_getElem? (i := 62) rfl)) (hw _ (List.mem_of_getElem? (i := 80) rfl)) (by decide +kernel) (argsL := [(.int q1)]) (rest := []) (rm24 l Z a0 hw hEL zc SC hzc fm SF rfm q1 h0 W1.old cq1) all0 (by decide +kernel) (Wd := 0) (by decide +kernel) (by decide +kernel) (by decide +kernel) all0 rfl (by rw [hml]; rfl) (lenOf pd1 rfl) rfl (by show 2 * 0 + _ ≤ _; exact Nat.le_of_eq rfl) (hb hby d27_7) (fun T2 h2 v2 W2 K2 q2 => ?_)
  obtain ⟨rfl, rfl⟩ := q2
  show Go p e below _ (T2.setTop (mkF m 10 #[.val (.int q1)] [(.int (1 : Int32))]))
  refine Go.of (t' := T2.setTop (mkF m 13 #[.val (.int q1)] [])) (fun _ kk => XS.ifNo W2.here hx rfl (hb hby d27_10) rfl (XT.i0_eq_f (by decide +kernel)) kk) ?_
  refine W2.newO hx (hw _ (List.mem_of_getElem? (i := 58) rfl)) (hw _ (List.mem_of_getElem? (i := 6) rfl)) (hw _ (List.mem_of_getElem? (i := 7) rfl)) rfl (hb hby d27_13) (by decide +kernel) (by decide +kernel) (fun T3 h3 b3 eb3 gb3 W3 K3 E3 D3 => ?_)
  have k4 : Fld Z h3 b3 "java/lang/String" "value" "[B" .null := D3 (Or.inr (hw _ (List.mem_of_getElem? (i := 20) rfl))) (ty := (.array .byte)) (by decide +kernel)
  have k5 : Fld Z h3 b3 "java/lang/String" "coder" "B" (.int (0 : Int32)) := D3 (Or.inr (hw _ (List.mem_of_getElem? (i := 21) rfl))) (ty := .byte) (by decide +kernel)
  show Go p e below _ (T3.setTop (mkF m 16 #[.val (.int q1)] [(.ref b3)]))
  refine Go.of (t' := T3.setTop (mkF m 17 #[.val (.int q1)] [(.ref b3), (.ref b3)])) (fun _ kk => XS.dup W3.here hx rfl (hb hby d27_16) rfl rfl kk) ?_
  refine Go.of (t' := T3.setTop (mkF m 18 #[.val (.int q1)] [(.int q1), (.ref b3), (.ref b3)])) (fun _ kk => XS.iloadN W3.here hx rfl (hb hby d27_17) rfl kk) ?_
  refine W3.callS hx hEL (hw _ (List.mem_of_getElem? (i := 81) rfl)) (hw _ (List.mem_of_getElem? (i := 82) rfl)) (hw _ (List.mem_of_getElem? (i := 62) rfl)) (hw _ (List.mem_of_getElem? (i := 83) rfl)) (by decide +kernel) (argsL := [(.int q1)]) (rest := [(.ref b3), (.ref b3)]) (rm25 l Z a0 hw hEL zc SC hzc fm SF rfm q1 h3 W3.old ) all0 (by decide +kernel) (Wd := 2) (by decide +kernel) (by decide +kernel) (by decide +kernel) all0 rfl (by rw [hml]; rfl) (lenOf pd2 rfl) rfl (by show 2 * 0 + _ ≤ _; exact Nat.le_of_eq rfl) (hb hby d27_18) (fun T6 h6 v6 W6 K6 q6 => ?_)
  obtain ⟨r6, kc6, rfl, lr6, A6⟩ := q6
  have gr6 : n0 ≤ r6 ∧ s.heap.size ≤ r6 := ⟨Nat.le_trans W3.n0le lr6, Nat.le_trans W3.s0le lr6⟩
  show Go p e below _ (T6.setTop (mkF m 21 #[.val (.int q1)] [(.ref r6), (.ref b3), (.ref b3)]))
  refine Go.of (t' := T6.setTop (mkF m 22 #[.val (.int q1)] [(.int (0 : Int32)), (.ref r6), (.ref b3), (.ref b3)])) (fun _ kk => XS.iconst W6.here hx rfl (hb hby d27_21) kk) ?_
  have k8 := (E3.keep K6)
  have k9 := (k4.keep K6 nin0)
  have k10 := (k5.keep K6 nin0)
  refine W6.callP hx hEL rfl (hw _ (List.mem_of_getElem? (i := 84) rfl)) (hw _ (List.mem_of_getElem? (i := 85) rfl)) (hw _ (List.mem_of_getElem? (i := 7) rfl)) (hw _ (List.mem_of_getElem? (i := 86) rfl)) (by decide +kernel) (a := b3) (argsL := [(.ref r6), (.int (0 : Int32))]) (rest := [(.ref b3)]) (rm26 l Z a0 hw hEL zc SC hzc fm SF rfm b3 r6 (0 : Int32) h6 W6.old k8 k9 k10 gb3.1 rfl rfl) (allS (List.mem_of_getElem? (i := 0) rfl) all0) (by decide +kernel) (Wd := 1) (by decide +kernel) (by decide +kernel) (by decide +kernel) (allS ⟨gb3.1, (Or.inr gb3.2)⟩ all0) rfl (by rw [hml]; rfl) (lenOf pd3 rfl) rfl (by show 2 * 0 + _ ≤ _; exact Nat.le_of_eq rfl) (hb hby d27_22) (fun T7 h7 v7 W7 K7 q7 => ?_)
  obtain ⟨rfl, Fv7, Fc7⟩ := q7
  show Go p e below _ (T7.setTop (mkF m 25 #[.val (.int q1)] [(.ref b3)]))
  have k11 := (k8.keep K7)
  have k12 := (A6.keep K7 (ninS (ne_of_born lr6 E3.lt (Nat.le_refl _)).symm nin0))
  exact W7.retA hx hEL hs hlk (by decide +kernel) (by decide +kernel) hret rfl rfl (hb hby d27_25) ⟨b3, rfl, hs ▸ gb3.2, ⟨r6, kc6, _, _, _, k11, Fv7, Fc7, k12, StrChars.Road.codOf (cs := [q1]) (n := 1) rfl (allSi cq1.2 all0i), up255 (allSi cq1 all0i), Nat.le_of_ble_eq_true rfl⟩⟩
theorem d1_0 : decode method_2_code 0 = .ok (.iload_n 0, 1) := by decide +kernel
theorem d1_1 : decode method_2_code 1 = .ok (.sipush 256, 3) := by decide +kernel
theorem d1_4 : decode method_2_code 4 = .ok (.iand, 1) := by decide +kernel
theorem d1_5 : decode method_2_code 5 = .ok (.ifCond .ne 33, 3) := by decide +kernel
theorem d1_8 : decode method_2_code 8 = .ok (.iload_n 0, 1) := by decide +kernel
theorem d1_9 : decode method_2_code 9 = .ok (.iconst 3, 1) := by decide +kernel
theorem d1_10 : decode method_2_code 10 = .ok (.iand, 1) := by decide +kernel
theorem d1_11 : decode method_2_code 11 = .ok (.istore_n 1, 1) := by decide +kernel
theorem d1_12 : decode method_2_code 12 = .ok (.iload_n 1, 1) := by decide +kernel
theorem d1_13 : decode method_2_code 13 = .ok (.ifCond .ne 6, 3) := by decide +kernel
theorem d1_16 : decode method_2_code 16 = .ok (.bipush 61, 2) := by decide +kernel
theorem d1_18 : decode method_2_code 18 = .ok (.ireturn, 1) := by decide +kernel
theorem d1_19 : decode method_2_code 19 = .ok (.iload_n 1, 1) := by decide +kernel
theorem d1_20 : decode method_2_code 20 = .ok (.iconst 1, 1) := by decide +kernel
theorem d1_21 : decode method_2_code 21 = .ok (.if_icmp .ne 6, 3) := by decide +kernel
theorem d1_24 : decode method_2_code 24 = .ok (.bipush 33, 2) := by decide +kernel
theorem d1_26 : decode method_2_code 26 = .ok (.ireturn, 1) := by decide +kernel
theorem d1_27 : decode method_2_code 27 = .ok (.iload_n 1, 1) := by decide +kernel
theorem d1_28 : decode method_2_code 28 = .ok (.iconst 2, 1) := by decide +kernel
theorem d1_29 : decode method_2_code 29 = .ok (.if_icmp .ne 6, 3) := by decide +kernel
theorem d1_32 : decode method_2_code 32 = .ok (.bipush 60, 2) := by decide +kernel
theorem d1_34 : decode method_2_code 34 = .ok (.ireturn, 1) := by decide +kernel
theorem d1_35 : decode method_2_code 35 = .ok (.bipush 62, 2) := by decide +kernel
theorem d1_37 : decode method_2_code 37 = .ok (.ireturn, 1) := by decide +kernel
theorem d1_38 : decode method_2_code 38 = .ok (.iload_n 0, 1) := by decide +kernel
theorem d1_39 : decode method_2_code 39 = .ok (.sipush 255, 3) := by decide +kernel
theorem d1_42 : decode method_2_code 42 = .ok (.iand, 1) := by decide +kernel
theorem d1_43 : decode method_2_code 43 = .ok (.i2c, 1) := by decide +kernel
theorem d1_44 : decode method_2_code 44 = .ok (.ireturn, 1) := by decide +kernel
theorem ef1 (m : MethodId) (x0 : Int32)  : entryFrame m #[(.int x0)] 2 = mkF m 0 #[.val (.int x0), .unset] [] := by first | (simp [entryFrame, mkF, argsToLocals, Value.category]; done) | rfl | rfl
set_option maxRecDepth 65536 in
set_option maxHeartbeats 40000000 in
theorem rm1 (l : Launch) (Z : State) (a0 : Array Value) (hw : ∀ d ∈ tables_1, d.before a0 Z = true) (hEL : EW Z a0 EL0) (zc : Int32) (SC : Sta Z Z.heap "java/lang/String" "COMPACT_STRINGS" "Z" (.int zc)) (hzc : ¬ zc = 0) (fm : Value) (SF : Sta Z Z.heap "jdk/internal/util/Preconditions" "SIOOBE_FORMATTER" "Ljava/util/function/BiFunction;" fm) (rfm : fm.isRef = true) (x1 : Int32) (h0 : Heap) {n0 : Nat} (O0 : Old Z n0 h0)  :
    Met l Z EL0 n0 (⟨"org/portcullis/expression/OperatorWrittenPinLaw", "pick", "(I)C"⟩ : MethodName) method_2_code 2 (some .char) [] ({ frames := 0, cells := 0, slots := 0, locals := 0 } : Room) #[(.int x1)] h0 [] [] (fun v h' => ∃ q : Int32, v = some (.int q) ∧ (¬ q < 0 ∧ ¬ (255 : Int32) < q) ∧ h0 = h') := by
  refine Met.of (plainFor_of_name pn2) O0 ?_
  intro p e s m below meth c T0 hx hby hml hret hlk hnm hs W0
  have W0 : Wk p l e _ s m _ below meth c Z EL0 n0 [] "org/portcullis/expression/OperatorWrittenPinLaw" [] T0 0 0 h0 := W0
  have hSA := fun d hd => hw d (sa_in d hd)
  have hws := fun d hd => hw d (ws_in d hd)
  have heq := fun d hd => hw d (eq_in d hd)
  refine Go.of (fun _ kk => castTop (ef1 m x1) kk) ?_
  show Go p e below _ (T0.setTop (mkF m 0 #[.val (.int x1), .unset] []))
  refine Go.of (t' := T0.setTop (mkF m 1 #[.val (.int x1), .unset] [(.int x1)])) (fun _ kk => XS.iloadN W0.here hx rfl (hb hby d1_0) rfl kk) ?_
  refine Go.of (t' := T0.setTop (mkF m 4 #[.val (.int x1), .unset] [(.int (256 : Int32)), (.int x1)])) (fun _ kk => XS.sipush W0.here hx rfl (hb hby d1_1) kk) ?_
  refine Go.of (t' := T0.setTop (mkF m 5 #[.val (.int x1), .unset] [(.int (x1 &&& (256 : Int32)))])) (fun _ kk => XS.iand W0.here hx rfl (hb hby d1_4) rfl kk) ?_
  by_cases c1 : (x1 &&& (256 : Int32)) = (0 : Int32)
  · refine Go.of (t' := T0.setTop (mkF m 8 #[.val (.int x1), .unset] [])) (fun _ kk => XS.ifNo W0.here hx rfl (hb hby d1_5) rfl (XT.i0_ne_f c1) kk) ?_
    refine Go.of (t' := T0.setTop (mkF m 9 #[.val (.int x1), .unset] [(.int x1)])) (fun _ kk => XS.iloadN W0.here hx rfl (hb hby d1_8) rfl kk) ?_
    refine Go.of (t' := T0.setTop (mkF m 10 #[.val (.int x1), .unset] [(.int (3 : Int32)), (.int x1)])) (fun _ kk => XS.iconst W0.here hx rfl (hb hby d1_9) kk) ?_
    refine Go.of (t' := T0.setTop (mkF m 11 #[.val (.int x1), .unset] [(.int (x1 &&& (3 : Int32)))])) (fun _ kk => XS.iand W0.here hx rfl (hb hby d1_10) rfl kk) ?_
    refine Go.of (t' := T0.setTop (mkF m 12 #[.val (.int x1), .val (.int (x1 &&& (3 : Int32)))] [])) (fun _ kk => XS.istoreN W0.here hx rfl (hb hby d1_11) rfl (l' := #[.val (.int x1), .val (.int (x1 &&& (3 : Int32)))]) rfl kk) ?_
    refine Go.of (t' := T0.setTop (mkF m 13 #[.val (.int x1), .val (.int (x1 &&& (3 : Int32)))] [(.int (x1 &&& (3 : Int32)))])) (fun _ kk => XS.iloadN W0.here hx rfl (hb hby d1_12) rfl kk) ?_
    by_cases c2 : (x1 &&& (3 : Int32)) = (0 : Int32)
    · refine Go.of (t' := T0.setTop (mkF m 16 #[.val (.int x1), .val (.int (x1 &&& (3 : Int32)))] [])) (fun _ kk => XS.ifNo W0.here hx rfl (hb hby d1_13) rfl (XT.i0_ne_f c2) kk) ?_
      refine Go.of (t' := T0.setTop (mkF m 18 #[.val (.int x1), .val (.int (x1 &&& (3 : Int32)))] [(.int (61 : Int32))])) (fun _ kk => XS.bipush W0.here hx rfl (hb hby d1_16) kk) ?_
      exact W0.retI hx hEL hs hlk (by decide +kernel) (by decide +kernel) hret (by simp) rfl (hb hby d1_18) ⟨_, rfl, ⟨by decide, by decide⟩, rfl⟩
    · refine Go.of (t' := T0.setTop (mkF m 19 #[.val (.int x1), .val (.int (x1 &&& (3 : Int32)))] [])) (fun _ kk => XS.ifYes W0.here hx rfl (pc0 := 13) (pc' := 19) rfl (hb hby d1_13) rfl (XT.i0_ne_t c2) (by decide +kernel) (by decide +kernel) kk) ?_
      refine Go.of (t' := T0.setTop (mkF m 20 #[.val (.int x1), .val (.int (x1 &&& (3 : Int32)))] [(.int (x1 &&& (3 : Int32)))])) (fun _ kk => XS.iloadN W0.here hx rfl (hb hby d1_19) rfl kk) ?_
      refine Go.of (t' := T0.setTop (mkF m 21 #[.val (.int x1), .val (.int (x1 &&& (3 : Int32)))] [(.int (1 : Int32)), (.int (x1 &&& (3 : Int32)))])) (fun _ kk => XS.iconst W0.here hx rfl (hb hby d1_20) kk) ?_
      by_cases c3 : (x1 &&& (3 : Int32)) = (1 : Int32)
      · refine Go.of (t' := T0.setTop (mkF m 24 #[.val (.int x1), .val (.int (x1 &&& (3 : Int32)))] [])) (fun _ kk => XS.icmpNo W0.here hx rfl (hb hby d1_21) rfl (XT.ii_ne_f c3) kk) ?_
        refine Go.of (t' := T0.setTop (mkF m 26 #[.val (.int x1), .val (.int (x1 &&& (3 : Int32)))] [(.int (33 : Int32))])) (fun _ kk => XS.bipush W0.here hx rfl (hb hby d1_24) kk) ?_
        exact W0.retI hx hEL hs hlk (by decide +kernel) (by decide +kernel) hret (by simp) rfl (hb hby d1_26) ⟨_, rfl, ⟨by decide, by decide⟩, rfl⟩
      · refine Go.of (t' := T0.setTop (mkF m 27 #[.val (.int x1), .val (.int (x1 &&& (3 : Int32)))] [])) (fun _ kk => XS.icmpYes W0.here hx rfl (pc0 := 21) (pc' := 27) rfl (hb hby d1_21) rfl (XT.ii_ne_t c3) (by decide +kernel) (by decide +kernel) kk) ?_
        refine Go.of (t' := T0.setTop (mkF m 28 #[.val (.int x1), .val (.int (x1 &&& (3 : Int32)))] [(.int (x1 &&& (3 : Int32)))])) (fun _ kk => XS.iloadN W0.here hx rfl (hb hby d1_27) rfl kk) ?_
        refine Go.of (t' := T0.setTop (mkF m 29 #[.val (.int x1), .val (.int (x1 &&& (3 : Int32)))] [(.int (2 : Int32)), (.int (x1 &&& (3 : Int32)))])) (fun _ kk => XS.iconst W0.here hx rfl (hb hby d1_28) kk) ?_
        by_cases c4 : (x1 &&& (3 : Int32)) = (2 : Int32)
        · refine Go.of (t' := T0.setTop (mkF m 32 #[.val (.int x1), .val (.int (x1 &&& (3 : Int32)))] [])) (fun _ kk => XS.icmpNo W0.here hx rfl (hb hby d1_29) rfl (XT.ii_ne_f c4) kk) ?_
          refine Go.of (t' := T0.setTop (mkF m 34 #[.val (.int x1), .val (.int (x1 &&& (3 : Int32)))] [(.int (60 : Int32))])) (fun _ kk => XS.bipush W0.here hx rfl (hb hby d1_32) kk) ?_
          exact W0.retI hx hEL hs hlk (by decide +kernel) (by decide +kernel) hret (by simp) rfl (hb hby d1_34) ⟨_, rfl, ⟨by decide, by decide⟩, rfl⟩
        · refine Go.of (t' := T0.setTop (mkF m 35 #[.val (.int x1), .val (.int (x1 &&& (3 : Int32)))] [])) (fun _ kk => XS.icmpYes W0.here hx rfl (pc0 := 29) (pc' := 35) rfl (hb hby d1_29) rfl (XT.ii_ne_t c4) (by decide +kernel) (by decide +kernel) kk) ?_
          refine Go.of (t' := T0.setTop (mkF m 37 #[.val (.int x1), .val (.int (x1 &&& (3 : Int32)))] [(.int (62 : Int32))])) (fun _ kk => XS.bipush W0.here hx rfl (hb hby d1_35) kk) ?_
          exact W0.retI hx hEL hs hlk (by decide +kernel) (by decide +kernel) hret (by simp) rfl (hb hby d1_37) ⟨_, rfl, ⟨by decide, by decide⟩, rfl⟩
  · refine Go.of (t' := T0.setTop (mkF m 38 #[.val (.int x1), .unset] [])) (fun _ kk => XS.ifYes W0.here hx rfl (pc0 := 5) (pc' := 38) rfl (hb hby d1_5) rfl (XT.i0_ne_t c1) (by decide +kernel) (by decide +kernel) kk) ?_
    refine Go.of (t' := T0.setTop (mkF m 39 #[.val (.int x1), .unset] [(.int x1)])) (fun _ kk => XS.iloadN W0.here hx rfl (hb hby d1_38) rfl kk) ?_
    refine Go.of (t' := T0.setTop (mkF m 42 #[.val (.int x1), .unset] [(.int (255 : Int32)), (.int x1)])) (fun _ kk => XS.sipush W0.here hx rfl (hb hby d1_39) kk) ?_
    refine Go.of (t' := T0.setTop (mkF m 43 #[.val (.int x1), .unset] [(.int (x1 &&& (255 : Int32)))])) (fun _ kk => XS.iand W0.here hx rfl (hb hby d1_42) rfl kk) ?_
    refine Go.of (t' := T0.setTop (mkF m 44 #[.val (.int x1), .unset] [(.int ((x1 &&& (255 : Int32)).toUInt32.toUInt16.toUInt32.toInt32))])) (fun _ kk => XS.i2c W0.here hx rfl (hb hby d1_43) rfl kk) ?_
    obtain ⟨q5, hq5, cq5, zq5⟩ := char255 x1
    rw [hq5]
    show Go p e below _ (T0.setTop (mkF m 44 #[.val (.int x1), .unset] [(.int q5)]))
    exact W0.retI hx hEL hs hlk (by decide +kernel) (by decide +kernel) hret (by simp) (nar_ret cq5) (hb hby d1_44) ⟨_, rfl, cq5, rfl⟩
theorem d2_0 : decode prog_74_method_1_code 0 = .ok (.getstatic 22, 3) := by decide +kernel
theorem d2_3 : decode prog_74_method_1_code 3 = .ok (.invokevirtual 26, 3) := by decide +kernel
theorem d2_6 : decode prog_74_method_1_code 6 = .ok (.checkcast 27, 3) := by decide +kernel
theorem d2_9 : decode prog_74_method_1_code 9 = .ok (.areturn, 1) := by decide +kernel
theorem ef2 (m : MethodId)   : entryFrame m #[] 0 = mkF m 0 #[] [] := by first | (simp [entryFrame, mkF, argsToLocals, Value.category]; done) | rfl | rfl
set_option maxRecDepth 65536 in
set_option maxHeartbeats 40000000 in
theorem rm2 (l : Launch) (Z : State) (a0 : Array Value) (hw : ∀ d ∈ tables_1, d.before a0 Z = true) (hEL : EW Z a0 EL0) (zc : Int32) (SC : Sta Z Z.heap "java/lang/String" "COMPACT_STRINGS" "Z" (.int zc)) (hzc : ¬ zc = 0) (fm : Value) (SF : Sta Z Z.heap "jdk/internal/util/Preconditions" "SIOOBE_FORMATTER" "Ljava/util/function/BiFunction;" fm) (rfm : fm.isRef = true) (e0 : Addr) (e1 : Addr) (e2 : Addr) (e3 : Addr) (e4 : Addr) (e5 : Addr) (s0 : Addr) (s1 : Addr) (s2 : Addr) (s3 : Addr) (s4 : Addr) (s5 : Addr) (av : Addr) (kv : ClassId) (h0 : Heap) {n0 : Nat} (O0 : Old Z n0 h0) (OE0 : Exa Z Z.heap e0 "org/portcullis/expression/Node$Comparison$Operator") (OE1 : Exa Z Z.heap e1 "org/portcullis/expression/Node$Comparison$Operator") (OE2 : Exa Z Z.heap e2 "org/portcullis/expression/Node$Comparison$Operator") (OE3 : Exa Z Z.heap e3 "org/portcullis/expression/Node$Comparison$Operator") (OE4 : Exa Z Z.heap e4 "org/portcullis/expression/Node$Comparison$Operator") (OE5 : Exa Z Z.heap e5 "org/portcullis/expression/Node$Comparison$Operator") (OF0 : Fld Z Z.heap e0 "org/portcullis/expression/Node$Comparison$Operator" "iSymbol" "Ljava/lang/String;" (.ref s0)) (OF1 : Fld Z Z.heap e1 "org/portcullis/expression/Node$Comparison$Operator" "iSymbol" "Ljava/lang/String;" (.ref s1)) (OF2 : Fld Z Z.heap e2 "org/portcullis/expression/Node$Comparison$Operator" "iSymbol" "Ljava/lang/String;" (.ref s2)) (OF3 : Fld Z Z.heap e3 "org/portcullis/expression/Node$Comparison$Operator" "iSymbol" "Ljava/lang/String;" (.ref s3)) (OF4 : Fld Z Z.heap e4 "org/portcullis/expression/Node$Comparison$Operator" "iSymbol" "Ljava/lang/String;" (.ref s4)) (OF5 : Fld Z Z.heap e5 "org/portcullis/expression/Node$Comparison$Operator" "iSymbol" "Ljava/lang/String;" (.ref s5)) (OS0 : Str Z Z.heap s0 [(61 : Int32), (61 : Int32)]) (OS1 : Str Z Z.heap s1 [(33 : Int32), (61 : Int32)]) (OS2 : Str Z Z.heap s2 [(60 : Int32)]) (OS3 : Str Z Z.heap s3 [(60 : Int32), (61 : Int32)]) (OS4 : Str Z Z.heap s4 [(62 : Int32)]) (OS5 : Str Z Z.heap s5 [(62 : Int32), (61 : Int32)]) (OA : Arv Z Z.heap av kv (.object "org/portcullis/expression/Node$Comparison$Operator") (6 : Int32) [(.ref e0), (.ref e1), (.ref e2), (.ref e3), (.ref e4), (.ref e5)] .null) (OV : Exa Z Z.heap av "[Lorg/portcullis/expression/Node$Comparison$Operator;") (OT : Sta Z Z.heap "org/portcullis/expression/Node$Comparison$Operator" "$VALUES" "[Lorg/portcullis/expression/Node$Comparison$Operator;" (.ref av)) (OX : ∀ cl, Arr Z Z.heap av cl (.object "org/portcullis/expression/Node$Comparison$Operator") → FitC Z cl) (OC0 : Sta Z Z.heap "org/portcullis/expression/Node$Comparison$Operator" "EQUAL" "Lorg/portcullis/expression/Node$Comparison$Operator;" (.ref e0)) (OC1 : Sta Z Z.heap "org/portcullis/expression/Node$Comparison$Operator" "NOT_EQUAL" "Lorg/portcullis/expression/Node$Comparison$Operator;" (.ref e1)) (OC2 : Sta Z Z.heap "org/portcullis/expression/Node$Comparison$Operator" "LESS" "Lorg/portcullis/expression/Node$Comparison$Operator;" (.ref e2)) (OC3 : Sta Z Z.heap "org/portcullis/expression/Node$Comparison$Operator" "LESS_OR_EQUAL" "Lorg/portcullis/expression/Node$Comparison$Operator;" (.ref e3)) (OC4 : Sta Z Z.heap "org/portcullis/expression/Node$Comparison$Operator" "GREATER" "Lorg/portcullis/expression/Node$Comparison$Operator;" (.ref e4)) (OC5 : Sta Z Z.heap "org/portcullis/expression/Node$Comparison$Operator" "GREATER_OR_EQUAL" "Lorg/portcullis/expression/Node$Comparison$Operator;" (.ref e5)) :
    Met l Z EL0 n0 (⟨"org/portcullis/expression/Node$Comparison$Operator", "values", "()[Lorg/portcullis/expression/Node$Comparison$Operator;"⟩ : MethodName) prog_74_method_1_code 0 (some (.array (.object "org/portcullis/expression/Node$Comparison$Operator"))) [] ({ frames := 1, cells := 1, slots := 6, locals := 14 } : Room) #[] h0 [] [] (fun v h' => ∃ r : Addr, v = some (.ref r) ∧ h0.size ≤ r ∧ Arv Z h' r kv (.object "org/portcullis/expression/Node$Comparison$Operator") (6 : Int32) [(.ref e0), (.ref e1), (.ref e2), (.ref e3), (.ref e4), (.ref e5)] .null) := by
  refine Met.of (plainFor_of_name pn3) O0 ?_
  intro p e s m below meth c T0 hx hby hml hret hlk hnm hs W0
  have W0 : Wk p l e _ s m _ below meth c Z EL0 n0 [] "org/portcullis/expression/Node$Comparison$Operator" [] T0 0 0 h0 := W0
  have hSA := fun d hd => hw d (sa_in d hd)
  have hws := fun d hd => hw d (ws_in d hd)
  have heq := fun d hd => hw d (eq_in d hd)
  refine Go.of (fun _ kk => castTop (ef2 m ) kk) ?_
  show Go p e below _ (T0.setTop (mkF m 0 #[] []))
  refine W0.getS hx (host := "") (Or.inl (hw _ (List.mem_of_getElem? (i := 33) rfl))) Via.refl OT rfl (hb hby d2_0) (fun T1 W1 => ?_)
  show Go p e below _ (T1.setTop (mkF m 3 #[] [(.ref av)]))
  have k3 := OA.ext W1.old.2
  have k4 := OV.ext W1.old.2
  refine W1.cloneV hx (hw _ (List.mem_of_getElem? (i := 35) rfl)) (hw _ (List.mem_of_getElem? (i := 36) rfl)) (hw _ (List.mem_of_getElem? (i := 40) rfl)) (hw _ (List.mem_of_getElem? (i := 38) rfl)) (hw _ (List.mem_of_getElem? (i := 39) rfl)) (hw _ (List.mem_of_getElem? (i := 41) rfl)) k3 k4 (fitOld OA W1.old.2 OX) rfl (by rw [hml]; rfl) rfl (hb hby d2_3) (by decide +kernel) (Wd := 0) (cap := 6) (by show 2 * 0 + _ ≤ _; exact Nat.le_of_eq rfl) (by decide +kernel) (by decide) (by decide +kernel) (by decide +kernel) (fun T2 h2 b2 eb2 gb2 W2 K2 A2 E2 => ?_)
  show Go p e below _ (T2.setTop (mkF m 6 #[] [(.ref b2)]))
  refine W2.castY hx (hw _ (List.mem_of_getElem? (i := 49) rfl)) (Ins.self E2) rfl rfl (hb hby d2_6) (fun T5 W5 => ?_)
  show Go p e below _ (T5.setTop (mkF m 9 #[] [(.ref b2)]))
  exact W5.retA hx hEL hs hlk (by decide +kernel) (by decide +kernel) hret rfl rfl (hb hby d2_9) ⟨b2, rfl, hs ▸ gb2.2, A2⟩
theorem d3_0 : decode jdk_42_method_66_code 0 = .ok (.aload_n 0, 1) := by decide +kernel
theorem d3_1 : decode jdk_42_method_66_code 1 = .ok (.aload_n 1, 1) := by decide +kernel
theorem d3_2 : decode jdk_42_method_66_code 2 = .ok (.if_acmp .ne 5, 3) := by decide +kernel
theorem d3_7 : decode jdk_42_method_66_code 7 = .ok (.aload_n 1, 1) := by decide +kernel
theorem d3_8 : decode jdk_42_method_66_code 8 = .ok (.instanceof 10, 3) := by decide +kernel
theorem d3_11 : decode jdk_42_method_66_code 11 = .ok (.ifCond .eq 43, 3) := by decide +kernel
theorem d3_54 : decode jdk_42_method_66_code 54 = .ok (.iconst 0, 1) := by decide +kernel
theorem d3_55 : decode jdk_42_method_66_code 55 = .ok (.ireturn, 1) := by decide +kernel
theorem ef3 (m : MethodId) (x0 : Addr)  : entryFrame m #[(.ref x0), .null] 3 = mkF m 0 #[.val (.ref x0), .val .null, .unset] [] := by first | (simp [entryFrame, mkF, argsToLocals, Value.category]; done) | rfl | rfl
set_option maxRecDepth 65536 in
set_option maxHeartbeats 40000000 in
theorem rm3 (l : Launch) (Z : State) (a0 : Array Value) (hw : ∀ d ∈ tables_1, d.before a0 Z = true) (hEL : EW Z a0 EL0) (zc : Int32) (SC : Sta Z Z.heap "java/lang/String" "COMPACT_STRINGS" "Z" (.int zc)) (hzc : ¬ zc = 0) (fm : Value) (SF : Sta Z Z.heap "jdk/internal/util/Preconditions" "SIOOBE_FORMATTER" "Ljava/util/function/BiFunction;" fm) (rfm : fm.isRef = true) (x1 : Addr) (h0 : Heap) {n0 : Nat} (O0 : Old Z n0 h0)  :
    Met l Z EL0 n0 (⟨"java/lang/String", "equals", "(Ljava/lang/Object;)Z"⟩ : MethodName) jdk_42_method_66_code 3 (some .boolean) [] ({ frames := 0, cells := 0, slots := 0, locals := 0 } : Room) #[(.ref x1), .null] h0 [] [] (fun v h' => v = some (.int 0) ∧ h0 = h') := by
  refine Met.of (plainFor_of_name pn0) O0 ?_
  intro p e s m below meth c T0 hx hby hml hret hlk hnm hs W0
  have W0 : Wk p l e _ s m _ below meth c Z EL0 n0 [] "java/lang/String" [] T0 0 0 h0 := W0
  have hSA := fun d hd => hw d (sa_in d hd)
  have hws := fun d hd => hw d (ws_in d hd)
  have heq := fun d hd => hw d (eq_in d hd)
  refine Go.of (fun _ kk => castTop (ef3 m x1) kk) ?_
  show Go p e below _ (T0.setTop (mkF m 0 #[.val (.ref x1), .val .null, .unset] []))
  refine Go.of (t' := T0.setTop (mkF m 1 #[.val (.ref x1), .val .null, .unset] [(.ref x1)])) (fun _ kk => XS.aloadN W0.here hx rfl (hb hby d3_0) rfl rfl kk) ?_
  refine Go.of (t' := T0.setTop (mkF m 2 #[.val (.ref x1), .val .null, .unset] [.null, (.ref x1)])) (fun _ kk => XS.aloadN W0.here hx rfl (hb hby d3_1) rfl rfl kk) ?_
  refine Go.of (t' := T0.setTop (mkF m 7 #[.val (.ref x1), .val .null, .unset] [])) (fun _ kk => XT.acmpYes (g := (mkF m 2 #[.val (.ref x1), .val .null, .unset] [.null, (.ref x1)])) W0.here hx rfl (pc0 := 2) (pc' := 7) rfl (hb hby d3_2) (x := (.ref x1)) (y := .null) (rest := []) rfl rfl rfl (XT.aa_ne_t (x := (.ref x1)) (y := .null) nofun) (by decide) (by decide) kk) ?_
  refine Go.of (t' := T0.setTop (mkF m 8 #[.val (.ref x1), .val .null, .unset] [.null])) (fun _ kk => XS.aloadN W0.here hx rfl (hb hby d3_7) rfl rfl kk) ?_
  refine W0.instNull hx rfl rfl (hb hby d3_8) ?_
  show Go p e below _ (T0.setTop (mkF m 11 #[.val (.ref x1), .val .null, .unset] [(.int (0 : Int32))]))
  refine Go.of (t' := T0.setTop (mkF m 54 #[.val (.ref x1), .val .null, .unset] [])) (fun _ kk => XS.ifYes W0.here hx rfl (pc0 := 11) (pc' := 54) rfl (hb hby d3_11) rfl (XT.i0_eq_t (by decide +kernel)) (by decide +kernel) (by decide +kernel) kk) ?_
  refine Go.of (t' := T0.setTop (mkF m 55 #[.val (.ref x1), .val .null, .unset] [(.int (0 : Int32))])) (fun _ kk => XS.iconst W0.here hx rfl (hb hby d3_54) kk) ?_
  exact W0.retI hx hEL hs hlk (by decide +kernel) (by decide +kernel) hret (by simp) rfl (hb hby d3_55) ⟨rfl, rfl⟩
theorem d4_0 : decode prog_74_method_4_code 0 = .ok (.invokestatic 45, 3) := by decide +kernel
theorem d4_3 : decode prog_74_method_4_code 3 = .ok (.astore_n 1, 1) := by decide +kernel
theorem d4_4 : decode prog_74_method_4_code 4 = .ok (.aload_n 1, 1) := by decide +kernel
theorem d4_5 : decode prog_74_method_4_code 5 = .ok (.arraylength, 1) := by decide +kernel
theorem d4_6 : decode prog_74_method_4_code 6 = .ok (.istore_n 2, 1) := by decide +kernel
theorem d4_7 : decode prog_74_method_4_code 7 = .ok (.iconst 0, 1) := by decide +kernel
theorem d4_8 : decode prog_74_method_4_code 8 = .ok (.istore_n 3, 1) := by decide +kernel
theorem d4_9 : decode prog_74_method_4_code 9 = .ok (.iload_n 3, 1) := by decide +kernel
theorem d4_10 : decode prog_74_method_4_code 10 = .ok (.iload_n 2, 1) := by decide +kernel
theorem d4_11 : decode prog_74_method_4_code 11 = .ok (.if_icmp .ge 29, 3) := by decide +kernel
theorem d4_14 : decode prog_74_method_4_code 14 = .ok (.aload_n 1, 1) := by decide +kernel
theorem d4_15 : decode prog_74_method_4_code 15 = .ok (.iload_n 3, 1) := by decide +kernel
theorem d4_16 : decode prog_74_method_4_code 16 = .ok (.aaload, 1) := by decide +kernel
theorem d4_17 : decode prog_74_method_4_code 17 = .ok (.astore 4, 2) := by decide +kernel
theorem d4_19 : decode prog_74_method_4_code 19 = .ok (.aload 4, 2) := by decide +kernel
theorem d4_21 : decode prog_74_method_4_code 21 = .ok (.getfield 41, 3) := by decide +kernel
theorem d4_24 : decode prog_74_method_4_code 24 = .ok (.aload_n 0, 1) := by decide +kernel
theorem d4_25 : decode prog_74_method_4_code 25 = .ok (.invokevirtual 49, 3) := by decide +kernel
theorem d4_28 : decode prog_74_method_4_code 28 = .ok (.ifCond .eq 6, 3) := by decide +kernel
theorem d4_31 : decode prog_74_method_4_code 31 = .ok (.aload 4, 2) := by decide +kernel
theorem d4_33 : decode prog_74_method_4_code 33 = .ok (.areturn, 1) := by decide +kernel
theorem d4_34 : decode prog_74_method_4_code 34 = .ok (.iinc 3 1, 3) := by decide +kernel
theorem d4_37 : decode prog_74_method_4_code 37 = .ok (.goto (-28), 3) := by decide +kernel
theorem d4_40 : decode prog_74_method_4_code 40 = .ok (.aconst_null, 1) := by decide +kernel
theorem d4_41 : decode prog_74_method_4_code 41 = .ok (.areturn, 1) := by decide +kernel
theorem ef4 (m : MethodId) (x0 : Addr)  : entryFrame m #[(.ref x0)] 5 = mkF m 0 #[.val (.ref x0), .unset, .unset, .unset, .unset] [] := by first | (simp [entryFrame, mkF, argsToLocals, Value.category]; done) | rfl | rfl
set_option maxRecDepth 65536 in
set_option maxHeartbeats 40000000 in
theorem rm4 (l : Launch) (Z : State) (a0 : Array Value) (hw : ∀ d ∈ tables_1, d.before a0 Z = true) (hEL : EW Z a0 EL0) (zc : Int32) (SC : Sta Z Z.heap "java/lang/String" "COMPACT_STRINGS" "Z" (.int zc)) (hzc : ¬ zc = 0) (fm : Value) (SF : Sta Z Z.heap "jdk/internal/util/Preconditions" "SIOOBE_FORMATTER" "Ljava/util/function/BiFunction;" fm) (rfm : fm.isRef = true) (x1 : Addr) (cs : List Int32) (e0 : Addr) (e1 : Addr) (e2 : Addr) (e3 : Addr) (e4 : Addr) (e5 : Addr) (s0 : Addr) (s1 : Addr) (s2 : Addr) (s3 : Addr) (s4 : Addr) (s5 : Addr) (av : Addr) (kv : ClassId) (h0 : Heap) {n0 : Nat} (O0 : Old Z n0 h0) (OE0 : Exa Z Z.heap e0 "org/portcullis/expression/Node$Comparison$Operator") (OE1 : Exa Z Z.heap e1 "org/portcullis/expression/Node$Comparison$Operator") (OE2 : Exa Z Z.heap e2 "org/portcullis/expression/Node$Comparison$Operator") (OE3 : Exa Z Z.heap e3 "org/portcullis/expression/Node$Comparison$Operator") (OE4 : Exa Z Z.heap e4 "org/portcullis/expression/Node$Comparison$Operator") (OE5 : Exa Z Z.heap e5 "org/portcullis/expression/Node$Comparison$Operator") (OF0 : Fld Z Z.heap e0 "org/portcullis/expression/Node$Comparison$Operator" "iSymbol" "Ljava/lang/String;" (.ref s0)) (OF1 : Fld Z Z.heap e1 "org/portcullis/expression/Node$Comparison$Operator" "iSymbol" "Ljava/lang/String;" (.ref s1)) (OF2 : Fld Z Z.heap e2 "org/portcullis/expression/Node$Comparison$Operator" "iSymbol" "Ljava/lang/String;" (.ref s2)) (OF3 : Fld Z Z.heap e3 "org/portcullis/expression/Node$Comparison$Operator" "iSymbol" "Ljava/lang/String;" (.ref s3)) (OF4 : Fld Z Z.heap e4 "org/portcullis/expression/Node$Comparison$Operator" "iSymbol" "Ljava/lang/String;" (.ref s4)) (OF5 : Fld Z Z.heap e5 "org/portcullis/expression/Node$Comparison$Operator" "iSymbol" "Ljava/lang/String;" (.ref s5)) (OS0 : Str Z Z.heap s0 [(61 : Int32), (61 : Int32)]) (OS1 : Str Z Z.heap s1 [(33 : Int32), (61 : Int32)]) (OS2 : Str Z Z.heap s2 [(60 : Int32)]) (OS3 : Str Z Z.heap s3 [(60 : Int32), (61 : Int32)]) (OS4 : Str Z Z.heap s4 [(62 : Int32)]) (OS5 : Str Z Z.heap s5 [(62 : Int32), (61 : Int32)]) (OA : Arv Z Z.heap av kv (.object "org/portcullis/expression/Node$Comparison$Operator") (6 : Int32) [(.ref e0), (.ref e1), (.ref e2), (.ref e3), (.ref e4), (.ref e5)] .null) (OV : Exa Z Z.heap av "[Lorg/portcullis/expression/Node$Comparison$Operator;") (OT : Sta Z Z.heap "org/portcullis/expression/Node$Comparison$Operator" "$VALUES" "[Lorg/portcullis/expression/Node$Comparison$Operator;" (.ref av)) (OX : ∀ cl, Arr Z Z.heap av cl (.object "org/portcullis/expression/Node$Comparison$Operator") → FitC Z cl) (OC0 : Sta Z Z.heap "org/portcullis/expression/Node$Comparison$Operator" "EQUAL" "Lorg/portcullis/expression/Node$Comparison$Operator;" (.ref e0)) (OC1 : Sta Z Z.heap "org/portcullis/expression/Node$Comparison$Operator" "NOT_EQUAL" "Lorg/portcullis/expression/Node$Comparison$Operator;" (.ref e1)) (OC2 : Sta Z Z.heap "org/portcullis/expression/Node$Comparison$Operator" "LESS" "Lorg/portcullis/expression/Node$Comparison$Operator;" (.ref e2)) (OC3 : Sta Z Z.heap "org/portcullis/expression/Node$Comparison$Operator" "LESS_OR_EQUAL" "Lorg/portcullis/expression/Node$Comparison$Operator;" (.ref e3)) (OC4 : Sta Z Z.heap "org/portcullis/expression/Node$Comparison$Operator" "GREATER" "Lorg/portcullis/expression/Node$Comparison$Operator;" (.ref e4)) (OC5 : Sta Z Z.heap "org/portcullis/expression/Node$Comparison$Operator" "GREATER_OR_EQUAL" "Lorg/portcullis/expression/Node$Comparison$Operator;" (.ref e5)) (S1 : Str Z h0 x1 cs) :
    Met l Z EL0 n0 (⟨"org/portcullis/expression/Node$Comparison$Operator", "written", "(Ljava/lang/String;)Lorg/portcullis/expression/Node$Comparison$Operator;"⟩ : MethodName) prog_74_method_4_code 5 (some (.object "org/portcullis/expression/Node$Comparison$Operator")) [] ({ frames := 2, cells := 1, slots := 6, locals := 28 } : Room) #[(.ref x1)] h0 [] [] (fun v h' => v = some (wrOf e0 e1 e2 e3 e4 e5 cs)) := by
  refine Met.of (plainFor_of_name pn3) O0 ?_
  intro p e s m below meth c T0 hx hby hml hret hlk hnm hs W0
  have W0 : Wk p l e _ s m _ below meth c Z EL0 n0 [] "org/portcullis/expression/Node$Comparison$Operator" [] T0 0 0 h0 := W0
  have hSA := fun d hd => hw d (sa_in d hd)
  have hws := fun d hd => hw d (ws_in d hd)
  have heq := fun d hd => hw d (eq_in d hd)
  refine Go.of (fun _ kk => castTop (ef4 m x1) kk) ?_
  show Go p e below _ (T0.setTop (mkF m 0 #[.val (.ref x1), .unset, .unset, .unset, .unset] []))
  refine W0.callS hx hEL (hw _ (List.mem_of_getElem? (i := 30) rfl)) (hw _ (List.mem_of_getElem? (i := 31) rfl)) (hw _ (List.mem_of_getElem? (i := 28) rfl)) (hw _ (List.mem_of_getElem? (i := 32) rfl)) (by decide +kernel) (argsL := []) (rest := []) (rm2 l Z a0 hw hEL zc SC hzc fm SF rfm e0 e1 e2 e3 e4 e5 s0 s1 s2 s3 s4 s5 av kv h0 W0.old OE0 OE1 OE2 OE3 OE4 OE5 OF0 OF1 OF2 OF3 OF4 OF5 OS0 OS1 OS2 OS3 OS4 OS5 OA OV OT OX OC0 OC1 OC2 OC3 OC4 OC5) all0 (by decide +kernel) (Wd := 0) (by decide +kernel) (by decide +kernel) (by decide +kernel) all0 rfl (by rw [hml]; rfl) (lenOf pd4 rfl) rfl (by show 2 * 0 + _ ≤ _; exact Nat.le_of_eq rfl) (hb hby d4_0) (fun T1 h1 v1 W1 K1 q1 => ?_)
  obtain ⟨r1, rfl, lr1, A1⟩ := q1
  have gr1 : n0 ≤ r1 ∧ s.heap.size ≤ r1 := ⟨Nat.le_trans W0.n0le lr1, Nat.le_trans W0.s0le lr1⟩
  show Go p e below _ (T1.setTop (mkF m 3 #[.val (.ref x1), .unset, .unset, .unset, .unset] [(.ref r1)]))
  refine Go.of (t' := T1.setTop (mkF m 4 #[.val (.ref x1), .val (.ref r1), .unset, .unset, .unset] [])) (fun _ kk => XS.astoreN W1.here hx rfl (hb hby d4_3) rfl rfl (l' := #[.val (.ref x1), .val (.ref r1), .unset, .unset, .unset]) rfl kk) ?_
  refine Go.of (t' := T1.setTop (mkF m 5 #[.val (.ref x1), .val (.ref r1), .unset, .unset, .unset] [(.ref r1)])) (fun _ kk => XS.aloadN W1.here hx rfl (hb hby d4_4) rfl rfl kk) ?_
  refine W1.alen hx A1 rfl rfl (hb hby d4_5) ?_
  show Go p e below _ (T1.setTop (mkF m 6 #[.val (.ref x1), .val (.ref r1), .unset, .unset, .unset] [(.int (6 : Int32))]))
  refine Go.of (t' := T1.setTop (mkF m 7 #[.val (.ref x1), .val (.ref r1), .val (.int (6 : Int32)), .unset, .unset] [])) (fun _ kk => XS.istoreN W1.here hx rfl (hb hby d4_6) rfl (l' := #[.val (.ref x1), .val (.ref r1), .val (.int (6 : Int32)), .unset, .unset]) rfl kk) ?_
  refine Go.of (t' := T1.setTop (mkF m 8 #[.val (.ref x1), .val (.ref r1), .val (.int (6 : Int32)), .unset, .unset] [(.int (0 : Int32))])) (fun _ kk => XS.iconst W1.here hx rfl (hb hby d4_7) kk) ?_
  refine Go.of (t' := T1.setTop (mkF m 9 #[.val (.ref x1), .val (.ref r1), .val (.int (6 : Int32)), .val (.int (0 : Int32)), .unset] [])) (fun _ kk => XS.istoreN W1.here hx rfl (hb hby d4_8) rfl (l' := #[.val (.ref x1), .val (.ref r1), .val (.int (6 : Int32)), .val (.int (0 : Int32)), .unset]) rfl kk) ?_
  refine Go.of (t' := T1.setTop (mkF m 10 #[.val (.ref x1), .val (.ref r1), .val (.int (6 : Int32)), .val (.int (0 : Int32)), .unset] [(.int (0 : Int32))])) (fun _ kk => XS.iloadN W1.here hx rfl (hb hby d4_9) rfl kk) ?_
  refine Go.of (t' := T1.setTop (mkF m 11 #[.val (.ref x1), .val (.ref r1), .val (.int (6 : Int32)), .val (.int (0 : Int32)), .unset] [(.int (6 : Int32)), (.int (0 : Int32))])) (fun _ kk => XS.iloadN W1.here hx rfl (hb hby d4_10) rfl kk) ?_
  refine Go.of (t' := T1.setTop (mkF m 14 #[.val (.ref x1), .val (.ref r1), .val (.int (6 : Int32)), .val (.int (0 : Int32)), .unset] [])) (fun _ kk => XS.icmpNo W1.here hx rfl (hb hby d4_11) rfl (XT.ii_ge_f (by decide +kernel)) kk) ?_
  refine Go.of (t' := T1.setTop (mkF m 15 #[.val (.ref x1), .val (.ref r1), .val (.int (6 : Int32)), .val (.int (0 : Int32)), .unset] [(.ref r1)])) (fun _ kk => XS.aloadN W1.here hx rfl (hb hby d4_14) rfl rfl kk) ?_
  refine Go.of (t' := T1.setTop (mkF m 16 #[.val (.ref x1), .val (.ref r1), .val (.int (6 : Int32)), .val (.int (0 : Int32)), .unset] [(.int (0 : Int32)), (.ref r1)])) (fun _ kk => XS.iloadN W1.here hx rfl (hb hby d4_15) rfl kk) ?_
  refine W1.aaload hx A1 rfl ⟨by decide, by decide⟩ (v := (.ref e0)) rfl rfl rfl (hb hby d4_16) ?_
  show Go p e below _ (T1.setTop (mkF m 17 #[.val (.ref x1), .val (.ref r1), .val (.int (6 : Int32)), .val (.int (0 : Int32)), .unset] [(.ref e0)]))
  refine Go.of (t' := T1.setTop (mkF m 19 #[.val (.ref x1), .val (.ref r1), .val (.int (6 : Int32)), .val (.int (0 : Int32)), .val (.ref e0)] [])) (fun _ kk => XS.astore W1.here hx rfl (hb hby d4_17) rfl rfl (l' := #[.val (.ref x1), .val (.ref r1), .val (.int (6 : Int32)), .val (.int (0 : Int32)), .val (.ref e0)]) rfl kk) ?_
  refine Go.of (t' := T1.setTop (mkF m 21 #[.val (.ref x1), .val (.ref r1), .val (.int (6 : Int32)), .val (.int (0 : Int32)), .val (.ref e0)] [(.ref e0)])) (fun _ kk => XS.aload W1.here hx rfl (hb hby d4_19) rfl rfl kk) ?_
  have k2 := OF0.ext W1.old.2
  refine W1.getF hx (host := "") (Or.inl (hw _ (List.mem_of_getElem? (i := 51) rfl))) Via.refl k2 rfl rfl (hb hby d4_21) (fun T3 W3 => ?_)
  show Go p e below _ (T3.setTop (mkF m 24 #[.val (.ref x1), .val (.ref r1), .val (.int (6 : Int32)), .val (.int (0 : Int32)), .val (.ref e0)] [(.ref s0)]))
  refine Go.of (t' := T3.setTop (mkF m 25 #[.val (.ref x1), .val (.ref r1), .val (.int (6 : Int32)), .val (.int (0 : Int32)), .val (.ref e0)] [(.ref x1), (.ref s0)])) (fun _ kk => XS.aloadN W3.here hx rfl (hb hby d4_24) rfl rfl kk) ?_
  have k5 := OS0.ext W3.old.2
  have k6 := (S1.keep0 K1)
  refine W3.strEq hx heq (hw _ (List.mem_of_getElem? (i := 6) rfl)) SC hzc k5 k6 (hw _ (List.mem_of_getElem? (i := 53) rfl)) (hw _ (List.mem_of_getElem? (i := 54) rfl)) (hw _ (List.mem_of_getElem? (i := 56) rfl)) (hw _ (List.mem_of_getElem? (i := 55) rfl)) (by decide +kernel) (Wd := 0) (by decide +kernel) (by decide +kernel) (by decide +kernel) rfl (by rw [hml]; rfl) rfl (by show 2 * 0 + _ ≤ _; exact Nat.le_of_eq rfl) (hb hby d4_25) (fun T4 z4 hz4 W4 => ?_)
  rcases hz4 with ⟨rfl, hn4⟩ | ⟨rfl, hn4⟩
  · show Go p e below _ (T4.setTop (mkF m 28 #[.val (.ref x1), .val (.ref r1), .val (.int (6 : Int32)), .val (.int (0 : Int32)), .val (.ref e0)] [(.int (1 : Int32))]))
    refine Go.of (t' := T4.setTop (mkF m 31 #[.val (.ref x1), .val (.ref r1), .val (.int (6 : Int32)), .val (.int (0 : Int32)), .val (.ref e0)] [])) (fun _ kk => XS.ifNo W4.here hx rfl (hb hby d4_28) rfl (XT.i0_eq_f (by decide +kernel)) kk) ?_
    refine Go.of (t' := T4.setTop (mkF m 33 #[.val (.ref x1), .val (.ref r1), .val (.int (6 : Int32)), .val (.int (0 : Int32)), .val (.ref e0)] [(.ref e0)])) (fun _ kk => XS.aload W4.here hx rfl (hb hby d4_31) rfl rfl kk) ?_
    have ew : wrOf e0 e1 e2 e3 e4 e5 cs = (.ref e0) := by unfold wrOf; rw [if_pos hn4]
    exact W4.retA hx hEL hs hlk (by decide +kernel) (by decide +kernel) hret rfl rfl (hb hby d4_33) (by rw [ew])
  · show Go p e below _ (T4.setTop (mkF m 28 #[.val (.ref x1), .val (.ref r1), .val (.int (6 : Int32)), .val (.int (0 : Int32)), .val (.ref e0)] [(.int (0 : Int32))]))
    refine Go.of (t' := T4.setTop (mkF m 34 #[.val (.ref x1), .val (.ref r1), .val (.int (6 : Int32)), .val (.int (0 : Int32)), .val (.ref e0)] [])) (fun _ kk => XS.ifYes W4.here hx rfl (pc0 := 28) (pc' := 34) rfl (hb hby d4_28) rfl (XT.i0_eq_t (by decide +kernel)) (by decide +kernel) (by decide +kernel) kk) ?_
    refine Go.of (t' := T4.setTop (mkF m 37 #[.val (.ref x1), .val (.ref r1), .val (.int (6 : Int32)), .val (.int (1 : Int32)), .val (.ref e0)] [])) (fun _ kk => XS.iinc W4.here hx rfl (hb hby d4_34) rfl (l' := #[.val (.ref x1), .val (.ref r1), .val (.int (6 : Int32)), .val (.int (1 : Int32)), .val (.ref e0)]) rfl kk) ?_
    refine Go.of (t' := T4.setTop (mkF m 9 #[.val (.ref x1), .val (.ref r1), .val (.int (6 : Int32)), .val (.int (1 : Int32)), .val (.ref e0)] [])) (fun _ kk => XS.goto W4.here hx rfl (pc0 := 37) (pc' := 9) rfl (hb hby d4_37) (by decide +kernel) (by decide +kernel) kk) ?_
    refine Go.of (t' := T4.setTop (mkF m 10 #[.val (.ref x1), .val (.ref r1), .val (.int (6 : Int32)), .val (.int (1 : Int32)), .val (.ref e0)] [(.int (1 : Int32))])) (fun _ kk => XS.iloadN W4.here hx rfl (hb hby d4_9) rfl kk) ?_
    refine Go.of (t' := T4.setTop (mkF m 11 #[.val (.ref x1), .val (.ref r1), .val (.int (6 : Int32)), .val (.int (1 : Int32)), .val (.ref e0)] [(.int (6 : Int32)), (.int (1 : Int32))])) (fun _ kk => XS.iloadN W4.here hx rfl (hb hby d4_10) rfl kk) ?_
    refine Go.of (t' := T4.setTop (mkF m 14 #[.val (.ref x1), .val (.ref r1), .val (.int (6 : Int32)), .val (.int (1 : Int32)), .val (.ref e0)] [])) (fun _ kk => XS.icmpNo W4.here hx rfl (hb hby d4_11) rfl (XT.ii_ge_f (by decide +kernel)) kk) ?_
    refine Go.of (t' := T4.setTop (mkF m 15 #[.val (.ref x1), .val (.ref r1), .val (.int (6 : Int32)), .val (.int (1 : Int32)), .val (.ref e0)] [(.ref r1)])) (fun _ kk => XS.aloadN W4.here hx rfl (hb hby d4_14) rfl rfl kk) ?_
    refine Go.of (t' := T4.setTop (mkF m 16 #[.val (.ref x1), .val (.ref r1), .val (.int (6 : Int32)), .val (.int (1 : Int32)), .val (.ref e0)] [(.int (1 : Int32)), (.ref r1)])) (fun _ kk => XS.iloadN W4.here hx rfl (hb hby d4_15) rfl kk) ?_
    refine W4.aaload hx A1 rfl ⟨by decide, by decide⟩ (v := (.ref e1)) rfl rfl rfl (hb hby d4_16) ?_
    show Go p e below _ (T4.setTop (mkF m 17 #[.val (.ref x1), .val (.ref r1), .val (.int (6 : Int32)), .val (.int (1 : Int32)), .val (.ref e0)] [(.ref e1)]))
    refine Go.of (t' := T4.setTop (mkF m 19 #[.val (.ref x1), .val (.ref r1), .val (.int (6 : Int32)), .val (.int (1 : Int32)), .val (.ref e1)] [])) (fun _ kk => XS.astore W4.here hx rfl (hb hby d4_17) rfl rfl (l' := #[.val (.ref x1), .val (.ref r1), .val (.int (6 : Int32)), .val (.int (1 : Int32)), .val (.ref e1)]) rfl kk) ?_
    refine Go.of (t' := T4.setTop (mkF m 21 #[.val (.ref x1), .val (.ref r1), .val (.int (6 : Int32)), .val (.int (1 : Int32)), .val (.ref e1)] [(.ref e1)])) (fun _ kk => XS.aload W4.here hx rfl (hb hby d4_19) rfl rfl kk) ?_
    have k7 := OF1.ext W4.old.2
    refine W4.getF hx (host := "") (Or.inl (hw _ (List.mem_of_getElem? (i := 51) rfl))) Via.refl k7 rfl rfl (hb hby d4_21) (fun T8 W8 => ?_)
    show Go p e below _ (T8.setTop (mkF m 24 #[.val (.ref x1), .val (.ref r1), .val (.int (6 : Int32)), .val (.int (1 : Int32)), .val (.ref e1)] [(.ref s1)]))
    refine Go.of (t' := T8.setTop (mkF m 25 #[.val (.ref x1), .val (.ref r1), .val (.int (6 : Int32)), .val (.int (1 : Int32)), .val (.ref e1)] [(.ref x1), (.ref s1)])) (fun _ kk => XS.aloadN W8.here hx rfl (hb hby d4_24) rfl rfl kk) ?_
    have k10 := OS1.ext W8.old.2
    refine W8.strEq hx heq (hw _ (List.mem_of_getElem? (i := 6) rfl)) SC hzc k10 k6 (hw _ (List.mem_of_getElem? (i := 53) rfl)) (hw _ (List.mem_of_getElem? (i := 54) rfl)) (hw _ (List.mem_of_getElem? (i := 56) rfl)) (hw _ (List.mem_of_getElem? (i := 55) rfl)) (by decide +kernel) (Wd := 0) (by decide +kernel) (by decide +kernel) (by decide +kernel) rfl (by rw [hml]; rfl) rfl (by show 2 * 0 + _ ≤ _; exact Nat.le_of_eq rfl) (hb hby d4_25) (fun T9 z9 hz9 W9 => ?_)
    rcases hz9 with ⟨rfl, hn9⟩ | ⟨rfl, hn9⟩
    · show Go p e below _ (T9.setTop (mkF m 28 #[.val (.ref x1), .val (.ref r1), .val (.int (6 : Int32)), .val (.int (1 : Int32)), .val (.ref e1)] [(.int (1 : Int32))]))
      refine Go.of (t' := T9.setTop (mkF m 31 #[.val (.ref x1), .val (.ref r1), .val (.int (6 : Int32)), .val (.int (1 : Int32)), .val (.ref e1)] [])) (fun _ kk => XS.ifNo W9.here hx rfl (hb hby d4_28) rfl (XT.i0_eq_f (by decide +kernel)) kk) ?_
      refine Go.of (t' := T9.setTop (mkF m 33 #[.val (.ref x1), .val (.ref r1), .val (.int (6 : Int32)), .val (.int (1 : Int32)), .val (.ref e1)] [(.ref e1)])) (fun _ kk => XS.aload W9.here hx rfl (hb hby d4_31) rfl rfl kk) ?_
      have ew : wrOf e0 e1 e2 e3 e4 e5 cs = (.ref e1) := by unfold wrOf; rw [if_neg hn4, if_pos hn9]
      exact W9.retA hx hEL hs hlk (by decide +kernel) (by decide +kernel) hret rfl rfl (hb hby d4_33) (by rw [ew])
    · show Go p e below _ (T9.setTop (mkF m 28 #[.val (.ref x1), .val (.ref r1), .val (.int (6 : Int32)), .val (.int (1 : Int32)), .val (.ref e1)] [(.int (0 : Int32))]))
      refine Go.of (t' := T9.setTop (mkF m 34 #[.val (.ref x1), .val (.ref r1), .val (.int (6 : Int32)), .val (.int (1 : Int32)), .val (.ref e1)] [])) (fun _ kk => XS.ifYes W9.here hx rfl (pc0 := 28) (pc' := 34) rfl (hb hby d4_28) rfl (XT.i0_eq_t (by decide +kernel)) (by decide +kernel) (by decide +kernel) kk) ?_
      refine Go.of (t' := T9.setTop (mkF m 37 #[.val (.ref x1), .val (.ref r1), .val (.int (6 : Int32)), .val (.int (2 : Int32)), .val (.ref e1)] [])) (fun _ kk => XS.iinc W9.here hx rfl (hb hby d4_34) rfl (l' := #[.val (.ref x1), .val (.ref r1), .val (.int (6 : Int32)), .val (.int (2 : Int32)), .val (.ref e1)]) rfl kk) ?_
      refine Go.of (t' := T9.setTop (mkF m 9 #[.val (.ref x1), .val (.ref r1), .val (.int (6 : Int32)), .val (.int (2 : Int32)), .val (.ref e1)] [])) (fun _ kk => XS.goto W9.here hx rfl (pc0 := 37) (pc' := 9) rfl (hb hby d4_37) (by decide +kernel) (by decide +kernel) kk) ?_
      refine Go.of (t' := T9.setTop (mkF m 10 #[.val (.ref x1), .val (.ref r1), .val (.int (6 : Int32)), .val (.int (2 : Int32)), .val (.ref e1)] [(.int (2 : Int32))])) (fun _ kk => XS.iloadN W9.here hx rfl (hb hby d4_9) rfl kk) ?_
      refine Go.of (t' := T9.setTop (mkF m 11 #[.val (.ref x1), .val (.ref r1), .val (.int (6 : Int32)), .val (.int (2 : Int32)), .val (.ref e1)] [(.int (6 : Int32)), (.int (2 : Int32))])) (fun _ kk => XS.iloadN W9.here hx rfl (hb hby d4_10) rfl kk) ?_
      refine Go.of (t' := T9.setTop (mkF m 14 #[.val (.ref x1), .val (.ref r1), .val (.int (6 : Int32)), .val (.int (2 : Int32)), .val (.ref e1)] [])) (fun _ kk => XS.icmpNo W9.here hx rfl (hb hby d4_11) rfl (XT.ii_ge_f (by decide +kernel)) kk) ?_
      refine Go.of (t' := T9.setTop (mkF m 15 #[.val (.ref x1), .val (.ref r1), .val (.int (6 : Int32)), .val (.int (2 : Int32)), .val (.ref e1)] [(.ref r1)])) (fun _ kk => XS.aloadN W9.here hx rfl (hb hby d4_14) rfl rfl kk) ?_
      refine Go.of (t' := T9.setTop (mkF m 16 #[.val (.ref x1), .val (.ref r1), .val (.int (6 : Int32)), .val (.int (2 : Int32)), .val (.ref e1)] [(.int (2 : Int32)), (.ref r1)])) (fun _ kk => XS.iloadN W9.here hx rfl (hb hby d4_15) rfl kk) ?_
      refine W9.aaload hx A1 rfl ⟨by decide, by decide⟩ (v := (.ref e2)) rfl rfl rfl (hb hby d4_16) ?_
      show Go p e below _ (T9.setTop (mkF m 17 #[.val (.ref x1), .val (.ref r1), .val (.int (6 : Int32)), .val (.int (2 : Int32)), .val (.ref e1)] [(.ref e2)]))
      refine Go.of (t' := T9.setTop (mkF m 19 #[.val (.ref x1), .val (.ref r1), .val (.int (6 : Int32)), .val (.int (2 : Int32)), .val (.ref e2)] [])) (fun _ kk => XS.astore W9.here hx rfl (hb hby d4_17) rfl rfl (l' := #[.val (.ref x1), .val (.ref r1), .val (.int (6 : Int32)), .val (.int (2 : Int32)), .val (.ref e2)]) rfl kk) ?_
      refine Go.of (t' := T9.setTop (mkF m 21 #[.val (.ref x1), .val (.ref r1), .val (.int (6 : Int32)), .val (.int (2 : Int32)), .val (.ref e2)] [(.ref e2)])) (fun _ kk => XS.aload W9.here hx rfl (hb hby d4_19) rfl rfl kk) ?_
      have k11 := OF2.ext W9.old.2
      refine W9.getF hx (host := "") (Or.inl (hw _ (List.mem_of_getElem? (i := 51) rfl))) Via.refl k11 rfl rfl (hb hby d4_21) (fun T12 W12 => ?_)
      show Go p e below _ (T12.setTop (mkF m 24 #[.val (.ref x1), .val (.ref r1), .val (.int (6 : Int32)), .val (.int (2 : Int32)), .val (.ref e2)] [(.ref s2)]))
      refine Go.of (t' := T12.setTop (mkF m 25 #[.val (.ref x1), .val (.ref r1), .val (.int (6 : Int32)), .val (.int (2 : Int32)), .val (.ref e2)] [(.ref x1), (.ref s2)])) (fun _ kk => XS.aloadN W12.here hx rfl (hb hby d4_24) rfl rfl kk) ?_
      have k14 := OS2.ext W12.old.2
      refine W12.strEq hx heq (hw _ (List.mem_of_getElem? (i := 6) rfl)) SC hzc k14 k6 (hw _ (List.mem_of_getElem? (i := 53) rfl)) (hw _ (List.mem_of_getElem? (i := 54) rfl)) (hw _ (List.mem_of_getElem? (i := 56) rfl)) (hw _ (List.mem_of_getElem? (i := 55) rfl)) (by decide +kernel) (Wd := 0) (by decide +kernel) (by decide +kernel) (by decide +kernel) rfl (by rw [hml]; rfl) rfl (by show 2 * 0 + _ ≤ _; exact Nat.le_of_eq rfl) (hb hby d4_25) (fun T13 z13 hz13 W13 => ?_)
      rcases hz13 with ⟨rfl, hn13⟩ | ⟨rfl, hn13⟩
      · show Go p e below _ (T13.setTop (mkF m 28 #[.val (.ref x1), .val (.ref r1), .val (.int (6 : Int32)), .val (.int (2 : Int32)), .val (.ref e2)] [(.int (1 : Int32))]))
        refine Go.of (t' := T13.setTop (mkF m 31 #[.val (.ref x1), .val (.ref r1), .val (.int (6 : Int32)), .val (.int (2 : Int32)), .val (.ref e2)] [])) (fun _ kk => XS.ifNo W13.here hx rfl (hb hby d4_28) rfl (XT.i0_eq_f (by decide +kernel)) kk) ?_
        refine Go.of (t' := T13.setTop (mkF m 33 #[.val (.ref x1), .val (.ref r1), .val (.int (6 : Int32)), .val (.int (2 : Int32)), .val (.ref e2)] [(.ref e2)])) (fun _ kk => XS.aload W13.here hx rfl (hb hby d4_31) rfl rfl kk) ?_
        have ew : wrOf e0 e1 e2 e3 e4 e5 cs = (.ref e2) := by unfold wrOf; rw [if_neg hn4, if_neg hn9, if_pos hn13]
        exact W13.retA hx hEL hs hlk (by decide +kernel) (by decide +kernel) hret rfl rfl (hb hby d4_33) (by rw [ew])
      · show Go p e below _ (T13.setTop (mkF m 28 #[.val (.ref x1), .val (.ref r1), .val (.int (6 : Int32)), .val (.int (2 : Int32)), .val (.ref e2)] [(.int (0 : Int32))]))
        refine Go.of (t' := T13.setTop (mkF m 34 #[.val (.ref x1), .val (.ref r1), .val (.int (6 : Int32)), .val (.int (2 : Int32)), .val (.ref e2)] [])) (fun _ kk => XS.ifYes W13.here hx rfl (pc0 := 28) (pc' := 34) rfl (hb hby d4_28) rfl (XT.i0_eq_t (by decide +kernel)) (by decide +kernel) (by decide +kernel) kk) ?_
        refine Go.of (t' := T13.setTop (mkF m 37 #[.val (.ref x1), .val (.ref r1), .val (.int (6 : Int32)), .val (.int (3 : Int32)), .val (.ref e2)] [])) (fun _ kk => XS.iinc W13.here hx rfl (hb hby d4_34) rfl (l' := #[.val (.ref x1), .val (.ref r1), .val (.int (6 : Int32)), .val (.int (3 : Int32)), .val (.ref e2)]) rfl kk) ?_
        refine Go.of (t' := T13.setTop (mkF m 9 #[.val (.ref x1), .val (.ref r1), .val (.int (6 : Int32)), .val (.int (3 : Int32)), .val (.ref e2)] [])) (fun _ kk => XS.goto W13.here hx rfl (pc0 := 37) (pc' := 9) rfl (hb hby d4_37) (by decide +kernel) (by decide +kernel) kk) ?_
        refine Go.of (t' := T13.setTop (mkF m 10 #[.val (.ref x1), .val (.ref r1), .val (.int (6 : Int32)), .val (.int (3 : Int32)), .val (.ref e2)] [(.int (3 : Int32))])) (fun _ kk => XS.iloadN W13.here hx rfl (hb hby d4_9) rfl kk) ?_
        refine Go.of (t' := T13.setTop (mkF m 11 #[.val (.ref x1), .val (.ref r1), .val (.int (6 : Int32)), .val (.int (3 : Int32)), .val (.ref e2)] [(.int (6 : Int32)), (.int (3 : Int32))])) (fun _ kk => XS.iloadN W13.here hx rfl (hb hby d4_10) rfl kk) ?_
        refine Go.of (t' := T13.setTop (mkF m 14 #[.val (.ref x1), .val (.ref r1), .val (.int (6 : Int32)), .val (.int (3 : Int32)), .val (.ref e2)] [])) (fun _ kk => XS.icmpNo W13.here hx rfl (hb hby d4_11) rfl (XT.ii_ge_f (by decide +kernel)) kk) ?_
        refine Go.of (t' := T13.setTop (mkF m 15 #[.val (.ref x1), .val (.ref r1), .val (.int (6 : Int32)), .val (.int (3 : Int32)), .val (.ref e2)] [(.ref r1)])) (fun _ kk => XS.aloadN W13.here hx rfl (hb hby d4_14) rfl rfl kk) ?_
        refine Go.of (t' := T13.setTop (mkF m 16 #[.val (.ref x1), .val (.ref r1), .val (.int (6 : Int32)), .val (.int (3 : Int32)), .val (.ref e2)] [(.int (3 : Int32)), (.ref r1)])) (fun _ kk => XS.iloadN W13.here hx rfl (hb hby d4_15) rfl kk) ?_
        refine W13.aaload hx A1 rfl ⟨by decide, by decide⟩ (v := (.ref e3)) rfl rfl rfl (hb hby d4_16) ?_
        show Go p e below _ (T13.setTop (mkF m 17 #[.val (.ref x1), .val (.ref r1), .val (.int (6 : Int32)), .val (.int (3 : Int32)), .val (.ref e2)] [(.ref e3)]))
        refine Go.of (t' := T13.setTop (mkF m 19 #[.val (.ref x1), .val (.ref r1), .val (.int (6 : Int32)), .val (.int (3 : Int32)), .val (.ref e3)] [])) (fun _ kk => XS.astore W13.here hx rfl (hb hby d4_17) rfl rfl (l' := #[.val (.ref x1), .val (.ref r1), .val (.int (6 : Int32)), .val (.int (3 : Int32)), .val (.ref e3)]) rfl kk) ?_
        refine Go.of (t' := T13.setTop (mkF m 21 #[.val (.ref x1), .val (.ref r1), .val (.int (6 : Int32)), .val (.int (3 : Int32)), .val (.ref e3)] [(.ref e3)])) (fun _ kk => XS.aload W13.here hx rfl (hb hby d4_19) rfl rfl kk) ?_
        have k15 := OF3.ext W13.old.2
        refine W13.getF hx (host := "") (Or.inl (hw _ (List.mem_of_getElem? (i := 51) rfl))) Via.refl k15 rfl rfl (hb hby d4_21) (fun T16 W16 => ?_)
        show Go p e below _ (T16.setTop (mkF m 24 #[.val (.ref x1), .val (.ref r1), .val (.int (6 : Int32)), .val (.int (3 : Int32)), .val (.ref e3)] [(.ref s3)]))
        refine Go.of (t' := T16.setTop (mkF m 25 #[.val (.ref x1), .val (.ref r1), .val (.int (6 : Int32)), .val (.int (3 : Int32)), .val (.ref e3)] [(.ref x1), (.ref s3)])) (fun _ kk => XS.aloadN W16.here hx rfl (hb hby d4_24) rfl rfl kk) ?_
        have k18 := OS3.ext W16.old.2
        refine W16.strEq hx heq (hw _ (List.mem_of_getElem? (i := 6) rfl)) SC hzc k18 k6 (hw _ (List.mem_of_getElem? (i := 53) rfl)) (hw _ (List.mem_of_getElem? (i := 54) rfl)) (hw _ (List.mem_of_getElem? (i := 56) rfl)) (hw _ (List.mem_of_getElem? (i := 55) rfl)) (by decide +kernel) (Wd := 0) (by decide +kernel) (by decide +kernel) (by decide +kernel) rfl (by rw [hml]; rfl) rfl (by show 2 * 0 + _ ≤ _; exact Nat.le_of_eq rfl) (hb hby d4_25) (fun T17 z17 hz17 W17 => ?_)
        rcases hz17 with ⟨rfl, hn17⟩ | ⟨rfl, hn17⟩
        · show Go p e below _ (T17.setTop (mkF m 28 #[.val (.ref x1), .val (.ref r1), .val (.int (6 : Int32)), .val (.int (3 : Int32)), .val (.ref e3)] [(.int (1 : Int32))]))
          refine Go.of (t' := T17.setTop (mkF m 31 #[.val (.ref x1), .val (.ref r1), .val (.int (6 : Int32)), .val (.int (3 : Int32)), .val (.ref e3)] [])) (fun _ kk => XS.ifNo W17.here hx rfl (hb hby d4_28) rfl (XT.i0_eq_f (by decide +kernel)) kk) ?_
          refine Go.of (t' := T17.setTop (mkF m 33 #[.val (.ref x1), .val (.ref r1), .val (.int (6 : Int32)), .val (.int (3 : Int32)), .val (.ref e3)] [(.ref e3)])) (fun _ kk => XS.aload W17.here hx rfl (hb hby d4_31) rfl rfl kk) ?_
          have ew : wrOf e0 e1 e2 e3 e4 e5 cs = (.ref e3) := by unfold wrOf; rw [if_neg hn4, if_neg hn9, if_neg hn13, if_pos hn17]
          exact W17.retA hx hEL hs hlk (by decide +kernel) (by decide +kernel) hret rfl rfl (hb hby d4_33) (by rw [ew])
        · show Go p e below _ (T17.setTop (mkF m 28 #[.val (.ref x1), .val (.ref r1), .val (.int (6 : Int32)), .val (.int (3 : Int32)), .val (.ref e3)] [(.int (0 : Int32))]))
          refine Go.of (t' := T17.setTop (mkF m 34 #[.val (.ref x1), .val (.ref r1), .val (.int (6 : Int32)), .val (.int (3 : Int32)), .val (.ref e3)] [])) (fun _ kk => XS.ifYes W17.here hx rfl (pc0 := 28) (pc' := 34) rfl (hb hby d4_28) rfl (XT.i0_eq_t (by decide +kernel)) (by decide +kernel) (by decide +kernel) kk) ?_
          refine Go.of (t' := T17.setTop (mkF m 37 #[.val (.ref x1), .val (.ref r1), .val (.int (6 : Int32)), .val (.int (4 : Int32)), .val (.ref e3)] [])) (fun _ kk => XS.iinc W17.here hx rfl (hb hby d4_34) rfl (l' := #[.val (.ref x1), .val (.ref r1), .val (.int (6 : Int32)), .val (.int (4 : Int32)), .val (.ref e3)]) rfl kk) ?_
          refine Go.of (t' := T17.setTop (mkF m 9 #[.val (.ref x1), .val (.ref r1), .val (.int (6 : Int32)), .val (.int (4 : Int32)), .val (.ref e3)] [])) (fun _ kk => XS.goto W17.here hx rfl (pc0 := 37) (pc' := 9) rfl (hb hby d4_37) (by decide +kernel) (by decide +kernel) kk) ?_
          refine Go.of (t' := T17.setTop (mkF m 10 #[.val (.ref x1), .val (.ref r1), .val (.int (6 : Int32)), .val (.int (4 : Int32)), .val (.ref e3)] [(.int (4 : Int32))])) (fun _ kk => XS.iloadN W17.here hx rfl (hb hby d4_9) rfl kk) ?_
          refine Go.of (t' := T17.setTop (mkF m 11 #[.val (.ref x1), .val (.ref r1), .val (.int (6 : Int32)), .val (.int (4 : Int32)), .val (.ref e3)] [(.int (6 : Int32)), (.int (4 : Int32))])) (fun _ kk => XS.iloadN W17.here hx rfl (hb hby d4_10) rfl kk) ?_
          refine Go.of (t' := T17.setTop (mkF m 14 #[.val (.ref x1), .val (.ref r1), .val (.int (6 : Int32)), .val (.int (4 : Int32)), .val (.ref e3)] [])) (fun _ kk => XS.icmpNo W17.here hx rfl (hb hby d4_11) rfl (XT.ii_ge_f (by decide +kernel)) kk) ?_
          refine Go.of (t' := T17.setTop (mkF m 15 #[.val (.ref x1), .val (.ref r1), .val (.int (6 : Int32)), .val (.int (4 : Int32)), .val (.ref e3)] [(.ref r1)])) (fun _ kk => XS.aloadN W17.here hx rfl (hb hby d4_14) rfl rfl kk) ?_
          refine Go.of (t' := T17.setTop (mkF m 16 #[.val (.ref x1), .val (.ref r1), .val (.int (6 : Int32)), .val (.int (4 : Int32)), .val (.ref e3)] [(.int (4 : Int32)), (.ref r1)])) (fun _ kk => XS.iloadN W17.here hx rfl (hb hby d4_15) rfl kk) ?_
          refine W17.aaload hx A1 rfl ⟨by decide, by decide⟩ (v := (.ref e4)) rfl rfl rfl (hb hby d4_16) ?_
          show Go p e below _ (T17.setTop (mkF m 17 #[.val (.ref x1), .val (.ref r1), .val (.int (6 : Int32)), .val (.int (4 : Int32)), .val (.ref e3)] [(.ref e4)]))
          refine Go.of (t' := T17.setTop (mkF m 19 #[.val (.ref x1), .val (.ref r1), .val (.int (6 : Int32)), .val (.int (4 : Int32)), .val (.ref e4)] [])) (fun _ kk => XS.astore W17.here hx rfl (hb hby d4_17) rfl rfl (l' := #[.val (.ref x1), .val (.ref r1), .val (.int (6 : Int32)), .val (.int (4 : Int32)), .val (.ref e4)]) rfl kk) ?_
          refine Go.of (t' := T17.setTop (mkF m 21 #[.val (.ref x1), .val (.ref r1), .val (.int (6 : Int32)), .val (.int (4 : Int32)), .val (.ref e4)] [(.ref e4)])) (fun _ kk => XS.aload W17.here hx rfl (hb hby d4_19) rfl rfl kk) ?_
          have k19 := OF4.ext W17.old.2
          refine W17.getF hx (host := "") (Or.inl (hw _ (List.mem_of_getElem? (i := 51) rfl))) Via.refl k19 rfl rfl (hb hby d4_21) (fun T20 W20 => ?_)
          show Go p e below _ (T20.setTop (mkF m 24 #[.val (.ref x1), .val (.ref r1), .val (.int (6 : Int32)), .val (.int (4 : Int32)), .val (.ref e4)] [(.ref s4)]))
          refine Go.of (t' := T20.setTop (mkF m 25 #[.val (.ref x1), .val (.ref r1), .val (.int (6 : Int32)), .val (.int (4 : Int32)), .val (.ref e4)] [(.ref x1), (.ref s4)])) (fun _ kk => XS.aloadN W20.here hx rfl (hb hby d4_24) rfl rfl kk) ?_
          have k22 := OS4.ext W20.old.2
          refine W20.strEq hx heq (hw _ (List.mem_of_getElem? (i := 6) rfl)) SC hzc k22 k6 (hw _ (List.mem_of_getElem? (i := 53) rfl)) (hw _ (List.mem_of_getElem? (i := 54) rfl)) (hw _ (List.mem_of_getElem? (i := 56) rfl)) (hw _ (List.mem_of_getElem? (i := 55) rfl)) (by decide +kernel) (Wd := 0) (by decide +kernel) (by decide +kernel) (by decide +kernel) rfl (by rw [hml]; rfl) rfl (by show 2 * 0 + _ ≤ _; exact Nat.le_of_eq rfl) (hb hby d4_25) (fun T21 z21 hz21 W21 => ?_)
          rcases hz21 with ⟨rfl, hn21⟩ | ⟨rfl, hn21⟩
          · show Go p e below _ (T21.setTop (mkF m 28 #[.val (.ref x1), .val (.ref r1), .val (.int (6 : Int32)), .val (.int (4 : Int32)), .val (.ref e4)] [(.int (1 : Int32))]))
            refine Go.of (t' := T21.setTop (mkF m 31 #[.val (.ref x1), .val (.ref r1), .val (.int (6 : Int32)), .val (.int (4 : Int32)), .val (.ref e4)] [])) (fun _ kk => XS.ifNo W21.here hx rfl (hb hby d4_28) rfl (XT.i0_eq_f (by decide +kernel)) kk) ?_
            refine Go.of (t' := T21.setTop (mkF m 33 #[.val (.ref x1), .val (.ref r1), .val (.int (6 : Int32)), .val (.int (4 : Int32)), .val (.ref e4)] [(.ref e4)])) (fun _ kk => XS.aload W21.here hx rfl (hb hby d4_31) rfl rfl kk) ?_
            have ew : wrOf e0 e1 e2 e3 e4 e5 cs = (.ref e4) := by unfold wrOf; rw [if_neg hn4, if_neg hn9, if_neg hn13, if_neg hn17, if_pos hn21]
            exact W21.retA hx hEL hs hlk (by decide +kernel) (by decide +kernel) hret rfl rfl (hb hby d4_33) (by rw [ew])
          · show Go p e below _ (T21.setTop (mkF m 28 #[.val (.ref x1), .val (.ref r1), .val (.int (6 : Int32)), .val (.int (4 : Int32)), .val (.ref e4)] [(.int (0 : Int32))]))
            refine Go.of (t' := T21.setTop (mkF m 34 #[.val (.ref x1), .val (.ref r1), .val (.int (6 : Int32)), .val (.int (4 : Int32)), .val (.ref e4)] [])) (fun _ kk => XS.ifYes W21.here hx rfl (pc0 := 28) (pc' := 34) rfl (hb hby d4_28) rfl (XT.i0_eq_t (by decide +kernel)) (by decide +kernel) (by decide +kernel) kk) ?_
            refine Go.of (t' := T21.setTop (mkF m 37 #[.val (.ref x1), .val (.ref r1), .val (.int (6 : Int32)), .val (.int (5 : Int32)), .val (.ref e4)] [])) (fun _ kk => XS.iinc W21.here hx rfl (hb hby d4_34) rfl (l' := #[.val (.ref x1), .val (.ref r1), .val (.int (6 : Int32)), .val (.int (5 : Int32)), .val (.ref e4)]) rfl kk) ?_
            refine Go.of (t' := T21.setTop (mkF m 9 #[.val (.ref x1), .val (.ref r1), .val (.int (6 : Int32)), .val (.int (5 : Int32)), .val (.ref e4)] [])) (fun _ kk => XS.goto W21.here hx rfl (pc0 := 37) (pc' := 9) rfl (hb hby d4_37) (by decide +kernel) (by decide +kernel) kk) ?_
            refine Go.of (t' := T21.setTop (mkF m 10 #[.val (.ref x1), .val (.ref r1), .val (.int (6 : Int32)), .val (.int (5 : Int32)), .val (.ref e4)] [(.int (5 : Int32))])) (fun _ kk => XS.iloadN W21.here hx rfl (hb hby d4_9) rfl kk) ?_
            refine Go.of (t' := T21.setTop (mkF m 11 #[.val (.ref x1), .val (.ref r1), .val (.int (6 : Int32)), .val (.int (5 : Int32)), .val (.ref e4)] [(.int (6 : Int32)), (.int (5 : Int32))])) (fun _ kk => XS.iloadN W21.here hx rfl (hb hby d4_10) rfl kk) ?_
            refine Go.of (t' := T21.setTop (mkF m 14 #[.val (.ref x1), .val (.ref r1), .val (.int (6 : Int32)), .val (.int (5 : Int32)), .val (.ref e4)] [])) (fun _ kk => XS.icmpNo W21.here hx rfl (hb hby d4_11) rfl (XT.ii_ge_f (by decide +kernel)) kk) ?_
            refine Go.of (t' := T21.setTop (mkF m 15 #[.val (.ref x1), .val (.ref r1), .val (.int (6 : Int32)), .val (.int (5 : Int32)), .val (.ref e4)] [(.ref r1)])) (fun _ kk => XS.aloadN W21.here hx rfl (hb hby d4_14) rfl rfl kk) ?_
            refine Go.of (t' := T21.setTop (mkF m 16 #[.val (.ref x1), .val (.ref r1), .val (.int (6 : Int32)), .val (.int (5 : Int32)), .val (.ref e4)] [(.int (5 : Int32)), (.ref r1)])) (fun _ kk => XS.iloadN W21.here hx rfl (hb hby d4_15) rfl kk) ?_
            refine W21.aaload hx A1 rfl ⟨by decide, by decide⟩ (v := (.ref e5)) rfl rfl rfl (hb hby d4_16) ?_
            show Go p e below _ (T21.setTop (mkF m 17 #[.val (.ref x1), .val (.ref r1), .val (.int (6 : Int32)), .val (.int (5 : Int32)), .val (.ref e4)] [(.ref e5)]))
            refine Go.of (t' := T21.setTop (mkF m 19 #[.val (.ref x1), .val (.ref r1), .val (.int (6 : Int32)), .val (.int (5 : Int32)), .val (.ref e5)] [])) (fun _ kk => XS.astore W21.here hx rfl (hb hby d4_17) rfl rfl (l' := #[.val (.ref x1), .val (.ref r1), .val (.int (6 : Int32)), .val (.int (5 : Int32)), .val (.ref e5)]) rfl kk) ?_
            refine Go.of (t' := T21.setTop (mkF m 21 #[.val (.ref x1), .val (.ref r1), .val (.int (6 : Int32)), .val (.int (5 : Int32)), .val (.ref e5)] [(.ref e5)])) (fun _ kk => XS.aload W21.here hx rfl (hb hby d4_19) rfl rfl kk) ?_
            have k23 := OF5.ext W21.old.2
            refine W21.getF hx (host := "") (Or.inl (hw _ (List.mem_of_getElem? (i := 51) rfl))) Via.refl k23 rfl rfl (hb hby d4_21) (fun T24 W24 => ?_)
            show Go p e below _ (T24.setTop (mkF m 24 #[.val (.ref x1), .val (.ref r1), .val (.int (6 : Int32)), .val (.int (5 : Int32)), .val (.ref e5)] [(.ref s5)]))
            refine Go.of (t' := T24.setTop (mkF m 25 #[.val (.ref x1), .val (.ref r1), .val (.int (6 : Int32)), .val (.int (5 : Int32)), .val (.ref e5)] [(.ref x1), (.ref s5)])) (fun _ kk => XS.aloadN W24.here hx rfl (hb hby d4_24) rfl rfl kk) ?_
            have k26 := OS5.ext W24.old.2
            refine W24.strEq hx heq (hw _ (List.mem_of_getElem? (i := 6) rfl)) SC hzc k26 k6 (hw _ (List.mem_of_getElem? (i := 53) rfl)) (hw _ (List.mem_of_getElem? (i := 54) rfl)) (hw _ (List.mem_of_getElem? (i := 56) rfl)) (hw _ (List.mem_of_getElem? (i := 55) rfl)) (by decide +kernel) (Wd := 0) (by decide +kernel) (by decide +kernel) (by decide +kernel) rfl (by rw [hml]; rfl) rfl (by show 2 * 0 + _ ≤ _; exact Nat.le_of_eq rfl) (hb hby d4_25) (fun T25 z25 hz25 W25 => ?_)
            rcases hz25 with ⟨rfl, hn25⟩ | ⟨rfl, hn25⟩
            · show Go p e below _ (T25.setTop (mkF m 28 #[.val (.ref x1), .val (.ref r1), .val (.int (6 : Int32)), .val (.int (5 : Int32)), .val (.ref e5)] [(.int (1 : Int32))]))
              refine Go.of (t' := T25.setTop (mkF m 31 #[.val (.ref x1), .val (.ref r1), .val (.int (6 : Int32)), .val (.int (5 : Int32)), .val (.ref e5)] [])) (fun _ kk => XS.ifNo W25.here hx rfl (hb hby d4_28) rfl (XT.i0_eq_f (by decide +kernel)) kk) ?_
              refine Go.of (t' := T25.setTop (mkF m 33 #[.val (.ref x1), .val (.ref r1), .val (.int (6 : Int32)), .val (.int (5 : Int32)), .val (.ref e5)] [(.ref e5)])) (fun _ kk => XS.aload W25.here hx rfl (hb hby d4_31) rfl rfl kk) ?_
              have ew : wrOf e0 e1 e2 e3 e4 e5 cs = (.ref e5) := by unfold wrOf; rw [if_neg hn4, if_neg hn9, if_neg hn13, if_neg hn17, if_neg hn21, if_pos hn25]
              exact W25.retA hx hEL hs hlk (by decide +kernel) (by decide +kernel) hret rfl rfl (hb hby d4_33) (by rw [ew])
            · show Go p e below _ (T25.setTop (mkF m 28 #[.val (.ref x1), .val (.ref r1), .val (.int (6 : Int32)), .val (.int (5 : Int32)), .val (.ref e5)] [(.int (0 : Int32))]))
              refine Go.of (t' := T25.setTop (mkF m 34 #[.val (.ref x1), .val (.ref r1), .val (.int (6 : Int32)), .val (.int (5 : Int32)), .val (.ref e5)] [])) (fun _ kk => XS.ifYes W25.here hx rfl (pc0 := 28) (pc' := 34) rfl (hb hby d4_28) rfl (XT.i0_eq_t (by decide +kernel)) (by decide +kernel) (by decide +kernel) kk) ?_
              refine Go.of (t' := T25.setTop (mkF m 37 #[.val (.ref x1), .val (.ref r1), .val (.int (6 : Int32)), .val (.int (6 : Int32)), .val (.ref e5)] [])) (fun _ kk => XS.iinc W25.here hx rfl (hb hby d4_34) rfl (l' := #[.val (.ref x1), .val (.ref r1), .val (.int (6 : Int32)), .val (.int (6 : Int32)), .val (.ref e5)]) rfl kk) ?_
              refine Go.of (t' := T25.setTop (mkF m 9 #[.val (.ref x1), .val (.ref r1), .val (.int (6 : Int32)), .val (.int (6 : Int32)), .val (.ref e5)] [])) (fun _ kk => XS.goto W25.here hx rfl (pc0 := 37) (pc' := 9) rfl (hb hby d4_37) (by decide +kernel) (by decide +kernel) kk) ?_
              refine Go.of (t' := T25.setTop (mkF m 10 #[.val (.ref x1), .val (.ref r1), .val (.int (6 : Int32)), .val (.int (6 : Int32)), .val (.ref e5)] [(.int (6 : Int32))])) (fun _ kk => XS.iloadN W25.here hx rfl (hb hby d4_9) rfl kk) ?_
              refine Go.of (t' := T25.setTop (mkF m 11 #[.val (.ref x1), .val (.ref r1), .val (.int (6 : Int32)), .val (.int (6 : Int32)), .val (.ref e5)] [(.int (6 : Int32)), (.int (6 : Int32))])) (fun _ kk => XS.iloadN W25.here hx rfl (hb hby d4_10) rfl kk) ?_
              refine Go.of (t' := T25.setTop (mkF m 40 #[.val (.ref x1), .val (.ref r1), .val (.int (6 : Int32)), .val (.int (6 : Int32)), .val (.ref e5)] [])) (fun _ kk => XS.icmpYes W25.here hx rfl (pc0 := 11) (pc' := 40) rfl (hb hby d4_11) rfl (XT.ii_ge_t (by decide +kernel)) (by decide +kernel) (by decide +kernel) kk) ?_
              refine Go.of (t' := T25.setTop (mkF m 41 #[.val (.ref x1), .val (.ref r1), .val (.int (6 : Int32)), .val (.int (6 : Int32)), .val (.ref e5)] [.null])) (fun _ kk => XS.aconstNull W25.here hx rfl (hb hby d4_40) kk) ?_
              have ew : wrOf e0 e1 e2 e3 e4 e5 cs = .null := by unfold wrOf; rw [if_neg hn4, if_neg hn9, if_neg hn13, if_neg hn17, if_neg hn21, if_neg hn25]
              exact W25.retA hx hEL hs hlk (by decide +kernel) (by decide +kernel) hret rfl rfl (hb hby d4_41) (by rw [ew])
theorem d5_0 : decode prog_74_method_4_code 0 = .ok (.invokestatic 45, 3) := by decide +kernel
theorem d5_3 : decode prog_74_method_4_code 3 = .ok (.astore_n 1, 1) := by decide +kernel
theorem d5_4 : decode prog_74_method_4_code 4 = .ok (.aload_n 1, 1) := by decide +kernel
theorem d5_5 : decode prog_74_method_4_code 5 = .ok (.arraylength, 1) := by decide +kernel
theorem d5_6 : decode prog_74_method_4_code 6 = .ok (.istore_n 2, 1) := by decide +kernel
theorem d5_7 : decode prog_74_method_4_code 7 = .ok (.iconst 0, 1) := by decide +kernel
theorem d5_8 : decode prog_74_method_4_code 8 = .ok (.istore_n 3, 1) := by decide +kernel
theorem d5_9 : decode prog_74_method_4_code 9 = .ok (.iload_n 3, 1) := by decide +kernel
theorem d5_10 : decode prog_74_method_4_code 10 = .ok (.iload_n 2, 1) := by decide +kernel
theorem d5_11 : decode prog_74_method_4_code 11 = .ok (.if_icmp .ge 29, 3) := by decide +kernel
theorem d5_14 : decode prog_74_method_4_code 14 = .ok (.aload_n 1, 1) := by decide +kernel
theorem d5_15 : decode prog_74_method_4_code 15 = .ok (.iload_n 3, 1) := by decide +kernel
theorem d5_16 : decode prog_74_method_4_code 16 = .ok (.aaload, 1) := by decide +kernel
theorem d5_17 : decode prog_74_method_4_code 17 = .ok (.astore 4, 2) := by decide +kernel
theorem d5_19 : decode prog_74_method_4_code 19 = .ok (.aload 4, 2) := by decide +kernel
theorem d5_21 : decode prog_74_method_4_code 21 = .ok (.getfield 41, 3) := by decide +kernel
theorem d5_24 : decode prog_74_method_4_code 24 = .ok (.aload_n 0, 1) := by decide +kernel
theorem d5_25 : decode prog_74_method_4_code 25 = .ok (.invokevirtual 49, 3) := by decide +kernel
theorem d5_28 : decode prog_74_method_4_code 28 = .ok (.ifCond .eq 6, 3) := by decide +kernel
theorem d5_34 : decode prog_74_method_4_code 34 = .ok (.iinc 3 1, 3) := by decide +kernel
theorem d5_37 : decode prog_74_method_4_code 37 = .ok (.goto (-28), 3) := by decide +kernel
theorem d5_40 : decode prog_74_method_4_code 40 = .ok (.aconst_null, 1) := by decide +kernel
theorem d5_41 : decode prog_74_method_4_code 41 = .ok (.areturn, 1) := by decide +kernel
theorem ef5 (m : MethodId)   : entryFrame m #[.null] 5 = mkF m 0 #[.val .null, .unset, .unset, .unset, .unset] [] := by first | (simp [entryFrame, mkF, argsToLocals, Value.category]; done) | rfl | rfl
set_option maxRecDepth 65536 in
set_option maxHeartbeats 40000000 in
theorem rm5 (l : Launch) (Z : State) (a0 : Array Value) (hw : ∀ d ∈ tables_1, d.before a0 Z = true) (hEL : EW Z a0 EL0) (zc : Int32) (SC : Sta Z Z.heap "java/lang/String" "COMPACT_STRINGS" "Z" (.int zc)) (hzc : ¬ zc = 0) (fm : Value) (SF : Sta Z Z.heap "jdk/internal/util/Preconditions" "SIOOBE_FORMATTER" "Ljava/util/function/BiFunction;" fm) (rfm : fm.isRef = true) (e0 : Addr) (e1 : Addr) (e2 : Addr) (e3 : Addr) (e4 : Addr) (e5 : Addr) (s0 : Addr) (s1 : Addr) (s2 : Addr) (s3 : Addr) (s4 : Addr) (s5 : Addr) (av : Addr) (kv : ClassId) (h0 : Heap) {n0 : Nat} (O0 : Old Z n0 h0) (OE0 : Exa Z Z.heap e0 "org/portcullis/expression/Node$Comparison$Operator") (OE1 : Exa Z Z.heap e1 "org/portcullis/expression/Node$Comparison$Operator") (OE2 : Exa Z Z.heap e2 "org/portcullis/expression/Node$Comparison$Operator") (OE3 : Exa Z Z.heap e3 "org/portcullis/expression/Node$Comparison$Operator") (OE4 : Exa Z Z.heap e4 "org/portcullis/expression/Node$Comparison$Operator") (OE5 : Exa Z Z.heap e5 "org/portcullis/expression/Node$Comparison$Operator") (OF0 : Fld Z Z.heap e0 "org/portcullis/expression/Node$Comparison$Operator" "iSymbol" "Ljava/lang/String;" (.ref s0)) (OF1 : Fld Z Z.heap e1 "org/portcullis/expression/Node$Comparison$Operator" "iSymbol" "Ljava/lang/String;" (.ref s1)) (OF2 : Fld Z Z.heap e2 "org/portcullis/expression/Node$Comparison$Operator" "iSymbol" "Ljava/lang/String;" (.ref s2)) (OF3 : Fld Z Z.heap e3 "org/portcullis/expression/Node$Comparison$Operator" "iSymbol" "Ljava/lang/String;" (.ref s3)) (OF4 : Fld Z Z.heap e4 "org/portcullis/expression/Node$Comparison$Operator" "iSymbol" "Ljava/lang/String;" (.ref s4)) (OF5 : Fld Z Z.heap e5 "org/portcullis/expression/Node$Comparison$Operator" "iSymbol" "Ljava/lang/String;" (.ref s5)) (OS0 : Str Z Z.heap s0 [(61 : Int32), (61 : Int32)]) (OS1 : Str Z Z.heap s1 [(33 : Int32), (61 : Int32)]) (OS2 : Str Z Z.heap s2 [(60 : Int32)]) (OS3 : Str Z Z.heap s3 [(60 : Int32), (61 : Int32)]) (OS4 : Str Z Z.heap s4 [(62 : Int32)]) (OS5 : Str Z Z.heap s5 [(62 : Int32), (61 : Int32)]) (OA : Arv Z Z.heap av kv (.object "org/portcullis/expression/Node$Comparison$Operator") (6 : Int32) [(.ref e0), (.ref e1), (.ref e2), (.ref e3), (.ref e4), (.ref e5)] .null) (OV : Exa Z Z.heap av "[Lorg/portcullis/expression/Node$Comparison$Operator;") (OT : Sta Z Z.heap "org/portcullis/expression/Node$Comparison$Operator" "$VALUES" "[Lorg/portcullis/expression/Node$Comparison$Operator;" (.ref av)) (OX : ∀ cl, Arr Z Z.heap av cl (.object "org/portcullis/expression/Node$Comparison$Operator") → FitC Z cl) (OC0 : Sta Z Z.heap "org/portcullis/expression/Node$Comparison$Operator" "EQUAL" "Lorg/portcullis/expression/Node$Comparison$Operator;" (.ref e0)) (OC1 : Sta Z Z.heap "org/portcullis/expression/Node$Comparison$Operator" "NOT_EQUAL" "Lorg/portcullis/expression/Node$Comparison$Operator;" (.ref e1)) (OC2 : Sta Z Z.heap "org/portcullis/expression/Node$Comparison$Operator" "LESS" "Lorg/portcullis/expression/Node$Comparison$Operator;" (.ref e2)) (OC3 : Sta Z Z.heap "org/portcullis/expression/Node$Comparison$Operator" "LESS_OR_EQUAL" "Lorg/portcullis/expression/Node$Comparison$Operator;" (.ref e3)) (OC4 : Sta Z Z.heap "org/portcullis/expression/Node$Comparison$Operator" "GREATER" "Lorg/portcullis/expression/Node$Comparison$Operator;" (.ref e4)) (OC5 : Sta Z Z.heap "org/portcullis/expression/Node$Comparison$Operator" "GREATER_OR_EQUAL" "Lorg/portcullis/expression/Node$Comparison$Operator;" (.ref e5)) :
    Met l Z EL0 n0 (⟨"org/portcullis/expression/Node$Comparison$Operator", "written", "(Ljava/lang/String;)Lorg/portcullis/expression/Node$Comparison$Operator;"⟩ : MethodName) prog_74_method_4_code 5 (some (.object "org/portcullis/expression/Node$Comparison$Operator")) [] ({ frames := 2, cells := 1, slots := 6, locals := 25 } : Room) #[.null] h0 [] [] (fun v h' => v = some .null) := by
  refine Met.of (plainFor_of_name pn3) O0 ?_
  intro p e s m below meth c T0 hx hby hml hret hlk hnm hs W0
  have W0 : Wk p l e _ s m _ below meth c Z EL0 n0 [] "org/portcullis/expression/Node$Comparison$Operator" [] T0 0 0 h0 := W0
  have hSA := fun d hd => hw d (sa_in d hd)
  have hws := fun d hd => hw d (ws_in d hd)
  have heq := fun d hd => hw d (eq_in d hd)
  refine Go.of (fun _ kk => castTop (ef5 m ) kk) ?_
  show Go p e below _ (T0.setTop (mkF m 0 #[.val .null, .unset, .unset, .unset, .unset] []))
  refine W0.callS hx hEL (hw _ (List.mem_of_getElem? (i := 30) rfl)) (hw _ (List.mem_of_getElem? (i := 31) rfl)) (hw _ (List.mem_of_getElem? (i := 28) rfl)) (hw _ (List.mem_of_getElem? (i := 32) rfl)) (by decide +kernel) (argsL := []) (rest := []) (rm2 l Z a0 hw hEL zc SC hzc fm SF rfm e0 e1 e2 e3 e4 e5 s0 s1 s2 s3 s4 s5 av kv h0 W0.old OE0 OE1 OE2 OE3 OE4 OE5 OF0 OF1 OF2 OF3 OF4 OF5 OS0 OS1 OS2 OS3 OS4 OS5 OA OV OT OX OC0 OC1 OC2 OC3 OC4 OC5) all0 (by decide +kernel) (Wd := 0) (by decide +kernel) (by decide +kernel) (by decide +kernel) all0 rfl (by rw [hml]; rfl) (lenOf pd4 rfl) rfl (by show 2 * 0 + _ ≤ _; exact Nat.le_of_eq rfl) (hb hby d5_0) (fun T1 h1 v1 W1 K1 q1 => ?_)
  obtain ⟨r1, rfl, lr1, A1⟩ := q1
  have gr1 : n0 ≤ r1 ∧ s.heap.size ≤ r1 := ⟨Nat.le_trans W0.n0le lr1, Nat.le_trans W0.s0le lr1⟩
  show Go p e below _ (T1.setTop (mkF m 3 #[.val .null, .unset, .unset, .unset, .unset] [(.ref r1)]))
  refine Go.of (t' := T1.setTop (mkF m 4 #[.val .null, .val (.ref r1), .unset, .unset, .unset] [])) (fun _ kk => XS.astoreN W1.here hx rfl (hb hby d5_3) rfl rfl (l' := #[.val .null, .val (.ref r1), .unset, .unset, .unset]) rfl kk) ?_
  refine Go.of (t' := T1.setTop (mkF m 5 #[.val .null, .val (.ref r1), .unset, .unset, .unset] [(.ref r1)])) (fun _ kk => XS.aloadN W1.here hx rfl (hb hby d5_4) rfl rfl kk) ?_
  refine W1.alen hx A1 rfl rfl (hb hby d5_5) ?_
  show Go p e below _ (T1.setTop (mkF m 6 #[.val .null, .val (.ref r1), .unset, .unset, .unset] [(.int (6 : Int32))]))
  refine Go.of (t' := T1.setTop (mkF m 7 #[.val .null, .val (.ref r1), .val (.int (6 : Int32)), .unset, .unset] [])) (fun _ kk => XS.istoreN W1.here hx rfl (hb hby d5_6) rfl (l' := #[.val .null, .val (.ref r1), .val (.int (6 : Int32)), .unset, .unset]) rfl kk) ?_
  refine Go.of (t' := T1.setTop (mkF m 8 #[.val .null, .val (.ref r1), .val (.int (6 : Int32)), .unset, .unset] [(.int (0 : Int32))])) (fun _ kk => XS.iconst W1.here hx rfl (hb hby d5_7) kk) ?_
  refine Go.of (t' := T1.setTop (mkF m 9 #[.val .null, .val (.ref r1), .val (.int (6 : Int32)), .val (.int (0 : Int32)), .unset] [])) (fun _ kk => XS.istoreN W1.here hx rfl (hb hby d5_8) rfl (l' := #[.val .null, .val (.ref r1), .val (.int (6 : Int32)), .val (.int (0 : Int32)), .unset]) rfl kk) ?_
  refine Go.of (t' := T1.setTop (mkF m 10 #[.val .null, .val (.ref r1), .val (.int (6 : Int32)), .val (.int (0 : Int32)), .unset] [(.int (0 : Int32))])) (fun _ kk => XS.iloadN W1.here hx rfl (hb hby d5_9) rfl kk) ?_
  refine Go.of (t' := T1.setTop (mkF m 11 #[.val .null, .val (.ref r1), .val (.int (6 : Int32)), .val (.int (0 : Int32)), .unset] [(.int (6 : Int32)), (.int (0 : Int32))])) (fun _ kk => XS.iloadN W1.here hx rfl (hb hby d5_10) rfl kk) ?_
  refine Go.of (t' := T1.setTop (mkF m 14 #[.val .null, .val (.ref r1), .val (.int (6 : Int32)), .val (.int (0 : Int32)), .unset] [])) (fun _ kk => XS.icmpNo W1.here hx rfl (hb hby d5_11) rfl (XT.ii_ge_f (by decide +kernel)) kk) ?_
  refine Go.of (t' := T1.setTop (mkF m 15 #[.val .null, .val (.ref r1), .val (.int (6 : Int32)), .val (.int (0 : Int32)), .unset] [(.ref r1)])) (fun _ kk => XS.aloadN W1.here hx rfl (hb hby d5_14) rfl rfl kk) ?_
  refine Go.of (t' := T1.setTop (mkF m 16 #[.val .null, .val (.ref r1), .val (.int (6 : Int32)), .val (.int (0 : Int32)), .unset] [(.int (0 : Int32)), (.ref r1)])) (fun _ kk => XS.iloadN W1.here hx rfl (hb hby d5_15) rfl kk) ?_
  refine W1.aaload hx A1 rfl ⟨by decide, by decide⟩ (v := (.ref e0)) rfl rfl rfl (hb hby d5_16) ?_
  show Go p e below _ (T1.setTop (mkF m 17 #[.val .null, .val (.ref r1), .val (.int (6 : Int32)), .val (.int (0 : Int32)), .unset] [(.ref e0)]))
  refine Go.of (t' := T1.setTop (mkF m 19 #[.val .null, .val (.ref r1), .val (.int (6 : Int32)), .val (.int (0 : Int32)), .val (.ref e0)] [])) (fun _ kk => XS.astore W1.here hx rfl (hb hby d5_17) rfl rfl (l' := #[.val .null, .val (.ref r1), .val (.int (6 : Int32)), .val (.int (0 : Int32)), .val (.ref e0)]) rfl kk) ?_
  refine Go.of (t' := T1.setTop (mkF m 21 #[.val .null, .val (.ref r1), .val (.int (6 : Int32)), .val (.int (0 : Int32)), .val (.ref e0)] [(.ref e0)])) (fun _ kk => XS.aload W1.here hx rfl (hb hby d5_19) rfl rfl kk) ?_
  have k2 := OF0.ext W1.old.2
  refine W1.getF hx (host := "") (Or.inl (hw _ (List.mem_of_getElem? (i := 51) rfl))) Via.refl k2 rfl rfl (hb hby d5_21) (fun T3 W3 => ?_)
  show Go p e below _ (T3.setTop (mkF m 24 #[.val .null, .val (.ref r1), .val (.int (6 : Int32)), .val (.int (0 : Int32)), .val (.ref e0)] [(.ref s0)]))
  refine Go.of (t' := T3.setTop (mkF m 25 #[.val .null, .val (.ref r1), .val (.int (6 : Int32)), .val (.int (0 : Int32)), .val (.ref e0)] [.null, (.ref s0)])) (fun _ kk => XS.aloadN W3.here hx rfl (hb hby d5_24) rfl rfl kk) ?_
  have k5 := OS0.ext W3.old.2
  have k6 := k5.exa
  refine W3.callV hx hEL (hw _ (List.mem_of_getElem? (i := 53) rfl)) (hw _ (List.mem_of_getElem? (i := 54) rfl)) (hw _ (List.mem_of_getElem? (i := 56) rfl)) (hw _ (List.mem_of_getElem? (i := 55) rfl)) (hw _ (List.mem_of_getElem? (i := 7) rfl)) (hw _ (List.mem_of_getElem? (i := 57) rfl)) (by decide +kernel) k6 (a := s0) (argsL := [.null]) (rest := []) (rm3 l Z a0 hw hEL zc SC hzc fm SF rfm s0 h1 W3.old ) all0 (by decide +kernel) (Wd := 0) (by decide +kernel) (by decide +kernel) (by decide +kernel) all0 rfl (by rw [hml]; rfl) (lenOf pd5 rfl) rfl (by show 2 * 0 + _ ≤ _; exact Nat.le_of_eq rfl) (hb hby d5_25) (fun T4 h4 v4 W4 K4 q4 => ?_)
  obtain ⟨rfl, rfl⟩ := q4
  show Go p e below _ (T4.setTop (mkF m 28 #[.val .null, .val (.ref r1), .val (.int (6 : Int32)), .val (.int (0 : Int32)), .val (.ref e0)] [(.int (0 : Int32))]))
  refine Go.of (t' := T4.setTop (mkF m 34 #[.val .null, .val (.ref r1), .val (.int (6 : Int32)), .val (.int (0 : Int32)), .val (.ref e0)] [])) (fun _ kk => XS.ifYes W4.here hx rfl (pc0 := 28) (pc' := 34) rfl (hb hby d5_28) rfl (XT.i0_eq_t (by decide +kernel)) (by decide +kernel) (by decide +kernel) kk) ?_
  refine Go.of (t' := T4.setTop (mkF m 37 #[.val .null, .val (.ref r1), .val (.int (6 : Int32)), .val (.int (1 : Int32)), .val (.ref e0)] [])) (fun _ kk => XS.iinc W4.here hx rfl (hb hby d5_34) rfl (l' := #[.val .null, .val (.ref r1), .val (.int (6 : Int32)), .val (.int (1 : Int32)), .val (.ref e0)]) rfl kk) ?_
  refine Go.of (t' := T4.setTop (mkF m 9 #[.val .null, .val (.ref r1), .val (.int (6 : Int32)), .val (.int (1 : Int32)), .val (.ref e0)] [])) (fun _ kk => XS.goto W4.here hx rfl (pc0 := 37) (pc' := 9) rfl (hb hby d5_37) (by decide +kernel) (by decide +kernel) kk) ?_
  refine Go.of (t' := T4.setTop (mkF m 10 #[.val .null, .val (.ref r1), .val (.int (6 : Int32)), .val (.int (1 : Int32)), .val (.ref e0)] [(.int (1 : Int32))])) (fun _ kk => XS.iloadN W4.here hx rfl (hb hby d5_9) rfl kk) ?_
  refine Go.of (t' := T4.setTop (mkF m 11 #[.val .null, .val (.ref r1), .val (.int (6 : Int32)), .val (.int (1 : Int32)), .val (.ref e0)] [(.int (6 : Int32)), (.int (1 : Int32))])) (fun _ kk => XS.iloadN W4.here hx rfl (hb hby d5_10) rfl kk) ?_
  refine Go.of (t' := T4.setTop (mkF m 14 #[.val .null, .val (.ref r1), .val (.int (6 : Int32)), .val (.int (1 : Int32)), .val (.ref e0)] [])) (fun _ kk => XS.icmpNo W4.here hx rfl (hb hby d5_11) rfl (XT.ii_ge_f (by decide +kernel)) kk) ?_
  refine Go.of (t' := T4.setTop (mkF m 15 #[.val .null, .val (.ref r1), .val (.int (6 : Int32)), .val (.int (1 : Int32)), .val (.ref e0)] [(.ref r1)])) (fun _ kk => XS.aloadN W4.here hx rfl (hb hby d5_14) rfl rfl kk) ?_
  refine Go.of (t' := T4.setTop (mkF m 16 #[.val .null, .val (.ref r1), .val (.int (6 : Int32)), .val (.int (1 : Int32)), .val (.ref e0)] [(.int (1 : Int32)), (.ref r1)])) (fun _ kk => XS.iloadN W4.here hx rfl (hb hby d5_15) rfl kk) ?_
  refine W4.aaload hx A1 rfl ⟨by decide, by decide⟩ (v := (.ref e1)) rfl rfl rfl (hb hby d5_16) ?_
  show Go p e below _ (T4.setTop (mkF m 17 #[.val .null, .val (.ref r1), .val (.int (6 : Int32)), .val (.int (1 : Int32)), .val (.ref e0)] [(.ref e1)]))
  refine Go.of (t' := T4.setTop (mkF m 19 #[.val .null, .val (.ref r1), .val (.int (6 : Int32)), .val (.int (1 : Int32)), .val (.ref e1)] [])) (fun _ kk => XS.astore W4.here hx rfl (hb hby d5_17) rfl rfl (l' := #[.val .null, .val (.ref r1), .val (.int (6 : Int32)), .val (.int (1 : Int32)), .val (.ref e1)]) rfl kk) ?_
  refine Go.of (t' := T4.setTop (mkF m 21 #[.val .null, .val (.ref r1), .val (.int (6 : Int32)), .val (.int (1 : Int32)), .val (.ref e1)] [(.ref e1)])) (fun _ kk => XS.aload W4.here hx rfl (hb hby d5_19) rfl rfl kk) ?_
  have k7 := OF1.ext W4.old.2
  refine W4.getF hx (host := "") (Or.inl (hw _ (List.mem_of_getElem? (i := 51) rfl))) Via.refl k7 rfl rfl (hb hby d5_21) (fun T8 W8 => ?_)
  show Go p e below _ (T8.setTop (mkF m 24 #[.val .null, .val (.ref r1), .val (.int (6 : Int32)), .val (.int (1 : Int32)), .val (.ref e1)] [(.ref s1)]))
  refine Go.of (t' := T8.setTop (mkF m 25 #[.val .null, .val (.ref r1), .val (.int (6 : Int32)), .val (.int (1 : Int32)), .val (.ref e1)] [.null, (.ref s1)])) (fun _ kk => XS.aloadN W8.here hx rfl (hb hby d5_24) rfl rfl kk) ?_
  have k10 := OS1.ext W8.old.2
  have k11 := k10.exa
  refine W8.callV hx hEL (hw _ (List.mem_of_getElem? (i := 53) rfl)) (hw _ (List.mem_of_getElem? (i := 54) rfl)) (hw _ (List.mem_of_getElem? (i := 56) rfl)) (hw _ (List.mem_of_getElem? (i := 55) rfl)) (hw _ (List.mem_of_getElem? (i := 7) rfl)) (hw _ (List.mem_of_getElem? (i := 57) rfl)) (by decide +kernel) k11 (a := s1) (argsL := [.null]) (rest := []) (rm3 l Z a0 hw hEL zc SC hzc fm SF rfm s1 h1 W8.old ) all0 (by decide +kernel) (Wd := 0) (by decide +kernel) (by decide +kernel) (by decide +kernel) all0 rfl (by rw [hml]; rfl) (lenOf pd5 rfl) rfl (by show 2 * 0 + _ ≤ _; exact Nat.le_of_eq rfl) (hb hby d5_25) (fun T9 h9 v9 W9 K9 q9 => ?_)
  obtain ⟨rfl, rfl⟩ := q9
  show Go p e below _ (T9.setTop (mkF m 28 #[.val .null, .val (.ref r1), .val (.int (6 : Int32)), .val (.int (1 : Int32)), .val (.ref e1)] [(.int (0 : Int32))]))
  refine Go.of (t' := T9.setTop (mkF m 34 #[.val .null, .val (.ref r1), .val (.int (6 : Int32)), .val (.int (1 : Int32)), .val (.ref e1)] [])) (fun _ kk => XS.ifYes W9.here hx rfl (pc0 := 28) (pc' := 34) rfl (hb hby d5_28) rfl (XT.i0_eq_t (by decide +kernel)) (by decide +kernel) (by decide +kernel) kk) ?_
  refine Go.of (t' := T9.setTop (mkF m 37 #[.val .null, .val (.ref r1), .val (.int (6 : Int32)), .val (.int (2 : Int32)), .val (.ref e1)] [])) (fun _ kk => XS.iinc W9.here hx rfl (hb hby d5_34) rfl (l' := #[.val .null, .val (.ref r1), .val (.int (6 : Int32)), .val (.int (2 : Int32)), .val (.ref e1)]) rfl kk) ?_
  refine Go.of (t' := T9.setTop (mkF m 9 #[.val .null, .val (.ref r1), .val (.int (6 : Int32)), .val (.int (2 : Int32)), .val (.ref e1)] [])) (fun _ kk => XS.goto W9.here hx rfl (pc0 := 37) (pc' := 9) rfl (hb hby d5_37) (by decide +kernel) (by decide +kernel) kk) ?_
  refine Go.of (t' := T9.setTop (mkF m 10 #[.val .null, .val (.ref r1), .val (.int (6 : Int32)), .val (.int (2 : Int32)), .val (.ref e1)] [(.int (2 : Int32))])) (fun _ kk => XS.iloadN W9.here hx rfl (hb hby d5_9) rfl kk) ?_
  refine Go.of (t' := T9.setTop (mkF m 11 #[.val .null, .val (.ref r1), .val (.int (6 : Int32)), .val (.int (2 : Int32)), .val (.ref e1)] [(.int (6 : Int32)), (.int (2 : Int32))])) (fun _ kk => XS.iloadN W9.here hx rfl (hb hby d5_10) rfl kk) ?_
  refine Go.of (t' := T9.setTop (mkF m 14 #[.val .null, .val (.ref r1), .val (.int (6 : Int32)), .val (.int (2 : Int32)), .val (.ref e1)] [])) (fun _ kk => XS.icmpNo W9.here hx rfl (hb hby d5_11) rfl (XT.ii_ge_f (by decide +kernel)) kk) ?_
  refine Go.of (t' := T9.setTop (mkF m 15 #[.val .null, .val (.ref r1), .val (.int (6 : Int32)), .val (.int (2 : Int32)), .val (.ref e1)] [(.ref r1)])) (fun _ kk => XS.aloadN W9.here hx rfl (hb hby d5_14) rfl rfl kk) ?_
  refine Go.of (t' := T9.setTop (mkF m 16 #[.val .null, .val (.ref r1), .val (.int (6 : Int32)), .val (.int (2 : Int32)), .val (.ref e1)] [(.int (2 : Int32)), (.ref r1)])) (fun _ kk => XS.iloadN W9.here hx rfl (hb hby d5_15) rfl kk) ?_
  refine W9.aaload hx A1 rfl ⟨by decide, by decide⟩ (v := (.ref e2)) rfl rfl rfl (hb hby d5_16) ?_
  show Go p e below _ (T9.setTop (mkF m 17 #[.val .null, .val (.ref r1), .val (.int (6 : Int32)), .val (.int (2 : Int32)), .val (.ref e1)] [(.ref e2)]))
  refine Go.of (t' := T9.setTop (mkF m 19 #[.val .null, .val (.ref r1), .val (.int (6 : Int32)), .val (.int (2 : Int32)), .val (.ref e2)] [])) (fun _ kk => XS.astore W9.here hx rfl (hb hby d5_17) rfl rfl (l' := #[.val .null, .val (.ref r1), .val (.int (6 : Int32)), .val (.int (2 : Int32)), .val (.ref e2)]) rfl kk) ?_
  refine Go.of (t' := T9.setTop (mkF m 21 #[.val .null, .val (.ref r1), .val (.int (6 : Int32)), .val (.int (2 : Int32)), .val (.ref e2)] [(.ref e2)])) (fun _ kk => XS.aload W9.here hx rfl (hb hby d5_19) rfl rfl kk) ?_
  have k12 := OF2.ext W9.old.2
  refine W9.getF hx (host := "") (Or.inl (hw _ (List.mem_of_getElem? (i := 51) rfl))) Via.refl k12 rfl rfl (hb hby d5_21) (fun T13 W13 => ?_)
  show Go p e below _ (T13.setTop (mkF m 24 #[.val .null, .val (.ref r1), .val (.int (6 : Int32)), .val (.int (2 : Int32)), .val (.ref e2)] [(.ref s2)]))
  refine Go.of (t' := T13.setTop (mkF m 25 #[.val .null, .val (.ref r1), .val (.int (6 : Int32)), .val (.int (2 : Int32)), .val (.ref e2)] [.null, (.ref s2)])) (fun _ kk => XS.aloadN W13.here hx rfl (hb hby d5_24) rfl rfl kk) ?_
  have k15 := OS2.ext W13.old.2
  have k16 := k15.exa
  refine W13.callV hx hEL (hw _ (List.mem_of_getElem? (i := 53) rfl)) (hw _ (List.mem_of_getElem? (i := 54) rfl)) (hw _ (List.mem_of_getElem? (i := 56) rfl)) (hw _ (List.mem_of_getElem? (i := 55) rfl)) (hw _ (List.mem_of_getElem? (i := 7) rfl)) (hw _ (List.mem_of_getElem? (i := 57) rfl)) (by decide +kernel) k16 (a := s2) (argsL := [.null]) (rest := []) (rm3 l Z a0 hw hEL zc SC hzc fm SF rfm s2 h1 W13.old ) all0 (by decide +kernel) (Wd := 0) (by decide +kernel) (by decide +kernel) (by decide +kernel) all0 rfl (by rw [hml]; rfl) (lenOf pd5 rfl) rfl (by show 2 * 0 + _ ≤ _; exact Nat.le_of_eq rfl) (hb hby d5_25) (fun T14 h14 v14 W14 K14 q14 => ?_)
  obtain ⟨rfl, rfl⟩ := q14
  show Go p e below _ (T14.setTop (mkF m 28 #[.val .null, .val (.ref r1), .val (.int (6 : Int32)), .val (.int (2 : Int32)), .val (.ref e2)] [(.int (0 : Int32))]))
  refine Go.of (t' := T14.setTop (mkF m 34 #[.val .null, .val (.ref r1), .val (.int (6 : Int32)), .val (.int (2 : Int32)), .val (.ref e2)] [])) (fun _ kk => XS.ifYes W14.here hx rfl (pc0 := 28) (pc' := 34) rfl (hb hby d5_28) rfl (XT.i0_eq_t (by decide +kernel)) (by decide +kernel) (by decide +kernel) kk) ?_
  refine Go.of (t' := T14.setTop (mkF m 37 #[.val .null, .val (.ref r1), .val (.int (6 : Int32)), .val (.int (3 : Int32)), .val (.ref e2)] [])) (fun _ kk => XS.iinc W14.here hx rfl (hb hby d5_34) rfl (l' := #[.val .null, .val (.ref r1), .val (.int (6 : Int32)), .val (.int (3 : Int32)), .val (.ref e2)]) rfl kk) ?_
  refine Go.of (t' := T14.setTop (mkF m 9 #[.val .null, .val (.ref r1), .val (.int (6 : Int32)), .val (.int (3 : Int32)), .val (.ref e2)] [])) (fun _ kk => XS.goto W14.here hx rfl (pc0 := 37) (pc' := 9) rfl (hb hby d5_37) (by decide +kernel) (by decide +kernel) kk) ?_
  refine Go.of (t' := T14.setTop (mkF m 10 #[.val .null, .val (.ref r1), .val (.int (6 : Int32)), .val (.int (3 : Int32)), .val (.ref e2)] [(.int (3 : Int32))])) (fun _ kk => XS.iloadN W14.here hx rfl (hb hby d5_9) rfl kk) ?_
  refine Go.of (t' := T14.setTop (mkF m 11 #[.val .null, .val (.ref r1), .val (.int (6 : Int32)), .val (.int (3 : Int32)), .val (.ref e2)] [(.int (6 : Int32)), (.int (3 : Int32))])) (fun _ kk => XS.iloadN W14.here hx rfl (hb hby d5_10) rfl kk) ?_
  refine Go.of (t' := T14.setTop (mkF m 14 #[.val .null, .val (.ref r1), .val (.int (6 : Int32)), .val (.int (3 : Int32)), .val (.ref e2)] [])) (fun _ kk => XS.icmpNo W14.here hx rfl (hb hby d5_11) rfl (XT.ii_ge_f (by decide +kernel)) kk) ?_
  refine Go.of (t' := T14.setTop (mkF m 15 #[.val .null, .val (.ref r1), .val (.int (6 : Int32)), .val (.int (3 : Int32)), .val (.ref e2)] [(.ref r1)])) (fun _ kk => XS.aloadN W14.here hx rfl (hb hby d5_14) rfl rfl kk) ?_
  refine Go.of (t' := T14.setTop (mkF m 16 #[.val .null, .val (.ref r1), .val (.int (6 : Int32)), .val (.int (3 : Int32)), .val (.ref e2)] [(.int (3 : Int32)), (.ref r1)])) (fun _ kk => XS.iloadN W14.here hx rfl (hb hby d5_15) rfl kk) ?_
  refine W14.aaload hx A1 rfl ⟨by decide, by decide⟩ (v := (.ref e3)) rfl rfl rfl (hb hby d5_16) ?_
  show Go p e below _ (T14.setTop (mkF m 17 #[.val .null, .val (.ref r1), .val (.int (6 : Int32)), .val (.int (3 : Int32)), .val (.ref e2)] [(.ref e3)]))
  refine Go.of (t' := T14.setTop (mkF m 19 #[.val .null, .val (.ref r1), .val (.int (6 : Int32)), .val (.int (3 : Int32)), .val (.ref e3)] [])) (fun _ kk => XS.astore W14.here hx rfl (hb hby d5_17) rfl rfl (l' := #[.val .null, .val (.ref r1), .val (.int (6 : Int32)), .val (.int (3 : Int32)), .val (.ref e3)]) rfl kk) ?_
  refine Go.of (t' := T14.setTop (mkF m 21 #[.val .null, .val (.ref r1), .val (.int (6 : Int32)), .val (.int (3 : Int32)), .val (.ref e3)] [(.ref e3)])) (fun _ kk => XS.aload W14.here hx rfl (hb hby d5_19) rfl rfl kk) ?_
  have k17 := OF3.ext W14.old.2
  refine W14.getF hx (host := "") (Or.inl (hw _ (List.mem_of_getElem? (i := 51) rfl))) Via.refl k17 rfl rfl (hb hby d5_21) (fun T18 W18 => ?_)
  show Go p e below _ (T18.setTop (mkF m 24 #[.val .null, .val (.ref r1), .val (.int (6 : Int32)), .val (.int (3 : Int32)), .val (.ref e3)] [(.ref s3)]))
  refine Go.of (t' := T18.setTop (mkF m 25 #[.val .null, .val (.ref r1), .val (.int (6 : Int32)), .val (.int (3 : Int32)), .val (.ref e3)] [.null, (.ref s3)])) (fun _ kk => XS.aloadN W18.here hx rfl (hb hby d5_24) rfl rfl kk) ?_
  have k20 := OS3.ext W18.old.2
  have k21 := k20.exa
  refine W18.callV hx hEL (hw _ (List.mem_of_getElem? (i := 53) rfl)) (hw _ (List.mem_of_getElem? (i := 54) rfl)) (hw _ (List.mem_of_getElem? (i := 56) rfl)) (hw _ (List.mem_of_getElem? (i := 55) rfl)) (hw _ (List.mem_of_getElem? (i := 7) rfl)) (hw _ (List.mem_of_getElem? (i := 57) rfl)) (by decide +kernel) k21 (a := s3) (argsL := [.null]) (rest := []) (rm3 l Z a0 hw hEL zc SC hzc fm SF rfm s3 h1 W18.old ) all0 (by decide +kernel) (Wd := 0) (by decide +kernel) (by decide +kernel) (by decide +kernel) all0 rfl (by rw [hml]; rfl) (lenOf pd5 rfl) rfl (by show 2 * 0 + _ ≤ _; exact Nat.le_of_eq rfl) (hb hby d5_25) (fun T19 h19 v19 W19 K19 q19 => ?_)
  obtain ⟨rfl, rfl⟩ := q19
  show Go p e below _ (T19.setTop (mkF m 28 #[.val .null, .val (.ref r1), .val (.int (6 : Int32)), .val (.int (3 : Int32)), .val (.ref e3)] [(.int (0 : Int32))]))
  refine Go.of (t' := T19.setTop (mkF m 34 #[.val .null, .val (.ref r1), .val (.int (6 : Int32)), .val (.int (3 : Int32)), .val (.ref e3)] [])) (fun _ kk => XS.ifYes W19.here hx rfl (pc0 := 28) (pc' := 34) rfl (hb hby d5_28) rfl (XT.i0_eq_t (by decide +kernel)) (by decide +kernel) (by decide +kernel) kk) ?_
  refine Go.of (t' := T19.setTop (mkF m 37 #[.val .null, .val (.ref r1), .val (.int (6 : Int32)), .val (.int (4 : Int32)), .val (.ref e3)] [])) (fun _ kk => XS.iinc W19.here hx rfl (hb hby d5_34) rfl (l' := #[.val .null, .val (.ref r1), .val (.int (6 : Int32)), .val (.int (4 : Int32)), .val (.ref e3)]) rfl kk) ?_
  refine Go.of (t' := T19.setTop (mkF m 9 #[.val .null, .val (.ref r1), .val (.int (6 : Int32)), .val (.int (4 : Int32)), .val (.ref e3)] [])) (fun _ kk => XS.goto W19.here hx rfl (pc0 := 37) (pc' := 9) rfl (hb hby d5_37) (by decide +kernel) (by decide +kernel) kk) ?_
  refine Go.of (t' := T19.setTop (mkF m 10 #[.val .null, .val (.ref r1), .val (.int (6 : Int32)), .val (.int (4 : Int32)), .val (.ref e3)] [(.int (4 : Int32))])) (fun _ kk => XS.iloadN W19.here hx rfl (hb hby d5_9) rfl kk) ?_
  refine Go.of (t' := T19.setTop (mkF m 11 #[.val .null, .val (.ref r1), .val (.int (6 : Int32)), .val (.int (4 : Int32)), .val (.ref e3)] [(.int (6 : Int32)), (.int (4 : Int32))])) (fun _ kk => XS.iloadN W19.here hx rfl (hb hby d5_10) rfl kk) ?_
  refine Go.of (t' := T19.setTop (mkF m 14 #[.val .null, .val (.ref r1), .val (.int (6 : Int32)), .val (.int (4 : Int32)), .val (.ref e3)] [])) (fun _ kk => XS.icmpNo W19.here hx rfl (hb hby d5_11) rfl (XT.ii_ge_f (by decide +kernel)) kk) ?_
  refine Go.of (t' := T19.setTop (mkF m 15 #[.val .null, .val (.ref r1), .val (.int (6 : Int32)), .val (.int (4 : Int32)), .val (.ref e3)] [(.ref r1)])) (fun _ kk => XS.aloadN W19.here hx rfl (hb hby d5_14) rfl rfl kk) ?_
  refine Go.of (t' := T19.setTop (mkF m 16 #[.val .null, .val (.ref r1), .val (.int (6 : Int32)), .val (.int (4 : Int32)), .val (.ref e3)] [(.int (4 : Int32)), (.ref r1)])) (fun _ kk => XS.iloadN W19.here hx rfl (hb hby d5_15) rfl kk) ?_
  refine W19.aaload hx A1 rfl ⟨by decide, by decide⟩ (v := (.ref e4)) rfl rfl rfl (hb hby d5_16) ?_
  show Go p e below _ (T19.setTop (mkF m 17 #[.val .null, .val (.ref r1), .val (.int (6 : Int32)), .val (.int (4 : Int32)), .val (.ref e3)] [(.ref e4)]))
  refine Go.of (t' := T19.setTop (mkF m 19 #[.val .null, .val (.ref r1), .val (.int (6 : Int32)), .val (.int (4 : Int32)), .val (.ref e4)] [])) (fun _ kk => XS.astore W19.here hx rfl (hb hby d5_17) rfl rfl (l' := #[.val .null, .val (.ref r1), .val (.int (6 : Int32)), .val (.int (4 : Int32)), .val (.ref e4)]) rfl kk) ?_
  refine Go.of (t' := T19.setTop (mkF m 21 #[.val .null, .val (.ref r1), .val (.int (6 : Int32)), .val (.int (4 : Int32)), .val (.ref e4)] [(.ref e4)])) (fun _ kk => XS.aload W19.here hx rfl (hb hby d5_19) rfl rfl kk) ?_
  have k22 := OF4.ext W19.old.2
  refine W19.getF hx (host := "") (Or.inl (hw _ (List.mem_of_getElem? (i := 51) rfl))) Via.refl k22 rfl rfl (hb hby d5_21) (fun T23 W23 => ?_)
  show Go p e below _ (T23.setTop (mkF m 24 #[.val .null, .val (.ref r1), .val (.int (6 : Int32)), .val (.int (4 : Int32)), .val (.ref e4)] [(.ref s4)]))
  refine Go.of (t' := T23.setTop (mkF m 25 #[.val .null, .val (.ref r1), .val (.int (6 : Int32)), .val (.int (4 : Int32)), .val (.ref e4)] [.null, (.ref s4)])) (fun _ kk => XS.aloadN W23.here hx rfl (hb hby d5_24) rfl rfl kk) ?_
  have k25 := OS4.ext W23.old.2
  have k26 := k25.exa
  refine W23.callV hx hEL (hw _ (List.mem_of_getElem? (i := 53) rfl)) (hw _ (List.mem_of_getElem? (i := 54) rfl)) (hw _ (List.mem_of_getElem? (i := 56) rfl)) (hw _ (List.mem_of_getElem? (i := 55) rfl)) (hw _ (List.mem_of_getElem? (i := 7) rfl)) (hw _ (List.mem_of_getElem? (i := 57) rfl)) (by decide +kernel) k26 (a := s4) (argsL := [.null]) (rest := []) (rm3 l Z a0 hw hEL zc SC hzc fm SF rfm s4 h1 W23.old ) all0 (by decide +kernel) (Wd := 0) (by decide +kernel) (by decide +kernel) (by decide +kernel) all0 rfl (by rw [hml]; rfl) (lenOf pd5 rfl) rfl (by show 2 * 0 + _ ≤ _; exact Nat.le_of_eq rfl) (hb hby d5_25) (fun T24 h24 v24 W24 K24 q24 => ?_)
  obtain ⟨rfl, rfl⟩ := q24
  show Go p e below _ (T24.setTop (mkF m 28 #[.val .null, .val (.ref r1), .val (.int (6 : Int32)), .val (.int (4 : Int32)), .val (.ref e4)] [(.int (0 : Int32))]))
  refine Go.of (t' := T24.setTop (mkF m 34 #[.val .null, .val (.ref r1), .val (.int (6 : Int32)), .val (.int (4 : Int32)), .val (.ref e4)] [])) (fun _ kk => XS.ifYes W24.here hx rfl (pc0 := 28) (pc' := 34) rfl (hb hby d5_28) rfl (XT.i0_eq_t (by decide +kernel)) (by decide +kernel) (by decide +kernel) kk) ?_
  refine Go.of (t' := T24.setTop (mkF m 37 #[.val .null, .val (.ref r1), .val (.int (6 : Int32)), .val (.int (5 : Int32)), .val (.ref e4)] [])) (fun _ kk => XS.iinc W24.here hx rfl (hb hby d5_34) rfl (l' := #[.val .null, .val (.ref r1), .val (.int (6 : Int32)), .val (.int (5 : Int32)), .val (.ref e4)]) rfl kk) ?_
  refine Go.of (t' := T24.setTop (mkF m 9 #[.val .null, .val (.ref r1), .val (.int (6 : Int32)), .val (.int (5 : Int32)), .val (.ref e4)] [])) (fun _ kk => XS.goto W24.here hx rfl (pc0 := 37) (pc' := 9) rfl (hb hby d5_37) (by decide +kernel) (by decide +kernel) kk) ?_
  refine Go.of (t' := T24.setTop (mkF m 10 #[.val .null, .val (.ref r1), .val (.int (6 : Int32)), .val (.int (5 : Int32)), .val (.ref e4)] [(.int (5 : Int32))])) (fun _ kk => XS.iloadN W24.here hx rfl (hb hby d5_9) rfl kk) ?_
  refine Go.of (t' := T24.setTop (mkF m 11 #[.val .null, .val (.ref r1), .val (.int (6 : Int32)), .val (.int (5 : Int32)), .val (.ref e4)] [(.int (6 : Int32)), (.int (5 : Int32))])) (fun _ kk => XS.iloadN W24.here hx rfl (hb hby d5_10) rfl kk) ?_
  refine Go.of (t' := T24.setTop (mkF m 14 #[.val .null, .val (.ref r1), .val (.int (6 : Int32)), .val (.int (5 : Int32)), .val (.ref e4)] [])) (fun _ kk => XS.icmpNo W24.here hx rfl (hb hby d5_11) rfl (XT.ii_ge_f (by decide +kernel)) kk) ?_
  refine Go.of (t' := T24.setTop (mkF m 15 #[.val .null, .val (.ref r1), .val (.int (6 : Int32)), .val (.int (5 : Int32)), .val (.ref e4)] [(.ref r1)])) (fun _ kk => XS.aloadN W24.here hx rfl (hb hby d5_14) rfl rfl kk) ?_
  refine Go.of (t' := T24.setTop (mkF m 16 #[.val .null, .val (.ref r1), .val (.int (6 : Int32)), .val (.int (5 : Int32)), .val (.ref e4)] [(.int (5 : Int32)), (.ref r1)])) (fun _ kk => XS.iloadN W24.here hx rfl (hb hby d5_15) rfl kk) ?_
  refine W24.aaload hx A1 rfl ⟨by decide, by decide⟩ (v := (.ref e5)) rfl rfl rfl (hb hby d5_16) ?_
  show Go p e below _ (T24.setTop (mkF m 17 #[.val .null, .val (.ref r1), .val (.int (6 : Int32)), .val (.int (5 : Int32)), .val (.ref e4)] [(.ref e5)]))
  refine Go.of (t' := T24.setTop (mkF m 19 #[.val .null, .val (.ref r1), .val (.int (6 : Int32)), .val (.int (5 : Int32)), .val (.ref e5)] [])) (fun _ kk => XS.astore W24.here hx rfl (hb hby d5_17) rfl rfl (l' := #[.val .null, .val (.ref r1), .val (.int (6 : Int32)), .val (.int (5 : Int32)), .val (.ref e5)]) rfl kk) ?_
  refine Go.of (t' := T24.setTop (mkF m 21 #[.val .null, .val (.ref r1), .val (.int (6 : Int32)), .val (.int (5 : Int32)), .val (.ref e5)] [(.ref e5)])) (fun _ kk => XS.aload W24.here hx rfl (hb hby d5_19) rfl rfl kk) ?_
  have k27 := OF5.ext W24.old.2
  refine W24.getF hx (host := "") (Or.inl (hw _ (List.mem_of_getElem? (i := 51) rfl))) Via.refl k27 rfl rfl (hb hby d5_21) (fun T28 W28 => ?_)
  show Go p e below _ (T28.setTop (mkF m 24 #[.val .null, .val (.ref r1), .val (.int (6 : Int32)), .val (.int (5 : Int32)), .val (.ref e5)] [(.ref s5)]))
  refine Go.of (t' := T28.setTop (mkF m 25 #[.val .null, .val (.ref r1), .val (.int (6 : Int32)), .val (.int (5 : Int32)), .val (.ref e5)] [.null, (.ref s5)])) (fun _ kk => XS.aloadN W28.here hx rfl (hb hby d5_24) rfl rfl kk) ?_
  have k30 := OS5.ext W28.old.2
  have k31 := k30.exa
  refine W28.callV hx hEL (hw _ (List.mem_of_getElem? (i := 53) rfl)) (hw _ (List.mem_of_getElem? (i := 54) rfl)) (hw _ (List.mem_of_getElem? (i := 56) rfl)) (hw _ (List.mem_of_getElem? (i := 55) rfl)) (hw _ (List.mem_of_getElem? (i := 7) rfl)) (hw _ (List.mem_of_getElem? (i := 57) rfl)) (by decide +kernel) k31 (a := s5) (argsL := [.null]) (rest := []) (rm3 l Z a0 hw hEL zc SC hzc fm SF rfm s5 h1 W28.old ) all0 (by decide +kernel) (Wd := 0) (by decide +kernel) (by decide +kernel) (by decide +kernel) all0 rfl (by rw [hml]; rfl) (lenOf pd5 rfl) rfl (by show 2 * 0 + _ ≤ _; exact Nat.le_of_eq rfl) (hb hby d5_25) (fun T29 h29 v29 W29 K29 q29 => ?_)
  obtain ⟨rfl, rfl⟩ := q29
  show Go p e below _ (T29.setTop (mkF m 28 #[.val .null, .val (.ref r1), .val (.int (6 : Int32)), .val (.int (5 : Int32)), .val (.ref e5)] [(.int (0 : Int32))]))
  refine Go.of (t' := T29.setTop (mkF m 34 #[.val .null, .val (.ref r1), .val (.int (6 : Int32)), .val (.int (5 : Int32)), .val (.ref e5)] [])) (fun _ kk => XS.ifYes W29.here hx rfl (pc0 := 28) (pc' := 34) rfl (hb hby d5_28) rfl (XT.i0_eq_t (by decide +kernel)) (by decide +kernel) (by decide +kernel) kk) ?_
  refine Go.of (t' := T29.setTop (mkF m 37 #[.val .null, .val (.ref r1), .val (.int (6 : Int32)), .val (.int (6 : Int32)), .val (.ref e5)] [])) (fun _ kk => XS.iinc W29.here hx rfl (hb hby d5_34) rfl (l' := #[.val .null, .val (.ref r1), .val (.int (6 : Int32)), .val (.int (6 : Int32)), .val (.ref e5)]) rfl kk) ?_
  refine Go.of (t' := T29.setTop (mkF m 9 #[.val .null, .val (.ref r1), .val (.int (6 : Int32)), .val (.int (6 : Int32)), .val (.ref e5)] [])) (fun _ kk => XS.goto W29.here hx rfl (pc0 := 37) (pc' := 9) rfl (hb hby d5_37) (by decide +kernel) (by decide +kernel) kk) ?_
  refine Go.of (t' := T29.setTop (mkF m 10 #[.val .null, .val (.ref r1), .val (.int (6 : Int32)), .val (.int (6 : Int32)), .val (.ref e5)] [(.int (6 : Int32))])) (fun _ kk => XS.iloadN W29.here hx rfl (hb hby d5_9) rfl kk) ?_
  refine Go.of (t' := T29.setTop (mkF m 11 #[.val .null, .val (.ref r1), .val (.int (6 : Int32)), .val (.int (6 : Int32)), .val (.ref e5)] [(.int (6 : Int32)), (.int (6 : Int32))])) (fun _ kk => XS.iloadN W29.here hx rfl (hb hby d5_10) rfl kk) ?_
  refine Go.of (t' := T29.setTop (mkF m 40 #[.val .null, .val (.ref r1), .val (.int (6 : Int32)), .val (.int (6 : Int32)), .val (.ref e5)] [])) (fun _ kk => XS.icmpYes W29.here hx rfl (pc0 := 11) (pc' := 40) rfl (hb hby d5_11) rfl (XT.ii_ge_t (by decide +kernel)) (by decide +kernel) (by decide +kernel) kk) ?_
  refine Go.of (t' := T29.setTop (mkF m 41 #[.val .null, .val (.ref r1), .val (.int (6 : Int32)), .val (.int (6 : Int32)), .val (.ref e5)] [.null])) (fun _ kk => XS.aconstNull W29.here hx rfl (hb hby d5_40) kk) ?_
  exact W29.retA hx hEL hs hlk (by decide +kernel) (by decide +kernel) hret rfl rfl (hb hby d5_41) rfl
theorem ef0 (m : MethodId) (x0 : Int32) (x1 : Int32) (x2 : Int32) (x3 : Int32)  : entryFrame m #[(.int x0), (.int x1), (.int x2), (.int x3)] maxLocals = mkF m 0 #[.val (.int x0), .val (.int x1), .val (.int x2), .val (.int x3), .unset, .unset, .unset, .unset, .unset, .unset, .unset, .unset, .unset] [] := by first | (simp [entryFrame, mkF, argsToLocals, Value.category, maxLocals]; done) | rfl | rfl
set_option maxRecDepth 65536 in
set_option maxHeartbeats 40000000 in
theorem rm0 (l : Launch) (Z : State) (a0 : Array Value) (hw : ∀ d ∈ tables_1, d.before a0 Z = true) (hEL : EW Z a0 EL0) (zc : Int32) (SC : Sta Z Z.heap "java/lang/String" "COMPACT_STRINGS" "Z" (.int zc)) (hzc : ¬ zc = 0) (fm : Value) (SF : Sta Z Z.heap "jdk/internal/util/Preconditions" "SIOOBE_FORMATTER" "Ljava/util/function/BiFunction;" fm) (rfm : fm.isRef = true) (i0 : Int32) (i1 : Int32) (i2 : Int32) (i3 : Int32) (e0 : Addr) (e1 : Addr) (e2 : Addr) (e3 : Addr) (e4 : Addr) (e5 : Addr) (s0 : Addr) (s1 : Addr) (s2 : Addr) (s3 : Addr) (s4 : Addr) (s5 : Addr) (av : Addr) (kv : ClassId) (h0 : Heap) {n0 : Nat} (O0 : Old Z n0 h0) (OE0 : Exa Z Z.heap e0 "org/portcullis/expression/Node$Comparison$Operator") (OE1 : Exa Z Z.heap e1 "org/portcullis/expression/Node$Comparison$Operator") (OE2 : Exa Z Z.heap e2 "org/portcullis/expression/Node$Comparison$Operator") (OE3 : Exa Z Z.heap e3 "org/portcullis/expression/Node$Comparison$Operator") (OE4 : Exa Z Z.heap e4 "org/portcullis/expression/Node$Comparison$Operator") (OE5 : Exa Z Z.heap e5 "org/portcullis/expression/Node$Comparison$Operator") (OF0 : Fld Z Z.heap e0 "org/portcullis/expression/Node$Comparison$Operator" "iSymbol" "Ljava/lang/String;" (.ref s0)) (OF1 : Fld Z Z.heap e1 "org/portcullis/expression/Node$Comparison$Operator" "iSymbol" "Ljava/lang/String;" (.ref s1)) (OF2 : Fld Z Z.heap e2 "org/portcullis/expression/Node$Comparison$Operator" "iSymbol" "Ljava/lang/String;" (.ref s2)) (OF3 : Fld Z Z.heap e3 "org/portcullis/expression/Node$Comparison$Operator" "iSymbol" "Ljava/lang/String;" (.ref s3)) (OF4 : Fld Z Z.heap e4 "org/portcullis/expression/Node$Comparison$Operator" "iSymbol" "Ljava/lang/String;" (.ref s4)) (OF5 : Fld Z Z.heap e5 "org/portcullis/expression/Node$Comparison$Operator" "iSymbol" "Ljava/lang/String;" (.ref s5)) (OS0 : Str Z Z.heap s0 [(61 : Int32), (61 : Int32)]) (OS1 : Str Z Z.heap s1 [(33 : Int32), (61 : Int32)]) (OS2 : Str Z Z.heap s2 [(60 : Int32)]) (OS3 : Str Z Z.heap s3 [(60 : Int32), (61 : Int32)]) (OS4 : Str Z Z.heap s4 [(62 : Int32)]) (OS5 : Str Z Z.heap s5 [(62 : Int32), (61 : Int32)]) (OA : Arv Z Z.heap av kv (.object "org/portcullis/expression/Node$Comparison$Operator") (6 : Int32) [(.ref e0), (.ref e1), (.ref e2), (.ref e3), (.ref e4), (.ref e5)] .null) (OV : Exa Z Z.heap av "[Lorg/portcullis/expression/Node$Comparison$Operator;") (OT : Sta Z Z.heap "org/portcullis/expression/Node$Comparison$Operator" "$VALUES" "[Lorg/portcullis/expression/Node$Comparison$Operator;" (.ref av)) (OX : ∀ cl, Arr Z Z.heap av cl (.object "org/portcullis/expression/Node$Comparison$Operator") → FitC Z cl) (OC0 : Sta Z Z.heap "org/portcullis/expression/Node$Comparison$Operator" "EQUAL" "Lorg/portcullis/expression/Node$Comparison$Operator;" (.ref e0)) (OC1 : Sta Z Z.heap "org/portcullis/expression/Node$Comparison$Operator" "NOT_EQUAL" "Lorg/portcullis/expression/Node$Comparison$Operator;" (.ref e1)) (OC2 : Sta Z Z.heap "org/portcullis/expression/Node$Comparison$Operator" "LESS" "Lorg/portcullis/expression/Node$Comparison$Operator;" (.ref e2)) (OC3 : Sta Z Z.heap "org/portcullis/expression/Node$Comparison$Operator" "LESS_OR_EQUAL" "Lorg/portcullis/expression/Node$Comparison$Operator;" (.ref e3)) (OC4 : Sta Z Z.heap "org/portcullis/expression/Node$Comparison$Operator" "GREATER" "Lorg/portcullis/expression/Node$Comparison$Operator;" (.ref e4)) (OC5 : Sta Z Z.heap "org/portcullis/expression/Node$Comparison$Operator" "GREATER_OR_EQUAL" "Lorg/portcullis/expression/Node$Comparison$Operator;" (.ref e5)) :
    Met l Z EL0 n0 x code maxLocals ret tables_1 room_1 #[(.int i0), (.int i1), (.int i2), (.int i3)] h0 [] [] (fun v h' => v = some (.int 1)) := by
  refine Met.of (plainFor_of_name pn2) O0 ?_
  intro p e s m below meth c T0 hx hby hml hret hlk hnm hs W0
  have W0 : Wk p l e _ s m _ below meth c Z EL0 n0 [] "org/portcullis/expression/OperatorWrittenPinLaw" [] T0 0 0 h0 := W0
  have hSA := fun d hd => hw d (sa_in d hd)
  have hws := fun d hd => hw d (ws_in d hd)
  have heq := fun d hd => hw d (eq_in d hd)
  refine Go.of (fun _ kk => castTop (ef0 m i0 i1 i2 i3) kk) ?_
  show Go p e below _ (T0.setTop (mkF m 0 #[.val (.int i0), .val (.int i1), .val (.int i2), .val (.int i3), .unset, .unset, .unset, .unset, .unset, .unset, .unset, .unset, .unset] []))
  refine Go.of (t' := T0.setTop (mkF m 1 #[.val (.int i0), .val (.int i1), .val (.int i2), .val (.int i3), .unset, .unset, .unset, .unset, .unset, .unset, .unset, .unset, .unset] [(.int i0)])) (fun _ kk => XS.iloadN W0.here hx rfl (hb hby at_0) rfl kk) ?_
  refine Go.of (t' := T0.setTop (mkF m 3 #[.val (.int i0), .val (.int i1), .val (.int i2), .val (.int i3), .unset, .unset, .unset, .unset, .unset, .unset, .unset, .unset, .unset] [(.int (7 : Int32)), (.int i0)])) (fun _ kk => XS.bipush W0.here hx rfl (hb hby at_1) kk) ?_
  refine Go.of (t' := T0.setTop (mkF m 4 #[.val (.int i0), .val (.int i1), .val (.int i2), .val (.int i3), .unset, .unset, .unset, .unset, .unset, .unset, .unset, .unset, .unset] [(.int (i0 &&& (7 : Int32)))])) (fun _ kk => XS.iand W0.here hx rfl (hb hby at_3) rfl kk) ?_
  refine Go.of (t' := T0.setTop (mkF m 5 #[.val (.int i0), .val (.int i1), .val (.int i2), .val (.int i3), .unset, .unset, .unset, .unset, .unset, .unset, .unset, .unset, .unset] [(.int (5 : Int32)), (.int (i0 &&& (7 : Int32)))])) (fun _ kk => XS.iconst W0.here hx rfl (hb hby at_4) kk) ?_
  refine Go.of (t' := T0.setTop (mkF m 6 #[.val (.int i0), .val (.int i1), .val (.int i2), .val (.int i3), .unset, .unset, .unset, .unset, .unset, .unset, .unset, .unset, .unset] [(.int ((i0 &&& (7 : Int32)) % (5 : Int32)))])) (fun _ kk => XS.irem W0.here hx rfl (hb hby at_5) rfl (by decide +kernel) (by rw [irem_eq_mod]; exact kk)) ?_
  rcases mod5 i0 with z1 | z1 | z1 | z1 | z1
  · rw [z1]
    show Go p e below _ (T0.setTop (mkF m 6 #[.val (.int i0), .val (.int i1), .val (.int i2), .val (.int i3), .unset, .unset, .unset, .unset, .unset, .unset, .unset, .unset, .unset] [(.int (0 : Int32))]))
    refine Go.of (t' := T0.setTop (mkF m 8 #[.val (.int i0), .val (.int i1), .val (.int i2), .val (.int i3), .val (.int (0 : Int32)), .unset, .unset, .unset, .unset, .unset, .unset, .unset, .unset] [])) (fun _ kk => XS.istore W0.here hx rfl (hb hby at_6) rfl (l' := #[.val (.int i0), .val (.int i1), .val (.int i2), .val (.int i3), .val (.int (0 : Int32)), .unset, .unset, .unset, .unset, .unset, .unset, .unset, .unset]) rfl kk) ?_
    refine Go.of (t' := T0.setTop (mkF m 9 #[.val (.int i0), .val (.int i1), .val (.int i2), .val (.int i3), .val (.int (0 : Int32)), .unset, .unset, .unset, .unset, .unset, .unset, .unset, .unset] [(.int i1)])) (fun _ kk => XS.iloadN W0.here hx rfl (hb hby at_8) rfl kk) ?_
    refine W0.callS hx hEL (hw _ (List.mem_of_getElem? (i := 0) rfl)) (hw _ (List.mem_of_getElem? (i := 1) rfl)) (hw _ (List.mem_of_getElem? (i := 2) rfl)) (hw _ (List.mem_of_getElem? (i := 3) rfl)) (by decide +kernel) (argsL := [(.int i1)]) (rest := []) (rm1 l Z a0 hw hEL zc SC hzc fm SF rfm i1 h0 W0.old ) all0 (by decide +kernel) (Wd := 0) (by decide +kernel) (by decide +kernel) (by decide +kernel) all0 rfl (by rw [hml]; rfl) (lenOf pd6 rfl) rfl (by show 2 * 0 + _ ≤ _; exact Nat.le_of_eq rfl) (hb hby at_9) (fun T2 h2 v2 W2 K2 q2 => ?_)
    obtain ⟨q2, rfl, cq2, rfl⟩ := q2
    show Go p e below _ (T2.setTop (mkF m 12 #[.val (.int i0), .val (.int i1), .val (.int i2), .val (.int i3), .val (.int (0 : Int32)), .unset, .unset, .unset, .unset, .unset, .unset, .unset, .unset] [(.int q2)]))
    refine Go.of (t' := T2.setTop (mkF m 14 #[.val (.int i0), .val (.int i1), .val (.int i2), .val (.int i3), .val (.int (0 : Int32)), .val (.int q2), .unset, .unset, .unset, .unset, .unset, .unset, .unset] [])) (fun _ kk => XS.istore W2.here hx rfl (hb hby at_12) rfl (l' := #[.val (.int i0), .val (.int i1), .val (.int i2), .val (.int i3), .val (.int (0 : Int32)), .val (.int q2), .unset, .unset, .unset, .unset, .unset, .unset, .unset]) rfl kk) ?_
    refine Go.of (t' := T2.setTop (mkF m 15 #[.val (.int i0), .val (.int i1), .val (.int i2), .val (.int i3), .val (.int (0 : Int32)), .val (.int q2), .unset, .unset, .unset, .unset, .unset, .unset, .unset] [(.int i2)])) (fun _ kk => XS.iloadN W2.here hx rfl (hb hby at_14) rfl kk) ?_
    refine W2.callS hx hEL (hw _ (List.mem_of_getElem? (i := 0) rfl)) (hw _ (List.mem_of_getElem? (i := 1) rfl)) (hw _ (List.mem_of_getElem? (i := 2) rfl)) (hw _ (List.mem_of_getElem? (i := 3) rfl)) (by decide +kernel) (argsL := [(.int i2)]) (rest := []) (rm1 l Z a0 hw hEL zc SC hzc fm SF rfm i2 h0 W2.old ) all0 (by decide +kernel) (Wd := 0) (by decide +kernel) (by decide +kernel) (by decide +kernel) all0 rfl (by rw [hml]; rfl) (lenOf pd6 rfl) rfl (by show 2 * 0 + _ ≤ _; exact Nat.le_of_eq rfl) (hb hby at_15) (fun T3 h3 v3 W3 K3 q3 => ?_)
    obtain ⟨q3, rfl, cq3, rfl⟩ := q3
    show Go p e below _ (T3.setTop (mkF m 18 #[.val (.int i0), .val (.int i1), .val (.int i2), .val (.int i3), .val (.int (0 : Int32)), .val (.int q2), .unset, .unset, .unset, .unset, .unset, .unset, .unset] [(.int q3)]))
    refine Go.of (t' := T3.setTop (mkF m 20 #[.val (.int i0), .val (.int i1), .val (.int i2), .val (.int i3), .val (.int (0 : Int32)), .val (.int q2), .val (.int q3), .unset, .unset, .unset, .unset, .unset, .unset] [])) (fun _ kk => XS.istore W3.here hx rfl (hb hby at_18) rfl (l' := #[.val (.int i0), .val (.int i1), .val (.int i2), .val (.int i3), .val (.int (0 : Int32)), .val (.int q2), .val (.int q3), .unset, .unset, .unset, .unset, .unset, .unset]) rfl kk) ?_
    refine Go.of (t' := T3.setTop (mkF m 21 #[.val (.int i0), .val (.int i1), .val (.int i2), .val (.int i3), .val (.int (0 : Int32)), .val (.int q2), .val (.int q3), .unset, .unset, .unset, .unset, .unset, .unset] [(.int i3)])) (fun _ kk => XS.iloadN W3.here hx rfl (hb hby at_20) rfl kk) ?_
    refine W3.callS hx hEL (hw _ (List.mem_of_getElem? (i := 0) rfl)) (hw _ (List.mem_of_getElem? (i := 1) rfl)) (hw _ (List.mem_of_getElem? (i := 2) rfl)) (hw _ (List.mem_of_getElem? (i := 3) rfl)) (by decide +kernel) (argsL := [(.int i3)]) (rest := []) (rm1 l Z a0 hw hEL zc SC hzc fm SF rfm i3 h0 W3.old ) all0 (by decide +kernel) (Wd := 0) (by decide +kernel) (by decide +kernel) (by decide +kernel) all0 rfl (by rw [hml]; rfl) (lenOf pd6 rfl) rfl (by show 2 * 0 + _ ≤ _; exact Nat.le_of_eq rfl) (hb hby at_21) (fun T4 h4 v4 W4 K4 q4 => ?_)
    obtain ⟨q4, rfl, cq4, rfl⟩ := q4
    show Go p e below _ (T4.setTop (mkF m 24 #[.val (.int i0), .val (.int i1), .val (.int i2), .val (.int i3), .val (.int (0 : Int32)), .val (.int q2), .val (.int q3), .unset, .unset, .unset, .unset, .unset, .unset] [(.int q4)]))
    refine Go.of (t' := T4.setTop (mkF m 26 #[.val (.int i0), .val (.int i1), .val (.int i2), .val (.int i3), .val (.int (0 : Int32)), .val (.int q2), .val (.int q3), .val (.int q4), .unset, .unset, .unset, .unset, .unset] [])) (fun _ kk => XS.istore W4.here hx rfl (hb hby at_24) rfl (l' := #[.val (.int i0), .val (.int i1), .val (.int i2), .val (.int i3), .val (.int (0 : Int32)), .val (.int q2), .val (.int q3), .val (.int q4), .unset, .unset, .unset, .unset, .unset]) rfl kk) ?_
    refine Go.of (t' := T4.setTop (mkF m 27 #[.val (.int i0), .val (.int i1), .val (.int i2), .val (.int i3), .val (.int (0 : Int32)), .val (.int q2), .val (.int q3), .val (.int q4), .unset, .unset, .unset, .unset, .unset] [(.int (3 : Int32))])) (fun _ kk => XS.iconst W4.here hx rfl (hb hby at_26) kk) ?_
    refine W4.newP hx (hw _ (List.mem_of_getElem? (i := 4) rfl)) rfl (hb hby at_27) rfl (by decide +kernel) (cap := 3) (by decide +kernel) (by decide +kernel) (by decide +kernel) (by decide +kernel) (fun T5 h5 b5 c5 eb5 gb5 W5 K5 A5 => ?_)
    have V5 : Arv Z h5 b5 c5 .char (3 : Int32) [(.int (0 : Int32)), (.int (0 : Int32)), (.int (0 : Int32))] (.int (0 : Int32)) := A5
    show Go p e below _ (T5.setTop (mkF m 29 #[.val (.int i0), .val (.int i1), .val (.int i2), .val (.int i3), .val (.int (0 : Int32)), .val (.int q2), .val (.int q3), .val (.int q4), .unset, .unset, .unset, .unset, .unset] [(.ref b5)]))
    refine Go.of (t' := T5.setTop (mkF m 30 #[.val (.int i0), .val (.int i1), .val (.int i2), .val (.int i3), .val (.int (0 : Int32)), .val (.int q2), .val (.int q3), .val (.int q4), .unset, .unset, .unset, .unset, .unset] [(.ref b5), (.ref b5)])) (fun _ kk => XS.dup W5.here hx rfl (hb hby at_29) rfl rfl kk) ?_
    refine Go.of (t' := T5.setTop (mkF m 31 #[.val (.int i0), .val (.int i1), .val (.int i2), .val (.int i3), .val (.int (0 : Int32)), .val (.int q2), .val (.int q3), .val (.int q4), .unset, .unset, .unset, .unset, .unset] [(.int (0 : Int32)), (.ref b5), (.ref b5)])) (fun _ kk => XS.iconst W5.here hx rfl (hb hby at_30) kk) ?_
    refine Go.of (t' := T5.setTop (mkF m 33 #[.val (.int i0), .val (.int i1), .val (.int i2), .val (.int i3), .val (.int (0 : Int32)), .val (.int q2), .val (.int q3), .val (.int q4), .unset, .unset, .unset, .unset, .unset] [(.int q2), (.int (0 : Int32)), (.ref b5), (.ref b5)])) (fun _ kk => XS.iload W5.here hx rfl (hb hby at_31) rfl kk) ?_
    refine W5.stC hx V5 ⟨by decide, by decide⟩ 0 rfl (Nat.le_of_ble_eq_true rfl) gb5.1 (Or.inr gb5.2) rfl rfl (hb hby at_33) (fun T6 h6 W6 K6 A6 => ?_)
    have V6 : Arv Z h6 b5 c5 .char (3 : Int32) [(.int q2), (.int (0 : Int32)), (.int (0 : Int32))] (.int (0 : Int32)) := (by rw [(nar_char cq2)] at A6; exact A6)
    show Go p e below _ (T6.setTop (mkF m 34 #[.val (.int i0), .val (.int i1), .val (.int i2), .val (.int i3), .val (.int (0 : Int32)), .val (.int q2), .val (.int q3), .val (.int q4), .unset, .unset, .unset, .unset, .unset] [(.ref b5)]))
    refine Go.of (t' := T6.setTop (mkF m 35 #[.val (.int i0), .val (.int i1), .val (.int i2), .val (.int i3), .val (.int (0 : Int32)), .val (.int q2), .val (.int q3), .val (.int q4), .unset, .unset, .unset, .unset, .unset] [(.ref b5), (.ref b5)])) (fun _ kk => XS.dup W6.here hx rfl (hb hby at_34) rfl rfl kk) ?_
    refine Go.of (t' := T6.setTop (mkF m 36 #[.val (.int i0), .val (.int i1), .val (.int i2), .val (.int i3), .val (.int (0 : Int32)), .val (.int q2), .val (.int q3), .val (.int q4), .unset, .unset, .unset, .unset, .unset] [(.int (1 : Int32)), (.ref b5), (.ref b5)])) (fun _ kk => XS.iconst W6.here hx rfl (hb hby at_35) kk) ?_
    refine Go.of (t' := T6.setTop (mkF m 38 #[.val (.int i0), .val (.int i1), .val (.int i2), .val (.int i3), .val (.int (0 : Int32)), .val (.int q2), .val (.int q3), .val (.int q4), .unset, .unset, .unset, .unset, .unset] [(.int q3), (.int (1 : Int32)), (.ref b5), (.ref b5)])) (fun _ kk => XS.iload W6.here hx rfl (hb hby at_36) rfl kk) ?_
    refine W6.stC hx V6 ⟨by decide, by decide⟩ 1 rfl (Nat.le_of_ble_eq_true rfl) gb5.1 (Or.inr gb5.2) rfl rfl (hb hby at_38) (fun T7 h7 W7 K7 A7 => ?_)
    have V7 : Arv Z h7 b5 c5 .char (3 : Int32) [(.int q2), (.int q3), (.int (0 : Int32))] (.int (0 : Int32)) := (by rw [(nar_char cq3)] at A7; exact A7)
    show Go p e below _ (T7.setTop (mkF m 39 #[.val (.int i0), .val (.int i1), .val (.int i2), .val (.int i3), .val (.int (0 : Int32)), .val (.int q2), .val (.int q3), .val (.int q4), .unset, .unset, .unset, .unset, .unset] [(.ref b5)]))
    refine Go.of (t' := T7.setTop (mkF m 40 #[.val (.int i0), .val (.int i1), .val (.int i2), .val (.int i3), .val (.int (0 : Int32)), .val (.int q2), .val (.int q3), .val (.int q4), .unset, .unset, .unset, .unset, .unset] [(.ref b5), (.ref b5)])) (fun _ kk => XS.dup W7.here hx rfl (hb hby at_39) rfl rfl kk) ?_
    refine Go.of (t' := T7.setTop (mkF m 41 #[.val (.int i0), .val (.int i1), .val (.int i2), .val (.int i3), .val (.int (0 : Int32)), .val (.int q2), .val (.int q3), .val (.int q4), .unset, .unset, .unset, .unset, .unset] [(.int (2 : Int32)), (.ref b5), (.ref b5)])) (fun _ kk => XS.iconst W7.here hx rfl (hb hby at_40) kk) ?_
    refine Go.of (t' := T7.setTop (mkF m 43 #[.val (.int i0), .val (.int i1), .val (.int i2), .val (.int i3), .val (.int (0 : Int32)), .val (.int q2), .val (.int q3), .val (.int q4), .unset, .unset, .unset, .unset, .unset] [(.int q4), (.int (2 : Int32)), (.ref b5), (.ref b5)])) (fun _ kk => XS.iload W7.here hx rfl (hb hby at_41) rfl kk) ?_
    refine W7.stC hx V7 ⟨by decide, by decide⟩ 2 rfl (Nat.le_of_ble_eq_true rfl) gb5.1 (Or.inr gb5.2) rfl rfl (hb hby at_43) (fun T8 h8 W8 K8 A8 => ?_)
    have V8 : Arv Z h8 b5 c5 .char (3 : Int32) [(.int q2), (.int q3), (.int q4)] (.int (0 : Int32)) := (by rw [(nar_char cq4)] at A8; exact A8)
    show Go p e below _ (T8.setTop (mkF m 44 #[.val (.int i0), .val (.int i1), .val (.int i2), .val (.int i3), .val (.int (0 : Int32)), .val (.int q2), .val (.int q3), .val (.int q4), .unset, .unset, .unset, .unset, .unset] [(.ref b5)]))
    refine Go.of (t' := T8.setTop (mkF m 46 #[.val (.int i0), .val (.int i1), .val (.int i2), .val (.int i3), .val (.int (0 : Int32)), .val (.int q2), .val (.int q3), .val (.int q4), .val (.ref b5), .unset, .unset, .unset, .unset] [])) (fun _ kk => XS.astore W8.here hx rfl (hb hby at_44) rfl rfl (l' := #[.val (.int i0), .val (.int i1), .val (.int i2), .val (.int i3), .val (.int (0 : Int32)), .val (.int q2), .val (.int q3), .val (.int q4), .val (.ref b5), .unset, .unset, .unset, .unset]) rfl kk) ?_
    refine Go.of (t' := T8.setTop (mkF m 47 #[.val (.int i0), .val (.int i1), .val (.int i2), .val (.int i3), .val (.int (0 : Int32)), .val (.int q2), .val (.int q3), .val (.int q4), .val (.ref b5), .unset, .unset, .unset, .unset] [(.int (2 : Int32))])) (fun _ kk => XS.iconst W8.here hx rfl (hb hby at_46) kk) ?_
    refine W8.newP hx (hw _ (List.mem_of_getElem? (i := 4) rfl)) rfl (hb hby at_47) rfl (by decide +kernel) (cap := 2) (by decide +kernel) (by decide +kernel) (by decide +kernel) (by decide +kernel) (fun T9 h9 b9 c9 eb9 gb9 W9 K9 A9 => ?_)
    have V9 : Arv Z h9 b9 c9 .char (2 : Int32) [(.int (0 : Int32)), (.int (0 : Int32))] (.int (0 : Int32)) := A9
    show Go p e below _ (T9.setTop (mkF m 49 #[.val (.int i0), .val (.int i1), .val (.int i2), .val (.int i3), .val (.int (0 : Int32)), .val (.int q2), .val (.int q3), .val (.int q4), .val (.ref b5), .unset, .unset, .unset, .unset] [(.ref b9)]))
    refine Go.of (t' := T9.setTop (mkF m 50 #[.val (.int i0), .val (.int i1), .val (.int i2), .val (.int i3), .val (.int (0 : Int32)), .val (.int q2), .val (.int q3), .val (.int q4), .val (.ref b5), .unset, .unset, .unset, .unset] [(.ref b9), (.ref b9)])) (fun _ kk => XS.dup W9.here hx rfl (hb hby at_49) rfl rfl kk) ?_
    refine Go.of (t' := T9.setTop (mkF m 51 #[.val (.int i0), .val (.int i1), .val (.int i2), .val (.int i3), .val (.int (0 : Int32)), .val (.int q2), .val (.int q3), .val (.int q4), .val (.ref b5), .unset, .unset, .unset, .unset] [(.int (0 : Int32)), (.ref b9), (.ref b9)])) (fun _ kk => XS.iconst W9.here hx rfl (hb hby at_50) kk) ?_
    refine Go.of (t' := T9.setTop (mkF m 53 #[.val (.int i0), .val (.int i1), .val (.int i2), .val (.int i3), .val (.int (0 : Int32)), .val (.int q2), .val (.int q3), .val (.int q4), .val (.ref b5), .unset, .unset, .unset, .unset] [(.int q2), (.int (0 : Int32)), (.ref b9), (.ref b9)])) (fun _ kk => XS.iload W9.here hx rfl (hb hby at_51) rfl kk) ?_
    refine W9.stC hx V9 ⟨by decide, by decide⟩ 0 rfl (Nat.le_of_ble_eq_true rfl) gb9.1 (Or.inr gb9.2) rfl rfl (hb hby at_53) (fun T10 h10 W10 K10 A10 => ?_)
    have V10 : Arv Z h10 b9 c9 .char (2 : Int32) [(.int q2), (.int (0 : Int32))] (.int (0 : Int32)) := (by rw [(nar_char cq2)] at A10; exact A10)
    show Go p e below _ (T10.setTop (mkF m 54 #[.val (.int i0), .val (.int i1), .val (.int i2), .val (.int i3), .val (.int (0 : Int32)), .val (.int q2), .val (.int q3), .val (.int q4), .val (.ref b5), .unset, .unset, .unset, .unset] [(.ref b9)]))
    refine Go.of (t' := T10.setTop (mkF m 55 #[.val (.int i0), .val (.int i1), .val (.int i2), .val (.int i3), .val (.int (0 : Int32)), .val (.int q2), .val (.int q3), .val (.int q4), .val (.ref b5), .unset, .unset, .unset, .unset] [(.ref b9), (.ref b9)])) (fun _ kk => XS.dup W10.here hx rfl (hb hby at_54) rfl rfl kk) ?_
    refine Go.of (t' := T10.setTop (mkF m 56 #[.val (.int i0), .val (.int i1), .val (.int i2), .val (.int i3), .val (.int (0 : Int32)), .val (.int q2), .val (.int q3), .val (.int q4), .val (.ref b5), .unset, .unset, .unset, .unset] [(.int (1 : Int32)), (.ref b9), (.ref b9)])) (fun _ kk => XS.iconst W10.here hx rfl (hb hby at_55) kk) ?_
    refine Go.of (t' := T10.setTop (mkF m 58 #[.val (.int i0), .val (.int i1), .val (.int i2), .val (.int i3), .val (.int (0 : Int32)), .val (.int q2), .val (.int q3), .val (.int q4), .val (.ref b5), .unset, .unset, .unset, .unset] [(.int q3), (.int (1 : Int32)), (.ref b9), (.ref b9)])) (fun _ kk => XS.iload W10.here hx rfl (hb hby at_56) rfl kk) ?_
    refine W10.stC hx V10 ⟨by decide, by decide⟩ 1 rfl (Nat.le_of_ble_eq_true rfl) gb9.1 (Or.inr gb9.2) rfl rfl (hb hby at_58) (fun T11 h11 W11 K11 A11 => ?_)
    have V11 : Arv Z h11 b9 c9 .char (2 : Int32) [(.int q2), (.int q3)] (.int (0 : Int32)) := (by rw [(nar_char cq3)] at A11; exact A11)
    show Go p e below _ (T11.setTop (mkF m 59 #[.val (.int i0), .val (.int i1), .val (.int i2), .val (.int i3), .val (.int (0 : Int32)), .val (.int q2), .val (.int q3), .val (.int q4), .val (.ref b5), .unset, .unset, .unset, .unset] [(.ref b9)]))
    refine Go.of (t' := T11.setTop (mkF m 61 #[.val (.int i0), .val (.int i1), .val (.int i2), .val (.int i3), .val (.int (0 : Int32)), .val (.int q2), .val (.int q3), .val (.int q4), .val (.ref b5), .val (.ref b9), .unset, .unset, .unset] [])) (fun _ kk => XS.astore W11.here hx rfl (hb hby at_59) rfl rfl (l' := #[.val (.int i0), .val (.int i1), .val (.int i2), .val (.int i3), .val (.int (0 : Int32)), .val (.int q2), .val (.int q3), .val (.int q4), .val (.ref b5), .val (.ref b9), .unset, .unset, .unset]) rfl kk) ?_
    refine Go.of (t' := T11.setTop (mkF m 63 #[.val (.int i0), .val (.int i1), .val (.int i2), .val (.int i3), .val (.int (0 : Int32)), .val (.int q2), .val (.int q3), .val (.int q4), .val (.ref b5), .val (.ref b9), .unset, .unset, .unset] [(.int (0 : Int32))])) (fun _ kk => XS.iload W11.here hx rfl (hb hby at_61) rfl kk) ?_
    refine Go.of (t' := T11.setTop (mkF m 66 #[.val (.int i0), .val (.int i1), .val (.int i2), .val (.int i3), .val (.int (0 : Int32)), .val (.int q2), .val (.int q3), .val (.int q4), .val (.ref b5), .val (.ref b9), .unset, .unset, .unset] [])) (fun _ kk => XS.ifNo W11.here hx rfl (hb hby at_63) rfl (XT.i0_ne_f (by decide +kernel)) kk) ?_
    refine W11.newO hx (hw _ (List.mem_of_getElem? (i := 5) rfl)) (hw _ (List.mem_of_getElem? (i := 6) rfl)) (hw _ (List.mem_of_getElem? (i := 7) rfl)) rfl (hb hby at_66) (by decide +kernel) (by decide +kernel) (fun T12 h12 b12 eb12 gb12 W12 K12 E12 D12 => ?_)
    have k13 : Fld Z h12 b12 "java/lang/String" "value" "[B" .null := D12 (Or.inr (hw _ (List.mem_of_getElem? (i := 20) rfl))) (ty := (.array .byte)) (by decide +kernel)
    have k14 : Fld Z h12 b12 "java/lang/String" "coder" "B" (.int (0 : Int32)) := D12 (Or.inr (hw _ (List.mem_of_getElem? (i := 21) rfl))) (ty := .byte) (by decide +kernel)
    show Go p e below _ (T12.setTop (mkF m 69 #[.val (.int i0), .val (.int i1), .val (.int i2), .val (.int i3), .val (.int (0 : Int32)), .val (.int q2), .val (.int q3), .val (.int q4), .val (.ref b5), .val (.ref b9), .unset, .unset, .unset] [(.ref b12)]))
    refine Go.of (t' := T12.setTop (mkF m 70 #[.val (.int i0), .val (.int i1), .val (.int i2), .val (.int i3), .val (.int (0 : Int32)), .val (.int q2), .val (.int q3), .val (.int q4), .val (.ref b5), .val (.ref b9), .unset, .unset, .unset] [(.ref b12), (.ref b12)])) (fun _ kk => XS.dup W12.here hx rfl (hb hby at_69) rfl rfl kk) ?_
    refine Go.of (t' := T12.setTop (mkF m 71 #[.val (.int i0), .val (.int i1), .val (.int i2), .val (.int i3), .val (.int (0 : Int32)), .val (.int q2), .val (.int q3), .val (.int q4), .val (.ref b5), .val (.ref b9), .unset, .unset, .unset] [(.int (0 : Int32)), (.ref b12), (.ref b12)])) (fun _ kk => XS.iconst W12.here hx rfl (hb hby at_70) kk) ?_
    refine W12.newP hx (hw _ (List.mem_of_getElem? (i := 4) rfl)) rfl (hb hby at_71) rfl (by decide +kernel) (cap := 0) (by decide +kernel) (by decide +kernel) (by decide +kernel) (by decide +kernel) (fun T15 h15 b15 c15 eb15 gb15 W15 K15 A15 => ?_)
    have V15 : Arv Z h15 b15 c15 .char (0 : Int32) [] (.int (0 : Int32)) := A15
    show Go p e below _ (T15.setTop (mkF m 73 #[.val (.int i0), .val (.int i1), .val (.int i2), .val (.int i3), .val (.int (0 : Int32)), .val (.int q2), .val (.int q3), .val (.int q4), .val (.ref b5), .val (.ref b9), .unset, .unset, .unset] [(.ref b15), (.ref b12), (.ref b12)]))
    have k17 := (E12.keep K15)
    have k18 := (k13.keep K15 nin0)
    have k19 := (k14.keep K15 nin0)
    refine W15.callP hx hEL rfl (hw _ (List.mem_of_getElem? (i := 8) rfl)) (hw _ (List.mem_of_getElem? (i := 9) rfl)) (hw _ (List.mem_of_getElem? (i := 7) rfl)) (hw _ (List.mem_of_getElem? (i := 10) rfl)) (by decide +kernel) (a := b12) (argsL := [(.ref b15)]) (rest := [(.ref b12)]) (rm21 l Z a0 hw hEL zc SC hzc fm SF rfm b12 b15 c15 h15 W15.old k17 k18 k19 gb12.1 V15) (allS (List.mem_of_getElem? (i := 1) rfl) all0) (by decide +kernel) (Wd := 1) (by decide +kernel) (by decide +kernel) (by decide +kernel) (allS ⟨gb12.1, (Or.inr gb12.2)⟩ all0) rfl (by rw [hml]; rfl) (lenOf pd7 rfl) rfl (by show 2 * 0 + _ ≤ _; exact Nat.le_of_eq rfl) (hb hby at_73) (fun T20 h20 v20 W20 K20 q20 => ?_)
    obtain ⟨rfl, S20⟩ := q20
    show Go p e below _ (T20.setTop (mkF m 76 #[.val (.int i0), .val (.int i1), .val (.int i2), .val (.int i3), .val (.int (0 : Int32)), .val (.int q2), .val (.int q3), .val (.int q4), .val (.ref b5), .val (.ref b9), .unset, .unset, .unset] [(.ref b12)]))
    refine Go.of (t' := T20.setTop (mkF m 78 #[.val (.int i0), .val (.int i1), .val (.int i2), .val (.int i3), .val (.int (0 : Int32)), .val (.int q2), .val (.int q3), .val (.int q4), .val (.ref b5), .val (.ref b9), .val (.ref b12), .unset, .unset] [])) (fun _ kk => XS.astore W20.here hx rfl (hb hby at_76) rfl rfl (l' := #[.val (.int i0), .val (.int i1), .val (.int i2), .val (.int i3), .val (.int (0 : Int32)), .val (.int q2), .val (.int q3), .val (.int q4), .val (.ref b5), .val (.ref b9), .val (.ref b12), .unset, .unset]) rfl kk) ?_
    refine Go.of (t' := T20.setTop (mkF m 140 #[.val (.int i0), .val (.int i1), .val (.int i2), .val (.int i3), .val (.int (0 : Int32)), .val (.int q2), .val (.int q3), .val (.int q4), .val (.ref b5), .val (.ref b9), .val (.ref b12), .unset, .unset] [])) (fun _ kk => XS.goto W20.here hx rfl (pc0 := 78) (pc' := 140) rfl (hb hby at_78) (by decide +kernel) (by decide +kernel) kk) ?_
    refine Go.of (t' := T20.setTop (mkF m 141 #[.val (.int i0), .val (.int i1), .val (.int i2), .val (.int i3), .val (.int (0 : Int32)), .val (.int q2), .val (.int q3), .val (.int q4), .val (.ref b5), .val (.ref b9), .val (.ref b12), .unset, .unset] [.null])) (fun _ kk => XS.aconstNull W20.here hx rfl (hb hby at_140) kk) ?_
    refine Go.of (t' := T20.setTop (mkF m 143 #[.val (.int i0), .val (.int i1), .val (.int i2), .val (.int i3), .val (.int (0 : Int32)), .val (.int q2), .val (.int q3), .val (.int q4), .val (.ref b5), .val (.ref b9), .val (.ref b12), .val .null, .unset] [])) (fun _ kk => XS.astore W20.here hx rfl (hb hby at_141) rfl rfl (l' := #[.val (.int i0), .val (.int i1), .val (.int i2), .val (.int i3), .val (.int (0 : Int32)), .val (.int q2), .val (.int q3), .val (.int q4), .val (.ref b5), .val (.ref b9), .val (.ref b12), .val .null, .unset]) rfl kk) ?_
    refine Go.of (t' := T20.setTop (mkF m 145 #[.val (.int i0), .val (.int i1), .val (.int i2), .val (.int i3), .val (.int (0 : Int32)), .val (.int q2), .val (.int q3), .val (.int q4), .val (.ref b5), .val (.ref b9), .val (.ref b12), .val .null, .unset] [(.int (0 : Int32))])) (fun _ kk => XS.iload W20.here hx rfl (hb hby at_143) rfl kk) ?_
    refine Go.of (t' := T20.setTop (mkF m 146 #[.val (.int i0), .val (.int i1), .val (.int i2), .val (.int i3), .val (.int (0 : Int32)), .val (.int q2), .val (.int q3), .val (.int q4), .val (.ref b5), .val (.ref b9), .val (.ref b12), .val .null, .unset] [(.int (1 : Int32)), (.int (0 : Int32))])) (fun _ kk => XS.iconst W20.here hx rfl (hb hby at_145) kk) ?_
    refine Go.of (t' := T20.setTop (mkF m 179 #[.val (.int i0), .val (.int i1), .val (.int i2), .val (.int i3), .val (.int (0 : Int32)), .val (.int q2), .val (.int q3), .val (.int q4), .val (.ref b5), .val (.ref b9), .val (.ref b12), .val .null, .unset] [])) (fun _ kk => XS.icmpYes W20.here hx rfl (pc0 := 146) (pc' := 179) rfl (hb hby at_146) rfl (XT.ii_ne_t (by decide +kernel)) (by decide +kernel) (by decide +kernel) kk) ?_
    refine Go.of (t' := T20.setTop (mkF m 181 #[.val (.int i0), .val (.int i1), .val (.int i2), .val (.int i3), .val (.int (0 : Int32)), .val (.int q2), .val (.int q3), .val (.int q4), .val (.ref b5), .val (.ref b9), .val (.ref b12), .val .null, .unset] [(.int (0 : Int32))])) (fun _ kk => XS.iload W20.here hx rfl (hb hby at_179) rfl kk) ?_
    refine Go.of (t' := T20.setTop (mkF m 182 #[.val (.int i0), .val (.int i1), .val (.int i2), .val (.int i3), .val (.int (0 : Int32)), .val (.int q2), .val (.int q3), .val (.int q4), .val (.ref b5), .val (.ref b9), .val (.ref b12), .val .null, .unset] [(.int (2 : Int32)), (.int (0 : Int32))])) (fun _ kk => XS.iconst W20.here hx rfl (hb hby at_181) kk) ?_
    refine Go.of (t' := T20.setTop (mkF m 249 #[.val (.int i0), .val (.int i1), .val (.int i2), .val (.int i3), .val (.int (0 : Int32)), .val (.int q2), .val (.int q3), .val (.int q4), .val (.ref b5), .val (.ref b9), .val (.ref b12), .val .null, .unset] [])) (fun _ kk => XS.icmpYes W20.here hx rfl (pc0 := 182) (pc' := 249) rfl (hb hby at_182) rfl (XT.ii_ne_t (by decide +kernel)) (by decide +kernel) (by decide +kernel) kk) ?_
    refine Go.of (t' := T20.setTop (mkF m 251 #[.val (.int i0), .val (.int i1), .val (.int i2), .val (.int i3), .val (.int (0 : Int32)), .val (.int q2), .val (.int q3), .val (.int q4), .val (.ref b5), .val (.ref b9), .val (.ref b12), .val .null, .unset] [(.ref b12)])) (fun _ kk => XS.aload W20.here hx rfl (hb hby at_249) rfl rfl kk) ?_
    refine W20.callS hx hEL (hw _ (List.mem_of_getElem? (i := 26) rfl)) (hw _ (List.mem_of_getElem? (i := 27) rfl)) (hw _ (List.mem_of_getElem? (i := 28) rfl)) (hw _ (List.mem_of_getElem? (i := 29) rfl)) (by decide +kernel) (argsL := [(.ref b12)]) (rest := []) (rm4 l Z a0 hw hEL zc SC hzc fm SF rfm b12 [] e0 e1 e2 e3 e4 e5 s0 s1 s2 s3 s4 s5 av kv h20 W20.old OE0 OE1 OE2 OE3 OE4 OE5 OF0 OF1 OF2 OF3 OF4 OF5 OS0 OS1 OS2 OS3 OS4 OS5 OA OV OT OX OC0 OC1 OC2 OC3 OC4 OC5 S20) all0 (by decide +kernel) (Wd := 0) (by decide +kernel) (by decide +kernel) (by decide +kernel) all0 rfl (by rw [hml]; rfl) (lenOf pd8 rfl) rfl (by show 2 * 0 + _ ≤ _; exact Nat.le_of_eq rfl) (hb hby at_251) (fun T21 h21 v21 W21 K21 q21 => ?_)
    have ew21 : wrOf e0 e1 e2 e3 e4 e5 [] = .null := by simp [wrOf]
    rw [ew21] at q21
    subst q21
    show Go p e below _ (T21.setTop (mkF m 254 #[.val (.int i0), .val (.int i1), .val (.int i2), .val (.int i3), .val (.int (0 : Int32)), .val (.int q2), .val (.int q3), .val (.int q4), .val (.ref b5), .val (.ref b9), .val (.ref b12), .val .null, .unset] [.null]))
    refine Go.of (t' := T21.setTop (mkF m 256 #[.val (.int i0), .val (.int i1), .val (.int i2), .val (.int i3), .val (.int (0 : Int32)), .val (.int q2), .val (.int q3), .val (.int q4), .val (.ref b5), .val (.ref b9), .val (.ref b12), .val .null, .val .null] [])) (fun _ kk => XS.astore W21.here hx rfl (hb hby at_254) rfl rfl (l' := #[.val (.int i0), .val (.int i1), .val (.int i2), .val (.int i3), .val (.int (0 : Int32)), .val (.int q2), .val (.int q3), .val (.int q4), .val (.ref b5), .val (.ref b9), .val (.ref b12), .val .null, .val .null]) rfl kk) ?_
    refine Go.of (t' := T21.setTop (mkF m 258 #[.val (.int i0), .val (.int i1), .val (.int i2), .val (.int i3), .val (.int (0 : Int32)), .val (.int q2), .val (.int q3), .val (.int q4), .val (.ref b5), .val (.ref b9), .val (.ref b12), .val .null, .val .null] [.null])) (fun _ kk => XS.aload W21.here hx rfl (hb hby at_256) rfl rfl kk) ?_
    refine Go.of (t' := T21.setTop (mkF m 260 #[.val (.int i0), .val (.int i1), .val (.int i2), .val (.int i3), .val (.int (0 : Int32)), .val (.int q2), .val (.int q3), .val (.int q4), .val (.ref b5), .val (.ref b9), .val (.ref b12), .val .null, .val .null] [.null, .null])) (fun _ kk => XS.aload W21.here hx rfl (hb hby at_258) rfl rfl kk) ?_
    refine Go.of (t' := T21.setTop (mkF m 263 #[.val (.int i0), .val (.int i1), .val (.int i2), .val (.int i3), .val (.int (0 : Int32)), .val (.int q2), .val (.int q3), .val (.int q4), .val (.ref b5), .val (.ref b9), .val (.ref b12), .val .null, .val .null] [])) (fun _ kk => XT.acmpNo (g := (mkF m 260 #[.val (.int i0), .val (.int i1), .val (.int i2), .val (.int i3), .val (.int (0 : Int32)), .val (.int q2), .val (.int q3), .val (.int q4), .val (.ref b5), .val (.ref b9), .val (.ref b12), .val .null, .val .null] [.null, .null])) W21.here hx rfl (hb hby at_260) (x := .null) (y := .null) (rest := []) rfl rfl rfl (XT.aa_ne_f (x := .null) (y := .null) rfl) kk) ?_
    refine Go.of (t' := T21.setTop (mkF m 264 #[.val (.int i0), .val (.int i1), .val (.int i2), .val (.int i3), .val (.int (0 : Int32)), .val (.int q2), .val (.int q3), .val (.int q4), .val (.ref b5), .val (.ref b9), .val (.ref b12), .val .null, .val .null] [(.int (1 : Int32))])) (fun _ kk => XS.iconst W21.here hx rfl (hb hby at_263) kk) ?_
    refine Go.of (t' := T21.setTop (mkF m 268 #[.val (.int i0), .val (.int i1), .val (.int i2), .val (.int i3), .val (.int (0 : Int32)), .val (.int q2), .val (.int q3), .val (.int q4), .val (.ref b5), .val (.ref b9), .val (.ref b12), .val .null, .val .null] [(.int (1 : Int32))])) (fun _ kk => XS.goto W21.here hx rfl (pc0 := 264) (pc' := 268) rfl (hb hby at_264) (by decide +kernel) (by decide +kernel) kk) ?_
    exact W21.retI hx hEL hs hlk (by decide +kernel) (by decide +kernel) hret (by simp) rfl (hb hby at_268) rfl
  · rw [z1]
    show Go p e below _ (T0.setTop (mkF m 6 #[.val (.int i0), .val (.int i1), .val (.int i2), .val (.int i3), .unset, .unset, .unset, .unset, .unset, .unset, .unset, .unset, .unset] [(.int (1 : Int32))]))
    refine Go.of (t' := T0.setTop (mkF m 8 #[.val (.int i0), .val (.int i1), .val (.int i2), .val (.int i3), .val (.int (1 : Int32)), .unset, .unset, .unset, .unset, .unset, .unset, .unset, .unset] [])) (fun _ kk => XS.istore W0.here hx rfl (hb hby at_6) rfl (l' := #[.val (.int i0), .val (.int i1), .val (.int i2), .val (.int i3), .val (.int (1 : Int32)), .unset, .unset, .unset, .unset, .unset, .unset, .unset, .unset]) rfl kk) ?_
    refine Go.of (t' := T0.setTop (mkF m 9 #[.val (.int i0), .val (.int i1), .val (.int i2), .val (.int i3), .val (.int (1 : Int32)), .unset, .unset, .unset, .unset, .unset, .unset, .unset, .unset] [(.int i1)])) (fun _ kk => XS.iloadN W0.here hx rfl (hb hby at_8) rfl kk) ?_
    refine W0.callS hx hEL (hw _ (List.mem_of_getElem? (i := 0) rfl)) (hw _ (List.mem_of_getElem? (i := 1) rfl)) (hw _ (List.mem_of_getElem? (i := 2) rfl)) (hw _ (List.mem_of_getElem? (i := 3) rfl)) (by decide +kernel) (argsL := [(.int i1)]) (rest := []) (rm1 l Z a0 hw hEL zc SC hzc fm SF rfm i1 h0 W0.old ) all0 (by decide +kernel) (Wd := 0) (by decide +kernel) (by decide +kernel) (by decide +kernel) all0 rfl (by rw [hml]; rfl) (lenOf pd6 rfl) rfl (by show 2 * 0 + _ ≤ _; exact Nat.le_of_eq rfl) (hb hby at_9) (fun T22 h22 v22 W22 K22 q22 => ?_)
    obtain ⟨q22, rfl, cq22, rfl⟩ := q22
    show Go p e below _ (T22.setTop (mkF m 12 #[.val (.int i0), .val (.int i1), .val (.int i2), .val (.int i3), .val (.int (1 : Int32)), .unset, .unset, .unset, .unset, .unset, .unset, .unset, .unset] [(.int q22)]))
    refine Go.of (t' := T22.setTop (mkF m 14 #[.val (.int i0), .val (.int i1), .val (.int i2), .val (.int i3), .val (.int (1 : Int32)), .val (.int q22), .unset, .unset, .unset, .unset, .unset, .unset, .unset] [])) (fun _ kk => XS.istore W22.here hx rfl (hb hby at_12) rfl (l' := #[.val (.int i0), .val (.int i1), .val (.int i2), .val (.int i3), .val (.int (1 : Int32)), .val (.int q22), .unset, .unset, .unset, .unset, .unset, .unset, .unset]) rfl kk) ?_
    refine Go.of (t' := T22.setTop (mkF m 15 #[.val (.int i0), .val (.int i1), .val (.int i2), .val (.int i3), .val (.int (1 : Int32)), .val (.int q22), .unset, .unset, .unset, .unset, .unset, .unset, .unset] [(.int i2)])) (fun _ kk => XS.iloadN W22.here hx rfl (hb hby at_14) rfl kk) ?_
    refine W22.callS hx hEL (hw _ (List.mem_of_getElem? (i := 0) rfl)) (hw _ (List.mem_of_getElem? (i := 1) rfl)) (hw _ (List.mem_of_getElem? (i := 2) rfl)) (hw _ (List.mem_of_getElem? (i := 3) rfl)) (by decide +kernel) (argsL := [(.int i2)]) (rest := []) (rm1 l Z a0 hw hEL zc SC hzc fm SF rfm i2 h0 W22.old ) all0 (by decide +kernel) (Wd := 0) (by decide +kernel) (by decide +kernel) (by decide +kernel) all0 rfl (by rw [hml]; rfl) (lenOf pd6 rfl) rfl (by show 2 * 0 + _ ≤ _; exact Nat.le_of_eq rfl) (hb hby at_15) (fun T23 h23 v23 W23 K23 q23 => ?_)
    obtain ⟨q23, rfl, cq23, rfl⟩ := q23
    show Go p e below _ (T23.setTop (mkF m 18 #[.val (.int i0), .val (.int i1), .val (.int i2), .val (.int i3), .val (.int (1 : Int32)), .val (.int q22), .unset, .unset, .unset, .unset, .unset, .unset, .unset] [(.int q23)]))
    refine Go.of (t' := T23.setTop (mkF m 20 #[.val (.int i0), .val (.int i1), .val (.int i2), .val (.int i3), .val (.int (1 : Int32)), .val (.int q22), .val (.int q23), .unset, .unset, .unset, .unset, .unset, .unset] [])) (fun _ kk => XS.istore W23.here hx rfl (hb hby at_18) rfl (l' := #[.val (.int i0), .val (.int i1), .val (.int i2), .val (.int i3), .val (.int (1 : Int32)), .val (.int q22), .val (.int q23), .unset, .unset, .unset, .unset, .unset, .unset]) rfl kk) ?_
    refine Go.of (t' := T23.setTop (mkF m 21 #[.val (.int i0), .val (.int i1), .val (.int i2), .val (.int i3), .val (.int (1 : Int32)), .val (.int q22), .val (.int q23), .unset, .unset, .unset, .unset, .unset, .unset] [(.int i3)])) (fun _ kk => XS.iloadN W23.here hx rfl (hb hby at_20) rfl kk) ?_
    refine W23.callS hx hEL (hw _ (List.mem_of_getElem? (i := 0) rfl)) (hw _ (List.mem_of_getElem? (i := 1) rfl)) (hw _ (List.mem_of_getElem? (i := 2) rfl)) (hw _ (List.mem_of_getElem? (i := 3) rfl)) (by decide +kernel) (argsL := [(.int i3)]) (rest := []) (rm1 l Z a0 hw hEL zc SC hzc fm SF rfm i3 h0 W23.old ) all0 (by decide +kernel) (Wd := 0) (by decide +kernel) (by decide +kernel) (by decide +kernel) all0 rfl (by rw [hml]; rfl) (lenOf pd6 rfl) rfl (by show 2 * 0 + _ ≤ _; exact Nat.le_of_eq rfl) (hb hby at_21) (fun T24 h24 v24 W24 K24 q24 => ?_)
    obtain ⟨q24, rfl, cq24, rfl⟩ := q24
    show Go p e below _ (T24.setTop (mkF m 24 #[.val (.int i0), .val (.int i1), .val (.int i2), .val (.int i3), .val (.int (1 : Int32)), .val (.int q22), .val (.int q23), .unset, .unset, .unset, .unset, .unset, .unset] [(.int q24)]))
    refine Go.of (t' := T24.setTop (mkF m 26 #[.val (.int i0), .val (.int i1), .val (.int i2), .val (.int i3), .val (.int (1 : Int32)), .val (.int q22), .val (.int q23), .val (.int q24), .unset, .unset, .unset, .unset, .unset] [])) (fun _ kk => XS.istore W24.here hx rfl (hb hby at_24) rfl (l' := #[.val (.int i0), .val (.int i1), .val (.int i2), .val (.int i3), .val (.int (1 : Int32)), .val (.int q22), .val (.int q23), .val (.int q24), .unset, .unset, .unset, .unset, .unset]) rfl kk) ?_
    refine Go.of (t' := T24.setTop (mkF m 27 #[.val (.int i0), .val (.int i1), .val (.int i2), .val (.int i3), .val (.int (1 : Int32)), .val (.int q22), .val (.int q23), .val (.int q24), .unset, .unset, .unset, .unset, .unset] [(.int (3 : Int32))])) (fun _ kk => XS.iconst W24.here hx rfl (hb hby at_26) kk) ?_
    refine W24.newP hx (hw _ (List.mem_of_getElem? (i := 4) rfl)) rfl (hb hby at_27) rfl (by decide +kernel) (cap := 3) (by decide +kernel) (by decide +kernel) (by decide +kernel) (by decide +kernel) (fun T25 h25 b25 c25 eb25 gb25 W25 K25 A25 => ?_)
    have V25 : Arv Z h25 b25 c25 .char (3 : Int32) [(.int (0 : Int32)), (.int (0 : Int32)), (.int (0 : Int32))] (.int (0 : Int32)) := A25
    show Go p e below _ (T25.setTop (mkF m 29 #[.val (.int i0), .val (.int i1), .val (.int i2), .val (.int i3), .val (.int (1 : Int32)), .val (.int q22), .val (.int q23), .val (.int q24), .unset, .unset, .unset, .unset, .unset] [(.ref b25)]))
    refine Go.of (t' := T25.setTop (mkF m 30 #[.val (.int i0), .val (.int i1), .val (.int i2), .val (.int i3), .val (.int (1 : Int32)), .val (.int q22), .val (.int q23), .val (.int q24), .unset, .unset, .unset, .unset, .unset] [(.ref b25), (.ref b25)])) (fun _ kk => XS.dup W25.here hx rfl (hb hby at_29) rfl rfl kk) ?_
    refine Go.of (t' := T25.setTop (mkF m 31 #[.val (.int i0), .val (.int i1), .val (.int i2), .val (.int i3), .val (.int (1 : Int32)), .val (.int q22), .val (.int q23), .val (.int q24), .unset, .unset, .unset, .unset, .unset] [(.int (0 : Int32)), (.ref b25), (.ref b25)])) (fun _ kk => XS.iconst W25.here hx rfl (hb hby at_30) kk) ?_
    refine Go.of (t' := T25.setTop (mkF m 33 #[.val (.int i0), .val (.int i1), .val (.int i2), .val (.int i3), .val (.int (1 : Int32)), .val (.int q22), .val (.int q23), .val (.int q24), .unset, .unset, .unset, .unset, .unset] [(.int q22), (.int (0 : Int32)), (.ref b25), (.ref b25)])) (fun _ kk => XS.iload W25.here hx rfl (hb hby at_31) rfl kk) ?_
    refine W25.stC hx V25 ⟨by decide, by decide⟩ 0 rfl (Nat.le_of_ble_eq_true rfl) gb25.1 (Or.inr gb25.2) rfl rfl (hb hby at_33) (fun T26 h26 W26 K26 A26 => ?_)
    have V26 : Arv Z h26 b25 c25 .char (3 : Int32) [(.int q22), (.int (0 : Int32)), (.int (0 : Int32))] (.int (0 : Int32)) := (by rw [(nar_char cq22)] at A26; exact A26)
    show Go p e below _ (T26.setTop (mkF m 34 #[.val (.int i0), .val (.int i1), .val (.int i2), .val (.int i3), .val (.int (1 : Int32)), .val (.int q22), .val (.int q23), .val (.int q24), .unset, .unset, .unset, .unset, .unset] [(.ref b25)]))
    refine Go.of (t' := T26.setTop (mkF m 35 #[.val (.int i0), .val (.int i1), .val (.int i2), .val (.int i3), .val (.int (1 : Int32)), .val (.int q22), .val (.int q23), .val (.int q24), .unset, .unset, .unset, .unset, .unset] [(.ref b25), (.ref b25)])) (fun _ kk => XS.dup W26.here hx rfl (hb hby at_34) rfl rfl kk) ?_
    refine Go.of (t' := T26.setTop (mkF m 36 #[.val (.int i0), .val (.int i1), .val (.int i2), .val (.int i3), .val (.int (1 : Int32)), .val (.int q22), .val (.int q23), .val (.int q24), .unset, .unset, .unset, .unset, .unset] [(.int (1 : Int32)), (.ref b25), (.ref b25)])) (fun _ kk => XS.iconst W26.here hx rfl (hb hby at_35) kk) ?_
    refine Go.of (t' := T26.setTop (mkF m 38 #[.val (.int i0), .val (.int i1), .val (.int i2), .val (.int i3), .val (.int (1 : Int32)), .val (.int q22), .val (.int q23), .val (.int q24), .unset, .unset, .unset, .unset, .unset] [(.int q23), (.int (1 : Int32)), (.ref b25), (.ref b25)])) (fun _ kk => XS.iload W26.here hx rfl (hb hby at_36) rfl kk) ?_
    refine W26.stC hx V26 ⟨by decide, by decide⟩ 1 rfl (Nat.le_of_ble_eq_true rfl) gb25.1 (Or.inr gb25.2) rfl rfl (hb hby at_38) (fun T27 h27 W27 K27 A27 => ?_)
    have V27 : Arv Z h27 b25 c25 .char (3 : Int32) [(.int q22), (.int q23), (.int (0 : Int32))] (.int (0 : Int32)) := (by rw [(nar_char cq23)] at A27; exact A27)
    show Go p e below _ (T27.setTop (mkF m 39 #[.val (.int i0), .val (.int i1), .val (.int i2), .val (.int i3), .val (.int (1 : Int32)), .val (.int q22), .val (.int q23), .val (.int q24), .unset, .unset, .unset, .unset, .unset] [(.ref b25)]))
    refine Go.of (t' := T27.setTop (mkF m 40 #[.val (.int i0), .val (.int i1), .val (.int i2), .val (.int i3), .val (.int (1 : Int32)), .val (.int q22), .val (.int q23), .val (.int q24), .unset, .unset, .unset, .unset, .unset] [(.ref b25), (.ref b25)])) (fun _ kk => XS.dup W27.here hx rfl (hb hby at_39) rfl rfl kk) ?_
    refine Go.of (t' := T27.setTop (mkF m 41 #[.val (.int i0), .val (.int i1), .val (.int i2), .val (.int i3), .val (.int (1 : Int32)), .val (.int q22), .val (.int q23), .val (.int q24), .unset, .unset, .unset, .unset, .unset] [(.int (2 : Int32)), (.ref b25), (.ref b25)])) (fun _ kk => XS.iconst W27.here hx rfl (hb hby at_40) kk) ?_
    refine Go.of (t' := T27.setTop (mkF m 43 #[.val (.int i0), .val (.int i1), .val (.int i2), .val (.int i3), .val (.int (1 : Int32)), .val (.int q22), .val (.int q23), .val (.int q24), .unset, .unset, .unset, .unset, .unset] [(.int q24), (.int (2 : Int32)), (.ref b25), (.ref b25)])) (fun _ kk => XS.iload W27.here hx rfl (hb hby at_41) rfl kk) ?_
    refine W27.stC hx V27 ⟨by decide, by decide⟩ 2 rfl (Nat.le_of_ble_eq_true rfl) gb25.1 (Or.inr gb25.2) rfl rfl (hb hby at_43) (fun T28 h28 W28 K28 A28 => ?_)
    have V28 : Arv Z h28 b25 c25 .char (3 : Int32) [(.int q22), (.int q23), (.int q24)] (.int (0 : Int32)) := (by rw [(nar_char cq24)] at A28; exact A28)
    show Go p e below _ (T28.setTop (mkF m 44 #[.val (.int i0), .val (.int i1), .val (.int i2), .val (.int i3), .val (.int (1 : Int32)), .val (.int q22), .val (.int q23), .val (.int q24), .unset, .unset, .unset, .unset, .unset] [(.ref b25)]))
    refine Go.of (t' := T28.setTop (mkF m 46 #[.val (.int i0), .val (.int i1), .val (.int i2), .val (.int i3), .val (.int (1 : Int32)), .val (.int q22), .val (.int q23), .val (.int q24), .val (.ref b25), .unset, .unset, .unset, .unset] [])) (fun _ kk => XS.astore W28.here hx rfl (hb hby at_44) rfl rfl (l' := #[.val (.int i0), .val (.int i1), .val (.int i2), .val (.int i3), .val (.int (1 : Int32)), .val (.int q22), .val (.int q23), .val (.int q24), .val (.ref b25), .unset, .unset, .unset, .unset]) rfl kk) ?_
    refine Go.of (t' := T28.setTop (mkF m 47 #[.val (.int i0), .val (.int i1), .val (.int i2), .val (.int i3), .val (.int (1 : Int32)), .val (.int q22), .val (.int q23), .val (.int q24), .val (.ref b25), .unset, .unset, .unset, .unset] [(.int (2 : Int32))])) (fun _ kk => XS.iconst W28.here hx rfl (hb hby at_46) kk) ?_
    refine W28.newP hx (hw _ (List.mem_of_getElem? (i := 4) rfl)) rfl (hb hby at_47) rfl (by decide +kernel) (cap := 2) (by decide +kernel) (by decide +kernel) (by decide +kernel) (by decide +kernel) (fun T29 h29 b29 c29 eb29 gb29 W29 K29 A29 => ?_)
    have V29 : Arv Z h29 b29 c29 .char (2 : Int32) [(.int (0 : Int32)), (.int (0 : Int32))] (.int (0 : Int32)) := A29
    show Go p e below _ (T29.setTop (mkF m 49 #[.val (.int i0), .val (.int i1), .val (.int i2), .val (.int i3), .val (.int (1 : Int32)), .val (.int q22), .val (.int q23), .val (.int q24), .val (.ref b25), .unset, .unset, .unset, .unset] [(.ref b29)]))
    refine Go.of (t' := T29.setTop (mkF m 50 #[.val (.int i0), .val (.int i1), .val (.int i2), .val (.int i3), .val (.int (1 : Int32)), .val (.int q22), .val (.int q23), .val (.int q24), .val (.ref b25), .unset, .unset, .unset, .unset] [(.ref b29), (.ref b29)])) (fun _ kk => XS.dup W29.here hx rfl (hb hby at_49) rfl rfl kk) ?_
    refine Go.of (t' := T29.setTop (mkF m 51 #[.val (.int i0), .val (.int i1), .val (.int i2), .val (.int i3), .val (.int (1 : Int32)), .val (.int q22), .val (.int q23), .val (.int q24), .val (.ref b25), .unset, .unset, .unset, .unset] [(.int (0 : Int32)), (.ref b29), (.ref b29)])) (fun _ kk => XS.iconst W29.here hx rfl (hb hby at_50) kk) ?_
    refine Go.of (t' := T29.setTop (mkF m 53 #[.val (.int i0), .val (.int i1), .val (.int i2), .val (.int i3), .val (.int (1 : Int32)), .val (.int q22), .val (.int q23), .val (.int q24), .val (.ref b25), .unset, .unset, .unset, .unset] [(.int q22), (.int (0 : Int32)), (.ref b29), (.ref b29)])) (fun _ kk => XS.iload W29.here hx rfl (hb hby at_51) rfl kk) ?_
    refine W29.stC hx V29 ⟨by decide, by decide⟩ 0 rfl (Nat.le_of_ble_eq_true rfl) gb29.1 (Or.inr gb29.2) rfl rfl (hb hby at_53) (fun T30 h30 W30 K30 A30 => ?_)
    have V30 : Arv Z h30 b29 c29 .char (2 : Int32) [(.int q22), (.int (0 : Int32))] (.int (0 : Int32)) := (by rw [(nar_char cq22)] at A30; exact A30)
    show Go p e below _ (T30.setTop (mkF m 54 #[.val (.int i0), .val (.int i1), .val (.int i2), .val (.int i3), .val (.int (1 : Int32)), .val (.int q22), .val (.int q23), .val (.int q24), .val (.ref b25), .unset, .unset, .unset, .unset] [(.ref b29)]))
    refine Go.of (t' := T30.setTop (mkF m 55 #[.val (.int i0), .val (.int i1), .val (.int i2), .val (.int i3), .val (.int (1 : Int32)), .val (.int q22), .val (.int q23), .val (.int q24), .val (.ref b25), .unset, .unset, .unset, .unset] [(.ref b29), (.ref b29)])) (fun _ kk => XS.dup W30.here hx rfl (hb hby at_54) rfl rfl kk) ?_
    refine Go.of (t' := T30.setTop (mkF m 56 #[.val (.int i0), .val (.int i1), .val (.int i2), .val (.int i3), .val (.int (1 : Int32)), .val (.int q22), .val (.int q23), .val (.int q24), .val (.ref b25), .unset, .unset, .unset, .unset] [(.int (1 : Int32)), (.ref b29), (.ref b29)])) (fun _ kk => XS.iconst W30.here hx rfl (hb hby at_55) kk) ?_
    refine Go.of (t' := T30.setTop (mkF m 58 #[.val (.int i0), .val (.int i1), .val (.int i2), .val (.int i3), .val (.int (1 : Int32)), .val (.int q22), .val (.int q23), .val (.int q24), .val (.ref b25), .unset, .unset, .unset, .unset] [(.int q23), (.int (1 : Int32)), (.ref b29), (.ref b29)])) (fun _ kk => XS.iload W30.here hx rfl (hb hby at_56) rfl kk) ?_
    refine W30.stC hx V30 ⟨by decide, by decide⟩ 1 rfl (Nat.le_of_ble_eq_true rfl) gb29.1 (Or.inr gb29.2) rfl rfl (hb hby at_58) (fun T31 h31 W31 K31 A31 => ?_)
    have V31 : Arv Z h31 b29 c29 .char (2 : Int32) [(.int q22), (.int q23)] (.int (0 : Int32)) := (by rw [(nar_char cq23)] at A31; exact A31)
    show Go p e below _ (T31.setTop (mkF m 59 #[.val (.int i0), .val (.int i1), .val (.int i2), .val (.int i3), .val (.int (1 : Int32)), .val (.int q22), .val (.int q23), .val (.int q24), .val (.ref b25), .unset, .unset, .unset, .unset] [(.ref b29)]))
    refine Go.of (t' := T31.setTop (mkF m 61 #[.val (.int i0), .val (.int i1), .val (.int i2), .val (.int i3), .val (.int (1 : Int32)), .val (.int q22), .val (.int q23), .val (.int q24), .val (.ref b25), .val (.ref b29), .unset, .unset, .unset] [])) (fun _ kk => XS.astore W31.here hx rfl (hb hby at_59) rfl rfl (l' := #[.val (.int i0), .val (.int i1), .val (.int i2), .val (.int i3), .val (.int (1 : Int32)), .val (.int q22), .val (.int q23), .val (.int q24), .val (.ref b25), .val (.ref b29), .unset, .unset, .unset]) rfl kk) ?_
    refine Go.of (t' := T31.setTop (mkF m 63 #[.val (.int i0), .val (.int i1), .val (.int i2), .val (.int i3), .val (.int (1 : Int32)), .val (.int q22), .val (.int q23), .val (.int q24), .val (.ref b25), .val (.ref b29), .unset, .unset, .unset] [(.int (1 : Int32))])) (fun _ kk => XS.iload W31.here hx rfl (hb hby at_61) rfl kk) ?_
    refine Go.of (t' := T31.setTop (mkF m 81 #[.val (.int i0), .val (.int i1), .val (.int i2), .val (.int i3), .val (.int (1 : Int32)), .val (.int q22), .val (.int q23), .val (.int q24), .val (.ref b25), .val (.ref b29), .unset, .unset, .unset] [])) (fun _ kk => XS.ifYes W31.here hx rfl (pc0 := 63) (pc' := 81) rfl (hb hby at_63) rfl (XT.i0_ne_t (by decide +kernel)) (by decide +kernel) (by decide +kernel) kk) ?_
    refine Go.of (t' := T31.setTop (mkF m 83 #[.val (.int i0), .val (.int i1), .val (.int i2), .val (.int i3), .val (.int (1 : Int32)), .val (.int q22), .val (.int q23), .val (.int q24), .val (.ref b25), .val (.ref b29), .unset, .unset, .unset] [(.int (1 : Int32))])) (fun _ kk => XS.iload W31.here hx rfl (hb hby at_81) rfl kk) ?_
    refine Go.of (t' := T31.setTop (mkF m 84 #[.val (.int i0), .val (.int i1), .val (.int i2), .val (.int i3), .val (.int (1 : Int32)), .val (.int q22), .val (.int q23), .val (.int q24), .val (.ref b25), .val (.ref b29), .unset, .unset, .unset] [(.int (1 : Int32)), (.int (1 : Int32))])) (fun _ kk => XS.iconst W31.here hx rfl (hb hby at_83) kk) ?_
    refine Go.of (t' := T31.setTop (mkF m 87 #[.val (.int i0), .val (.int i1), .val (.int i2), .val (.int i3), .val (.int (1 : Int32)), .val (.int q22), .val (.int q23), .val (.int q24), .val (.ref b25), .val (.ref b29), .unset, .unset, .unset] [])) (fun _ kk => XS.icmpNo W31.here hx rfl (hb hby at_84) rfl (XT.ii_ne_f (by decide +kernel)) kk) ?_
    refine Go.of (t' := T31.setTop (mkF m 89 #[.val (.int i0), .val (.int i1), .val (.int i2), .val (.int i3), .val (.int (1 : Int32)), .val (.int q22), .val (.int q23), .val (.int q24), .val (.ref b25), .val (.ref b29), .unset, .unset, .unset] [(.int q22)])) (fun _ kk => XS.iload W31.here hx rfl (hb hby at_87) rfl kk) ?_
    refine W31.callS hx hEL (hw _ (List.mem_of_getElem? (i := 75) rfl)) (hw _ (List.mem_of_getElem? (i := 76) rfl)) (hw _ (List.mem_of_getElem? (i := 7) rfl)) (hw _ (List.mem_of_getElem? (i := 77) rfl)) (by decide +kernel) (argsL := [(.int q22)]) (rest := []) (rm27 l Z a0 hw hEL zc SC hzc fm SF rfm q22 h31 W31.old cq22) all0 (by decide +kernel) (Wd := 0) (by decide +kernel) (by decide +kernel) (by decide +kernel) all0 rfl (by rw [hml]; rfl) (lenOf pd9 rfl) rfl (by show 2 * 0 + _ ≤ _; exact Nat.le_of_eq rfl) (hb hby at_89) (fun T32 h32 v32 W32 K32 q32 => ?_)
    obtain ⟨r32, rfl, lr32, S32⟩ := q32
    have gr32 : n0 ≤ r32 ∧ s.heap.size ≤ r32 := ⟨Nat.le_trans W31.n0le lr32, Nat.le_trans W31.s0le lr32⟩
    have E32 := S32.exa
    show Go p e below _ (T32.setTop (mkF m 92 #[.val (.int i0), .val (.int i1), .val (.int i2), .val (.int i3), .val (.int (1 : Int32)), .val (.int q22), .val (.int q23), .val (.int q24), .val (.ref b25), .val (.ref b29), .unset, .unset, .unset] [(.ref r32)]))
    refine Go.of (t' := T32.setTop (mkF m 94 #[.val (.int i0), .val (.int i1), .val (.int i2), .val (.int i3), .val (.int (1 : Int32)), .val (.int q22), .val (.int q23), .val (.int q24), .val (.ref b25), .val (.ref b29), .val (.ref r32), .unset, .unset] [])) (fun _ kk => XS.astore W32.here hx rfl (hb hby at_92) rfl rfl (l' := #[.val (.int i0), .val (.int i1), .val (.int i2), .val (.int i3), .val (.int (1 : Int32)), .val (.int q22), .val (.int q23), .val (.int q24), .val (.ref b25), .val (.ref b29), .val (.ref r32), .unset, .unset]) rfl kk) ?_
    refine Go.of (t' := T32.setTop (mkF m 140 #[.val (.int i0), .val (.int i1), .val (.int i2), .val (.int i3), .val (.int (1 : Int32)), .val (.int q22), .val (.int q23), .val (.int q24), .val (.ref b25), .val (.ref b29), .val (.ref r32), .unset, .unset] [])) (fun _ kk => XS.goto W32.here hx rfl (pc0 := 94) (pc' := 140) rfl (hb hby at_94) (by decide +kernel) (by decide +kernel) kk) ?_
    refine Go.of (t' := T32.setTop (mkF m 141 #[.val (.int i0), .val (.int i1), .val (.int i2), .val (.int i3), .val (.int (1 : Int32)), .val (.int q22), .val (.int q23), .val (.int q24), .val (.ref b25), .val (.ref b29), .val (.ref r32), .unset, .unset] [.null])) (fun _ kk => XS.aconstNull W32.here hx rfl (hb hby at_140) kk) ?_
    refine Go.of (t' := T32.setTop (mkF m 143 #[.val (.int i0), .val (.int i1), .val (.int i2), .val (.int i3), .val (.int (1 : Int32)), .val (.int q22), .val (.int q23), .val (.int q24), .val (.ref b25), .val (.ref b29), .val (.ref r32), .val .null, .unset] [])) (fun _ kk => XS.astore W32.here hx rfl (hb hby at_141) rfl rfl (l' := #[.val (.int i0), .val (.int i1), .val (.int i2), .val (.int i3), .val (.int (1 : Int32)), .val (.int q22), .val (.int q23), .val (.int q24), .val (.ref b25), .val (.ref b29), .val (.ref r32), .val .null, .unset]) rfl kk) ?_
    refine Go.of (t' := T32.setTop (mkF m 145 #[.val (.int i0), .val (.int i1), .val (.int i2), .val (.int i3), .val (.int (1 : Int32)), .val (.int q22), .val (.int q23), .val (.int q24), .val (.ref b25), .val (.ref b29), .val (.ref r32), .val .null, .unset] [(.int (1 : Int32))])) (fun _ kk => XS.iload W32.here hx rfl (hb hby at_143) rfl kk) ?_
    refine Go.of (t' := T32.setTop (mkF m 146 #[.val (.int i0), .val (.int i1), .val (.int i2), .val (.int i3), .val (.int (1 : Int32)), .val (.int q22), .val (.int q23), .val (.int q24), .val (.ref b25), .val (.ref b29), .val (.ref r32), .val .null, .unset] [(.int (1 : Int32)), (.int (1 : Int32))])) (fun _ kk => XS.iconst W32.here hx rfl (hb hby at_145) kk) ?_
    refine Go.of (t' := T32.setTop (mkF m 149 #[.val (.int i0), .val (.int i1), .val (.int i2), .val (.int i3), .val (.int (1 : Int32)), .val (.int q22), .val (.int q23), .val (.int q24), .val (.ref b25), .val (.ref b29), .val (.ref r32), .val .null, .unset] [])) (fun _ kk => XS.icmpNo W32.here hx rfl (hb hby at_146) rfl (XT.ii_ne_f (by decide +kernel)) kk) ?_
    refine Go.of (t' := T32.setTop (mkF m 151 #[.val (.int i0), .val (.int i1), .val (.int i2), .val (.int i3), .val (.int (1 : Int32)), .val (.int q22), .val (.int q23), .val (.int q24), .val (.ref b25), .val (.ref b29), .val (.ref r32), .val .null, .unset] [(.int q22)])) (fun _ kk => XS.iload W32.here hx rfl (hb hby at_149) rfl kk) ?_
    refine Go.of (t' := T32.setTop (mkF m 153 #[.val (.int i0), .val (.int i1), .val (.int i2), .val (.int i3), .val (.int (1 : Int32)), .val (.int q22), .val (.int q23), .val (.int q24), .val (.ref b25), .val (.ref b29), .val (.ref r32), .val .null, .unset] [(.int (60 : Int32)), (.int q22)])) (fun _ kk => XS.bipush W32.here hx rfl (hb hby at_151) kk) ?_
    by_cases c33 : q22 = (60 : Int32)
    · refine Go.of (t' := T32.setTop (mkF m 156 #[.val (.int i0), .val (.int i1), .val (.int i2), .val (.int i3), .val (.int (1 : Int32)), .val (.int q22), .val (.int q23), .val (.int q24), .val (.ref b25), .val (.ref b29), .val (.ref r32), .val .null, .unset] [])) (fun _ kk => XS.icmpNo W32.here hx rfl (hb hby at_153) rfl (XT.ii_ne_f c33) kk) ?_
      refine W32.getS hx (host := "") (Or.inl (hw _ (List.mem_of_getElem? (i := 88) rfl))) Via.refl OC2 rfl (hb hby at_156) (fun T34 W34 => ?_)
      show Go p e below _ (T34.setTop (mkF m 159 #[.val (.int i0), .val (.int i1), .val (.int i2), .val (.int i3), .val (.int (1 : Int32)), .val (.int q22), .val (.int q23), .val (.int q24), .val (.ref b25), .val (.ref b29), .val (.ref r32), .val .null, .unset] [(.ref e2)]))
      refine Go.of (t' := T34.setTop (mkF m 161 #[.val (.int i0), .val (.int i1), .val (.int i2), .val (.int i3), .val (.int (1 : Int32)), .val (.int q22), .val (.int q23), .val (.int q24), .val (.ref b25), .val (.ref b29), .val (.ref r32), .val (.ref e2), .unset] [])) (fun _ kk => XS.astore W34.here hx rfl (hb hby at_159) rfl rfl (l' := #[.val (.int i0), .val (.int i1), .val (.int i2), .val (.int i3), .val (.int (1 : Int32)), .val (.int q22), .val (.int q23), .val (.int q24), .val (.ref b25), .val (.ref b29), .val (.ref r32), .val (.ref e2), .unset]) rfl kk) ?_
      refine Go.of (t' := T34.setTop (mkF m 249 #[.val (.int i0), .val (.int i1), .val (.int i2), .val (.int i3), .val (.int (1 : Int32)), .val (.int q22), .val (.int q23), .val (.int q24), .val (.ref b25), .val (.ref b29), .val (.ref r32), .val (.ref e2), .unset] [])) (fun _ kk => XS.goto W34.here hx rfl (pc0 := 161) (pc' := 249) rfl (hb hby at_161) (by decide +kernel) (by decide +kernel) kk) ?_
      refine Go.of (t' := T34.setTop (mkF m 251 #[.val (.int i0), .val (.int i1), .val (.int i2), .val (.int i3), .val (.int (1 : Int32)), .val (.int q22), .val (.int q23), .val (.int q24), .val (.ref b25), .val (.ref b29), .val (.ref r32), .val (.ref e2), .unset] [(.ref r32)])) (fun _ kk => XS.aload W34.here hx rfl (hb hby at_249) rfl rfl kk) ?_
      refine W34.callS hx hEL (hw _ (List.mem_of_getElem? (i := 26) rfl)) (hw _ (List.mem_of_getElem? (i := 27) rfl)) (hw _ (List.mem_of_getElem? (i := 28) rfl)) (hw _ (List.mem_of_getElem? (i := 29) rfl)) (by decide +kernel) (argsL := [(.ref r32)]) (rest := []) (rm4 l Z a0 hw hEL zc SC hzc fm SF rfm r32 [q22] e0 e1 e2 e3 e4 e5 s0 s1 s2 s3 s4 s5 av kv h32 W34.old OE0 OE1 OE2 OE3 OE4 OE5 OF0 OF1 OF2 OF3 OF4 OF5 OS0 OS1 OS2 OS3 OS4 OS5 OA OV OT OX OC0 OC1 OC2 OC3 OC4 OC5 S32) all0 (by decide +kernel) (Wd := 0) (by decide +kernel) (by decide +kernel) (by decide +kernel) all0 rfl (by rw [hml]; rfl) (lenOf pd8 rfl) rfl (by show 2 * 0 + _ ≤ _; exact Nat.le_of_eq rfl) (hb hby at_251) (fun T35 h35 v35 W35 K35 q35 => ?_)
      have ew35 : wrOf e0 e1 e2 e3 e4 e5 [q22] = (.ref e2) := by simp [wrOf, c33]
      rw [ew35] at q35
      subst q35
      show Go p e below _ (T35.setTop (mkF m 254 #[.val (.int i0), .val (.int i1), .val (.int i2), .val (.int i3), .val (.int (1 : Int32)), .val (.int q22), .val (.int q23), .val (.int q24), .val (.ref b25), .val (.ref b29), .val (.ref r32), .val (.ref e2), .unset] [(.ref e2)]))
      refine Go.of (t' := T35.setTop (mkF m 256 #[.val (.int i0), .val (.int i1), .val (.int i2), .val (.int i3), .val (.int (1 : Int32)), .val (.int q22), .val (.int q23), .val (.int q24), .val (.ref b25), .val (.ref b29), .val (.ref r32), .val (.ref e2), .val (.ref e2)] [])) (fun _ kk => XS.astore W35.here hx rfl (hb hby at_254) rfl rfl (l' := #[.val (.int i0), .val (.int i1), .val (.int i2), .val (.int i3), .val (.int (1 : Int32)), .val (.int q22), .val (.int q23), .val (.int q24), .val (.ref b25), .val (.ref b29), .val (.ref r32), .val (.ref e2), .val (.ref e2)]) rfl kk) ?_
      refine Go.of (t' := T35.setTop (mkF m 258 #[.val (.int i0), .val (.int i1), .val (.int i2), .val (.int i3), .val (.int (1 : Int32)), .val (.int q22), .val (.int q23), .val (.int q24), .val (.ref b25), .val (.ref b29), .val (.ref r32), .val (.ref e2), .val (.ref e2)] [(.ref e2)])) (fun _ kk => XS.aload W35.here hx rfl (hb hby at_256) rfl rfl kk) ?_
      refine Go.of (t' := T35.setTop (mkF m 260 #[.val (.int i0), .val (.int i1), .val (.int i2), .val (.int i3), .val (.int (1 : Int32)), .val (.int q22), .val (.int q23), .val (.int q24), .val (.ref b25), .val (.ref b29), .val (.ref r32), .val (.ref e2), .val (.ref e2)] [(.ref e2), (.ref e2)])) (fun _ kk => XS.aload W35.here hx rfl (hb hby at_258) rfl rfl kk) ?_
      refine Go.of (t' := T35.setTop (mkF m 263 #[.val (.int i0), .val (.int i1), .val (.int i2), .val (.int i3), .val (.int (1 : Int32)), .val (.int q22), .val (.int q23), .val (.int q24), .val (.ref b25), .val (.ref b29), .val (.ref r32), .val (.ref e2), .val (.ref e2)] [])) (fun _ kk => XT.acmpNo (g := (mkF m 260 #[.val (.int i0), .val (.int i1), .val (.int i2), .val (.int i3), .val (.int (1 : Int32)), .val (.int q22), .val (.int q23), .val (.int q24), .val (.ref b25), .val (.ref b29), .val (.ref r32), .val (.ref e2), .val (.ref e2)] [(.ref e2), (.ref e2)])) W35.here hx rfl (hb hby at_260) (x := (.ref e2)) (y := (.ref e2)) (rest := []) rfl rfl rfl (XT.aa_ne_f (x := (.ref e2)) (y := (.ref e2)) rfl) kk) ?_
      refine Go.of (t' := T35.setTop (mkF m 264 #[.val (.int i0), .val (.int i1), .val (.int i2), .val (.int i3), .val (.int (1 : Int32)), .val (.int q22), .val (.int q23), .val (.int q24), .val (.ref b25), .val (.ref b29), .val (.ref r32), .val (.ref e2), .val (.ref e2)] [(.int (1 : Int32))])) (fun _ kk => XS.iconst W35.here hx rfl (hb hby at_263) kk) ?_
      refine Go.of (t' := T35.setTop (mkF m 268 #[.val (.int i0), .val (.int i1), .val (.int i2), .val (.int i3), .val (.int (1 : Int32)), .val (.int q22), .val (.int q23), .val (.int q24), .val (.ref b25), .val (.ref b29), .val (.ref r32), .val (.ref e2), .val (.ref e2)] [(.int (1 : Int32))])) (fun _ kk => XS.goto W35.here hx rfl (pc0 := 264) (pc' := 268) rfl (hb hby at_264) (by decide +kernel) (by decide +kernel) kk) ?_
      exact W35.retI hx hEL hs hlk (by decide +kernel) (by decide +kernel) hret (by simp) rfl (hb hby at_268) rfl
    · refine Go.of (t' := T32.setTop (mkF m 164 #[.val (.int i0), .val (.int i1), .val (.int i2), .val (.int i3), .val (.int (1 : Int32)), .val (.int q22), .val (.int q23), .val (.int q24), .val (.ref b25), .val (.ref b29), .val (.ref r32), .val .null, .unset] [])) (fun _ kk => XS.icmpYes W32.here hx rfl (pc0 := 153) (pc' := 164) rfl (hb hby at_153) rfl (XT.ii_ne_t c33) (by decide +kernel) (by decide +kernel) kk) ?_
      refine Go.of (t' := T32.setTop (mkF m 166 #[.val (.int i0), .val (.int i1), .val (.int i2), .val (.int i3), .val (.int (1 : Int32)), .val (.int q22), .val (.int q23), .val (.int q24), .val (.ref b25), .val (.ref b29), .val (.ref r32), .val .null, .unset] [(.int q22)])) (fun _ kk => XS.iload W32.here hx rfl (hb hby at_164) rfl kk) ?_
      refine Go.of (t' := T32.setTop (mkF m 168 #[.val (.int i0), .val (.int i1), .val (.int i2), .val (.int i3), .val (.int (1 : Int32)), .val (.int q22), .val (.int q23), .val (.int q24), .val (.ref b25), .val (.ref b29), .val (.ref r32), .val .null, .unset] [(.int (62 : Int32)), (.int q22)])) (fun _ kk => XS.bipush W32.here hx rfl (hb hby at_166) kk) ?_
      by_cases c36 : q22 = (62 : Int32)
      · refine Go.of (t' := T32.setTop (mkF m 171 #[.val (.int i0), .val (.int i1), .val (.int i2), .val (.int i3), .val (.int (1 : Int32)), .val (.int q22), .val (.int q23), .val (.int q24), .val (.ref b25), .val (.ref b29), .val (.ref r32), .val .null, .unset] [])) (fun _ kk => XS.icmpNo W32.here hx rfl (hb hby at_168) rfl (XT.ii_ne_f c36) kk) ?_
        refine W32.getS hx (host := "") (Or.inl (hw _ (List.mem_of_getElem? (i := 89) rfl))) Via.refl OC4 rfl (hb hby at_171) (fun T37 W37 => ?_)
        show Go p e below _ (T37.setTop (mkF m 174 #[.val (.int i0), .val (.int i1), .val (.int i2), .val (.int i3), .val (.int (1 : Int32)), .val (.int q22), .val (.int q23), .val (.int q24), .val (.ref b25), .val (.ref b29), .val (.ref r32), .val .null, .unset] [(.ref e4)]))
        refine Go.of (t' := T37.setTop (mkF m 176 #[.val (.int i0), .val (.int i1), .val (.int i2), .val (.int i3), .val (.int (1 : Int32)), .val (.int q22), .val (.int q23), .val (.int q24), .val (.ref b25), .val (.ref b29), .val (.ref r32), .val (.ref e4), .unset] [])) (fun _ kk => XS.astore W37.here hx rfl (hb hby at_174) rfl rfl (l' := #[.val (.int i0), .val (.int i1), .val (.int i2), .val (.int i3), .val (.int (1 : Int32)), .val (.int q22), .val (.int q23), .val (.int q24), .val (.ref b25), .val (.ref b29), .val (.ref r32), .val (.ref e4), .unset]) rfl kk) ?_
        refine Go.of (t' := T37.setTop (mkF m 249 #[.val (.int i0), .val (.int i1), .val (.int i2), .val (.int i3), .val (.int (1 : Int32)), .val (.int q22), .val (.int q23), .val (.int q24), .val (.ref b25), .val (.ref b29), .val (.ref r32), .val (.ref e4), .unset] [])) (fun _ kk => XS.goto W37.here hx rfl (pc0 := 176) (pc' := 249) rfl (hb hby at_176) (by decide +kernel) (by decide +kernel) kk) ?_
        refine Go.of (t' := T37.setTop (mkF m 251 #[.val (.int i0), .val (.int i1), .val (.int i2), .val (.int i3), .val (.int (1 : Int32)), .val (.int q22), .val (.int q23), .val (.int q24), .val (.ref b25), .val (.ref b29), .val (.ref r32), .val (.ref e4), .unset] [(.ref r32)])) (fun _ kk => XS.aload W37.here hx rfl (hb hby at_249) rfl rfl kk) ?_
        refine W37.callS hx hEL (hw _ (List.mem_of_getElem? (i := 26) rfl)) (hw _ (List.mem_of_getElem? (i := 27) rfl)) (hw _ (List.mem_of_getElem? (i := 28) rfl)) (hw _ (List.mem_of_getElem? (i := 29) rfl)) (by decide +kernel) (argsL := [(.ref r32)]) (rest := []) (rm4 l Z a0 hw hEL zc SC hzc fm SF rfm r32 [q22] e0 e1 e2 e3 e4 e5 s0 s1 s2 s3 s4 s5 av kv h32 W37.old OE0 OE1 OE2 OE3 OE4 OE5 OF0 OF1 OF2 OF3 OF4 OF5 OS0 OS1 OS2 OS3 OS4 OS5 OA OV OT OX OC0 OC1 OC2 OC3 OC4 OC5 S32) all0 (by decide +kernel) (Wd := 0) (by decide +kernel) (by decide +kernel) (by decide +kernel) all0 rfl (by rw [hml]; rfl) (lenOf pd8 rfl) rfl (by show 2 * 0 + _ ≤ _; exact Nat.le_of_eq rfl) (hb hby at_251) (fun T38 h38 v38 W38 K38 q38 => ?_)
        have ew38 : wrOf e0 e1 e2 e3 e4 e5 [q22] = (.ref e4) := by simp [wrOf, c33, (Ne.symm c33), c36]
        rw [ew38] at q38
        subst q38
        show Go p e below _ (T38.setTop (mkF m 254 #[.val (.int i0), .val (.int i1), .val (.int i2), .val (.int i3), .val (.int (1 : Int32)), .val (.int q22), .val (.int q23), .val (.int q24), .val (.ref b25), .val (.ref b29), .val (.ref r32), .val (.ref e4), .unset] [(.ref e4)]))
        refine Go.of (t' := T38.setTop (mkF m 256 #[.val (.int i0), .val (.int i1), .val (.int i2), .val (.int i3), .val (.int (1 : Int32)), .val (.int q22), .val (.int q23), .val (.int q24), .val (.ref b25), .val (.ref b29), .val (.ref r32), .val (.ref e4), .val (.ref e4)] [])) (fun _ kk => XS.astore W38.here hx rfl (hb hby at_254) rfl rfl (l' := #[.val (.int i0), .val (.int i1), .val (.int i2), .val (.int i3), .val (.int (1 : Int32)), .val (.int q22), .val (.int q23), .val (.int q24), .val (.ref b25), .val (.ref b29), .val (.ref r32), .val (.ref e4), .val (.ref e4)]) rfl kk) ?_
        refine Go.of (t' := T38.setTop (mkF m 258 #[.val (.int i0), .val (.int i1), .val (.int i2), .val (.int i3), .val (.int (1 : Int32)), .val (.int q22), .val (.int q23), .val (.int q24), .val (.ref b25), .val (.ref b29), .val (.ref r32), .val (.ref e4), .val (.ref e4)] [(.ref e4)])) (fun _ kk => XS.aload W38.here hx rfl (hb hby at_256) rfl rfl kk) ?_
        refine Go.of (t' := T38.setTop (mkF m 260 #[.val (.int i0), .val (.int i1), .val (.int i2), .val (.int i3), .val (.int (1 : Int32)), .val (.int q22), .val (.int q23), .val (.int q24), .val (.ref b25), .val (.ref b29), .val (.ref r32), .val (.ref e4), .val (.ref e4)] [(.ref e4), (.ref e4)])) (fun _ kk => XS.aload W38.here hx rfl (hb hby at_258) rfl rfl kk) ?_
        refine Go.of (t' := T38.setTop (mkF m 263 #[.val (.int i0), .val (.int i1), .val (.int i2), .val (.int i3), .val (.int (1 : Int32)), .val (.int q22), .val (.int q23), .val (.int q24), .val (.ref b25), .val (.ref b29), .val (.ref r32), .val (.ref e4), .val (.ref e4)] [])) (fun _ kk => XT.acmpNo (g := (mkF m 260 #[.val (.int i0), .val (.int i1), .val (.int i2), .val (.int i3), .val (.int (1 : Int32)), .val (.int q22), .val (.int q23), .val (.int q24), .val (.ref b25), .val (.ref b29), .val (.ref r32), .val (.ref e4), .val (.ref e4)] [(.ref e4), (.ref e4)])) W38.here hx rfl (hb hby at_260) (x := (.ref e4)) (y := (.ref e4)) (rest := []) rfl rfl rfl (XT.aa_ne_f (x := (.ref e4)) (y := (.ref e4)) rfl) kk) ?_
        refine Go.of (t' := T38.setTop (mkF m 264 #[.val (.int i0), .val (.int i1), .val (.int i2), .val (.int i3), .val (.int (1 : Int32)), .val (.int q22), .val (.int q23), .val (.int q24), .val (.ref b25), .val (.ref b29), .val (.ref r32), .val (.ref e4), .val (.ref e4)] [(.int (1 : Int32))])) (fun _ kk => XS.iconst W38.here hx rfl (hb hby at_263) kk) ?_
        refine Go.of (t' := T38.setTop (mkF m 268 #[.val (.int i0), .val (.int i1), .val (.int i2), .val (.int i3), .val (.int (1 : Int32)), .val (.int q22), .val (.int q23), .val (.int q24), .val (.ref b25), .val (.ref b29), .val (.ref r32), .val (.ref e4), .val (.ref e4)] [(.int (1 : Int32))])) (fun _ kk => XS.goto W38.here hx rfl (pc0 := 264) (pc' := 268) rfl (hb hby at_264) (by decide +kernel) (by decide +kernel) kk) ?_
        exact W38.retI hx hEL hs hlk (by decide +kernel) (by decide +kernel) hret (by simp) rfl (hb hby at_268) rfl
      · refine Go.of (t' := T32.setTop (mkF m 249 #[.val (.int i0), .val (.int i1), .val (.int i2), .val (.int i3), .val (.int (1 : Int32)), .val (.int q22), .val (.int q23), .val (.int q24), .val (.ref b25), .val (.ref b29), .val (.ref r32), .val .null, .unset] [])) (fun _ kk => XS.icmpYes W32.here hx rfl (pc0 := 168) (pc' := 249) rfl (hb hby at_168) rfl (XT.ii_ne_t c36) (by decide +kernel) (by decide +kernel) kk) ?_
        refine Go.of (t' := T32.setTop (mkF m 251 #[.val (.int i0), .val (.int i1), .val (.int i2), .val (.int i3), .val (.int (1 : Int32)), .val (.int q22), .val (.int q23), .val (.int q24), .val (.ref b25), .val (.ref b29), .val (.ref r32), .val .null, .unset] [(.ref r32)])) (fun _ kk => XS.aload W32.here hx rfl (hb hby at_249) rfl rfl kk) ?_
        refine W32.callS hx hEL (hw _ (List.mem_of_getElem? (i := 26) rfl)) (hw _ (List.mem_of_getElem? (i := 27) rfl)) (hw _ (List.mem_of_getElem? (i := 28) rfl)) (hw _ (List.mem_of_getElem? (i := 29) rfl)) (by decide +kernel) (argsL := [(.ref r32)]) (rest := []) (rm4 l Z a0 hw hEL zc SC hzc fm SF rfm r32 [q22] e0 e1 e2 e3 e4 e5 s0 s1 s2 s3 s4 s5 av kv h32 W32.old OE0 OE1 OE2 OE3 OE4 OE5 OF0 OF1 OF2 OF3 OF4 OF5 OS0 OS1 OS2 OS3 OS4 OS5 OA OV OT OX OC0 OC1 OC2 OC3 OC4 OC5 S32) all0 (by decide +kernel) (Wd := 0) (by decide +kernel) (by decide +kernel) (by decide +kernel) all0 rfl (by rw [hml]; rfl) (lenOf pd8 rfl) rfl (by show 2 * 0 + _ ≤ _; exact Nat.le_of_eq rfl) (hb hby at_251) (fun T39 h39 v39 W39 K39 q39 => ?_)
        have ew39 : wrOf e0 e1 e2 e3 e4 e5 [q22] = .null := by simp [wrOf, c33, (Ne.symm c33), c36, (Ne.symm c36)]
        rw [ew39] at q39
        subst q39
        show Go p e below _ (T39.setTop (mkF m 254 #[.val (.int i0), .val (.int i1), .val (.int i2), .val (.int i3), .val (.int (1 : Int32)), .val (.int q22), .val (.int q23), .val (.int q24), .val (.ref b25), .val (.ref b29), .val (.ref r32), .val .null, .unset] [.null]))
        refine Go.of (t' := T39.setTop (mkF m 256 #[.val (.int i0), .val (.int i1), .val (.int i2), .val (.int i3), .val (.int (1 : Int32)), .val (.int q22), .val (.int q23), .val (.int q24), .val (.ref b25), .val (.ref b29), .val (.ref r32), .val .null, .val .null] [])) (fun _ kk => XS.astore W39.here hx rfl (hb hby at_254) rfl rfl (l' := #[.val (.int i0), .val (.int i1), .val (.int i2), .val (.int i3), .val (.int (1 : Int32)), .val (.int q22), .val (.int q23), .val (.int q24), .val (.ref b25), .val (.ref b29), .val (.ref r32), .val .null, .val .null]) rfl kk) ?_
        refine Go.of (t' := T39.setTop (mkF m 258 #[.val (.int i0), .val (.int i1), .val (.int i2), .val (.int i3), .val (.int (1 : Int32)), .val (.int q22), .val (.int q23), .val (.int q24), .val (.ref b25), .val (.ref b29), .val (.ref r32), .val .null, .val .null] [.null])) (fun _ kk => XS.aload W39.here hx rfl (hb hby at_256) rfl rfl kk) ?_
        refine Go.of (t' := T39.setTop (mkF m 260 #[.val (.int i0), .val (.int i1), .val (.int i2), .val (.int i3), .val (.int (1 : Int32)), .val (.int q22), .val (.int q23), .val (.int q24), .val (.ref b25), .val (.ref b29), .val (.ref r32), .val .null, .val .null] [.null, .null])) (fun _ kk => XS.aload W39.here hx rfl (hb hby at_258) rfl rfl kk) ?_
        refine Go.of (t' := T39.setTop (mkF m 263 #[.val (.int i0), .val (.int i1), .val (.int i2), .val (.int i3), .val (.int (1 : Int32)), .val (.int q22), .val (.int q23), .val (.int q24), .val (.ref b25), .val (.ref b29), .val (.ref r32), .val .null, .val .null] [])) (fun _ kk => XT.acmpNo (g := (mkF m 260 #[.val (.int i0), .val (.int i1), .val (.int i2), .val (.int i3), .val (.int (1 : Int32)), .val (.int q22), .val (.int q23), .val (.int q24), .val (.ref b25), .val (.ref b29), .val (.ref r32), .val .null, .val .null] [.null, .null])) W39.here hx rfl (hb hby at_260) (x := .null) (y := .null) (rest := []) rfl rfl rfl (XT.aa_ne_f (x := .null) (y := .null) rfl) kk) ?_
        refine Go.of (t' := T39.setTop (mkF m 264 #[.val (.int i0), .val (.int i1), .val (.int i2), .val (.int i3), .val (.int (1 : Int32)), .val (.int q22), .val (.int q23), .val (.int q24), .val (.ref b25), .val (.ref b29), .val (.ref r32), .val .null, .val .null] [(.int (1 : Int32))])) (fun _ kk => XS.iconst W39.here hx rfl (hb hby at_263) kk) ?_
        refine Go.of (t' := T39.setTop (mkF m 268 #[.val (.int i0), .val (.int i1), .val (.int i2), .val (.int i3), .val (.int (1 : Int32)), .val (.int q22), .val (.int q23), .val (.int q24), .val (.ref b25), .val (.ref b29), .val (.ref r32), .val .null, .val .null] [(.int (1 : Int32))])) (fun _ kk => XS.goto W39.here hx rfl (pc0 := 264) (pc' := 268) rfl (hb hby at_264) (by decide +kernel) (by decide +kernel) kk) ?_
        exact W39.retI hx hEL hs hlk (by decide +kernel) (by decide +kernel) hret (by simp) rfl (hb hby at_268) rfl
  · rw [z1]
    show Go p e below _ (T0.setTop (mkF m 6 #[.val (.int i0), .val (.int i1), .val (.int i2), .val (.int i3), .unset, .unset, .unset, .unset, .unset, .unset, .unset, .unset, .unset] [(.int (2 : Int32))]))
    refine Go.of (t' := T0.setTop (mkF m 8 #[.val (.int i0), .val (.int i1), .val (.int i2), .val (.int i3), .val (.int (2 : Int32)), .unset, .unset, .unset, .unset, .unset, .unset, .unset, .unset] [])) (fun _ kk => XS.istore W0.here hx rfl (hb hby at_6) rfl (l' := #[.val (.int i0), .val (.int i1), .val (.int i2), .val (.int i3), .val (.int (2 : Int32)), .unset, .unset, .unset, .unset, .unset, .unset, .unset, .unset]) rfl kk) ?_
    refine Go.of (t' := T0.setTop (mkF m 9 #[.val (.int i0), .val (.int i1), .val (.int i2), .val (.int i3), .val (.int (2 : Int32)), .unset, .unset, .unset, .unset, .unset, .unset, .unset, .unset] [(.int i1)])) (fun _ kk => XS.iloadN W0.here hx rfl (hb hby at_8) rfl kk) ?_
    refine W0.callS hx hEL (hw _ (List.mem_of_getElem? (i := 0) rfl)) (hw _ (List.mem_of_getElem? (i := 1) rfl)) (hw _ (List.mem_of_getElem? (i := 2) rfl)) (hw _ (List.mem_of_getElem? (i := 3) rfl)) (by decide +kernel) (argsL := [(.int i1)]) (rest := []) (rm1 l Z a0 hw hEL zc SC hzc fm SF rfm i1 h0 W0.old ) all0 (by decide +kernel) (Wd := 0) (by decide +kernel) (by decide +kernel) (by decide +kernel) all0 rfl (by rw [hml]; rfl) (lenOf pd6 rfl) rfl (by show 2 * 0 + _ ≤ _; exact Nat.le_of_eq rfl) (hb hby at_9) (fun T40 h40 v40 W40 K40 q40 => ?_)
    obtain ⟨q40, rfl, cq40, rfl⟩ := q40
    show Go p e below _ (T40.setTop (mkF m 12 #[.val (.int i0), .val (.int i1), .val (.int i2), .val (.int i3), .val (.int (2 : Int32)), .unset, .unset, .unset, .unset, .unset, .unset, .unset, .unset] [(.int q40)]))
    refine Go.of (t' := T40.setTop (mkF m 14 #[.val (.int i0), .val (.int i1), .val (.int i2), .val (.int i3), .val (.int (2 : Int32)), .val (.int q40), .unset, .unset, .unset, .unset, .unset, .unset, .unset] [])) (fun _ kk => XS.istore W40.here hx rfl (hb hby at_12) rfl (l' := #[.val (.int i0), .val (.int i1), .val (.int i2), .val (.int i3), .val (.int (2 : Int32)), .val (.int q40), .unset, .unset, .unset, .unset, .unset, .unset, .unset]) rfl kk) ?_
    refine Go.of (t' := T40.setTop (mkF m 15 #[.val (.int i0), .val (.int i1), .val (.int i2), .val (.int i3), .val (.int (2 : Int32)), .val (.int q40), .unset, .unset, .unset, .unset, .unset, .unset, .unset] [(.int i2)])) (fun _ kk => XS.iloadN W40.here hx rfl (hb hby at_14) rfl kk) ?_
    refine W40.callS hx hEL (hw _ (List.mem_of_getElem? (i := 0) rfl)) (hw _ (List.mem_of_getElem? (i := 1) rfl)) (hw _ (List.mem_of_getElem? (i := 2) rfl)) (hw _ (List.mem_of_getElem? (i := 3) rfl)) (by decide +kernel) (argsL := [(.int i2)]) (rest := []) (rm1 l Z a0 hw hEL zc SC hzc fm SF rfm i2 h0 W40.old ) all0 (by decide +kernel) (Wd := 0) (by decide +kernel) (by decide +kernel) (by decide +kernel) all0 rfl (by rw [hml]; rfl) (lenOf pd6 rfl) rfl (by show 2 * 0 + _ ≤ _; exact Nat.le_of_eq rfl) (hb hby at_15) (fun T41 h41 v41 W41 K41 q41 => ?_)
    obtain ⟨q41, rfl, cq41, rfl⟩ := q41
    show Go p e below _ (T41.setTop (mkF m 18 #[.val (.int i0), .val (.int i1), .val (.int i2), .val (.int i3), .val (.int (2 : Int32)), .val (.int q40), .unset, .unset, .unset, .unset, .unset, .unset, .unset] [(.int q41)]))
    refine Go.of (t' := T41.setTop (mkF m 20 #[.val (.int i0), .val (.int i1), .val (.int i2), .val (.int i3), .val (.int (2 : Int32)), .val (.int q40), .val (.int q41), .unset, .unset, .unset, .unset, .unset, .unset] [])) (fun _ kk => XS.istore W41.here hx rfl (hb hby at_18) rfl (l' := #[.val (.int i0), .val (.int i1), .val (.int i2), .val (.int i3), .val (.int (2 : Int32)), .val (.int q40), .val (.int q41), .unset, .unset, .unset, .unset, .unset, .unset]) rfl kk) ?_
    refine Go.of (t' := T41.setTop (mkF m 21 #[.val (.int i0), .val (.int i1), .val (.int i2), .val (.int i3), .val (.int (2 : Int32)), .val (.int q40), .val (.int q41), .unset, .unset, .unset, .unset, .unset, .unset] [(.int i3)])) (fun _ kk => XS.iloadN W41.here hx rfl (hb hby at_20) rfl kk) ?_
    refine W41.callS hx hEL (hw _ (List.mem_of_getElem? (i := 0) rfl)) (hw _ (List.mem_of_getElem? (i := 1) rfl)) (hw _ (List.mem_of_getElem? (i := 2) rfl)) (hw _ (List.mem_of_getElem? (i := 3) rfl)) (by decide +kernel) (argsL := [(.int i3)]) (rest := []) (rm1 l Z a0 hw hEL zc SC hzc fm SF rfm i3 h0 W41.old ) all0 (by decide +kernel) (Wd := 0) (by decide +kernel) (by decide +kernel) (by decide +kernel) all0 rfl (by rw [hml]; rfl) (lenOf pd6 rfl) rfl (by show 2 * 0 + _ ≤ _; exact Nat.le_of_eq rfl) (hb hby at_21) (fun T42 h42 v42 W42 K42 q42 => ?_)
    obtain ⟨q42, rfl, cq42, rfl⟩ := q42
    show Go p e below _ (T42.setTop (mkF m 24 #[.val (.int i0), .val (.int i1), .val (.int i2), .val (.int i3), .val (.int (2 : Int32)), .val (.int q40), .val (.int q41), .unset, .unset, .unset, .unset, .unset, .unset] [(.int q42)]))
    refine Go.of (t' := T42.setTop (mkF m 26 #[.val (.int i0), .val (.int i1), .val (.int i2), .val (.int i3), .val (.int (2 : Int32)), .val (.int q40), .val (.int q41), .val (.int q42), .unset, .unset, .unset, .unset, .unset] [])) (fun _ kk => XS.istore W42.here hx rfl (hb hby at_24) rfl (l' := #[.val (.int i0), .val (.int i1), .val (.int i2), .val (.int i3), .val (.int (2 : Int32)), .val (.int q40), .val (.int q41), .val (.int q42), .unset, .unset, .unset, .unset, .unset]) rfl kk) ?_
    refine Go.of (t' := T42.setTop (mkF m 27 #[.val (.int i0), .val (.int i1), .val (.int i2), .val (.int i3), .val (.int (2 : Int32)), .val (.int q40), .val (.int q41), .val (.int q42), .unset, .unset, .unset, .unset, .unset] [(.int (3 : Int32))])) (fun _ kk => XS.iconst W42.here hx rfl (hb hby at_26) kk) ?_
    refine W42.newP hx (hw _ (List.mem_of_getElem? (i := 4) rfl)) rfl (hb hby at_27) rfl (by decide +kernel) (cap := 3) (by decide +kernel) (by decide +kernel) (by decide +kernel) (by decide +kernel) (fun T43 h43 b43 c43 eb43 gb43 W43 K43 A43 => ?_)
    have V43 : Arv Z h43 b43 c43 .char (3 : Int32) [(.int (0 : Int32)), (.int (0 : Int32)), (.int (0 : Int32))] (.int (0 : Int32)) := A43
    show Go p e below _ (T43.setTop (mkF m 29 #[.val (.int i0), .val (.int i1), .val (.int i2), .val (.int i3), .val (.int (2 : Int32)), .val (.int q40), .val (.int q41), .val (.int q42), .unset, .unset, .unset, .unset, .unset] [(.ref b43)]))
    refine Go.of (t' := T43.setTop (mkF m 30 #[.val (.int i0), .val (.int i1), .val (.int i2), .val (.int i3), .val (.int (2 : Int32)), .val (.int q40), .val (.int q41), .val (.int q42), .unset, .unset, .unset, .unset, .unset] [(.ref b43), (.ref b43)])) (fun _ kk => XS.dup W43.here hx rfl (hb hby at_29) rfl rfl kk) ?_
    refine Go.of (t' := T43.setTop (mkF m 31 #[.val (.int i0), .val (.int i1), .val (.int i2), .val (.int i3), .val (.int (2 : Int32)), .val (.int q40), .val (.int q41), .val (.int q42), .unset, .unset, .unset, .unset, .unset] [(.int (0 : Int32)), (.ref b43), (.ref b43)])) (fun _ kk => XS.iconst W43.here hx rfl (hb hby at_30) kk) ?_
    refine Go.of (t' := T43.setTop (mkF m 33 #[.val (.int i0), .val (.int i1), .val (.int i2), .val (.int i3), .val (.int (2 : Int32)), .val (.int q40), .val (.int q41), .val (.int q42), .unset, .unset, .unset, .unset, .unset] [(.int q40), (.int (0 : Int32)), (.ref b43), (.ref b43)])) (fun _ kk => XS.iload W43.here hx rfl (hb hby at_31) rfl kk) ?_
    refine W43.stC hx V43 ⟨by decide, by decide⟩ 0 rfl (Nat.le_of_ble_eq_true rfl) gb43.1 (Or.inr gb43.2) rfl rfl (hb hby at_33) (fun T44 h44 W44 K44 A44 => ?_)
    have V44 : Arv Z h44 b43 c43 .char (3 : Int32) [(.int q40), (.int (0 : Int32)), (.int (0 : Int32))] (.int (0 : Int32)) := (by rw [(nar_char cq40)] at A44; exact A44)
    show Go p e below _ (T44.setTop (mkF m 34 #[.val (.int i0), .val (.int i1), .val (.int i2), .val (.int i3), .val (.int (2 : Int32)), .val (.int q40), .val (.int q41), .val (.int q42), .unset, .unset, .unset, .unset, .unset] [(.ref b43)]))
    refine Go.of (t' := T44.setTop (mkF m 35 #[.val (.int i0), .val (.int i1), .val (.int i2), .val (.int i3), .val (.int (2 : Int32)), .val (.int q40), .val (.int q41), .val (.int q42), .unset, .unset, .unset, .unset, .unset] [(.ref b43), (.ref b43)])) (fun _ kk => XS.dup W44.here hx rfl (hb hby at_34) rfl rfl kk) ?_
    refine Go.of (t' := T44.setTop (mkF m 36 #[.val (.int i0), .val (.int i1), .val (.int i2), .val (.int i3), .val (.int (2 : Int32)), .val (.int q40), .val (.int q41), .val (.int q42), .unset, .unset, .unset, .unset, .unset] [(.int (1 : Int32)), (.ref b43), (.ref b43)])) (fun _ kk => XS.iconst W44.here hx rfl (hb hby at_35) kk) ?_
    refine Go.of (t' := T44.setTop (mkF m 38 #[.val (.int i0), .val (.int i1), .val (.int i2), .val (.int i3), .val (.int (2 : Int32)), .val (.int q40), .val (.int q41), .val (.int q42), .unset, .unset, .unset, .unset, .unset] [(.int q41), (.int (1 : Int32)), (.ref b43), (.ref b43)])) (fun _ kk => XS.iload W44.here hx rfl (hb hby at_36) rfl kk) ?_
    refine W44.stC hx V44 ⟨by decide, by decide⟩ 1 rfl (Nat.le_of_ble_eq_true rfl) gb43.1 (Or.inr gb43.2) rfl rfl (hb hby at_38) (fun T45 h45 W45 K45 A45 => ?_)
    have V45 : Arv Z h45 b43 c43 .char (3 : Int32) [(.int q40), (.int q41), (.int (0 : Int32))] (.int (0 : Int32)) := (by rw [(nar_char cq41)] at A45; exact A45)
    show Go p e below _ (T45.setTop (mkF m 39 #[.val (.int i0), .val (.int i1), .val (.int i2), .val (.int i3), .val (.int (2 : Int32)), .val (.int q40), .val (.int q41), .val (.int q42), .unset, .unset, .unset, .unset, .unset] [(.ref b43)]))
    refine Go.of (t' := T45.setTop (mkF m 40 #[.val (.int i0), .val (.int i1), .val (.int i2), .val (.int i3), .val (.int (2 : Int32)), .val (.int q40), .val (.int q41), .val (.int q42), .unset, .unset, .unset, .unset, .unset] [(.ref b43), (.ref b43)])) (fun _ kk => XS.dup W45.here hx rfl (hb hby at_39) rfl rfl kk) ?_
    refine Go.of (t' := T45.setTop (mkF m 41 #[.val (.int i0), .val (.int i1), .val (.int i2), .val (.int i3), .val (.int (2 : Int32)), .val (.int q40), .val (.int q41), .val (.int q42), .unset, .unset, .unset, .unset, .unset] [(.int (2 : Int32)), (.ref b43), (.ref b43)])) (fun _ kk => XS.iconst W45.here hx rfl (hb hby at_40) kk) ?_
    refine Go.of (t' := T45.setTop (mkF m 43 #[.val (.int i0), .val (.int i1), .val (.int i2), .val (.int i3), .val (.int (2 : Int32)), .val (.int q40), .val (.int q41), .val (.int q42), .unset, .unset, .unset, .unset, .unset] [(.int q42), (.int (2 : Int32)), (.ref b43), (.ref b43)])) (fun _ kk => XS.iload W45.here hx rfl (hb hby at_41) rfl kk) ?_
    refine W45.stC hx V45 ⟨by decide, by decide⟩ 2 rfl (Nat.le_of_ble_eq_true rfl) gb43.1 (Or.inr gb43.2) rfl rfl (hb hby at_43) (fun T46 h46 W46 K46 A46 => ?_)
    have V46 : Arv Z h46 b43 c43 .char (3 : Int32) [(.int q40), (.int q41), (.int q42)] (.int (0 : Int32)) := (by rw [(nar_char cq42)] at A46; exact A46)
    show Go p e below _ (T46.setTop (mkF m 44 #[.val (.int i0), .val (.int i1), .val (.int i2), .val (.int i3), .val (.int (2 : Int32)), .val (.int q40), .val (.int q41), .val (.int q42), .unset, .unset, .unset, .unset, .unset] [(.ref b43)]))
    refine Go.of (t' := T46.setTop (mkF m 46 #[.val (.int i0), .val (.int i1), .val (.int i2), .val (.int i3), .val (.int (2 : Int32)), .val (.int q40), .val (.int q41), .val (.int q42), .val (.ref b43), .unset, .unset, .unset, .unset] [])) (fun _ kk => XS.astore W46.here hx rfl (hb hby at_44) rfl rfl (l' := #[.val (.int i0), .val (.int i1), .val (.int i2), .val (.int i3), .val (.int (2 : Int32)), .val (.int q40), .val (.int q41), .val (.int q42), .val (.ref b43), .unset, .unset, .unset, .unset]) rfl kk) ?_
    refine Go.of (t' := T46.setTop (mkF m 47 #[.val (.int i0), .val (.int i1), .val (.int i2), .val (.int i3), .val (.int (2 : Int32)), .val (.int q40), .val (.int q41), .val (.int q42), .val (.ref b43), .unset, .unset, .unset, .unset] [(.int (2 : Int32))])) (fun _ kk => XS.iconst W46.here hx rfl (hb hby at_46) kk) ?_
    refine W46.newP hx (hw _ (List.mem_of_getElem? (i := 4) rfl)) rfl (hb hby at_47) rfl (by decide +kernel) (cap := 2) (by decide +kernel) (by decide +kernel) (by decide +kernel) (by decide +kernel) (fun T47 h47 b47 c47 eb47 gb47 W47 K47 A47 => ?_)
    have V47 : Arv Z h47 b47 c47 .char (2 : Int32) [(.int (0 : Int32)), (.int (0 : Int32))] (.int (0 : Int32)) := A47
    show Go p e below _ (T47.setTop (mkF m 49 #[.val (.int i0), .val (.int i1), .val (.int i2), .val (.int i3), .val (.int (2 : Int32)), .val (.int q40), .val (.int q41), .val (.int q42), .val (.ref b43), .unset, .unset, .unset, .unset] [(.ref b47)]))
    refine Go.of (t' := T47.setTop (mkF m 50 #[.val (.int i0), .val (.int i1), .val (.int i2), .val (.int i3), .val (.int (2 : Int32)), .val (.int q40), .val (.int q41), .val (.int q42), .val (.ref b43), .unset, .unset, .unset, .unset] [(.ref b47), (.ref b47)])) (fun _ kk => XS.dup W47.here hx rfl (hb hby at_49) rfl rfl kk) ?_
    refine Go.of (t' := T47.setTop (mkF m 51 #[.val (.int i0), .val (.int i1), .val (.int i2), .val (.int i3), .val (.int (2 : Int32)), .val (.int q40), .val (.int q41), .val (.int q42), .val (.ref b43), .unset, .unset, .unset, .unset] [(.int (0 : Int32)), (.ref b47), (.ref b47)])) (fun _ kk => XS.iconst W47.here hx rfl (hb hby at_50) kk) ?_
    refine Go.of (t' := T47.setTop (mkF m 53 #[.val (.int i0), .val (.int i1), .val (.int i2), .val (.int i3), .val (.int (2 : Int32)), .val (.int q40), .val (.int q41), .val (.int q42), .val (.ref b43), .unset, .unset, .unset, .unset] [(.int q40), (.int (0 : Int32)), (.ref b47), (.ref b47)])) (fun _ kk => XS.iload W47.here hx rfl (hb hby at_51) rfl kk) ?_
    refine W47.stC hx V47 ⟨by decide, by decide⟩ 0 rfl (Nat.le_of_ble_eq_true rfl) gb47.1 (Or.inr gb47.2) rfl rfl (hb hby at_53) (fun T48 h48 W48 K48 A48 => ?_)
    have V48 : Arv Z h48 b47 c47 .char (2 : Int32) [(.int q40), (.int (0 : Int32))] (.int (0 : Int32)) := (by rw [(nar_char cq40)] at A48; exact A48)
    show Go p e below _ (T48.setTop (mkF m 54 #[.val (.int i0), .val (.int i1), .val (.int i2), .val (.int i3), .val (.int (2 : Int32)), .val (.int q40), .val (.int q41), .val (.int q42), .val (.ref b43), .unset, .unset, .unset, .unset] [(.ref b47)]))
    refine Go.of (t' := T48.setTop (mkF m 55 #[.val (.int i0), .val (.int i1), .val (.int i2), .val (.int i3), .val (.int (2 : Int32)), .val (.int q40), .val (.int q41), .val (.int q42), .val (.ref b43), .unset, .unset, .unset, .unset] [(.ref b47), (.ref b47)])) (fun _ kk => XS.dup W48.here hx rfl (hb hby at_54) rfl rfl kk) ?_
    refine Go.of (t' := T48.setTop (mkF m 56 #[.val (.int i0), .val (.int i1), .val (.int i2), .val (.int i3), .val (.int (2 : Int32)), .val (.int q40), .val (.int q41), .val (.int q42), .val (.ref b43), .unset, .unset, .unset, .unset] [(.int (1 : Int32)), (.ref b47), (.ref b47)])) (fun _ kk => XS.iconst W48.here hx rfl (hb hby at_55) kk) ?_
    refine Go.of (t' := T48.setTop (mkF m 58 #[.val (.int i0), .val (.int i1), .val (.int i2), .val (.int i3), .val (.int (2 : Int32)), .val (.int q40), .val (.int q41), .val (.int q42), .val (.ref b43), .unset, .unset, .unset, .unset] [(.int q41), (.int (1 : Int32)), (.ref b47), (.ref b47)])) (fun _ kk => XS.iload W48.here hx rfl (hb hby at_56) rfl kk) ?_
    refine W48.stC hx V48 ⟨by decide, by decide⟩ 1 rfl (Nat.le_of_ble_eq_true rfl) gb47.1 (Or.inr gb47.2) rfl rfl (hb hby at_58) (fun T49 h49 W49 K49 A49 => ?_)
    have V49 : Arv Z h49 b47 c47 .char (2 : Int32) [(.int q40), (.int q41)] (.int (0 : Int32)) := (by rw [(nar_char cq41)] at A49; exact A49)
    show Go p e below _ (T49.setTop (mkF m 59 #[.val (.int i0), .val (.int i1), .val (.int i2), .val (.int i3), .val (.int (2 : Int32)), .val (.int q40), .val (.int q41), .val (.int q42), .val (.ref b43), .unset, .unset, .unset, .unset] [(.ref b47)]))
    refine Go.of (t' := T49.setTop (mkF m 61 #[.val (.int i0), .val (.int i1), .val (.int i2), .val (.int i3), .val (.int (2 : Int32)), .val (.int q40), .val (.int q41), .val (.int q42), .val (.ref b43), .val (.ref b47), .unset, .unset, .unset] [])) (fun _ kk => XS.astore W49.here hx rfl (hb hby at_59) rfl rfl (l' := #[.val (.int i0), .val (.int i1), .val (.int i2), .val (.int i3), .val (.int (2 : Int32)), .val (.int q40), .val (.int q41), .val (.int q42), .val (.ref b43), .val (.ref b47), .unset, .unset, .unset]) rfl kk) ?_
    refine Go.of (t' := T49.setTop (mkF m 63 #[.val (.int i0), .val (.int i1), .val (.int i2), .val (.int i3), .val (.int (2 : Int32)), .val (.int q40), .val (.int q41), .val (.int q42), .val (.ref b43), .val (.ref b47), .unset, .unset, .unset] [(.int (2 : Int32))])) (fun _ kk => XS.iload W49.here hx rfl (hb hby at_61) rfl kk) ?_
    refine Go.of (t' := T49.setTop (mkF m 81 #[.val (.int i0), .val (.int i1), .val (.int i2), .val (.int i3), .val (.int (2 : Int32)), .val (.int q40), .val (.int q41), .val (.int q42), .val (.ref b43), .val (.ref b47), .unset, .unset, .unset] [])) (fun _ kk => XS.ifYes W49.here hx rfl (pc0 := 63) (pc' := 81) rfl (hb hby at_63) rfl (XT.i0_ne_t (by decide +kernel)) (by decide +kernel) (by decide +kernel) kk) ?_
    refine Go.of (t' := T49.setTop (mkF m 83 #[.val (.int i0), .val (.int i1), .val (.int i2), .val (.int i3), .val (.int (2 : Int32)), .val (.int q40), .val (.int q41), .val (.int q42), .val (.ref b43), .val (.ref b47), .unset, .unset, .unset] [(.int (2 : Int32))])) (fun _ kk => XS.iload W49.here hx rfl (hb hby at_81) rfl kk) ?_
    refine Go.of (t' := T49.setTop (mkF m 84 #[.val (.int i0), .val (.int i1), .val (.int i2), .val (.int i3), .val (.int (2 : Int32)), .val (.int q40), .val (.int q41), .val (.int q42), .val (.ref b43), .val (.ref b47), .unset, .unset, .unset] [(.int (1 : Int32)), (.int (2 : Int32))])) (fun _ kk => XS.iconst W49.here hx rfl (hb hby at_83) kk) ?_
    refine Go.of (t' := T49.setTop (mkF m 97 #[.val (.int i0), .val (.int i1), .val (.int i2), .val (.int i3), .val (.int (2 : Int32)), .val (.int q40), .val (.int q41), .val (.int q42), .val (.ref b43), .val (.ref b47), .unset, .unset, .unset] [])) (fun _ kk => XS.icmpYes W49.here hx rfl (pc0 := 84) (pc' := 97) rfl (hb hby at_84) rfl (XT.ii_ne_t (by decide +kernel)) (by decide +kernel) (by decide +kernel) kk) ?_
    refine Go.of (t' := T49.setTop (mkF m 99 #[.val (.int i0), .val (.int i1), .val (.int i2), .val (.int i3), .val (.int (2 : Int32)), .val (.int q40), .val (.int q41), .val (.int q42), .val (.ref b43), .val (.ref b47), .unset, .unset, .unset] [(.int (2 : Int32))])) (fun _ kk => XS.iload W49.here hx rfl (hb hby at_97) rfl kk) ?_
    refine Go.of (t' := T49.setTop (mkF m 100 #[.val (.int i0), .val (.int i1), .val (.int i2), .val (.int i3), .val (.int (2 : Int32)), .val (.int q40), .val (.int q41), .val (.int q42), .val (.ref b43), .val (.ref b47), .unset, .unset, .unset] [(.int (2 : Int32)), (.int (2 : Int32))])) (fun _ kk => XS.iconst W49.here hx rfl (hb hby at_99) kk) ?_
    refine Go.of (t' := T49.setTop (mkF m 103 #[.val (.int i0), .val (.int i1), .val (.int i2), .val (.int i3), .val (.int (2 : Int32)), .val (.int q40), .val (.int q41), .val (.int q42), .val (.ref b43), .val (.ref b47), .unset, .unset, .unset] [])) (fun _ kk => XS.icmpNo W49.here hx rfl (hb hby at_100) rfl (XT.ii_ne_f (by decide +kernel)) kk) ?_
    refine W49.newO hx (hw _ (List.mem_of_getElem? (i := 5) rfl)) (hw _ (List.mem_of_getElem? (i := 6) rfl)) (hw _ (List.mem_of_getElem? (i := 7) rfl)) rfl (hb hby at_103) (by decide +kernel) (by decide +kernel) (fun T50 h50 b50 eb50 gb50 W50 K50 E50 D50 => ?_)
    have k51 : Fld Z h50 b50 "java/lang/String" "value" "[B" .null := D50 (Or.inr (hw _ (List.mem_of_getElem? (i := 20) rfl))) (ty := (.array .byte)) (by decide +kernel)
    have k52 : Fld Z h50 b50 "java/lang/String" "coder" "B" (.int (0 : Int32)) := D50 (Or.inr (hw _ (List.mem_of_getElem? (i := 21) rfl))) (ty := .byte) (by decide +kernel)
    show Go p e below _ (T50.setTop (mkF m 106 #[.val (.int i0), .val (.int i1), .val (.int i2), .val (.int i3), .val (.int (2 : Int32)), .val (.int q40), .val (.int q41), .val (.int q42), .val (.ref b43), .val (.ref b47), .unset, .unset, .unset] [(.ref b50)]))
    refine Go.of (t' := T50.setTop (mkF m 107 #[.val (.int i0), .val (.int i1), .val (.int i2), .val (.int i3), .val (.int (2 : Int32)), .val (.int q40), .val (.int q41), .val (.int q42), .val (.ref b43), .val (.ref b47), .unset, .unset, .unset] [(.ref b50), (.ref b50)])) (fun _ kk => XS.dup W50.here hx rfl (hb hby at_106) rfl rfl kk) ?_
    refine Go.of (t' := T50.setTop (mkF m 109 #[.val (.int i0), .val (.int i1), .val (.int i2), .val (.int i3), .val (.int (2 : Int32)), .val (.int q40), .val (.int q41), .val (.int q42), .val (.ref b43), .val (.ref b47), .unset, .unset, .unset] [(.ref b47), (.ref b50), (.ref b50)])) (fun _ kk => XS.aload W50.here hx rfl (hb hby at_107) rfl rfl kk) ?_
    have k54 := (V49.keep K50 nin0)
    refine W50.newStr hx hws (hw _ (List.mem_of_getElem? (i := 6) rfl)) SC hzc (hw _ (List.mem_of_getElem? (i := 8) rfl)) (hw _ (List.mem_of_getElem? (i := 9) rfl)) (hw _ (List.mem_of_getElem? (i := 10) rfl)) E50 k51 k52 (cs := [q40, q41]) (n := 2) k54 rfl rfl (by decide +kernel) (by decide +kernel) (allSi cq40 (allSi cq41 all0i)) gb50.1 (Or.inr gb50.2) (List.mem_of_getElem? (i := 0) rfl) (by decide +kernel) (Wd := 1) (by decide +kernel) (by decide +kernel) (by decide +kernel) rfl (by rw [hml]; rfl) rfl (by show 2 * 0 + _ ≤ _; exact Nat.le_of_eq rfl) (hb hby at_109) (fun T53 h53 W53 K53 S53 => ?_)
    show Go p e below _ (T53.setTop (mkF m 112 #[.val (.int i0), .val (.int i1), .val (.int i2), .val (.int i3), .val (.int (2 : Int32)), .val (.int q40), .val (.int q41), .val (.int q42), .val (.ref b43), .val (.ref b47), .unset, .unset, .unset] [(.ref b50)]))
    refine Go.of (t' := T53.setTop (mkF m 114 #[.val (.int i0), .val (.int i1), .val (.int i2), .val (.int i3), .val (.int (2 : Int32)), .val (.int q40), .val (.int q41), .val (.int q42), .val (.ref b43), .val (.ref b47), .val (.ref b50), .unset, .unset] [])) (fun _ kk => XS.astore W53.here hx rfl (hb hby at_112) rfl rfl (l' := #[.val (.int i0), .val (.int i1), .val (.int i2), .val (.int i3), .val (.int (2 : Int32)), .val (.int q40), .val (.int q41), .val (.int q42), .val (.ref b43), .val (.ref b47), .val (.ref b50), .unset, .unset]) rfl kk) ?_
    refine Go.of (t' := T53.setTop (mkF m 140 #[.val (.int i0), .val (.int i1), .val (.int i2), .val (.int i3), .val (.int (2 : Int32)), .val (.int q40), .val (.int q41), .val (.int q42), .val (.ref b43), .val (.ref b47), .val (.ref b50), .unset, .unset] [])) (fun _ kk => XS.goto W53.here hx rfl (pc0 := 114) (pc' := 140) rfl (hb hby at_114) (by decide +kernel) (by decide +kernel) kk) ?_
    refine Go.of (t' := T53.setTop (mkF m 141 #[.val (.int i0), .val (.int i1), .val (.int i2), .val (.int i3), .val (.int (2 : Int32)), .val (.int q40), .val (.int q41), .val (.int q42), .val (.ref b43), .val (.ref b47), .val (.ref b50), .unset, .unset] [.null])) (fun _ kk => XS.aconstNull W53.here hx rfl (hb hby at_140) kk) ?_
    refine Go.of (t' := T53.setTop (mkF m 143 #[.val (.int i0), .val (.int i1), .val (.int i2), .val (.int i3), .val (.int (2 : Int32)), .val (.int q40), .val (.int q41), .val (.int q42), .val (.ref b43), .val (.ref b47), .val (.ref b50), .val .null, .unset] [])) (fun _ kk => XS.astore W53.here hx rfl (hb hby at_141) rfl rfl (l' := #[.val (.int i0), .val (.int i1), .val (.int i2), .val (.int i3), .val (.int (2 : Int32)), .val (.int q40), .val (.int q41), .val (.int q42), .val (.ref b43), .val (.ref b47), .val (.ref b50), .val .null, .unset]) rfl kk) ?_
    refine Go.of (t' := T53.setTop (mkF m 145 #[.val (.int i0), .val (.int i1), .val (.int i2), .val (.int i3), .val (.int (2 : Int32)), .val (.int q40), .val (.int q41), .val (.int q42), .val (.ref b43), .val (.ref b47), .val (.ref b50), .val .null, .unset] [(.int (2 : Int32))])) (fun _ kk => XS.iload W53.here hx rfl (hb hby at_143) rfl kk) ?_
    refine Go.of (t' := T53.setTop (mkF m 146 #[.val (.int i0), .val (.int i1), .val (.int i2), .val (.int i3), .val (.int (2 : Int32)), .val (.int q40), .val (.int q41), .val (.int q42), .val (.ref b43), .val (.ref b47), .val (.ref b50), .val .null, .unset] [(.int (1 : Int32)), (.int (2 : Int32))])) (fun _ kk => XS.iconst W53.here hx rfl (hb hby at_145) kk) ?_
    refine Go.of (t' := T53.setTop (mkF m 179 #[.val (.int i0), .val (.int i1), .val (.int i2), .val (.int i3), .val (.int (2 : Int32)), .val (.int q40), .val (.int q41), .val (.int q42), .val (.ref b43), .val (.ref b47), .val (.ref b50), .val .null, .unset] [])) (fun _ kk => XS.icmpYes W53.here hx rfl (pc0 := 146) (pc' := 179) rfl (hb hby at_146) rfl (XT.ii_ne_t (by decide +kernel)) (by decide +kernel) (by decide +kernel) kk) ?_
    refine Go.of (t' := T53.setTop (mkF m 181 #[.val (.int i0), .val (.int i1), .val (.int i2), .val (.int i3), .val (.int (2 : Int32)), .val (.int q40), .val (.int q41), .val (.int q42), .val (.ref b43), .val (.ref b47), .val (.ref b50), .val .null, .unset] [(.int (2 : Int32))])) (fun _ kk => XS.iload W53.here hx rfl (hb hby at_179) rfl kk) ?_
    refine Go.of (t' := T53.setTop (mkF m 182 #[.val (.int i0), .val (.int i1), .val (.int i2), .val (.int i3), .val (.int (2 : Int32)), .val (.int q40), .val (.int q41), .val (.int q42), .val (.ref b43), .val (.ref b47), .val (.ref b50), .val .null, .unset] [(.int (2 : Int32)), (.int (2 : Int32))])) (fun _ kk => XS.iconst W53.here hx rfl (hb hby at_181) kk) ?_
    refine Go.of (t' := T53.setTop (mkF m 185 #[.val (.int i0), .val (.int i1), .val (.int i2), .val (.int i3), .val (.int (2 : Int32)), .val (.int q40), .val (.int q41), .val (.int q42), .val (.ref b43), .val (.ref b47), .val (.ref b50), .val .null, .unset] [])) (fun _ kk => XS.icmpNo W53.here hx rfl (hb hby at_182) rfl (XT.ii_ne_f (by decide +kernel)) kk) ?_
    refine Go.of (t' := T53.setTop (mkF m 187 #[.val (.int i0), .val (.int i1), .val (.int i2), .val (.int i3), .val (.int (2 : Int32)), .val (.int q40), .val (.int q41), .val (.int q42), .val (.ref b43), .val (.ref b47), .val (.ref b50), .val .null, .unset] [(.int q41)])) (fun _ kk => XS.iload W53.here hx rfl (hb hby at_185) rfl kk) ?_
    refine Go.of (t' := T53.setTop (mkF m 189 #[.val (.int i0), .val (.int i1), .val (.int i2), .val (.int i3), .val (.int (2 : Int32)), .val (.int q40), .val (.int q41), .val (.int q42), .val (.ref b43), .val (.ref b47), .val (.ref b50), .val .null, .unset] [(.int (61 : Int32)), (.int q41)])) (fun _ kk => XS.bipush W53.here hx rfl (hb hby at_187) kk) ?_
    by_cases c55 : q41 = (61 : Int32)
    · refine Go.of (t' := T53.setTop (mkF m 192 #[.val (.int i0), .val (.int i1), .val (.int i2), .val (.int i3), .val (.int (2 : Int32)), .val (.int q40), .val (.int q41), .val (.int q42), .val (.ref b43), .val (.ref b47), .val (.ref b50), .val .null, .unset] [])) (fun _ kk => XS.icmpNo W53.here hx rfl (hb hby at_189) rfl (XT.ii_ne_f c55) kk) ?_
      refine Go.of (t' := T53.setTop (mkF m 194 #[.val (.int i0), .val (.int i1), .val (.int i2), .val (.int i3), .val (.int (2 : Int32)), .val (.int q40), .val (.int q41), .val (.int q42), .val (.ref b43), .val (.ref b47), .val (.ref b50), .val .null, .unset] [(.int q40)])) (fun _ kk => XS.iload W53.here hx rfl (hb hby at_192) rfl kk) ?_
      refine Go.of (t' := T53.setTop (mkF m 196 #[.val (.int i0), .val (.int i1), .val (.int i2), .val (.int i3), .val (.int (2 : Int32)), .val (.int q40), .val (.int q41), .val (.int q42), .val (.ref b43), .val (.ref b47), .val (.ref b50), .val .null, .unset] [(.int (61 : Int32)), (.int q40)])) (fun _ kk => XS.bipush W53.here hx rfl (hb hby at_194) kk) ?_
      by_cases c56 : q40 = (61 : Int32)
      · refine Go.of (t' := T53.setTop (mkF m 199 #[.val (.int i0), .val (.int i1), .val (.int i2), .val (.int i3), .val (.int (2 : Int32)), .val (.int q40), .val (.int q41), .val (.int q42), .val (.ref b43), .val (.ref b47), .val (.ref b50), .val .null, .unset] [])) (fun _ kk => XS.icmpNo W53.here hx rfl (hb hby at_196) rfl (XT.ii_ne_f c56) kk) ?_
        refine W53.getS hx (host := "") (Or.inl (hw _ (List.mem_of_getElem? (i := 87) rfl))) Via.refl OC0 rfl (hb hby at_199) (fun T57 W57 => ?_)
        show Go p e below _ (T57.setTop (mkF m 202 #[.val (.int i0), .val (.int i1), .val (.int i2), .val (.int i3), .val (.int (2 : Int32)), .val (.int q40), .val (.int q41), .val (.int q42), .val (.ref b43), .val (.ref b47), .val (.ref b50), .val .null, .unset] [(.ref e0)]))
        refine Go.of (t' := T57.setTop (mkF m 204 #[.val (.int i0), .val (.int i1), .val (.int i2), .val (.int i3), .val (.int (2 : Int32)), .val (.int q40), .val (.int q41), .val (.int q42), .val (.ref b43), .val (.ref b47), .val (.ref b50), .val (.ref e0), .unset] [])) (fun _ kk => XS.astore W57.here hx rfl (hb hby at_202) rfl rfl (l' := #[.val (.int i0), .val (.int i1), .val (.int i2), .val (.int i3), .val (.int (2 : Int32)), .val (.int q40), .val (.int q41), .val (.int q42), .val (.ref b43), .val (.ref b47), .val (.ref b50), .val (.ref e0), .unset]) rfl kk) ?_
        refine Go.of (t' := T57.setTop (mkF m 249 #[.val (.int i0), .val (.int i1), .val (.int i2), .val (.int i3), .val (.int (2 : Int32)), .val (.int q40), .val (.int q41), .val (.int q42), .val (.ref b43), .val (.ref b47), .val (.ref b50), .val (.ref e0), .unset] [])) (fun _ kk => XS.goto W57.here hx rfl (pc0 := 204) (pc' := 249) rfl (hb hby at_204) (by decide +kernel) (by decide +kernel) kk) ?_
        refine Go.of (t' := T57.setTop (mkF m 251 #[.val (.int i0), .val (.int i1), .val (.int i2), .val (.int i3), .val (.int (2 : Int32)), .val (.int q40), .val (.int q41), .val (.int q42), .val (.ref b43), .val (.ref b47), .val (.ref b50), .val (.ref e0), .unset] [(.ref b50)])) (fun _ kk => XS.aload W57.here hx rfl (hb hby at_249) rfl rfl kk) ?_
        refine W57.callS hx hEL (hw _ (List.mem_of_getElem? (i := 26) rfl)) (hw _ (List.mem_of_getElem? (i := 27) rfl)) (hw _ (List.mem_of_getElem? (i := 28) rfl)) (hw _ (List.mem_of_getElem? (i := 29) rfl)) (by decide +kernel) (argsL := [(.ref b50)]) (rest := []) (rm4 l Z a0 hw hEL zc SC hzc fm SF rfm b50 [q40, q41] e0 e1 e2 e3 e4 e5 s0 s1 s2 s3 s4 s5 av kv h53 W57.old OE0 OE1 OE2 OE3 OE4 OE5 OF0 OF1 OF2 OF3 OF4 OF5 OS0 OS1 OS2 OS3 OS4 OS5 OA OV OT OX OC0 OC1 OC2 OC3 OC4 OC5 S53) all0 (by decide +kernel) (Wd := 0) (by decide +kernel) (by decide +kernel) (by decide +kernel) all0 rfl (by rw [hml]; rfl) (lenOf pd8 rfl) rfl (by show 2 * 0 + _ ≤ _; exact Nat.le_of_eq rfl) (hb hby at_251) (fun T58 h58 v58 W58 K58 q58 => ?_)
        have ew58 : wrOf e0 e1 e2 e3 e4 e5 [q40, q41] = (.ref e0) := by simp [wrOf, c55, c56]
        rw [ew58] at q58
        subst q58
        show Go p e below _ (T58.setTop (mkF m 254 #[.val (.int i0), .val (.int i1), .val (.int i2), .val (.int i3), .val (.int (2 : Int32)), .val (.int q40), .val (.int q41), .val (.int q42), .val (.ref b43), .val (.ref b47), .val (.ref b50), .val (.ref e0), .unset] [(.ref e0)]))
        refine Go.of (t' := T58.setTop (mkF m 256 #[.val (.int i0), .val (.int i1), .val (.int i2), .val (.int i3), .val (.int (2 : Int32)), .val (.int q40), .val (.int q41), .val (.int q42), .val (.ref b43), .val (.ref b47), .val (.ref b50), .val (.ref e0), .val (.ref e0)] [])) (fun _ kk => XS.astore W58.here hx rfl (hb hby at_254) rfl rfl (l' := #[.val (.int i0), .val (.int i1), .val (.int i2), .val (.int i3), .val (.int (2 : Int32)), .val (.int q40), .val (.int q41), .val (.int q42), .val (.ref b43), .val (.ref b47), .val (.ref b50), .val (.ref e0), .val (.ref e0)]) rfl kk) ?_
        refine Go.of (t' := T58.setTop (mkF m 258 #[.val (.int i0), .val (.int i1), .val (.int i2), .val (.int i3), .val (.int (2 : Int32)), .val (.int q40), .val (.int q41), .val (.int q42), .val (.ref b43), .val (.ref b47), .val (.ref b50), .val (.ref e0), .val (.ref e0)] [(.ref e0)])) (fun _ kk => XS.aload W58.here hx rfl (hb hby at_256) rfl rfl kk) ?_
        refine Go.of (t' := T58.setTop (mkF m 260 #[.val (.int i0), .val (.int i1), .val (.int i2), .val (.int i3), .val (.int (2 : Int32)), .val (.int q40), .val (.int q41), .val (.int q42), .val (.ref b43), .val (.ref b47), .val (.ref b50), .val (.ref e0), .val (.ref e0)] [(.ref e0), (.ref e0)])) (fun _ kk => XS.aload W58.here hx rfl (hb hby at_258) rfl rfl kk) ?_
        refine Go.of (t' := T58.setTop (mkF m 263 #[.val (.int i0), .val (.int i1), .val (.int i2), .val (.int i3), .val (.int (2 : Int32)), .val (.int q40), .val (.int q41), .val (.int q42), .val (.ref b43), .val (.ref b47), .val (.ref b50), .val (.ref e0), .val (.ref e0)] [])) (fun _ kk => XT.acmpNo (g := (mkF m 260 #[.val (.int i0), .val (.int i1), .val (.int i2), .val (.int i3), .val (.int (2 : Int32)), .val (.int q40), .val (.int q41), .val (.int q42), .val (.ref b43), .val (.ref b47), .val (.ref b50), .val (.ref e0), .val (.ref e0)] [(.ref e0), (.ref e0)])) W58.here hx rfl (hb hby at_260) (x := (.ref e0)) (y := (.ref e0)) (rest := []) rfl rfl rfl (XT.aa_ne_f (x := (.ref e0)) (y := (.ref e0)) rfl) kk) ?_
        refine Go.of (t' := T58.setTop (mkF m 264 #[.val (.int i0), .val (.int i1), .val (.int i2), .val (.int i3), .val (.int (2 : Int32)), .val (.int q40), .val (.int q41), .val (.int q42), .val (.ref b43), .val (.ref b47), .val (.ref b50), .val (.ref e0), .val (.ref e0)] [(.int (1 : Int32))])) (fun _ kk => XS.iconst W58.here hx rfl (hb hby at_263) kk) ?_
        refine Go.of (t' := T58.setTop (mkF m 268 #[.val (.int i0), .val (.int i1), .val (.int i2), .val (.int i3), .val (.int (2 : Int32)), .val (.int q40), .val (.int q41), .val (.int q42), .val (.ref b43), .val (.ref b47), .val (.ref b50), .val (.ref e0), .val (.ref e0)] [(.int (1 : Int32))])) (fun _ kk => XS.goto W58.here hx rfl (pc0 := 264) (pc' := 268) rfl (hb hby at_264) (by decide +kernel) (by decide +kernel) kk) ?_
        exact W58.retI hx hEL hs hlk (by decide +kernel) (by decide +kernel) hret (by simp) rfl (hb hby at_268) rfl
      · refine Go.of (t' := T53.setTop (mkF m 207 #[.val (.int i0), .val (.int i1), .val (.int i2), .val (.int i3), .val (.int (2 : Int32)), .val (.int q40), .val (.int q41), .val (.int q42), .val (.ref b43), .val (.ref b47), .val (.ref b50), .val .null, .unset] [])) (fun _ kk => XS.icmpYes W53.here hx rfl (pc0 := 196) (pc' := 207) rfl (hb hby at_196) rfl (XT.ii_ne_t c56) (by decide +kernel) (by decide +kernel) kk) ?_
        refine Go.of (t' := T53.setTop (mkF m 209 #[.val (.int i0), .val (.int i1), .val (.int i2), .val (.int i3), .val (.int (2 : Int32)), .val (.int q40), .val (.int q41), .val (.int q42), .val (.ref b43), .val (.ref b47), .val (.ref b50), .val .null, .unset] [(.int q40)])) (fun _ kk => XS.iload W53.here hx rfl (hb hby at_207) rfl kk) ?_
        refine Go.of (t' := T53.setTop (mkF m 211 #[.val (.int i0), .val (.int i1), .val (.int i2), .val (.int i3), .val (.int (2 : Int32)), .val (.int q40), .val (.int q41), .val (.int q42), .val (.ref b43), .val (.ref b47), .val (.ref b50), .val .null, .unset] [(.int (33 : Int32)), (.int q40)])) (fun _ kk => XS.bipush W53.here hx rfl (hb hby at_209) kk) ?_
        by_cases c59 : q40 = (33 : Int32)
        · refine Go.of (t' := T53.setTop (mkF m 214 #[.val (.int i0), .val (.int i1), .val (.int i2), .val (.int i3), .val (.int (2 : Int32)), .val (.int q40), .val (.int q41), .val (.int q42), .val (.ref b43), .val (.ref b47), .val (.ref b50), .val .null, .unset] [])) (fun _ kk => XS.icmpNo W53.here hx rfl (hb hby at_211) rfl (XT.ii_ne_f c59) kk) ?_
          refine W53.getS hx (host := "") (Or.inl (hw _ (List.mem_of_getElem? (i := 90) rfl))) Via.refl OC1 rfl (hb hby at_214) (fun T60 W60 => ?_)
          show Go p e below _ (T60.setTop (mkF m 217 #[.val (.int i0), .val (.int i1), .val (.int i2), .val (.int i3), .val (.int (2 : Int32)), .val (.int q40), .val (.int q41), .val (.int q42), .val (.ref b43), .val (.ref b47), .val (.ref b50), .val .null, .unset] [(.ref e1)]))
          refine Go.of (t' := T60.setTop (mkF m 219 #[.val (.int i0), .val (.int i1), .val (.int i2), .val (.int i3), .val (.int (2 : Int32)), .val (.int q40), .val (.int q41), .val (.int q42), .val (.ref b43), .val (.ref b47), .val (.ref b50), .val (.ref e1), .unset] [])) (fun _ kk => XS.astore W60.here hx rfl (hb hby at_217) rfl rfl (l' := #[.val (.int i0), .val (.int i1), .val (.int i2), .val (.int i3), .val (.int (2 : Int32)), .val (.int q40), .val (.int q41), .val (.int q42), .val (.ref b43), .val (.ref b47), .val (.ref b50), .val (.ref e1), .unset]) rfl kk) ?_
          refine Go.of (t' := T60.setTop (mkF m 249 #[.val (.int i0), .val (.int i1), .val (.int i2), .val (.int i3), .val (.int (2 : Int32)), .val (.int q40), .val (.int q41), .val (.int q42), .val (.ref b43), .val (.ref b47), .val (.ref b50), .val (.ref e1), .unset] [])) (fun _ kk => XS.goto W60.here hx rfl (pc0 := 219) (pc' := 249) rfl (hb hby at_219) (by decide +kernel) (by decide +kernel) kk) ?_
          refine Go.of (t' := T60.setTop (mkF m 251 #[.val (.int i0), .val (.int i1), .val (.int i2), .val (.int i3), .val (.int (2 : Int32)), .val (.int q40), .val (.int q41), .val (.int q42), .val (.ref b43), .val (.ref b47), .val (.ref b50), .val (.ref e1), .unset] [(.ref b50)])) (fun _ kk => XS.aload W60.here hx rfl (hb hby at_249) rfl rfl kk) ?_
          refine W60.callS hx hEL (hw _ (List.mem_of_getElem? (i := 26) rfl)) (hw _ (List.mem_of_getElem? (i := 27) rfl)) (hw _ (List.mem_of_getElem? (i := 28) rfl)) (hw _ (List.mem_of_getElem? (i := 29) rfl)) (by decide +kernel) (argsL := [(.ref b50)]) (rest := []) (rm4 l Z a0 hw hEL zc SC hzc fm SF rfm b50 [q40, q41] e0 e1 e2 e3 e4 e5 s0 s1 s2 s3 s4 s5 av kv h53 W60.old OE0 OE1 OE2 OE3 OE4 OE5 OF0 OF1 OF2 OF3 OF4 OF5 OS0 OS1 OS2 OS3 OS4 OS5 OA OV OT OX OC0 OC1 OC2 OC3 OC4 OC5 S53) all0 (by decide +kernel) (Wd := 0) (by decide +kernel) (by decide +kernel) (by decide +kernel) all0 rfl (by rw [hml]; rfl) (lenOf pd8 rfl) rfl (by show 2 * 0 + _ ≤ _; exact Nat.le_of_eq rfl) (hb hby at_251) (fun T61 h61 v61 W61 K61 q61 => ?_)
          have ew61 : wrOf e0 e1 e2 e3 e4 e5 [q40, q41] = (.ref e1) := by simp [wrOf, c55, c56, (Ne.symm c56), c59]
          rw [ew61] at q61
          subst q61
          show Go p e below _ (T61.setTop (mkF m 254 #[.val (.int i0), .val (.int i1), .val (.int i2), .val (.int i3), .val (.int (2 : Int32)), .val (.int q40), .val (.int q41), .val (.int q42), .val (.ref b43), .val (.ref b47), .val (.ref b50), .val (.ref e1), .unset] [(.ref e1)]))
          refine Go.of (t' := T61.setTop (mkF m 256 #[.val (.int i0), .val (.int i1), .val (.int i2), .val (.int i3), .val (.int (2 : Int32)), .val (.int q40), .val (.int q41), .val (.int q42), .val (.ref b43), .val (.ref b47), .val (.ref b50), .val (.ref e1), .val (.ref e1)] [])) (fun _ kk => XS.astore W61.here hx rfl (hb hby at_254) rfl rfl (l' := #[.val (.int i0), .val (.int i1), .val (.int i2), .val (.int i3), .val (.int (2 : Int32)), .val (.int q40), .val (.int q41), .val (.int q42), .val (.ref b43), .val (.ref b47), .val (.ref b50), .val (.ref e1), .val (.ref e1)]) rfl kk) ?_
          refine Go.of (t' := T61.setTop (mkF m 258 #[.val (.int i0), .val (.int i1), .val (.int i2), .val (.int i3), .val (.int (2 : Int32)), .val (.int q40), .val (.int q41), .val (.int q42), .val (.ref b43), .val (.ref b47), .val (.ref b50), .val (.ref e1), .val (.ref e1)] [(.ref e1)])) (fun _ kk => XS.aload W61.here hx rfl (hb hby at_256) rfl rfl kk) ?_
          refine Go.of (t' := T61.setTop (mkF m 260 #[.val (.int i0), .val (.int i1), .val (.int i2), .val (.int i3), .val (.int (2 : Int32)), .val (.int q40), .val (.int q41), .val (.int q42), .val (.ref b43), .val (.ref b47), .val (.ref b50), .val (.ref e1), .val (.ref e1)] [(.ref e1), (.ref e1)])) (fun _ kk => XS.aload W61.here hx rfl (hb hby at_258) rfl rfl kk) ?_
          refine Go.of (t' := T61.setTop (mkF m 263 #[.val (.int i0), .val (.int i1), .val (.int i2), .val (.int i3), .val (.int (2 : Int32)), .val (.int q40), .val (.int q41), .val (.int q42), .val (.ref b43), .val (.ref b47), .val (.ref b50), .val (.ref e1), .val (.ref e1)] [])) (fun _ kk => XT.acmpNo (g := (mkF m 260 #[.val (.int i0), .val (.int i1), .val (.int i2), .val (.int i3), .val (.int (2 : Int32)), .val (.int q40), .val (.int q41), .val (.int q42), .val (.ref b43), .val (.ref b47), .val (.ref b50), .val (.ref e1), .val (.ref e1)] [(.ref e1), (.ref e1)])) W61.here hx rfl (hb hby at_260) (x := (.ref e1)) (y := (.ref e1)) (rest := []) rfl rfl rfl (XT.aa_ne_f (x := (.ref e1)) (y := (.ref e1)) rfl) kk) ?_
          refine Go.of (t' := T61.setTop (mkF m 264 #[.val (.int i0), .val (.int i1), .val (.int i2), .val (.int i3), .val (.int (2 : Int32)), .val (.int q40), .val (.int q41), .val (.int q42), .val (.ref b43), .val (.ref b47), .val (.ref b50), .val (.ref e1), .val (.ref e1)] [(.int (1 : Int32))])) (fun _ kk => XS.iconst W61.here hx rfl (hb hby at_263) kk) ?_
          refine Go.of (t' := T61.setTop (mkF m 268 #[.val (.int i0), .val (.int i1), .val (.int i2), .val (.int i3), .val (.int (2 : Int32)), .val (.int q40), .val (.int q41), .val (.int q42), .val (.ref b43), .val (.ref b47), .val (.ref b50), .val (.ref e1), .val (.ref e1)] [(.int (1 : Int32))])) (fun _ kk => XS.goto W61.here hx rfl (pc0 := 264) (pc' := 268) rfl (hb hby at_264) (by decide +kernel) (by decide +kernel) kk) ?_
          exact W61.retI hx hEL hs hlk (by decide +kernel) (by decide +kernel) hret (by simp) rfl (hb hby at_268) rfl
        · refine Go.of (t' := T53.setTop (mkF m 222 #[.val (.int i0), .val (.int i1), .val (.int i2), .val (.int i3), .val (.int (2 : Int32)), .val (.int q40), .val (.int q41), .val (.int q42), .val (.ref b43), .val (.ref b47), .val (.ref b50), .val .null, .unset] [])) (fun _ kk => XS.icmpYes W53.here hx rfl (pc0 := 211) (pc' := 222) rfl (hb hby at_211) rfl (XT.ii_ne_t c59) (by decide +kernel) (by decide +kernel) kk) ?_
          refine Go.of (t' := T53.setTop (mkF m 224 #[.val (.int i0), .val (.int i1), .val (.int i2), .val (.int i3), .val (.int (2 : Int32)), .val (.int q40), .val (.int q41), .val (.int q42), .val (.ref b43), .val (.ref b47), .val (.ref b50), .val .null, .unset] [(.int q40)])) (fun _ kk => XS.iload W53.here hx rfl (hb hby at_222) rfl kk) ?_
          refine Go.of (t' := T53.setTop (mkF m 226 #[.val (.int i0), .val (.int i1), .val (.int i2), .val (.int i3), .val (.int (2 : Int32)), .val (.int q40), .val (.int q41), .val (.int q42), .val (.ref b43), .val (.ref b47), .val (.ref b50), .val .null, .unset] [(.int (60 : Int32)), (.int q40)])) (fun _ kk => XS.bipush W53.here hx rfl (hb hby at_224) kk) ?_
          by_cases c62 : q40 = (60 : Int32)
          · refine Go.of (t' := T53.setTop (mkF m 229 #[.val (.int i0), .val (.int i1), .val (.int i2), .val (.int i3), .val (.int (2 : Int32)), .val (.int q40), .val (.int q41), .val (.int q42), .val (.ref b43), .val (.ref b47), .val (.ref b50), .val .null, .unset] [])) (fun _ kk => XS.icmpNo W53.here hx rfl (hb hby at_226) rfl (XT.ii_ne_f c62) kk) ?_
            refine W53.getS hx (host := "") (Or.inl (hw _ (List.mem_of_getElem? (i := 91) rfl))) Via.refl OC3 rfl (hb hby at_229) (fun T63 W63 => ?_)
            show Go p e below _ (T63.setTop (mkF m 232 #[.val (.int i0), .val (.int i1), .val (.int i2), .val (.int i3), .val (.int (2 : Int32)), .val (.int q40), .val (.int q41), .val (.int q42), .val (.ref b43), .val (.ref b47), .val (.ref b50), .val .null, .unset] [(.ref e3)]))
            refine Go.of (t' := T63.setTop (mkF m 234 #[.val (.int i0), .val (.int i1), .val (.int i2), .val (.int i3), .val (.int (2 : Int32)), .val (.int q40), .val (.int q41), .val (.int q42), .val (.ref b43), .val (.ref b47), .val (.ref b50), .val (.ref e3), .unset] [])) (fun _ kk => XS.astore W63.here hx rfl (hb hby at_232) rfl rfl (l' := #[.val (.int i0), .val (.int i1), .val (.int i2), .val (.int i3), .val (.int (2 : Int32)), .val (.int q40), .val (.int q41), .val (.int q42), .val (.ref b43), .val (.ref b47), .val (.ref b50), .val (.ref e3), .unset]) rfl kk) ?_
            refine Go.of (t' := T63.setTop (mkF m 249 #[.val (.int i0), .val (.int i1), .val (.int i2), .val (.int i3), .val (.int (2 : Int32)), .val (.int q40), .val (.int q41), .val (.int q42), .val (.ref b43), .val (.ref b47), .val (.ref b50), .val (.ref e3), .unset] [])) (fun _ kk => XS.goto W63.here hx rfl (pc0 := 234) (pc' := 249) rfl (hb hby at_234) (by decide +kernel) (by decide +kernel) kk) ?_
            refine Go.of (t' := T63.setTop (mkF m 251 #[.val (.int i0), .val (.int i1), .val (.int i2), .val (.int i3), .val (.int (2 : Int32)), .val (.int q40), .val (.int q41), .val (.int q42), .val (.ref b43), .val (.ref b47), .val (.ref b50), .val (.ref e3), .unset] [(.ref b50)])) (fun _ kk => XS.aload W63.here hx rfl (hb hby at_249) rfl rfl kk) ?_
            refine W63.callS hx hEL (hw _ (List.mem_of_getElem? (i := 26) rfl)) (hw _ (List.mem_of_getElem? (i := 27) rfl)) (hw _ (List.mem_of_getElem? (i := 28) rfl)) (hw _ (List.mem_of_getElem? (i := 29) rfl)) (by decide +kernel) (argsL := [(.ref b50)]) (rest := []) (rm4 l Z a0 hw hEL zc SC hzc fm SF rfm b50 [q40, q41] e0 e1 e2 e3 e4 e5 s0 s1 s2 s3 s4 s5 av kv h53 W63.old OE0 OE1 OE2 OE3 OE4 OE5 OF0 OF1 OF2 OF3 OF4 OF5 OS0 OS1 OS2 OS3 OS4 OS5 OA OV OT OX OC0 OC1 OC2 OC3 OC4 OC5 S53) all0 (by decide +kernel) (Wd := 0) (by decide +kernel) (by decide +kernel) (by decide +kernel) all0 rfl (by rw [hml]; rfl) (lenOf pd8 rfl) rfl (by show 2 * 0 + _ ≤ _; exact Nat.le_of_eq rfl) (hb hby at_251) (fun T64 h64 v64 W64 K64 q64 => ?_)
            have ew64 : wrOf e0 e1 e2 e3 e4 e5 [q40, q41] = (.ref e3) := by simp [wrOf, c55, c56, (Ne.symm c56), c59, (Ne.symm c59), c62]
            rw [ew64] at q64
            subst q64
            show Go p e below _ (T64.setTop (mkF m 254 #[.val (.int i0), .val (.int i1), .val (.int i2), .val (.int i3), .val (.int (2 : Int32)), .val (.int q40), .val (.int q41), .val (.int q42), .val (.ref b43), .val (.ref b47), .val (.ref b50), .val (.ref e3), .unset] [(.ref e3)]))
            refine Go.of (t' := T64.setTop (mkF m 256 #[.val (.int i0), .val (.int i1), .val (.int i2), .val (.int i3), .val (.int (2 : Int32)), .val (.int q40), .val (.int q41), .val (.int q42), .val (.ref b43), .val (.ref b47), .val (.ref b50), .val (.ref e3), .val (.ref e3)] [])) (fun _ kk => XS.astore W64.here hx rfl (hb hby at_254) rfl rfl (l' := #[.val (.int i0), .val (.int i1), .val (.int i2), .val (.int i3), .val (.int (2 : Int32)), .val (.int q40), .val (.int q41), .val (.int q42), .val (.ref b43), .val (.ref b47), .val (.ref b50), .val (.ref e3), .val (.ref e3)]) rfl kk) ?_
            refine Go.of (t' := T64.setTop (mkF m 258 #[.val (.int i0), .val (.int i1), .val (.int i2), .val (.int i3), .val (.int (2 : Int32)), .val (.int q40), .val (.int q41), .val (.int q42), .val (.ref b43), .val (.ref b47), .val (.ref b50), .val (.ref e3), .val (.ref e3)] [(.ref e3)])) (fun _ kk => XS.aload W64.here hx rfl (hb hby at_256) rfl rfl kk) ?_
            refine Go.of (t' := T64.setTop (mkF m 260 #[.val (.int i0), .val (.int i1), .val (.int i2), .val (.int i3), .val (.int (2 : Int32)), .val (.int q40), .val (.int q41), .val (.int q42), .val (.ref b43), .val (.ref b47), .val (.ref b50), .val (.ref e3), .val (.ref e3)] [(.ref e3), (.ref e3)])) (fun _ kk => XS.aload W64.here hx rfl (hb hby at_258) rfl rfl kk) ?_
            refine Go.of (t' := T64.setTop (mkF m 263 #[.val (.int i0), .val (.int i1), .val (.int i2), .val (.int i3), .val (.int (2 : Int32)), .val (.int q40), .val (.int q41), .val (.int q42), .val (.ref b43), .val (.ref b47), .val (.ref b50), .val (.ref e3), .val (.ref e3)] [])) (fun _ kk => XT.acmpNo (g := (mkF m 260 #[.val (.int i0), .val (.int i1), .val (.int i2), .val (.int i3), .val (.int (2 : Int32)), .val (.int q40), .val (.int q41), .val (.int q42), .val (.ref b43), .val (.ref b47), .val (.ref b50), .val (.ref e3), .val (.ref e3)] [(.ref e3), (.ref e3)])) W64.here hx rfl (hb hby at_260) (x := (.ref e3)) (y := (.ref e3)) (rest := []) rfl rfl rfl (XT.aa_ne_f (x := (.ref e3)) (y := (.ref e3)) rfl) kk) ?_
            refine Go.of (t' := T64.setTop (mkF m 264 #[.val (.int i0), .val (.int i1), .val (.int i2), .val (.int i3), .val (.int (2 : Int32)), .val (.int q40), .val (.int q41), .val (.int q42), .val (.ref b43), .val (.ref b47), .val (.ref b50), .val (.ref e3), .val (.ref e3)] [(.int (1 : Int32))])) (fun _ kk => XS.iconst W64.here hx rfl (hb hby at_263) kk) ?_
            refine Go.of (t' := T64.setTop (mkF m 268 #[.val (.int i0), .val (.int i1), .val (.int i2), .val (.int i3), .val (.int (2 : Int32)), .val (.int q40), .val (.int q41), .val (.int q42), .val (.ref b43), .val (.ref b47), .val (.ref b50), .val (.ref e3), .val (.ref e3)] [(.int (1 : Int32))])) (fun _ kk => XS.goto W64.here hx rfl (pc0 := 264) (pc' := 268) rfl (hb hby at_264) (by decide +kernel) (by decide +kernel) kk) ?_
            exact W64.retI hx hEL hs hlk (by decide +kernel) (by decide +kernel) hret (by simp) rfl (hb hby at_268) rfl
          · refine Go.of (t' := T53.setTop (mkF m 237 #[.val (.int i0), .val (.int i1), .val (.int i2), .val (.int i3), .val (.int (2 : Int32)), .val (.int q40), .val (.int q41), .val (.int q42), .val (.ref b43), .val (.ref b47), .val (.ref b50), .val .null, .unset] [])) (fun _ kk => XS.icmpYes W53.here hx rfl (pc0 := 226) (pc' := 237) rfl (hb hby at_226) rfl (XT.ii_ne_t c62) (by decide +kernel) (by decide +kernel) kk) ?_
            refine Go.of (t' := T53.setTop (mkF m 239 #[.val (.int i0), .val (.int i1), .val (.int i2), .val (.int i3), .val (.int (2 : Int32)), .val (.int q40), .val (.int q41), .val (.int q42), .val (.ref b43), .val (.ref b47), .val (.ref b50), .val .null, .unset] [(.int q40)])) (fun _ kk => XS.iload W53.here hx rfl (hb hby at_237) rfl kk) ?_
            refine Go.of (t' := T53.setTop (mkF m 241 #[.val (.int i0), .val (.int i1), .val (.int i2), .val (.int i3), .val (.int (2 : Int32)), .val (.int q40), .val (.int q41), .val (.int q42), .val (.ref b43), .val (.ref b47), .val (.ref b50), .val .null, .unset] [(.int (62 : Int32)), (.int q40)])) (fun _ kk => XS.bipush W53.here hx rfl (hb hby at_239) kk) ?_
            by_cases c65 : q40 = (62 : Int32)
            · refine Go.of (t' := T53.setTop (mkF m 244 #[.val (.int i0), .val (.int i1), .val (.int i2), .val (.int i3), .val (.int (2 : Int32)), .val (.int q40), .val (.int q41), .val (.int q42), .val (.ref b43), .val (.ref b47), .val (.ref b50), .val .null, .unset] [])) (fun _ kk => XS.icmpNo W53.here hx rfl (hb hby at_241) rfl (XT.ii_ne_f c65) kk) ?_
              refine W53.getS hx (host := "") (Or.inl (hw _ (List.mem_of_getElem? (i := 74) rfl))) Via.refl OC5 rfl (hb hby at_244) (fun T66 W66 => ?_)
              show Go p e below _ (T66.setTop (mkF m 247 #[.val (.int i0), .val (.int i1), .val (.int i2), .val (.int i3), .val (.int (2 : Int32)), .val (.int q40), .val (.int q41), .val (.int q42), .val (.ref b43), .val (.ref b47), .val (.ref b50), .val .null, .unset] [(.ref e5)]))
              refine Go.of (t' := T66.setTop (mkF m 249 #[.val (.int i0), .val (.int i1), .val (.int i2), .val (.int i3), .val (.int (2 : Int32)), .val (.int q40), .val (.int q41), .val (.int q42), .val (.ref b43), .val (.ref b47), .val (.ref b50), .val (.ref e5), .unset] [])) (fun _ kk => XS.astore W66.here hx rfl (hb hby at_247) rfl rfl (l' := #[.val (.int i0), .val (.int i1), .val (.int i2), .val (.int i3), .val (.int (2 : Int32)), .val (.int q40), .val (.int q41), .val (.int q42), .val (.ref b43), .val (.ref b47), .val (.ref b50), .val (.ref e5), .unset]) rfl kk) ?_
              refine Go.of (t' := T66.setTop (mkF m 251 #[.val (.int i0), .val (.int i1), .val (.int i2), .val (.int i3), .val (.int (2 : Int32)), .val (.int q40), .val (.int q41), .val (.int q42), .val (.ref b43), .val (.ref b47), .val (.ref b50), .val (.ref e5), .unset] [(.ref b50)])) (fun _ kk => XS.aload W66.here hx rfl (hb hby at_249) rfl rfl kk) ?_
              refine W66.callS hx hEL (hw _ (List.mem_of_getElem? (i := 26) rfl)) (hw _ (List.mem_of_getElem? (i := 27) rfl)) (hw _ (List.mem_of_getElem? (i := 28) rfl)) (hw _ (List.mem_of_getElem? (i := 29) rfl)) (by decide +kernel) (argsL := [(.ref b50)]) (rest := []) (rm4 l Z a0 hw hEL zc SC hzc fm SF rfm b50 [q40, q41] e0 e1 e2 e3 e4 e5 s0 s1 s2 s3 s4 s5 av kv h53 W66.old OE0 OE1 OE2 OE3 OE4 OE5 OF0 OF1 OF2 OF3 OF4 OF5 OS0 OS1 OS2 OS3 OS4 OS5 OA OV OT OX OC0 OC1 OC2 OC3 OC4 OC5 S53) all0 (by decide +kernel) (Wd := 0) (by decide +kernel) (by decide +kernel) (by decide +kernel) all0 rfl (by rw [hml]; rfl) (lenOf pd8 rfl) rfl (by show 2 * 0 + _ ≤ _; exact Nat.le_of_eq rfl) (hb hby at_251) (fun T67 h67 v67 W67 K67 q67 => ?_)
              have ew67 : wrOf e0 e1 e2 e3 e4 e5 [q40, q41] = (.ref e5) := by simp [wrOf, c55, c56, (Ne.symm c56), c59, (Ne.symm c59), c62, (Ne.symm c62), c65]
              rw [ew67] at q67
              subst q67
              show Go p e below _ (T67.setTop (mkF m 254 #[.val (.int i0), .val (.int i1), .val (.int i2), .val (.int i3), .val (.int (2 : Int32)), .val (.int q40), .val (.int q41), .val (.int q42), .val (.ref b43), .val (.ref b47), .val (.ref b50), .val (.ref e5), .unset] [(.ref e5)]))
              refine Go.of (t' := T67.setTop (mkF m 256 #[.val (.int i0), .val (.int i1), .val (.int i2), .val (.int i3), .val (.int (2 : Int32)), .val (.int q40), .val (.int q41), .val (.int q42), .val (.ref b43), .val (.ref b47), .val (.ref b50), .val (.ref e5), .val (.ref e5)] [])) (fun _ kk => XS.astore W67.here hx rfl (hb hby at_254) rfl rfl (l' := #[.val (.int i0), .val (.int i1), .val (.int i2), .val (.int i3), .val (.int (2 : Int32)), .val (.int q40), .val (.int q41), .val (.int q42), .val (.ref b43), .val (.ref b47), .val (.ref b50), .val (.ref e5), .val (.ref e5)]) rfl kk) ?_
              refine Go.of (t' := T67.setTop (mkF m 258 #[.val (.int i0), .val (.int i1), .val (.int i2), .val (.int i3), .val (.int (2 : Int32)), .val (.int q40), .val (.int q41), .val (.int q42), .val (.ref b43), .val (.ref b47), .val (.ref b50), .val (.ref e5), .val (.ref e5)] [(.ref e5)])) (fun _ kk => XS.aload W67.here hx rfl (hb hby at_256) rfl rfl kk) ?_
              refine Go.of (t' := T67.setTop (mkF m 260 #[.val (.int i0), .val (.int i1), .val (.int i2), .val (.int i3), .val (.int (2 : Int32)), .val (.int q40), .val (.int q41), .val (.int q42), .val (.ref b43), .val (.ref b47), .val (.ref b50), .val (.ref e5), .val (.ref e5)] [(.ref e5), (.ref e5)])) (fun _ kk => XS.aload W67.here hx rfl (hb hby at_258) rfl rfl kk) ?_
              refine Go.of (t' := T67.setTop (mkF m 263 #[.val (.int i0), .val (.int i1), .val (.int i2), .val (.int i3), .val (.int (2 : Int32)), .val (.int q40), .val (.int q41), .val (.int q42), .val (.ref b43), .val (.ref b47), .val (.ref b50), .val (.ref e5), .val (.ref e5)] [])) (fun _ kk => XT.acmpNo (g := (mkF m 260 #[.val (.int i0), .val (.int i1), .val (.int i2), .val (.int i3), .val (.int (2 : Int32)), .val (.int q40), .val (.int q41), .val (.int q42), .val (.ref b43), .val (.ref b47), .val (.ref b50), .val (.ref e5), .val (.ref e5)] [(.ref e5), (.ref e5)])) W67.here hx rfl (hb hby at_260) (x := (.ref e5)) (y := (.ref e5)) (rest := []) rfl rfl rfl (XT.aa_ne_f (x := (.ref e5)) (y := (.ref e5)) rfl) kk) ?_
              refine Go.of (t' := T67.setTop (mkF m 264 #[.val (.int i0), .val (.int i1), .val (.int i2), .val (.int i3), .val (.int (2 : Int32)), .val (.int q40), .val (.int q41), .val (.int q42), .val (.ref b43), .val (.ref b47), .val (.ref b50), .val (.ref e5), .val (.ref e5)] [(.int (1 : Int32))])) (fun _ kk => XS.iconst W67.here hx rfl (hb hby at_263) kk) ?_
              refine Go.of (t' := T67.setTop (mkF m 268 #[.val (.int i0), .val (.int i1), .val (.int i2), .val (.int i3), .val (.int (2 : Int32)), .val (.int q40), .val (.int q41), .val (.int q42), .val (.ref b43), .val (.ref b47), .val (.ref b50), .val (.ref e5), .val (.ref e5)] [(.int (1 : Int32))])) (fun _ kk => XS.goto W67.here hx rfl (pc0 := 264) (pc' := 268) rfl (hb hby at_264) (by decide +kernel) (by decide +kernel) kk) ?_
              exact W67.retI hx hEL hs hlk (by decide +kernel) (by decide +kernel) hret (by simp) rfl (hb hby at_268) rfl
            · refine Go.of (t' := T53.setTop (mkF m 249 #[.val (.int i0), .val (.int i1), .val (.int i2), .val (.int i3), .val (.int (2 : Int32)), .val (.int q40), .val (.int q41), .val (.int q42), .val (.ref b43), .val (.ref b47), .val (.ref b50), .val .null, .unset] [])) (fun _ kk => XS.icmpYes W53.here hx rfl (pc0 := 241) (pc' := 249) rfl (hb hby at_241) rfl (XT.ii_ne_t c65) (by decide +kernel) (by decide +kernel) kk) ?_
              refine Go.of (t' := T53.setTop (mkF m 251 #[.val (.int i0), .val (.int i1), .val (.int i2), .val (.int i3), .val (.int (2 : Int32)), .val (.int q40), .val (.int q41), .val (.int q42), .val (.ref b43), .val (.ref b47), .val (.ref b50), .val .null, .unset] [(.ref b50)])) (fun _ kk => XS.aload W53.here hx rfl (hb hby at_249) rfl rfl kk) ?_
              refine W53.callS hx hEL (hw _ (List.mem_of_getElem? (i := 26) rfl)) (hw _ (List.mem_of_getElem? (i := 27) rfl)) (hw _ (List.mem_of_getElem? (i := 28) rfl)) (hw _ (List.mem_of_getElem? (i := 29) rfl)) (by decide +kernel) (argsL := [(.ref b50)]) (rest := []) (rm4 l Z a0 hw hEL zc SC hzc fm SF rfm b50 [q40, q41] e0 e1 e2 e3 e4 e5 s0 s1 s2 s3 s4 s5 av kv h53 W53.old OE0 OE1 OE2 OE3 OE4 OE5 OF0 OF1 OF2 OF3 OF4 OF5 OS0 OS1 OS2 OS3 OS4 OS5 OA OV OT OX OC0 OC1 OC2 OC3 OC4 OC5 S53) all0 (by decide +kernel) (Wd := 0) (by decide +kernel) (by decide +kernel) (by decide +kernel) all0 rfl (by rw [hml]; rfl) (lenOf pd8 rfl) rfl (by show 2 * 0 + _ ≤ _; exact Nat.le_of_eq rfl) (hb hby at_251) (fun T68 h68 v68 W68 K68 q68 => ?_)
              have ew68 : wrOf e0 e1 e2 e3 e4 e5 [q40, q41] = .null := by simp [wrOf, c55, c56, (Ne.symm c56), c59, (Ne.symm c59), c62, (Ne.symm c62), c65, (Ne.symm c65)]
              rw [ew68] at q68
              subst q68
              show Go p e below _ (T68.setTop (mkF m 254 #[.val (.int i0), .val (.int i1), .val (.int i2), .val (.int i3), .val (.int (2 : Int32)), .val (.int q40), .val (.int q41), .val (.int q42), .val (.ref b43), .val (.ref b47), .val (.ref b50), .val .null, .unset] [.null]))
              refine Go.of (t' := T68.setTop (mkF m 256 #[.val (.int i0), .val (.int i1), .val (.int i2), .val (.int i3), .val (.int (2 : Int32)), .val (.int q40), .val (.int q41), .val (.int q42), .val (.ref b43), .val (.ref b47), .val (.ref b50), .val .null, .val .null] [])) (fun _ kk => XS.astore W68.here hx rfl (hb hby at_254) rfl rfl (l' := #[.val (.int i0), .val (.int i1), .val (.int i2), .val (.int i3), .val (.int (2 : Int32)), .val (.int q40), .val (.int q41), .val (.int q42), .val (.ref b43), .val (.ref b47), .val (.ref b50), .val .null, .val .null]) rfl kk) ?_
              refine Go.of (t' := T68.setTop (mkF m 258 #[.val (.int i0), .val (.int i1), .val (.int i2), .val (.int i3), .val (.int (2 : Int32)), .val (.int q40), .val (.int q41), .val (.int q42), .val (.ref b43), .val (.ref b47), .val (.ref b50), .val .null, .val .null] [.null])) (fun _ kk => XS.aload W68.here hx rfl (hb hby at_256) rfl rfl kk) ?_
              refine Go.of (t' := T68.setTop (mkF m 260 #[.val (.int i0), .val (.int i1), .val (.int i2), .val (.int i3), .val (.int (2 : Int32)), .val (.int q40), .val (.int q41), .val (.int q42), .val (.ref b43), .val (.ref b47), .val (.ref b50), .val .null, .val .null] [.null, .null])) (fun _ kk => XS.aload W68.here hx rfl (hb hby at_258) rfl rfl kk) ?_
              refine Go.of (t' := T68.setTop (mkF m 263 #[.val (.int i0), .val (.int i1), .val (.int i2), .val (.int i3), .val (.int (2 : Int32)), .val (.int q40), .val (.int q41), .val (.int q42), .val (.ref b43), .val (.ref b47), .val (.ref b50), .val .null, .val .null] [])) (fun _ kk => XT.acmpNo (g := (mkF m 260 #[.val (.int i0), .val (.int i1), .val (.int i2), .val (.int i3), .val (.int (2 : Int32)), .val (.int q40), .val (.int q41), .val (.int q42), .val (.ref b43), .val (.ref b47), .val (.ref b50), .val .null, .val .null] [.null, .null])) W68.here hx rfl (hb hby at_260) (x := .null) (y := .null) (rest := []) rfl rfl rfl (XT.aa_ne_f (x := .null) (y := .null) rfl) kk) ?_
              refine Go.of (t' := T68.setTop (mkF m 264 #[.val (.int i0), .val (.int i1), .val (.int i2), .val (.int i3), .val (.int (2 : Int32)), .val (.int q40), .val (.int q41), .val (.int q42), .val (.ref b43), .val (.ref b47), .val (.ref b50), .val .null, .val .null] [(.int (1 : Int32))])) (fun _ kk => XS.iconst W68.here hx rfl (hb hby at_263) kk) ?_
              refine Go.of (t' := T68.setTop (mkF m 268 #[.val (.int i0), .val (.int i1), .val (.int i2), .val (.int i3), .val (.int (2 : Int32)), .val (.int q40), .val (.int q41), .val (.int q42), .val (.ref b43), .val (.ref b47), .val (.ref b50), .val .null, .val .null] [(.int (1 : Int32))])) (fun _ kk => XS.goto W68.here hx rfl (pc0 := 264) (pc' := 268) rfl (hb hby at_264) (by decide +kernel) (by decide +kernel) kk) ?_
              exact W68.retI hx hEL hs hlk (by decide +kernel) (by decide +kernel) hret (by simp) rfl (hb hby at_268) rfl
    · refine Go.of (t' := T53.setTop (mkF m 249 #[.val (.int i0), .val (.int i1), .val (.int i2), .val (.int i3), .val (.int (2 : Int32)), .val (.int q40), .val (.int q41), .val (.int q42), .val (.ref b43), .val (.ref b47), .val (.ref b50), .val .null, .unset] [])) (fun _ kk => XS.icmpYes W53.here hx rfl (pc0 := 189) (pc' := 249) rfl (hb hby at_189) rfl (XT.ii_ne_t c55) (by decide +kernel) (by decide +kernel) kk) ?_
      refine Go.of (t' := T53.setTop (mkF m 251 #[.val (.int i0), .val (.int i1), .val (.int i2), .val (.int i3), .val (.int (2 : Int32)), .val (.int q40), .val (.int q41), .val (.int q42), .val (.ref b43), .val (.ref b47), .val (.ref b50), .val .null, .unset] [(.ref b50)])) (fun _ kk => XS.aload W53.here hx rfl (hb hby at_249) rfl rfl kk) ?_
      refine W53.callS hx hEL (hw _ (List.mem_of_getElem? (i := 26) rfl)) (hw _ (List.mem_of_getElem? (i := 27) rfl)) (hw _ (List.mem_of_getElem? (i := 28) rfl)) (hw _ (List.mem_of_getElem? (i := 29) rfl)) (by decide +kernel) (argsL := [(.ref b50)]) (rest := []) (rm4 l Z a0 hw hEL zc SC hzc fm SF rfm b50 [q40, q41] e0 e1 e2 e3 e4 e5 s0 s1 s2 s3 s4 s5 av kv h53 W53.old OE0 OE1 OE2 OE3 OE4 OE5 OF0 OF1 OF2 OF3 OF4 OF5 OS0 OS1 OS2 OS3 OS4 OS5 OA OV OT OX OC0 OC1 OC2 OC3 OC4 OC5 S53) all0 (by decide +kernel) (Wd := 0) (by decide +kernel) (by decide +kernel) (by decide +kernel) all0 rfl (by rw [hml]; rfl) (lenOf pd8 rfl) rfl (by show 2 * 0 + _ ≤ _; exact Nat.le_of_eq rfl) (hb hby at_251) (fun T69 h69 v69 W69 K69 q69 => ?_)
      have ew69 : wrOf e0 e1 e2 e3 e4 e5 [q40, q41] = .null := by simp [wrOf, c55, (Ne.symm c55)]
      rw [ew69] at q69
      subst q69
      show Go p e below _ (T69.setTop (mkF m 254 #[.val (.int i0), .val (.int i1), .val (.int i2), .val (.int i3), .val (.int (2 : Int32)), .val (.int q40), .val (.int q41), .val (.int q42), .val (.ref b43), .val (.ref b47), .val (.ref b50), .val .null, .unset] [.null]))
      refine Go.of (t' := T69.setTop (mkF m 256 #[.val (.int i0), .val (.int i1), .val (.int i2), .val (.int i3), .val (.int (2 : Int32)), .val (.int q40), .val (.int q41), .val (.int q42), .val (.ref b43), .val (.ref b47), .val (.ref b50), .val .null, .val .null] [])) (fun _ kk => XS.astore W69.here hx rfl (hb hby at_254) rfl rfl (l' := #[.val (.int i0), .val (.int i1), .val (.int i2), .val (.int i3), .val (.int (2 : Int32)), .val (.int q40), .val (.int q41), .val (.int q42), .val (.ref b43), .val (.ref b47), .val (.ref b50), .val .null, .val .null]) rfl kk) ?_
      refine Go.of (t' := T69.setTop (mkF m 258 #[.val (.int i0), .val (.int i1), .val (.int i2), .val (.int i3), .val (.int (2 : Int32)), .val (.int q40), .val (.int q41), .val (.int q42), .val (.ref b43), .val (.ref b47), .val (.ref b50), .val .null, .val .null] [.null])) (fun _ kk => XS.aload W69.here hx rfl (hb hby at_256) rfl rfl kk) ?_
      refine Go.of (t' := T69.setTop (mkF m 260 #[.val (.int i0), .val (.int i1), .val (.int i2), .val (.int i3), .val (.int (2 : Int32)), .val (.int q40), .val (.int q41), .val (.int q42), .val (.ref b43), .val (.ref b47), .val (.ref b50), .val .null, .val .null] [.null, .null])) (fun _ kk => XS.aload W69.here hx rfl (hb hby at_258) rfl rfl kk) ?_
      refine Go.of (t' := T69.setTop (mkF m 263 #[.val (.int i0), .val (.int i1), .val (.int i2), .val (.int i3), .val (.int (2 : Int32)), .val (.int q40), .val (.int q41), .val (.int q42), .val (.ref b43), .val (.ref b47), .val (.ref b50), .val .null, .val .null] [])) (fun _ kk => XT.acmpNo (g := (mkF m 260 #[.val (.int i0), .val (.int i1), .val (.int i2), .val (.int i3), .val (.int (2 : Int32)), .val (.int q40), .val (.int q41), .val (.int q42), .val (.ref b43), .val (.ref b47), .val (.ref b50), .val .null, .val .null] [.null, .null])) W69.here hx rfl (hb hby at_260) (x := .null) (y := .null) (rest := []) rfl rfl rfl (XT.aa_ne_f (x := .null) (y := .null) rfl) kk) ?_
      refine Go.of (t' := T69.setTop (mkF m 264 #[.val (.int i0), .val (.int i1), .val (.int i2), .val (.int i3), .val (.int (2 : Int32)), .val (.int q40), .val (.int q41), .val (.int q42), .val (.ref b43), .val (.ref b47), .val (.ref b50), .val .null, .val .null] [(.int (1 : Int32))])) (fun _ kk => XS.iconst W69.here hx rfl (hb hby at_263) kk) ?_
      refine Go.of (t' := T69.setTop (mkF m 268 #[.val (.int i0), .val (.int i1), .val (.int i2), .val (.int i3), .val (.int (2 : Int32)), .val (.int q40), .val (.int q41), .val (.int q42), .val (.ref b43), .val (.ref b47), .val (.ref b50), .val .null, .val .null] [(.int (1 : Int32))])) (fun _ kk => XS.goto W69.here hx rfl (pc0 := 264) (pc' := 268) rfl (hb hby at_264) (by decide +kernel) (by decide +kernel) kk) ?_
      exact W69.retI hx hEL hs hlk (by decide +kernel) (by decide +kernel) hret (by simp) rfl (hb hby at_268) rfl
  · rw [z1]
    show Go p e below _ (T0.setTop (mkF m 6 #[.val (.int i0), .val (.int i1), .val (.int i2), .val (.int i3), .unset, .unset, .unset, .unset, .unset, .unset, .unset, .unset, .unset] [(.int (3 : Int32))]))
    refine Go.of (t' := T0.setTop (mkF m 8 #[.val (.int i0), .val (.int i1), .val (.int i2), .val (.int i3), .val (.int (3 : Int32)), .unset, .unset, .unset, .unset, .unset, .unset, .unset, .unset] [])) (fun _ kk => XS.istore W0.here hx rfl (hb hby at_6) rfl (l' := #[.val (.int i0), .val (.int i1), .val (.int i2), .val (.int i3), .val (.int (3 : Int32)), .unset, .unset, .unset, .unset, .unset, .unset, .unset, .unset]) rfl kk) ?_
    refine Go.of (t' := T0.setTop (mkF m 9 #[.val (.int i0), .val (.int i1), .val (.int i2), .val (.int i3), .val (.int (3 : Int32)), .unset, .unset, .unset, .unset, .unset, .unset, .unset, .unset] [(.int i1)])) (fun _ kk => XS.iloadN W0.here hx rfl (hb hby at_8) rfl kk) ?_
    refine W0.callS hx hEL (hw _ (List.mem_of_getElem? (i := 0) rfl)) (hw _ (List.mem_of_getElem? (i := 1) rfl)) (hw _ (List.mem_of_getElem? (i := 2) rfl)) (hw _ (List.mem_of_getElem? (i := 3) rfl)) (by decide +kernel) (argsL := [(.int i1)]) (rest := []) (rm1 l Z a0 hw hEL zc SC hzc fm SF rfm i1 h0 W0.old ) all0 (by decide +kernel) (Wd := 0) (by decide +kernel) (by decide +kernel) (by decide +kernel) all0 rfl (by rw [hml]; rfl) (lenOf pd6 rfl) rfl (by show 2 * 0 + _ ≤ _; exact Nat.le_of_eq rfl) (hb hby at_9) (fun T70 h70 v70 W70 K70 q70 => ?_)
    obtain ⟨q70, rfl, cq70, rfl⟩ := q70
    show Go p e below _ (T70.setTop (mkF m 12 #[.val (.int i0), .val (.int i1), .val (.int i2), .val (.int i3), .val (.int (3 : Int32)), .unset, .unset, .unset, .unset, .unset, .unset, .unset, .unset] [(.int q70)]))
    refine Go.of (t' := T70.setTop (mkF m 14 #[.val (.int i0), .val (.int i1), .val (.int i2), .val (.int i3), .val (.int (3 : Int32)), .val (.int q70), .unset, .unset, .unset, .unset, .unset, .unset, .unset] [])) (fun _ kk => XS.istore W70.here hx rfl (hb hby at_12) rfl (l' := #[.val (.int i0), .val (.int i1), .val (.int i2), .val (.int i3), .val (.int (3 : Int32)), .val (.int q70), .unset, .unset, .unset, .unset, .unset, .unset, .unset]) rfl kk) ?_
    refine Go.of (t' := T70.setTop (mkF m 15 #[.val (.int i0), .val (.int i1), .val (.int i2), .val (.int i3), .val (.int (3 : Int32)), .val (.int q70), .unset, .unset, .unset, .unset, .unset, .unset, .unset] [(.int i2)])) (fun _ kk => XS.iloadN W70.here hx rfl (hb hby at_14) rfl kk) ?_
    refine W70.callS hx hEL (hw _ (List.mem_of_getElem? (i := 0) rfl)) (hw _ (List.mem_of_getElem? (i := 1) rfl)) (hw _ (List.mem_of_getElem? (i := 2) rfl)) (hw _ (List.mem_of_getElem? (i := 3) rfl)) (by decide +kernel) (argsL := [(.int i2)]) (rest := []) (rm1 l Z a0 hw hEL zc SC hzc fm SF rfm i2 h0 W70.old ) all0 (by decide +kernel) (Wd := 0) (by decide +kernel) (by decide +kernel) (by decide +kernel) all0 rfl (by rw [hml]; rfl) (lenOf pd6 rfl) rfl (by show 2 * 0 + _ ≤ _; exact Nat.le_of_eq rfl) (hb hby at_15) (fun T71 h71 v71 W71 K71 q71 => ?_)
    obtain ⟨q71, rfl, cq71, rfl⟩ := q71
    show Go p e below _ (T71.setTop (mkF m 18 #[.val (.int i0), .val (.int i1), .val (.int i2), .val (.int i3), .val (.int (3 : Int32)), .val (.int q70), .unset, .unset, .unset, .unset, .unset, .unset, .unset] [(.int q71)]))
    refine Go.of (t' := T71.setTop (mkF m 20 #[.val (.int i0), .val (.int i1), .val (.int i2), .val (.int i3), .val (.int (3 : Int32)), .val (.int q70), .val (.int q71), .unset, .unset, .unset, .unset, .unset, .unset] [])) (fun _ kk => XS.istore W71.here hx rfl (hb hby at_18) rfl (l' := #[.val (.int i0), .val (.int i1), .val (.int i2), .val (.int i3), .val (.int (3 : Int32)), .val (.int q70), .val (.int q71), .unset, .unset, .unset, .unset, .unset, .unset]) rfl kk) ?_
    refine Go.of (t' := T71.setTop (mkF m 21 #[.val (.int i0), .val (.int i1), .val (.int i2), .val (.int i3), .val (.int (3 : Int32)), .val (.int q70), .val (.int q71), .unset, .unset, .unset, .unset, .unset, .unset] [(.int i3)])) (fun _ kk => XS.iloadN W71.here hx rfl (hb hby at_20) rfl kk) ?_
    refine W71.callS hx hEL (hw _ (List.mem_of_getElem? (i := 0) rfl)) (hw _ (List.mem_of_getElem? (i := 1) rfl)) (hw _ (List.mem_of_getElem? (i := 2) rfl)) (hw _ (List.mem_of_getElem? (i := 3) rfl)) (by decide +kernel) (argsL := [(.int i3)]) (rest := []) (rm1 l Z a0 hw hEL zc SC hzc fm SF rfm i3 h0 W71.old ) all0 (by decide +kernel) (Wd := 0) (by decide +kernel) (by decide +kernel) (by decide +kernel) all0 rfl (by rw [hml]; rfl) (lenOf pd6 rfl) rfl (by show 2 * 0 + _ ≤ _; exact Nat.le_of_eq rfl) (hb hby at_21) (fun T72 h72 v72 W72 K72 q72 => ?_)
    obtain ⟨q72, rfl, cq72, rfl⟩ := q72
    show Go p e below _ (T72.setTop (mkF m 24 #[.val (.int i0), .val (.int i1), .val (.int i2), .val (.int i3), .val (.int (3 : Int32)), .val (.int q70), .val (.int q71), .unset, .unset, .unset, .unset, .unset, .unset] [(.int q72)]))
    refine Go.of (t' := T72.setTop (mkF m 26 #[.val (.int i0), .val (.int i1), .val (.int i2), .val (.int i3), .val (.int (3 : Int32)), .val (.int q70), .val (.int q71), .val (.int q72), .unset, .unset, .unset, .unset, .unset] [])) (fun _ kk => XS.istore W72.here hx rfl (hb hby at_24) rfl (l' := #[.val (.int i0), .val (.int i1), .val (.int i2), .val (.int i3), .val (.int (3 : Int32)), .val (.int q70), .val (.int q71), .val (.int q72), .unset, .unset, .unset, .unset, .unset]) rfl kk) ?_
    refine Go.of (t' := T72.setTop (mkF m 27 #[.val (.int i0), .val (.int i1), .val (.int i2), .val (.int i3), .val (.int (3 : Int32)), .val (.int q70), .val (.int q71), .val (.int q72), .unset, .unset, .unset, .unset, .unset] [(.int (3 : Int32))])) (fun _ kk => XS.iconst W72.here hx rfl (hb hby at_26) kk) ?_
    refine W72.newP hx (hw _ (List.mem_of_getElem? (i := 4) rfl)) rfl (hb hby at_27) rfl (by decide +kernel) (cap := 3) (by decide +kernel) (by decide +kernel) (by decide +kernel) (by decide +kernel) (fun T73 h73 b73 c73 eb73 gb73 W73 K73 A73 => ?_)
    have V73 : Arv Z h73 b73 c73 .char (3 : Int32) [(.int (0 : Int32)), (.int (0 : Int32)), (.int (0 : Int32))] (.int (0 : Int32)) := A73
    show Go p e below _ (T73.setTop (mkF m 29 #[.val (.int i0), .val (.int i1), .val (.int i2), .val (.int i3), .val (.int (3 : Int32)), .val (.int q70), .val (.int q71), .val (.int q72), .unset, .unset, .unset, .unset, .unset] [(.ref b73)]))
    refine Go.of (t' := T73.setTop (mkF m 30 #[.val (.int i0), .val (.int i1), .val (.int i2), .val (.int i3), .val (.int (3 : Int32)), .val (.int q70), .val (.int q71), .val (.int q72), .unset, .unset, .unset, .unset, .unset] [(.ref b73), (.ref b73)])) (fun _ kk => XS.dup W73.here hx rfl (hb hby at_29) rfl rfl kk) ?_
    refine Go.of (t' := T73.setTop (mkF m 31 #[.val (.int i0), .val (.int i1), .val (.int i2), .val (.int i3), .val (.int (3 : Int32)), .val (.int q70), .val (.int q71), .val (.int q72), .unset, .unset, .unset, .unset, .unset] [(.int (0 : Int32)), (.ref b73), (.ref b73)])) (fun _ kk => XS.iconst W73.here hx rfl (hb hby at_30) kk) ?_
    refine Go.of (t' := T73.setTop (mkF m 33 #[.val (.int i0), .val (.int i1), .val (.int i2), .val (.int i3), .val (.int (3 : Int32)), .val (.int q70), .val (.int q71), .val (.int q72), .unset, .unset, .unset, .unset, .unset] [(.int q70), (.int (0 : Int32)), (.ref b73), (.ref b73)])) (fun _ kk => XS.iload W73.here hx rfl (hb hby at_31) rfl kk) ?_
    refine W73.stC hx V73 ⟨by decide, by decide⟩ 0 rfl (Nat.le_of_ble_eq_true rfl) gb73.1 (Or.inr gb73.2) rfl rfl (hb hby at_33) (fun T74 h74 W74 K74 A74 => ?_)
    have V74 : Arv Z h74 b73 c73 .char (3 : Int32) [(.int q70), (.int (0 : Int32)), (.int (0 : Int32))] (.int (0 : Int32)) := (by rw [(nar_char cq70)] at A74; exact A74)
    show Go p e below _ (T74.setTop (mkF m 34 #[.val (.int i0), .val (.int i1), .val (.int i2), .val (.int i3), .val (.int (3 : Int32)), .val (.int q70), .val (.int q71), .val (.int q72), .unset, .unset, .unset, .unset, .unset] [(.ref b73)]))
    refine Go.of (t' := T74.setTop (mkF m 35 #[.val (.int i0), .val (.int i1), .val (.int i2), .val (.int i3), .val (.int (3 : Int32)), .val (.int q70), .val (.int q71), .val (.int q72), .unset, .unset, .unset, .unset, .unset] [(.ref b73), (.ref b73)])) (fun _ kk => XS.dup W74.here hx rfl (hb hby at_34) rfl rfl kk) ?_
    refine Go.of (t' := T74.setTop (mkF m 36 #[.val (.int i0), .val (.int i1), .val (.int i2), .val (.int i3), .val (.int (3 : Int32)), .val (.int q70), .val (.int q71), .val (.int q72), .unset, .unset, .unset, .unset, .unset] [(.int (1 : Int32)), (.ref b73), (.ref b73)])) (fun _ kk => XS.iconst W74.here hx rfl (hb hby at_35) kk) ?_
    refine Go.of (t' := T74.setTop (mkF m 38 #[.val (.int i0), .val (.int i1), .val (.int i2), .val (.int i3), .val (.int (3 : Int32)), .val (.int q70), .val (.int q71), .val (.int q72), .unset, .unset, .unset, .unset, .unset] [(.int q71), (.int (1 : Int32)), (.ref b73), (.ref b73)])) (fun _ kk => XS.iload W74.here hx rfl (hb hby at_36) rfl kk) ?_
    refine W74.stC hx V74 ⟨by decide, by decide⟩ 1 rfl (Nat.le_of_ble_eq_true rfl) gb73.1 (Or.inr gb73.2) rfl rfl (hb hby at_38) (fun T75 h75 W75 K75 A75 => ?_)
    have V75 : Arv Z h75 b73 c73 .char (3 : Int32) [(.int q70), (.int q71), (.int (0 : Int32))] (.int (0 : Int32)) := (by rw [(nar_char cq71)] at A75; exact A75)
    show Go p e below _ (T75.setTop (mkF m 39 #[.val (.int i0), .val (.int i1), .val (.int i2), .val (.int i3), .val (.int (3 : Int32)), .val (.int q70), .val (.int q71), .val (.int q72), .unset, .unset, .unset, .unset, .unset] [(.ref b73)]))
    refine Go.of (t' := T75.setTop (mkF m 40 #[.val (.int i0), .val (.int i1), .val (.int i2), .val (.int i3), .val (.int (3 : Int32)), .val (.int q70), .val (.int q71), .val (.int q72), .unset, .unset, .unset, .unset, .unset] [(.ref b73), (.ref b73)])) (fun _ kk => XS.dup W75.here hx rfl (hb hby at_39) rfl rfl kk) ?_
    refine Go.of (t' := T75.setTop (mkF m 41 #[.val (.int i0), .val (.int i1), .val (.int i2), .val (.int i3), .val (.int (3 : Int32)), .val (.int q70), .val (.int q71), .val (.int q72), .unset, .unset, .unset, .unset, .unset] [(.int (2 : Int32)), (.ref b73), (.ref b73)])) (fun _ kk => XS.iconst W75.here hx rfl (hb hby at_40) kk) ?_
    refine Go.of (t' := T75.setTop (mkF m 43 #[.val (.int i0), .val (.int i1), .val (.int i2), .val (.int i3), .val (.int (3 : Int32)), .val (.int q70), .val (.int q71), .val (.int q72), .unset, .unset, .unset, .unset, .unset] [(.int q72), (.int (2 : Int32)), (.ref b73), (.ref b73)])) (fun _ kk => XS.iload W75.here hx rfl (hb hby at_41) rfl kk) ?_
    refine W75.stC hx V75 ⟨by decide, by decide⟩ 2 rfl (Nat.le_of_ble_eq_true rfl) gb73.1 (Or.inr gb73.2) rfl rfl (hb hby at_43) (fun T76 h76 W76 K76 A76 => ?_)
    have V76 : Arv Z h76 b73 c73 .char (3 : Int32) [(.int q70), (.int q71), (.int q72)] (.int (0 : Int32)) := (by rw [(nar_char cq72)] at A76; exact A76)
    show Go p e below _ (T76.setTop (mkF m 44 #[.val (.int i0), .val (.int i1), .val (.int i2), .val (.int i3), .val (.int (3 : Int32)), .val (.int q70), .val (.int q71), .val (.int q72), .unset, .unset, .unset, .unset, .unset] [(.ref b73)]))
    refine Go.of (t' := T76.setTop (mkF m 46 #[.val (.int i0), .val (.int i1), .val (.int i2), .val (.int i3), .val (.int (3 : Int32)), .val (.int q70), .val (.int q71), .val (.int q72), .val (.ref b73), .unset, .unset, .unset, .unset] [])) (fun _ kk => XS.astore W76.here hx rfl (hb hby at_44) rfl rfl (l' := #[.val (.int i0), .val (.int i1), .val (.int i2), .val (.int i3), .val (.int (3 : Int32)), .val (.int q70), .val (.int q71), .val (.int q72), .val (.ref b73), .unset, .unset, .unset, .unset]) rfl kk) ?_
    refine Go.of (t' := T76.setTop (mkF m 47 #[.val (.int i0), .val (.int i1), .val (.int i2), .val (.int i3), .val (.int (3 : Int32)), .val (.int q70), .val (.int q71), .val (.int q72), .val (.ref b73), .unset, .unset, .unset, .unset] [(.int (2 : Int32))])) (fun _ kk => XS.iconst W76.here hx rfl (hb hby at_46) kk) ?_
    refine W76.newP hx (hw _ (List.mem_of_getElem? (i := 4) rfl)) rfl (hb hby at_47) rfl (by decide +kernel) (cap := 2) (by decide +kernel) (by decide +kernel) (by decide +kernel) (by decide +kernel) (fun T77 h77 b77 c77 eb77 gb77 W77 K77 A77 => ?_)
    have V77 : Arv Z h77 b77 c77 .char (2 : Int32) [(.int (0 : Int32)), (.int (0 : Int32))] (.int (0 : Int32)) := A77
    show Go p e below _ (T77.setTop (mkF m 49 #[.val (.int i0), .val (.int i1), .val (.int i2), .val (.int i3), .val (.int (3 : Int32)), .val (.int q70), .val (.int q71), .val (.int q72), .val (.ref b73), .unset, .unset, .unset, .unset] [(.ref b77)]))
    refine Go.of (t' := T77.setTop (mkF m 50 #[.val (.int i0), .val (.int i1), .val (.int i2), .val (.int i3), .val (.int (3 : Int32)), .val (.int q70), .val (.int q71), .val (.int q72), .val (.ref b73), .unset, .unset, .unset, .unset] [(.ref b77), (.ref b77)])) (fun _ kk => XS.dup W77.here hx rfl (hb hby at_49) rfl rfl kk) ?_
    refine Go.of (t' := T77.setTop (mkF m 51 #[.val (.int i0), .val (.int i1), .val (.int i2), .val (.int i3), .val (.int (3 : Int32)), .val (.int q70), .val (.int q71), .val (.int q72), .val (.ref b73), .unset, .unset, .unset, .unset] [(.int (0 : Int32)), (.ref b77), (.ref b77)])) (fun _ kk => XS.iconst W77.here hx rfl (hb hby at_50) kk) ?_
    refine Go.of (t' := T77.setTop (mkF m 53 #[.val (.int i0), .val (.int i1), .val (.int i2), .val (.int i3), .val (.int (3 : Int32)), .val (.int q70), .val (.int q71), .val (.int q72), .val (.ref b73), .unset, .unset, .unset, .unset] [(.int q70), (.int (0 : Int32)), (.ref b77), (.ref b77)])) (fun _ kk => XS.iload W77.here hx rfl (hb hby at_51) rfl kk) ?_
    refine W77.stC hx V77 ⟨by decide, by decide⟩ 0 rfl (Nat.le_of_ble_eq_true rfl) gb77.1 (Or.inr gb77.2) rfl rfl (hb hby at_53) (fun T78 h78 W78 K78 A78 => ?_)
    have V78 : Arv Z h78 b77 c77 .char (2 : Int32) [(.int q70), (.int (0 : Int32))] (.int (0 : Int32)) := (by rw [(nar_char cq70)] at A78; exact A78)
    show Go p e below _ (T78.setTop (mkF m 54 #[.val (.int i0), .val (.int i1), .val (.int i2), .val (.int i3), .val (.int (3 : Int32)), .val (.int q70), .val (.int q71), .val (.int q72), .val (.ref b73), .unset, .unset, .unset, .unset] [(.ref b77)]))
    refine Go.of (t' := T78.setTop (mkF m 55 #[.val (.int i0), .val (.int i1), .val (.int i2), .val (.int i3), .val (.int (3 : Int32)), .val (.int q70), .val (.int q71), .val (.int q72), .val (.ref b73), .unset, .unset, .unset, .unset] [(.ref b77), (.ref b77)])) (fun _ kk => XS.dup W78.here hx rfl (hb hby at_54) rfl rfl kk) ?_
    refine Go.of (t' := T78.setTop (mkF m 56 #[.val (.int i0), .val (.int i1), .val (.int i2), .val (.int i3), .val (.int (3 : Int32)), .val (.int q70), .val (.int q71), .val (.int q72), .val (.ref b73), .unset, .unset, .unset, .unset] [(.int (1 : Int32)), (.ref b77), (.ref b77)])) (fun _ kk => XS.iconst W78.here hx rfl (hb hby at_55) kk) ?_
    refine Go.of (t' := T78.setTop (mkF m 58 #[.val (.int i0), .val (.int i1), .val (.int i2), .val (.int i3), .val (.int (3 : Int32)), .val (.int q70), .val (.int q71), .val (.int q72), .val (.ref b73), .unset, .unset, .unset, .unset] [(.int q71), (.int (1 : Int32)), (.ref b77), (.ref b77)])) (fun _ kk => XS.iload W78.here hx rfl (hb hby at_56) rfl kk) ?_
    refine W78.stC hx V78 ⟨by decide, by decide⟩ 1 rfl (Nat.le_of_ble_eq_true rfl) gb77.1 (Or.inr gb77.2) rfl rfl (hb hby at_58) (fun T79 h79 W79 K79 A79 => ?_)
    have V79 : Arv Z h79 b77 c77 .char (2 : Int32) [(.int q70), (.int q71)] (.int (0 : Int32)) := (by rw [(nar_char cq71)] at A79; exact A79)
    show Go p e below _ (T79.setTop (mkF m 59 #[.val (.int i0), .val (.int i1), .val (.int i2), .val (.int i3), .val (.int (3 : Int32)), .val (.int q70), .val (.int q71), .val (.int q72), .val (.ref b73), .unset, .unset, .unset, .unset] [(.ref b77)]))
    refine Go.of (t' := T79.setTop (mkF m 61 #[.val (.int i0), .val (.int i1), .val (.int i2), .val (.int i3), .val (.int (3 : Int32)), .val (.int q70), .val (.int q71), .val (.int q72), .val (.ref b73), .val (.ref b77), .unset, .unset, .unset] [])) (fun _ kk => XS.astore W79.here hx rfl (hb hby at_59) rfl rfl (l' := #[.val (.int i0), .val (.int i1), .val (.int i2), .val (.int i3), .val (.int (3 : Int32)), .val (.int q70), .val (.int q71), .val (.int q72), .val (.ref b73), .val (.ref b77), .unset, .unset, .unset]) rfl kk) ?_
    refine Go.of (t' := T79.setTop (mkF m 63 #[.val (.int i0), .val (.int i1), .val (.int i2), .val (.int i3), .val (.int (3 : Int32)), .val (.int q70), .val (.int q71), .val (.int q72), .val (.ref b73), .val (.ref b77), .unset, .unset, .unset] [(.int (3 : Int32))])) (fun _ kk => XS.iload W79.here hx rfl (hb hby at_61) rfl kk) ?_
    refine Go.of (t' := T79.setTop (mkF m 81 #[.val (.int i0), .val (.int i1), .val (.int i2), .val (.int i3), .val (.int (3 : Int32)), .val (.int q70), .val (.int q71), .val (.int q72), .val (.ref b73), .val (.ref b77), .unset, .unset, .unset] [])) (fun _ kk => XS.ifYes W79.here hx rfl (pc0 := 63) (pc' := 81) rfl (hb hby at_63) rfl (XT.i0_ne_t (by decide +kernel)) (by decide +kernel) (by decide +kernel) kk) ?_
    refine Go.of (t' := T79.setTop (mkF m 83 #[.val (.int i0), .val (.int i1), .val (.int i2), .val (.int i3), .val (.int (3 : Int32)), .val (.int q70), .val (.int q71), .val (.int q72), .val (.ref b73), .val (.ref b77), .unset, .unset, .unset] [(.int (3 : Int32))])) (fun _ kk => XS.iload W79.here hx rfl (hb hby at_81) rfl kk) ?_
    refine Go.of (t' := T79.setTop (mkF m 84 #[.val (.int i0), .val (.int i1), .val (.int i2), .val (.int i3), .val (.int (3 : Int32)), .val (.int q70), .val (.int q71), .val (.int q72), .val (.ref b73), .val (.ref b77), .unset, .unset, .unset] [(.int (1 : Int32)), (.int (3 : Int32))])) (fun _ kk => XS.iconst W79.here hx rfl (hb hby at_83) kk) ?_
    refine Go.of (t' := T79.setTop (mkF m 97 #[.val (.int i0), .val (.int i1), .val (.int i2), .val (.int i3), .val (.int (3 : Int32)), .val (.int q70), .val (.int q71), .val (.int q72), .val (.ref b73), .val (.ref b77), .unset, .unset, .unset] [])) (fun _ kk => XS.icmpYes W79.here hx rfl (pc0 := 84) (pc' := 97) rfl (hb hby at_84) rfl (XT.ii_ne_t (by decide +kernel)) (by decide +kernel) (by decide +kernel) kk) ?_
    refine Go.of (t' := T79.setTop (mkF m 99 #[.val (.int i0), .val (.int i1), .val (.int i2), .val (.int i3), .val (.int (3 : Int32)), .val (.int q70), .val (.int q71), .val (.int q72), .val (.ref b73), .val (.ref b77), .unset, .unset, .unset] [(.int (3 : Int32))])) (fun _ kk => XS.iload W79.here hx rfl (hb hby at_97) rfl kk) ?_
    refine Go.of (t' := T79.setTop (mkF m 100 #[.val (.int i0), .val (.int i1), .val (.int i2), .val (.int i3), .val (.int (3 : Int32)), .val (.int q70), .val (.int q71), .val (.int q72), .val (.ref b73), .val (.ref b77), .unset, .unset, .unset] [(.int (2 : Int32)), (.int (3 : Int32))])) (fun _ kk => XS.iconst W79.here hx rfl (hb hby at_99) kk) ?_
    refine Go.of (t' := T79.setTop (mkF m 117 #[.val (.int i0), .val (.int i1), .val (.int i2), .val (.int i3), .val (.int (3 : Int32)), .val (.int q70), .val (.int q71), .val (.int q72), .val (.ref b73), .val (.ref b77), .unset, .unset, .unset] [])) (fun _ kk => XS.icmpYes W79.here hx rfl (pc0 := 100) (pc' := 117) rfl (hb hby at_100) rfl (XT.ii_ne_t (by decide +kernel)) (by decide +kernel) (by decide +kernel) kk) ?_
    refine Go.of (t' := T79.setTop (mkF m 119 #[.val (.int i0), .val (.int i1), .val (.int i2), .val (.int i3), .val (.int (3 : Int32)), .val (.int q70), .val (.int q71), .val (.int q72), .val (.ref b73), .val (.ref b77), .unset, .unset, .unset] [(.int (3 : Int32))])) (fun _ kk => XS.iload W79.here hx rfl (hb hby at_117) rfl kk) ?_
    refine Go.of (t' := T79.setTop (mkF m 120 #[.val (.int i0), .val (.int i1), .val (.int i2), .val (.int i3), .val (.int (3 : Int32)), .val (.int q70), .val (.int q71), .val (.int q72), .val (.ref b73), .val (.ref b77), .unset, .unset, .unset] [(.int (3 : Int32)), (.int (3 : Int32))])) (fun _ kk => XS.iconst W79.here hx rfl (hb hby at_119) kk) ?_
    refine Go.of (t' := T79.setTop (mkF m 123 #[.val (.int i0), .val (.int i1), .val (.int i2), .val (.int i3), .val (.int (3 : Int32)), .val (.int q70), .val (.int q71), .val (.int q72), .val (.ref b73), .val (.ref b77), .unset, .unset, .unset] [])) (fun _ kk => XS.icmpNo W79.here hx rfl (hb hby at_120) rfl (XT.ii_ne_f (by decide +kernel)) kk) ?_
    refine W79.newO hx (hw _ (List.mem_of_getElem? (i := 5) rfl)) (hw _ (List.mem_of_getElem? (i := 6) rfl)) (hw _ (List.mem_of_getElem? (i := 7) rfl)) rfl (hb hby at_123) (by decide +kernel) (by decide +kernel) (fun T80 h80 b80 eb80 gb80 W80 K80 E80 D80 => ?_)
    have k81 : Fld Z h80 b80 "java/lang/String" "value" "[B" .null := D80 (Or.inr (hw _ (List.mem_of_getElem? (i := 20) rfl))) (ty := (.array .byte)) (by decide +kernel)
    have k82 : Fld Z h80 b80 "java/lang/String" "coder" "B" (.int (0 : Int32)) := D80 (Or.inr (hw _ (List.mem_of_getElem? (i := 21) rfl))) (ty := .byte) (by decide +kernel)
    show Go p e below _ (T80.setTop (mkF m 126 #[.val (.int i0), .val (.int i1), .val (.int i2), .val (.int i3), .val (.int (3 : Int32)), .val (.int q70), .val (.int q71), .val (.int q72), .val (.ref b73), .val (.ref b77), .unset, .unset, .unset] [(.ref b80)]))
    refine Go.of (t' := T80.setTop (mkF m 127 #[.val (.int i0), .val (.int i1), .val (.int i2), .val (.int i3), .val (.int (3 : Int32)), .val (.int q70), .val (.int q71), .val (.int q72), .val (.ref b73), .val (.ref b77), .unset, .unset, .unset] [(.ref b80), (.ref b80)])) (fun _ kk => XS.dup W80.here hx rfl (hb hby at_126) rfl rfl kk) ?_
    refine Go.of (t' := T80.setTop (mkF m 129 #[.val (.int i0), .val (.int i1), .val (.int i2), .val (.int i3), .val (.int (3 : Int32)), .val (.int q70), .val (.int q71), .val (.int q72), .val (.ref b73), .val (.ref b77), .unset, .unset, .unset] [(.ref b73), (.ref b80), (.ref b80)])) (fun _ kk => XS.aload W80.here hx rfl (hb hby at_127) rfl rfl kk) ?_
    have k84 := ((((V76.keep K77 nin0).keep K78 (ninS (ne_of_born (Nat.le_of_eq eb77.symm) V73.lt (Nat.le_trans (Nat.le_trans K74.1 K75.1) K76.1)) nin0)).keep K79 (ninS (ne_of_born (Nat.le_of_eq eb77.symm) V73.lt (Nat.le_trans (Nat.le_trans K74.1 K75.1) K76.1)) nin0)).keep K80 nin0)
    refine W80.newStr hx hws (hw _ (List.mem_of_getElem? (i := 6) rfl)) SC hzc (hw _ (List.mem_of_getElem? (i := 8) rfl)) (hw _ (List.mem_of_getElem? (i := 9) rfl)) (hw _ (List.mem_of_getElem? (i := 10) rfl)) E80 k81 k82 (cs := [q70, q71, q72]) (n := 3) k84 rfl rfl (by decide +kernel) (by decide +kernel) (allSi cq70 (allSi cq71 (allSi cq72 all0i))) gb80.1 (Or.inr gb80.2) (List.mem_of_getElem? (i := 0) rfl) (by decide +kernel) (Wd := 1) (by decide +kernel) (by decide +kernel) (by decide +kernel) rfl (by rw [hml]; rfl) rfl (by show 2 * 0 + _ ≤ _; exact Nat.le_of_eq rfl) (hb hby at_129) (fun T83 h83 W83 K83 S83 => ?_)
    show Go p e below _ (T83.setTop (mkF m 132 #[.val (.int i0), .val (.int i1), .val (.int i2), .val (.int i3), .val (.int (3 : Int32)), .val (.int q70), .val (.int q71), .val (.int q72), .val (.ref b73), .val (.ref b77), .unset, .unset, .unset] [(.ref b80)]))
    refine Go.of (t' := T83.setTop (mkF m 134 #[.val (.int i0), .val (.int i1), .val (.int i2), .val (.int i3), .val (.int (3 : Int32)), .val (.int q70), .val (.int q71), .val (.int q72), .val (.ref b73), .val (.ref b77), .val (.ref b80), .unset, .unset] [])) (fun _ kk => XS.astore W83.here hx rfl (hb hby at_132) rfl rfl (l' := #[.val (.int i0), .val (.int i1), .val (.int i2), .val (.int i3), .val (.int (3 : Int32)), .val (.int q70), .val (.int q71), .val (.int q72), .val (.ref b73), .val (.ref b77), .val (.ref b80), .unset, .unset]) rfl kk) ?_
    refine Go.of (t' := T83.setTop (mkF m 140 #[.val (.int i0), .val (.int i1), .val (.int i2), .val (.int i3), .val (.int (3 : Int32)), .val (.int q70), .val (.int q71), .val (.int q72), .val (.ref b73), .val (.ref b77), .val (.ref b80), .unset, .unset] [])) (fun _ kk => XS.goto W83.here hx rfl (pc0 := 134) (pc' := 140) rfl (hb hby at_134) (by decide +kernel) (by decide +kernel) kk) ?_
    refine Go.of (t' := T83.setTop (mkF m 141 #[.val (.int i0), .val (.int i1), .val (.int i2), .val (.int i3), .val (.int (3 : Int32)), .val (.int q70), .val (.int q71), .val (.int q72), .val (.ref b73), .val (.ref b77), .val (.ref b80), .unset, .unset] [.null])) (fun _ kk => XS.aconstNull W83.here hx rfl (hb hby at_140) kk) ?_
    refine Go.of (t' := T83.setTop (mkF m 143 #[.val (.int i0), .val (.int i1), .val (.int i2), .val (.int i3), .val (.int (3 : Int32)), .val (.int q70), .val (.int q71), .val (.int q72), .val (.ref b73), .val (.ref b77), .val (.ref b80), .val .null, .unset] [])) (fun _ kk => XS.astore W83.here hx rfl (hb hby at_141) rfl rfl (l' := #[.val (.int i0), .val (.int i1), .val (.int i2), .val (.int i3), .val (.int (3 : Int32)), .val (.int q70), .val (.int q71), .val (.int q72), .val (.ref b73), .val (.ref b77), .val (.ref b80), .val .null, .unset]) rfl kk) ?_
    refine Go.of (t' := T83.setTop (mkF m 145 #[.val (.int i0), .val (.int i1), .val (.int i2), .val (.int i3), .val (.int (3 : Int32)), .val (.int q70), .val (.int q71), .val (.int q72), .val (.ref b73), .val (.ref b77), .val (.ref b80), .val .null, .unset] [(.int (3 : Int32))])) (fun _ kk => XS.iload W83.here hx rfl (hb hby at_143) rfl kk) ?_
    refine Go.of (t' := T83.setTop (mkF m 146 #[.val (.int i0), .val (.int i1), .val (.int i2), .val (.int i3), .val (.int (3 : Int32)), .val (.int q70), .val (.int q71), .val (.int q72), .val (.ref b73), .val (.ref b77), .val (.ref b80), .val .null, .unset] [(.int (1 : Int32)), (.int (3 : Int32))])) (fun _ kk => XS.iconst W83.here hx rfl (hb hby at_145) kk) ?_
    refine Go.of (t' := T83.setTop (mkF m 179 #[.val (.int i0), .val (.int i1), .val (.int i2), .val (.int i3), .val (.int (3 : Int32)), .val (.int q70), .val (.int q71), .val (.int q72), .val (.ref b73), .val (.ref b77), .val (.ref b80), .val .null, .unset] [])) (fun _ kk => XS.icmpYes W83.here hx rfl (pc0 := 146) (pc' := 179) rfl (hb hby at_146) rfl (XT.ii_ne_t (by decide +kernel)) (by decide +kernel) (by decide +kernel) kk) ?_
    refine Go.of (t' := T83.setTop (mkF m 181 #[.val (.int i0), .val (.int i1), .val (.int i2), .val (.int i3), .val (.int (3 : Int32)), .val (.int q70), .val (.int q71), .val (.int q72), .val (.ref b73), .val (.ref b77), .val (.ref b80), .val .null, .unset] [(.int (3 : Int32))])) (fun _ kk => XS.iload W83.here hx rfl (hb hby at_179) rfl kk) ?_
    refine Go.of (t' := T83.setTop (mkF m 182 #[.val (.int i0), .val (.int i1), .val (.int i2), .val (.int i3), .val (.int (3 : Int32)), .val (.int q70), .val (.int q71), .val (.int q72), .val (.ref b73), .val (.ref b77), .val (.ref b80), .val .null, .unset] [(.int (2 : Int32)), (.int (3 : Int32))])) (fun _ kk => XS.iconst W83.here hx rfl (hb hby at_181) kk) ?_
    refine Go.of (t' := T83.setTop (mkF m 249 #[.val (.int i0), .val (.int i1), .val (.int i2), .val (.int i3), .val (.int (3 : Int32)), .val (.int q70), .val (.int q71), .val (.int q72), .val (.ref b73), .val (.ref b77), .val (.ref b80), .val .null, .unset] [])) (fun _ kk => XS.icmpYes W83.here hx rfl (pc0 := 182) (pc' := 249) rfl (hb hby at_182) rfl (XT.ii_ne_t (by decide +kernel)) (by decide +kernel) (by decide +kernel) kk) ?_
    refine Go.of (t' := T83.setTop (mkF m 251 #[.val (.int i0), .val (.int i1), .val (.int i2), .val (.int i3), .val (.int (3 : Int32)), .val (.int q70), .val (.int q71), .val (.int q72), .val (.ref b73), .val (.ref b77), .val (.ref b80), .val .null, .unset] [(.ref b80)])) (fun _ kk => XS.aload W83.here hx rfl (hb hby at_249) rfl rfl kk) ?_
    refine W83.callS hx hEL (hw _ (List.mem_of_getElem? (i := 26) rfl)) (hw _ (List.mem_of_getElem? (i := 27) rfl)) (hw _ (List.mem_of_getElem? (i := 28) rfl)) (hw _ (List.mem_of_getElem? (i := 29) rfl)) (by decide +kernel) (argsL := [(.ref b80)]) (rest := []) (rm4 l Z a0 hw hEL zc SC hzc fm SF rfm b80 [q70, q71, q72] e0 e1 e2 e3 e4 e5 s0 s1 s2 s3 s4 s5 av kv h83 W83.old OE0 OE1 OE2 OE3 OE4 OE5 OF0 OF1 OF2 OF3 OF4 OF5 OS0 OS1 OS2 OS3 OS4 OS5 OA OV OT OX OC0 OC1 OC2 OC3 OC4 OC5 S83) all0 (by decide +kernel) (Wd := 0) (by decide +kernel) (by decide +kernel) (by decide +kernel) all0 rfl (by rw [hml]; rfl) (lenOf pd8 rfl) rfl (by show 2 * 0 + _ ≤ _; exact Nat.le_of_eq rfl) (hb hby at_251) (fun T85 h85 v85 W85 K85 q85 => ?_)
    have ew85 : wrOf e0 e1 e2 e3 e4 e5 [q70, q71, q72] = .null := by simp [wrOf]
    rw [ew85] at q85
    subst q85
    show Go p e below _ (T85.setTop (mkF m 254 #[.val (.int i0), .val (.int i1), .val (.int i2), .val (.int i3), .val (.int (3 : Int32)), .val (.int q70), .val (.int q71), .val (.int q72), .val (.ref b73), .val (.ref b77), .val (.ref b80), .val .null, .unset] [.null]))
    refine Go.of (t' := T85.setTop (mkF m 256 #[.val (.int i0), .val (.int i1), .val (.int i2), .val (.int i3), .val (.int (3 : Int32)), .val (.int q70), .val (.int q71), .val (.int q72), .val (.ref b73), .val (.ref b77), .val (.ref b80), .val .null, .val .null] [])) (fun _ kk => XS.astore W85.here hx rfl (hb hby at_254) rfl rfl (l' := #[.val (.int i0), .val (.int i1), .val (.int i2), .val (.int i3), .val (.int (3 : Int32)), .val (.int q70), .val (.int q71), .val (.int q72), .val (.ref b73), .val (.ref b77), .val (.ref b80), .val .null, .val .null]) rfl kk) ?_
    refine Go.of (t' := T85.setTop (mkF m 258 #[.val (.int i0), .val (.int i1), .val (.int i2), .val (.int i3), .val (.int (3 : Int32)), .val (.int q70), .val (.int q71), .val (.int q72), .val (.ref b73), .val (.ref b77), .val (.ref b80), .val .null, .val .null] [.null])) (fun _ kk => XS.aload W85.here hx rfl (hb hby at_256) rfl rfl kk) ?_
    refine Go.of (t' := T85.setTop (mkF m 260 #[.val (.int i0), .val (.int i1), .val (.int i2), .val (.int i3), .val (.int (3 : Int32)), .val (.int q70), .val (.int q71), .val (.int q72), .val (.ref b73), .val (.ref b77), .val (.ref b80), .val .null, .val .null] [.null, .null])) (fun _ kk => XS.aload W85.here hx rfl (hb hby at_258) rfl rfl kk) ?_
    refine Go.of (t' := T85.setTop (mkF m 263 #[.val (.int i0), .val (.int i1), .val (.int i2), .val (.int i3), .val (.int (3 : Int32)), .val (.int q70), .val (.int q71), .val (.int q72), .val (.ref b73), .val (.ref b77), .val (.ref b80), .val .null, .val .null] [])) (fun _ kk => XT.acmpNo (g := (mkF m 260 #[.val (.int i0), .val (.int i1), .val (.int i2), .val (.int i3), .val (.int (3 : Int32)), .val (.int q70), .val (.int q71), .val (.int q72), .val (.ref b73), .val (.ref b77), .val (.ref b80), .val .null, .val .null] [.null, .null])) W85.here hx rfl (hb hby at_260) (x := .null) (y := .null) (rest := []) rfl rfl rfl (XT.aa_ne_f (x := .null) (y := .null) rfl) kk) ?_
    refine Go.of (t' := T85.setTop (mkF m 264 #[.val (.int i0), .val (.int i1), .val (.int i2), .val (.int i3), .val (.int (3 : Int32)), .val (.int q70), .val (.int q71), .val (.int q72), .val (.ref b73), .val (.ref b77), .val (.ref b80), .val .null, .val .null] [(.int (1 : Int32))])) (fun _ kk => XS.iconst W85.here hx rfl (hb hby at_263) kk) ?_
    refine Go.of (t' := T85.setTop (mkF m 268 #[.val (.int i0), .val (.int i1), .val (.int i2), .val (.int i3), .val (.int (3 : Int32)), .val (.int q70), .val (.int q71), .val (.int q72), .val (.ref b73), .val (.ref b77), .val (.ref b80), .val .null, .val .null] [(.int (1 : Int32))])) (fun _ kk => XS.goto W85.here hx rfl (pc0 := 264) (pc' := 268) rfl (hb hby at_264) (by decide +kernel) (by decide +kernel) kk) ?_
    exact W85.retI hx hEL hs hlk (by decide +kernel) (by decide +kernel) hret (by simp) rfl (hb hby at_268) rfl
  · rw [z1]
    show Go p e below _ (T0.setTop (mkF m 6 #[.val (.int i0), .val (.int i1), .val (.int i2), .val (.int i3), .unset, .unset, .unset, .unset, .unset, .unset, .unset, .unset, .unset] [(.int (4 : Int32))]))
    refine Go.of (t' := T0.setTop (mkF m 8 #[.val (.int i0), .val (.int i1), .val (.int i2), .val (.int i3), .val (.int (4 : Int32)), .unset, .unset, .unset, .unset, .unset, .unset, .unset, .unset] [])) (fun _ kk => XS.istore W0.here hx rfl (hb hby at_6) rfl (l' := #[.val (.int i0), .val (.int i1), .val (.int i2), .val (.int i3), .val (.int (4 : Int32)), .unset, .unset, .unset, .unset, .unset, .unset, .unset, .unset]) rfl kk) ?_
    refine Go.of (t' := T0.setTop (mkF m 9 #[.val (.int i0), .val (.int i1), .val (.int i2), .val (.int i3), .val (.int (4 : Int32)), .unset, .unset, .unset, .unset, .unset, .unset, .unset, .unset] [(.int i1)])) (fun _ kk => XS.iloadN W0.here hx rfl (hb hby at_8) rfl kk) ?_
    refine W0.callS hx hEL (hw _ (List.mem_of_getElem? (i := 0) rfl)) (hw _ (List.mem_of_getElem? (i := 1) rfl)) (hw _ (List.mem_of_getElem? (i := 2) rfl)) (hw _ (List.mem_of_getElem? (i := 3) rfl)) (by decide +kernel) (argsL := [(.int i1)]) (rest := []) (rm1 l Z a0 hw hEL zc SC hzc fm SF rfm i1 h0 W0.old ) all0 (by decide +kernel) (Wd := 0) (by decide +kernel) (by decide +kernel) (by decide +kernel) all0 rfl (by rw [hml]; rfl) (lenOf pd6 rfl) rfl (by show 2 * 0 + _ ≤ _; exact Nat.le_of_eq rfl) (hb hby at_9) (fun T86 h86 v86 W86 K86 q86 => ?_)
    obtain ⟨q86, rfl, cq86, rfl⟩ := q86
    show Go p e below _ (T86.setTop (mkF m 12 #[.val (.int i0), .val (.int i1), .val (.int i2), .val (.int i3), .val (.int (4 : Int32)), .unset, .unset, .unset, .unset, .unset, .unset, .unset, .unset] [(.int q86)]))
    refine Go.of (t' := T86.setTop (mkF m 14 #[.val (.int i0), .val (.int i1), .val (.int i2), .val (.int i3), .val (.int (4 : Int32)), .val (.int q86), .unset, .unset, .unset, .unset, .unset, .unset, .unset] [])) (fun _ kk => XS.istore W86.here hx rfl (hb hby at_12) rfl (l' := #[.val (.int i0), .val (.int i1), .val (.int i2), .val (.int i3), .val (.int (4 : Int32)), .val (.int q86), .unset, .unset, .unset, .unset, .unset, .unset, .unset]) rfl kk) ?_
    refine Go.of (t' := T86.setTop (mkF m 15 #[.val (.int i0), .val (.int i1), .val (.int i2), .val (.int i3), .val (.int (4 : Int32)), .val (.int q86), .unset, .unset, .unset, .unset, .unset, .unset, .unset] [(.int i2)])) (fun _ kk => XS.iloadN W86.here hx rfl (hb hby at_14) rfl kk) ?_
    refine W86.callS hx hEL (hw _ (List.mem_of_getElem? (i := 0) rfl)) (hw _ (List.mem_of_getElem? (i := 1) rfl)) (hw _ (List.mem_of_getElem? (i := 2) rfl)) (hw _ (List.mem_of_getElem? (i := 3) rfl)) (by decide +kernel) (argsL := [(.int i2)]) (rest := []) (rm1 l Z a0 hw hEL zc SC hzc fm SF rfm i2 h0 W86.old ) all0 (by decide +kernel) (Wd := 0) (by decide +kernel) (by decide +kernel) (by decide +kernel) all0 rfl (by rw [hml]; rfl) (lenOf pd6 rfl) rfl (by show 2 * 0 + _ ≤ _; exact Nat.le_of_eq rfl) (hb hby at_15) (fun T87 h87 v87 W87 K87 q87 => ?_)
    obtain ⟨q87, rfl, cq87, rfl⟩ := q87
    show Go p e below _ (T87.setTop (mkF m 18 #[.val (.int i0), .val (.int i1), .val (.int i2), .val (.int i3), .val (.int (4 : Int32)), .val (.int q86), .unset, .unset, .unset, .unset, .unset, .unset, .unset] [(.int q87)]))
    refine Go.of (t' := T87.setTop (mkF m 20 #[.val (.int i0), .val (.int i1), .val (.int i2), .val (.int i3), .val (.int (4 : Int32)), .val (.int q86), .val (.int q87), .unset, .unset, .unset, .unset, .unset, .unset] [])) (fun _ kk => XS.istore W87.here hx rfl (hb hby at_18) rfl (l' := #[.val (.int i0), .val (.int i1), .val (.int i2), .val (.int i3), .val (.int (4 : Int32)), .val (.int q86), .val (.int q87), .unset, .unset, .unset, .unset, .unset, .unset]) rfl kk) ?_
    refine Go.of (t' := T87.setTop (mkF m 21 #[.val (.int i0), .val (.int i1), .val (.int i2), .val (.int i3), .val (.int (4 : Int32)), .val (.int q86), .val (.int q87), .unset, .unset, .unset, .unset, .unset, .unset] [(.int i3)])) (fun _ kk => XS.iloadN W87.here hx rfl (hb hby at_20) rfl kk) ?_
    refine W87.callS hx hEL (hw _ (List.mem_of_getElem? (i := 0) rfl)) (hw _ (List.mem_of_getElem? (i := 1) rfl)) (hw _ (List.mem_of_getElem? (i := 2) rfl)) (hw _ (List.mem_of_getElem? (i := 3) rfl)) (by decide +kernel) (argsL := [(.int i3)]) (rest := []) (rm1 l Z a0 hw hEL zc SC hzc fm SF rfm i3 h0 W87.old ) all0 (by decide +kernel) (Wd := 0) (by decide +kernel) (by decide +kernel) (by decide +kernel) all0 rfl (by rw [hml]; rfl) (lenOf pd6 rfl) rfl (by show 2 * 0 + _ ≤ _; exact Nat.le_of_eq rfl) (hb hby at_21) (fun T88 h88 v88 W88 K88 q88 => ?_)
    obtain ⟨q88, rfl, cq88, rfl⟩ := q88
    show Go p e below _ (T88.setTop (mkF m 24 #[.val (.int i0), .val (.int i1), .val (.int i2), .val (.int i3), .val (.int (4 : Int32)), .val (.int q86), .val (.int q87), .unset, .unset, .unset, .unset, .unset, .unset] [(.int q88)]))
    refine Go.of (t' := T88.setTop (mkF m 26 #[.val (.int i0), .val (.int i1), .val (.int i2), .val (.int i3), .val (.int (4 : Int32)), .val (.int q86), .val (.int q87), .val (.int q88), .unset, .unset, .unset, .unset, .unset] [])) (fun _ kk => XS.istore W88.here hx rfl (hb hby at_24) rfl (l' := #[.val (.int i0), .val (.int i1), .val (.int i2), .val (.int i3), .val (.int (4 : Int32)), .val (.int q86), .val (.int q87), .val (.int q88), .unset, .unset, .unset, .unset, .unset]) rfl kk) ?_
    refine Go.of (t' := T88.setTop (mkF m 27 #[.val (.int i0), .val (.int i1), .val (.int i2), .val (.int i3), .val (.int (4 : Int32)), .val (.int q86), .val (.int q87), .val (.int q88), .unset, .unset, .unset, .unset, .unset] [(.int (3 : Int32))])) (fun _ kk => XS.iconst W88.here hx rfl (hb hby at_26) kk) ?_
    refine W88.newP hx (hw _ (List.mem_of_getElem? (i := 4) rfl)) rfl (hb hby at_27) rfl (by decide +kernel) (cap := 3) (by decide +kernel) (by decide +kernel) (by decide +kernel) (by decide +kernel) (fun T89 h89 b89 c89 eb89 gb89 W89 K89 A89 => ?_)
    have V89 : Arv Z h89 b89 c89 .char (3 : Int32) [(.int (0 : Int32)), (.int (0 : Int32)), (.int (0 : Int32))] (.int (0 : Int32)) := A89
    show Go p e below _ (T89.setTop (mkF m 29 #[.val (.int i0), .val (.int i1), .val (.int i2), .val (.int i3), .val (.int (4 : Int32)), .val (.int q86), .val (.int q87), .val (.int q88), .unset, .unset, .unset, .unset, .unset] [(.ref b89)]))
    refine Go.of (t' := T89.setTop (mkF m 30 #[.val (.int i0), .val (.int i1), .val (.int i2), .val (.int i3), .val (.int (4 : Int32)), .val (.int q86), .val (.int q87), .val (.int q88), .unset, .unset, .unset, .unset, .unset] [(.ref b89), (.ref b89)])) (fun _ kk => XS.dup W89.here hx rfl (hb hby at_29) rfl rfl kk) ?_
    refine Go.of (t' := T89.setTop (mkF m 31 #[.val (.int i0), .val (.int i1), .val (.int i2), .val (.int i3), .val (.int (4 : Int32)), .val (.int q86), .val (.int q87), .val (.int q88), .unset, .unset, .unset, .unset, .unset] [(.int (0 : Int32)), (.ref b89), (.ref b89)])) (fun _ kk => XS.iconst W89.here hx rfl (hb hby at_30) kk) ?_
    refine Go.of (t' := T89.setTop (mkF m 33 #[.val (.int i0), .val (.int i1), .val (.int i2), .val (.int i3), .val (.int (4 : Int32)), .val (.int q86), .val (.int q87), .val (.int q88), .unset, .unset, .unset, .unset, .unset] [(.int q86), (.int (0 : Int32)), (.ref b89), (.ref b89)])) (fun _ kk => XS.iload W89.here hx rfl (hb hby at_31) rfl kk) ?_
    refine W89.stC hx V89 ⟨by decide, by decide⟩ 0 rfl (Nat.le_of_ble_eq_true rfl) gb89.1 (Or.inr gb89.2) rfl rfl (hb hby at_33) (fun T90 h90 W90 K90 A90 => ?_)
    have V90 : Arv Z h90 b89 c89 .char (3 : Int32) [(.int q86), (.int (0 : Int32)), (.int (0 : Int32))] (.int (0 : Int32)) := (by rw [(nar_char cq86)] at A90; exact A90)
    show Go p e below _ (T90.setTop (mkF m 34 #[.val (.int i0), .val (.int i1), .val (.int i2), .val (.int i3), .val (.int (4 : Int32)), .val (.int q86), .val (.int q87), .val (.int q88), .unset, .unset, .unset, .unset, .unset] [(.ref b89)]))
    refine Go.of (t' := T90.setTop (mkF m 35 #[.val (.int i0), .val (.int i1), .val (.int i2), .val (.int i3), .val (.int (4 : Int32)), .val (.int q86), .val (.int q87), .val (.int q88), .unset, .unset, .unset, .unset, .unset] [(.ref b89), (.ref b89)])) (fun _ kk => XS.dup W90.here hx rfl (hb hby at_34) rfl rfl kk) ?_
    refine Go.of (t' := T90.setTop (mkF m 36 #[.val (.int i0), .val (.int i1), .val (.int i2), .val (.int i3), .val (.int (4 : Int32)), .val (.int q86), .val (.int q87), .val (.int q88), .unset, .unset, .unset, .unset, .unset] [(.int (1 : Int32)), (.ref b89), (.ref b89)])) (fun _ kk => XS.iconst W90.here hx rfl (hb hby at_35) kk) ?_
    refine Go.of (t' := T90.setTop (mkF m 38 #[.val (.int i0), .val (.int i1), .val (.int i2), .val (.int i3), .val (.int (4 : Int32)), .val (.int q86), .val (.int q87), .val (.int q88), .unset, .unset, .unset, .unset, .unset] [(.int q87), (.int (1 : Int32)), (.ref b89), (.ref b89)])) (fun _ kk => XS.iload W90.here hx rfl (hb hby at_36) rfl kk) ?_
    refine W90.stC hx V90 ⟨by decide, by decide⟩ 1 rfl (Nat.le_of_ble_eq_true rfl) gb89.1 (Or.inr gb89.2) rfl rfl (hb hby at_38) (fun T91 h91 W91 K91 A91 => ?_)
    have V91 : Arv Z h91 b89 c89 .char (3 : Int32) [(.int q86), (.int q87), (.int (0 : Int32))] (.int (0 : Int32)) := (by rw [(nar_char cq87)] at A91; exact A91)
    show Go p e below _ (T91.setTop (mkF m 39 #[.val (.int i0), .val (.int i1), .val (.int i2), .val (.int i3), .val (.int (4 : Int32)), .val (.int q86), .val (.int q87), .val (.int q88), .unset, .unset, .unset, .unset, .unset] [(.ref b89)]))
    refine Go.of (t' := T91.setTop (mkF m 40 #[.val (.int i0), .val (.int i1), .val (.int i2), .val (.int i3), .val (.int (4 : Int32)), .val (.int q86), .val (.int q87), .val (.int q88), .unset, .unset, .unset, .unset, .unset] [(.ref b89), (.ref b89)])) (fun _ kk => XS.dup W91.here hx rfl (hb hby at_39) rfl rfl kk) ?_
    refine Go.of (t' := T91.setTop (mkF m 41 #[.val (.int i0), .val (.int i1), .val (.int i2), .val (.int i3), .val (.int (4 : Int32)), .val (.int q86), .val (.int q87), .val (.int q88), .unset, .unset, .unset, .unset, .unset] [(.int (2 : Int32)), (.ref b89), (.ref b89)])) (fun _ kk => XS.iconst W91.here hx rfl (hb hby at_40) kk) ?_
    refine Go.of (t' := T91.setTop (mkF m 43 #[.val (.int i0), .val (.int i1), .val (.int i2), .val (.int i3), .val (.int (4 : Int32)), .val (.int q86), .val (.int q87), .val (.int q88), .unset, .unset, .unset, .unset, .unset] [(.int q88), (.int (2 : Int32)), (.ref b89), (.ref b89)])) (fun _ kk => XS.iload W91.here hx rfl (hb hby at_41) rfl kk) ?_
    refine W91.stC hx V91 ⟨by decide, by decide⟩ 2 rfl (Nat.le_of_ble_eq_true rfl) gb89.1 (Or.inr gb89.2) rfl rfl (hb hby at_43) (fun T92 h92 W92 K92 A92 => ?_)
    have V92 : Arv Z h92 b89 c89 .char (3 : Int32) [(.int q86), (.int q87), (.int q88)] (.int (0 : Int32)) := (by rw [(nar_char cq88)] at A92; exact A92)
    show Go p e below _ (T92.setTop (mkF m 44 #[.val (.int i0), .val (.int i1), .val (.int i2), .val (.int i3), .val (.int (4 : Int32)), .val (.int q86), .val (.int q87), .val (.int q88), .unset, .unset, .unset, .unset, .unset] [(.ref b89)]))
    refine Go.of (t' := T92.setTop (mkF m 46 #[.val (.int i0), .val (.int i1), .val (.int i2), .val (.int i3), .val (.int (4 : Int32)), .val (.int q86), .val (.int q87), .val (.int q88), .val (.ref b89), .unset, .unset, .unset, .unset] [])) (fun _ kk => XS.astore W92.here hx rfl (hb hby at_44) rfl rfl (l' := #[.val (.int i0), .val (.int i1), .val (.int i2), .val (.int i3), .val (.int (4 : Int32)), .val (.int q86), .val (.int q87), .val (.int q88), .val (.ref b89), .unset, .unset, .unset, .unset]) rfl kk) ?_
    refine Go.of (t' := T92.setTop (mkF m 47 #[.val (.int i0), .val (.int i1), .val (.int i2), .val (.int i3), .val (.int (4 : Int32)), .val (.int q86), .val (.int q87), .val (.int q88), .val (.ref b89), .unset, .unset, .unset, .unset] [(.int (2 : Int32))])) (fun _ kk => XS.iconst W92.here hx rfl (hb hby at_46) kk) ?_
    refine W92.newP hx (hw _ (List.mem_of_getElem? (i := 4) rfl)) rfl (hb hby at_47) rfl (by decide +kernel) (cap := 2) (by decide +kernel) (by decide +kernel) (by decide +kernel) (by decide +kernel) (fun T93 h93 b93 c93 eb93 gb93 W93 K93 A93 => ?_)
    have V93 : Arv Z h93 b93 c93 .char (2 : Int32) [(.int (0 : Int32)), (.int (0 : Int32))] (.int (0 : Int32)) := A93
    show Go p e below _ (T93.setTop (mkF m 49 #[.val (.int i0), .val (.int i1), .val (.int i2), .val (.int i3), .val (.int (4 : Int32)), .val (.int q86), .val (.int q87), .val (.int q88), .val (.ref b89), .unset, .unset, .unset, .unset] [(.ref b93)]))
    refine Go.of (t' := T93.setTop (mkF m 50 #[.val (.int i0), .val (.int i1), .val (.int i2), .val (.int i3), .val (.int (4 : Int32)), .val (.int q86), .val (.int q87), .val (.int q88), .val (.ref b89), .unset, .unset, .unset, .unset] [(.ref b93), (.ref b93)])) (fun _ kk => XS.dup W93.here hx rfl (hb hby at_49) rfl rfl kk) ?_
    refine Go.of (t' := T93.setTop (mkF m 51 #[.val (.int i0), .val (.int i1), .val (.int i2), .val (.int i3), .val (.int (4 : Int32)), .val (.int q86), .val (.int q87), .val (.int q88), .val (.ref b89), .unset, .unset, .unset, .unset] [(.int (0 : Int32)), (.ref b93), (.ref b93)])) (fun _ kk => XS.iconst W93.here hx rfl (hb hby at_50) kk) ?_
    refine Go.of (t' := T93.setTop (mkF m 53 #[.val (.int i0), .val (.int i1), .val (.int i2), .val (.int i3), .val (.int (4 : Int32)), .val (.int q86), .val (.int q87), .val (.int q88), .val (.ref b89), .unset, .unset, .unset, .unset] [(.int q86), (.int (0 : Int32)), (.ref b93), (.ref b93)])) (fun _ kk => XS.iload W93.here hx rfl (hb hby at_51) rfl kk) ?_
    refine W93.stC hx V93 ⟨by decide, by decide⟩ 0 rfl (Nat.le_of_ble_eq_true rfl) gb93.1 (Or.inr gb93.2) rfl rfl (hb hby at_53) (fun T94 h94 W94 K94 A94 => ?_)
    have V94 : Arv Z h94 b93 c93 .char (2 : Int32) [(.int q86), (.int (0 : Int32))] (.int (0 : Int32)) := (by rw [(nar_char cq86)] at A94; exact A94)
    show Go p e below _ (T94.setTop (mkF m 54 #[.val (.int i0), .val (.int i1), .val (.int i2), .val (.int i3), .val (.int (4 : Int32)), .val (.int q86), .val (.int q87), .val (.int q88), .val (.ref b89), .unset, .unset, .unset, .unset] [(.ref b93)]))
    refine Go.of (t' := T94.setTop (mkF m 55 #[.val (.int i0), .val (.int i1), .val (.int i2), .val (.int i3), .val (.int (4 : Int32)), .val (.int q86), .val (.int q87), .val (.int q88), .val (.ref b89), .unset, .unset, .unset, .unset] [(.ref b93), (.ref b93)])) (fun _ kk => XS.dup W94.here hx rfl (hb hby at_54) rfl rfl kk) ?_
    refine Go.of (t' := T94.setTop (mkF m 56 #[.val (.int i0), .val (.int i1), .val (.int i2), .val (.int i3), .val (.int (4 : Int32)), .val (.int q86), .val (.int q87), .val (.int q88), .val (.ref b89), .unset, .unset, .unset, .unset] [(.int (1 : Int32)), (.ref b93), (.ref b93)])) (fun _ kk => XS.iconst W94.here hx rfl (hb hby at_55) kk) ?_
    refine Go.of (t' := T94.setTop (mkF m 58 #[.val (.int i0), .val (.int i1), .val (.int i2), .val (.int i3), .val (.int (4 : Int32)), .val (.int q86), .val (.int q87), .val (.int q88), .val (.ref b89), .unset, .unset, .unset, .unset] [(.int q87), (.int (1 : Int32)), (.ref b93), (.ref b93)])) (fun _ kk => XS.iload W94.here hx rfl (hb hby at_56) rfl kk) ?_
    refine W94.stC hx V94 ⟨by decide, by decide⟩ 1 rfl (Nat.le_of_ble_eq_true rfl) gb93.1 (Or.inr gb93.2) rfl rfl (hb hby at_58) (fun T95 h95 W95 K95 A95 => ?_)
    have V95 : Arv Z h95 b93 c93 .char (2 : Int32) [(.int q86), (.int q87)] (.int (0 : Int32)) := (by rw [(nar_char cq87)] at A95; exact A95)
    show Go p e below _ (T95.setTop (mkF m 59 #[.val (.int i0), .val (.int i1), .val (.int i2), .val (.int i3), .val (.int (4 : Int32)), .val (.int q86), .val (.int q87), .val (.int q88), .val (.ref b89), .unset, .unset, .unset, .unset] [(.ref b93)]))
    refine Go.of (t' := T95.setTop (mkF m 61 #[.val (.int i0), .val (.int i1), .val (.int i2), .val (.int i3), .val (.int (4 : Int32)), .val (.int q86), .val (.int q87), .val (.int q88), .val (.ref b89), .val (.ref b93), .unset, .unset, .unset] [])) (fun _ kk => XS.astore W95.here hx rfl (hb hby at_59) rfl rfl (l' := #[.val (.int i0), .val (.int i1), .val (.int i2), .val (.int i3), .val (.int (4 : Int32)), .val (.int q86), .val (.int q87), .val (.int q88), .val (.ref b89), .val (.ref b93), .unset, .unset, .unset]) rfl kk) ?_
    refine Go.of (t' := T95.setTop (mkF m 63 #[.val (.int i0), .val (.int i1), .val (.int i2), .val (.int i3), .val (.int (4 : Int32)), .val (.int q86), .val (.int q87), .val (.int q88), .val (.ref b89), .val (.ref b93), .unset, .unset, .unset] [(.int (4 : Int32))])) (fun _ kk => XS.iload W95.here hx rfl (hb hby at_61) rfl kk) ?_
    refine Go.of (t' := T95.setTop (mkF m 81 #[.val (.int i0), .val (.int i1), .val (.int i2), .val (.int i3), .val (.int (4 : Int32)), .val (.int q86), .val (.int q87), .val (.int q88), .val (.ref b89), .val (.ref b93), .unset, .unset, .unset] [])) (fun _ kk => XS.ifYes W95.here hx rfl (pc0 := 63) (pc' := 81) rfl (hb hby at_63) rfl (XT.i0_ne_t (by decide +kernel)) (by decide +kernel) (by decide +kernel) kk) ?_
    refine Go.of (t' := T95.setTop (mkF m 83 #[.val (.int i0), .val (.int i1), .val (.int i2), .val (.int i3), .val (.int (4 : Int32)), .val (.int q86), .val (.int q87), .val (.int q88), .val (.ref b89), .val (.ref b93), .unset, .unset, .unset] [(.int (4 : Int32))])) (fun _ kk => XS.iload W95.here hx rfl (hb hby at_81) rfl kk) ?_
    refine Go.of (t' := T95.setTop (mkF m 84 #[.val (.int i0), .val (.int i1), .val (.int i2), .val (.int i3), .val (.int (4 : Int32)), .val (.int q86), .val (.int q87), .val (.int q88), .val (.ref b89), .val (.ref b93), .unset, .unset, .unset] [(.int (1 : Int32)), (.int (4 : Int32))])) (fun _ kk => XS.iconst W95.here hx rfl (hb hby at_83) kk) ?_
    refine Go.of (t' := T95.setTop (mkF m 97 #[.val (.int i0), .val (.int i1), .val (.int i2), .val (.int i3), .val (.int (4 : Int32)), .val (.int q86), .val (.int q87), .val (.int q88), .val (.ref b89), .val (.ref b93), .unset, .unset, .unset] [])) (fun _ kk => XS.icmpYes W95.here hx rfl (pc0 := 84) (pc' := 97) rfl (hb hby at_84) rfl (XT.ii_ne_t (by decide +kernel)) (by decide +kernel) (by decide +kernel) kk) ?_
    refine Go.of (t' := T95.setTop (mkF m 99 #[.val (.int i0), .val (.int i1), .val (.int i2), .val (.int i3), .val (.int (4 : Int32)), .val (.int q86), .val (.int q87), .val (.int q88), .val (.ref b89), .val (.ref b93), .unset, .unset, .unset] [(.int (4 : Int32))])) (fun _ kk => XS.iload W95.here hx rfl (hb hby at_97) rfl kk) ?_
    refine Go.of (t' := T95.setTop (mkF m 100 #[.val (.int i0), .val (.int i1), .val (.int i2), .val (.int i3), .val (.int (4 : Int32)), .val (.int q86), .val (.int q87), .val (.int q88), .val (.ref b89), .val (.ref b93), .unset, .unset, .unset] [(.int (2 : Int32)), (.int (4 : Int32))])) (fun _ kk => XS.iconst W95.here hx rfl (hb hby at_99) kk) ?_
    refine Go.of (t' := T95.setTop (mkF m 117 #[.val (.int i0), .val (.int i1), .val (.int i2), .val (.int i3), .val (.int (4 : Int32)), .val (.int q86), .val (.int q87), .val (.int q88), .val (.ref b89), .val (.ref b93), .unset, .unset, .unset] [])) (fun _ kk => XS.icmpYes W95.here hx rfl (pc0 := 100) (pc' := 117) rfl (hb hby at_100) rfl (XT.ii_ne_t (by decide +kernel)) (by decide +kernel) (by decide +kernel) kk) ?_
    refine Go.of (t' := T95.setTop (mkF m 119 #[.val (.int i0), .val (.int i1), .val (.int i2), .val (.int i3), .val (.int (4 : Int32)), .val (.int q86), .val (.int q87), .val (.int q88), .val (.ref b89), .val (.ref b93), .unset, .unset, .unset] [(.int (4 : Int32))])) (fun _ kk => XS.iload W95.here hx rfl (hb hby at_117) rfl kk) ?_
    refine Go.of (t' := T95.setTop (mkF m 120 #[.val (.int i0), .val (.int i1), .val (.int i2), .val (.int i3), .val (.int (4 : Int32)), .val (.int q86), .val (.int q87), .val (.int q88), .val (.ref b89), .val (.ref b93), .unset, .unset, .unset] [(.int (3 : Int32)), (.int (4 : Int32))])) (fun _ kk => XS.iconst W95.here hx rfl (hb hby at_119) kk) ?_
    refine Go.of (t' := T95.setTop (mkF m 137 #[.val (.int i0), .val (.int i1), .val (.int i2), .val (.int i3), .val (.int (4 : Int32)), .val (.int q86), .val (.int q87), .val (.int q88), .val (.ref b89), .val (.ref b93), .unset, .unset, .unset] [])) (fun _ kk => XS.icmpYes W95.here hx rfl (pc0 := 120) (pc' := 137) rfl (hb hby at_120) rfl (XT.ii_ne_t (by decide +kernel)) (by decide +kernel) (by decide +kernel) kk) ?_
    refine Go.of (t' := T95.setTop (mkF m 138 #[.val (.int i0), .val (.int i1), .val (.int i2), .val (.int i3), .val (.int (4 : Int32)), .val (.int q86), .val (.int q87), .val (.int q88), .val (.ref b89), .val (.ref b93), .unset, .unset, .unset] [.null])) (fun _ kk => XS.aconstNull W95.here hx rfl (hb hby at_137) kk) ?_
    refine Go.of (t' := T95.setTop (mkF m 140 #[.val (.int i0), .val (.int i1), .val (.int i2), .val (.int i3), .val (.int (4 : Int32)), .val (.int q86), .val (.int q87), .val (.int q88), .val (.ref b89), .val (.ref b93), .val .null, .unset, .unset] [])) (fun _ kk => XS.astore W95.here hx rfl (hb hby at_138) rfl rfl (l' := #[.val (.int i0), .val (.int i1), .val (.int i2), .val (.int i3), .val (.int (4 : Int32)), .val (.int q86), .val (.int q87), .val (.int q88), .val (.ref b89), .val (.ref b93), .val .null, .unset, .unset]) rfl kk) ?_
    refine Go.of (t' := T95.setTop (mkF m 141 #[.val (.int i0), .val (.int i1), .val (.int i2), .val (.int i3), .val (.int (4 : Int32)), .val (.int q86), .val (.int q87), .val (.int q88), .val (.ref b89), .val (.ref b93), .val .null, .unset, .unset] [.null])) (fun _ kk => XS.aconstNull W95.here hx rfl (hb hby at_140) kk) ?_
    refine Go.of (t' := T95.setTop (mkF m 143 #[.val (.int i0), .val (.int i1), .val (.int i2), .val (.int i3), .val (.int (4 : Int32)), .val (.int q86), .val (.int q87), .val (.int q88), .val (.ref b89), .val (.ref b93), .val .null, .val .null, .unset] [])) (fun _ kk => XS.astore W95.here hx rfl (hb hby at_141) rfl rfl (l' := #[.val (.int i0), .val (.int i1), .val (.int i2), .val (.int i3), .val (.int (4 : Int32)), .val (.int q86), .val (.int q87), .val (.int q88), .val (.ref b89), .val (.ref b93), .val .null, .val .null, .unset]) rfl kk) ?_
    refine Go.of (t' := T95.setTop (mkF m 145 #[.val (.int i0), .val (.int i1), .val (.int i2), .val (.int i3), .val (.int (4 : Int32)), .val (.int q86), .val (.int q87), .val (.int q88), .val (.ref b89), .val (.ref b93), .val .null, .val .null, .unset] [(.int (4 : Int32))])) (fun _ kk => XS.iload W95.here hx rfl (hb hby at_143) rfl kk) ?_
    refine Go.of (t' := T95.setTop (mkF m 146 #[.val (.int i0), .val (.int i1), .val (.int i2), .val (.int i3), .val (.int (4 : Int32)), .val (.int q86), .val (.int q87), .val (.int q88), .val (.ref b89), .val (.ref b93), .val .null, .val .null, .unset] [(.int (1 : Int32)), (.int (4 : Int32))])) (fun _ kk => XS.iconst W95.here hx rfl (hb hby at_145) kk) ?_
    refine Go.of (t' := T95.setTop (mkF m 179 #[.val (.int i0), .val (.int i1), .val (.int i2), .val (.int i3), .val (.int (4 : Int32)), .val (.int q86), .val (.int q87), .val (.int q88), .val (.ref b89), .val (.ref b93), .val .null, .val .null, .unset] [])) (fun _ kk => XS.icmpYes W95.here hx rfl (pc0 := 146) (pc' := 179) rfl (hb hby at_146) rfl (XT.ii_ne_t (by decide +kernel)) (by decide +kernel) (by decide +kernel) kk) ?_
    refine Go.of (t' := T95.setTop (mkF m 181 #[.val (.int i0), .val (.int i1), .val (.int i2), .val (.int i3), .val (.int (4 : Int32)), .val (.int q86), .val (.int q87), .val (.int q88), .val (.ref b89), .val (.ref b93), .val .null, .val .null, .unset] [(.int (4 : Int32))])) (fun _ kk => XS.iload W95.here hx rfl (hb hby at_179) rfl kk) ?_
    refine Go.of (t' := T95.setTop (mkF m 182 #[.val (.int i0), .val (.int i1), .val (.int i2), .val (.int i3), .val (.int (4 : Int32)), .val (.int q86), .val (.int q87), .val (.int q88), .val (.ref b89), .val (.ref b93), .val .null, .val .null, .unset] [(.int (2 : Int32)), (.int (4 : Int32))])) (fun _ kk => XS.iconst W95.here hx rfl (hb hby at_181) kk) ?_
    refine Go.of (t' := T95.setTop (mkF m 249 #[.val (.int i0), .val (.int i1), .val (.int i2), .val (.int i3), .val (.int (4 : Int32)), .val (.int q86), .val (.int q87), .val (.int q88), .val (.ref b89), .val (.ref b93), .val .null, .val .null, .unset] [])) (fun _ kk => XS.icmpYes W95.here hx rfl (pc0 := 182) (pc' := 249) rfl (hb hby at_182) rfl (XT.ii_ne_t (by decide +kernel)) (by decide +kernel) (by decide +kernel) kk) ?_
    refine Go.of (t' := T95.setTop (mkF m 251 #[.val (.int i0), .val (.int i1), .val (.int i2), .val (.int i3), .val (.int (4 : Int32)), .val (.int q86), .val (.int q87), .val (.int q88), .val (.ref b89), .val (.ref b93), .val .null, .val .null, .unset] [.null])) (fun _ kk => XS.aload W95.here hx rfl (hb hby at_249) rfl rfl kk) ?_
    refine W95.callS hx hEL (hw _ (List.mem_of_getElem? (i := 26) rfl)) (hw _ (List.mem_of_getElem? (i := 27) rfl)) (hw _ (List.mem_of_getElem? (i := 28) rfl)) (hw _ (List.mem_of_getElem? (i := 29) rfl)) (by decide +kernel) (argsL := [.null]) (rest := []) (rm5 l Z a0 hw hEL zc SC hzc fm SF rfm e0 e1 e2 e3 e4 e5 s0 s1 s2 s3 s4 s5 av kv h95 W95.old OE0 OE1 OE2 OE3 OE4 OE5 OF0 OF1 OF2 OF3 OF4 OF5 OS0 OS1 OS2 OS3 OS4 OS5 OA OV OT OX OC0 OC1 OC2 OC3 OC4 OC5) all0 (by decide +kernel) (Wd := 0) (by decide +kernel) (by decide +kernel) (by decide +kernel) all0 rfl (by rw [hml]; rfl) (lenOf pd8 rfl) rfl (by show 2 * 0 + _ ≤ _; exact Nat.le_of_eq rfl) (hb hby at_251) (fun T96 h96 v96 W96 K96 q96 => ?_)
    obtain rfl := q96
    show Go p e below _ (T96.setTop (mkF m 254 #[.val (.int i0), .val (.int i1), .val (.int i2), .val (.int i3), .val (.int (4 : Int32)), .val (.int q86), .val (.int q87), .val (.int q88), .val (.ref b89), .val (.ref b93), .val .null, .val .null, .unset] [.null]))
    refine Go.of (t' := T96.setTop (mkF m 256 #[.val (.int i0), .val (.int i1), .val (.int i2), .val (.int i3), .val (.int (4 : Int32)), .val (.int q86), .val (.int q87), .val (.int q88), .val (.ref b89), .val (.ref b93), .val .null, .val .null, .val .null] [])) (fun _ kk => XS.astore W96.here hx rfl (hb hby at_254) rfl rfl (l' := #[.val (.int i0), .val (.int i1), .val (.int i2), .val (.int i3), .val (.int (4 : Int32)), .val (.int q86), .val (.int q87), .val (.int q88), .val (.ref b89), .val (.ref b93), .val .null, .val .null, .val .null]) rfl kk) ?_
    refine Go.of (t' := T96.setTop (mkF m 258 #[.val (.int i0), .val (.int i1), .val (.int i2), .val (.int i3), .val (.int (4 : Int32)), .val (.int q86), .val (.int q87), .val (.int q88), .val (.ref b89), .val (.ref b93), .val .null, .val .null, .val .null] [.null])) (fun _ kk => XS.aload W96.here hx rfl (hb hby at_256) rfl rfl kk) ?_
    refine Go.of (t' := T96.setTop (mkF m 260 #[.val (.int i0), .val (.int i1), .val (.int i2), .val (.int i3), .val (.int (4 : Int32)), .val (.int q86), .val (.int q87), .val (.int q88), .val (.ref b89), .val (.ref b93), .val .null, .val .null, .val .null] [.null, .null])) (fun _ kk => XS.aload W96.here hx rfl (hb hby at_258) rfl rfl kk) ?_
    refine Go.of (t' := T96.setTop (mkF m 263 #[.val (.int i0), .val (.int i1), .val (.int i2), .val (.int i3), .val (.int (4 : Int32)), .val (.int q86), .val (.int q87), .val (.int q88), .val (.ref b89), .val (.ref b93), .val .null, .val .null, .val .null] [])) (fun _ kk => XT.acmpNo (g := (mkF m 260 #[.val (.int i0), .val (.int i1), .val (.int i2), .val (.int i3), .val (.int (4 : Int32)), .val (.int q86), .val (.int q87), .val (.int q88), .val (.ref b89), .val (.ref b93), .val .null, .val .null, .val .null] [.null, .null])) W96.here hx rfl (hb hby at_260) (x := .null) (y := .null) (rest := []) rfl rfl rfl (XT.aa_ne_f (x := .null) (y := .null) rfl) kk) ?_
    refine Go.of (t' := T96.setTop (mkF m 264 #[.val (.int i0), .val (.int i1), .val (.int i2), .val (.int i3), .val (.int (4 : Int32)), .val (.int q86), .val (.int q87), .val (.int q88), .val (.ref b89), .val (.ref b93), .val .null, .val .null, .val .null] [(.int (1 : Int32))])) (fun _ kk => XS.iconst W96.here hx rfl (hb hby at_263) kk) ?_
    refine Go.of (t' := T96.setTop (mkF m 268 #[.val (.int i0), .val (.int i1), .val (.int i2), .val (.int i3), .val (.int (4 : Int32)), .val (.int q86), .val (.int q87), .val (.int q88), .val (.ref b89), .val (.ref b93), .val .null, .val .null, .val .null] [(.int (1 : Int32))])) (fun _ kk => XS.goto W96.here hx rfl (pc0 := 264) (pc' := 268) rfl (hb hby at_264) (by decide +kernel) (by decide +kernel) kk) ?_
    exact W96.retI hx hEL hs hlk (by decide +kernel) (by decide +kernel) hret (by simp) rfl (hb hby at_268) rfl
set_option maxRecDepth 65536 in
set_option maxHeartbeats 40000000 in
theorem comes_1 {Post : Tables → Env → Array Value → State → Outcome → State → Prop} (hpost : ∀ tb e args s v u, (limb_1_1.after args s (.returned v) u = true ∧ limb_1_2.after args s (.returned v) u = true ∧ True) → FramedW s (.returned v) u (Jvm.fieldLocs frame_1_writes args s ++ Jvm.arrayLocs frame_1_arrays args s ++ Jvm.staticLocs frame_1_statics s) 24 1152 → Post tb e args s (.returned v) u) :
    ArmFor flags0 classFile x code maxLocals ret World_1 tables_1 room_1 Calls_1 rest_1 Pre_1 Post := by
  intro l hfl _ _ p e ha hc hk s m args below hf hA hF happ hP
  obtain ⟨hcalls, hrest, hpre⟩ := hP
  obtain ⟨-, -, -, hnamed, -, -, -, hat⟩ := (Spec.applies_iff hf).mp happ
  obtain ⟨hg, hn⟩ := and_e (Cond.before_iff.mp (show (Jvm.Cond.and given_1 narrow_1).before args s = true from hpre))
  obtain ⟨hy0, hz0⟩ := and_e hg
  obtain ⟨hy1, hz1⟩ := and_e hz0
  obtain ⟨hy2, hz2⟩ := and_e hz1
  obtain ⟨hy3, hz3⟩ := and_e hz2
  obtain ⟨w0, w1, w2, w3, rfl⟩ : ∃ w0 w1 w2 w3 : Value, args = #[w0, w1, w2, w3] := by
    have hs : args.size = 4 := by simpa [Cond.value, given_1] using hy0
    obtain ⟨L⟩ := args
    match L, hs with
    | [w0, w1, w2, w3], _ => exact ⟨w0, w1, w2, w3, rfl⟩
  have hw := fun d (hd : d ∈ tables_1) => atoms_spec (ws := Jvm.Cond.code x code maxLocals ret :: tables_1) hat d (List.mem_cons_of_mem _ hd)
  obtain ⟨hsets, hown0⟩ := atoms_of _ (rest_1_c_eq ▸ (show rest_1_c.before _ s = true from hrest))
  have hfit : Fit s := fun {y c} hc i hi => by
    obtain ⟨ha, rfl⟩ := Array.getElem?_eq_some_iff.mp hc
    have q := List.all_eq_true.mp ((Array.all_eq_true_iff_forall_mem.mp hF) _ (Array.getElem_mem ha)) i (List.mem_range.mpr hi)
    simpa [Array.getElem?_eq_getElem hi] using q
  have nzc := not_v (Cond.before_iff.mp (hsets _ (List.mem_of_getElem? (i := 2) rfl)))
  obtain ⟨i0, ei0⟩ := is_v hy1
  obtain rfl : w0 = (.int i0) := Option.some.inj ei0
  obtain ⟨i1, ei1⟩ := is_v hy2
  obtain rfl : w1 = (.int i1) := Option.some.inj ei1
  obtain ⟨i2, ei2⟩ := is_v hy3
  obtain rfl : w2 = (.int i2) := Option.some.inj ei2
  obtain ⟨i3, ei3⟩ := is_v hz3
  obtain rfl : w3 = (.int i3) := Option.some.inj ei3
  obtain ⟨zc, ezc⟩ := is_v (Cond.before_iff.mp (hsets _ (List.mem_of_getElem? (i := 1) rfl)))
  have SC : Sta s s.heap "java/lang/String" "COMPACT_STRINGS" "Z" (.int zc) := Sta.start ezc (Or.inl (hsets _ (List.mem_of_getElem? (i := 0) rfl)))
  obtain ⟨fm, efm, rfm⟩ := isR_v (Cond.before_iff.mp (hsets _ (List.mem_of_getElem? (i := 8) rfl)))
  have SF : Sta s s.heap "jdk/internal/util/Preconditions" "SIOOBE_FORMATTER" "Ljava/util/function/BiFunction;" fm := Sta.start efm (Or.inl (hsets _ (List.mem_of_getElem? (i := 7) rfl)))
  have hzc : ¬ (zc = (0 : Int32)) := gotF (Cond.eq_ints ezc (Term.int_eval (0))) nzc
  have hEL : EW s #[(.int i0), (.int i1), (.int i2), (.int i3)] EL0 := (EW.cons (hw _ (List.mem_of_getElem? (i := 18) rfl)) (by decide +kernel) EW.nil)
  obtain ⟨nw0, hn⟩ := and_e hn
  obtain ⟨nw1, hn⟩ := and_e hn
  obtain ⟨nw2, hn⟩ := and_e hn
  obtain ⟨nw3, hn⟩ := and_e hn
  obtain ⟨nw4, hn⟩ := and_e hn
  obtain ⟨nw5, hn⟩ := and_e hn
  obtain ⟨nw6, hn⟩ := and_e hn
  obtain ⟨nw7, hn⟩ := and_e hn
  obtain ⟨nw8, hn⟩ := and_e hn
  obtain ⟨nw9, hn⟩ := and_e hn
  obtain ⟨nw10, hn⟩ := and_e hn
  obtain ⟨nw11, hn⟩ := and_e hn
  obtain ⟨nw12, hn⟩ := and_e hn
  obtain ⟨nw13, hn⟩ := and_e hn
  obtain ⟨nw14, hn⟩ := and_e hn
  obtain ⟨nw15, hn⟩ := and_e hn
  obtain ⟨nw16, hn⟩ := and_e hn
  obtain ⟨nw17, hn⟩ := and_e hn
  obtain ⟨nw18, hn⟩ := and_e hn
  obtain ⟨nw19, hn⟩ := and_e hn
  obtain ⟨nw20, hn⟩ := and_e hn
  obtain ⟨nw21, hn⟩ := and_e hn
  obtain ⟨nw22, hn⟩ := and_e hn
  obtain ⟨nw23, hn⟩ := and_e hn
  obtain ⟨nw24, hn⟩ := and_e hn
  obtain ⟨nw25, hn⟩ := and_e hn
  obtain ⟨nw26, hn⟩ := and_e hn
  obtain ⟨nw27, hn⟩ := and_e hn
  obtain ⟨nw28, hn⟩ := and_e hn
  obtain ⟨nw29, hn⟩ := and_e hn
  obtain ⟨nw30, hn⟩ := and_e hn
  obtain ⟨nw31, hn⟩ := and_e hn
  obtain ⟨nw32, hn⟩ := and_e hn
  obtain ⟨nw33, hn⟩ := and_e hn
  obtain ⟨nw34, hn⟩ := and_e hn
  obtain ⟨nw35, hn⟩ := and_e hn
  obtain ⟨nw36, hn⟩ := and_e hn
  obtain ⟨nw37, hn⟩ := and_e hn
  obtain ⟨nw38, hn⟩ := and_e hn
  obtain ⟨nw39, hn⟩ := and_e hn
  obtain ⟨nw40, hn⟩ := and_e hn
  obtain ⟨nw41, hn⟩ := and_e hn
  obtain ⟨nw42, hn⟩ := and_e hn
  obtain ⟨nw43, hn⟩ := and_e hn
  obtain ⟨nw44, hn⟩ := and_e hn
  obtain ⟨nw45, hn⟩ := and_e hn
  obtain ⟨nw46, hn⟩ := and_e hn
  obtain ⟨nw47, hn⟩ := and_e hn
  have nw48 := hn
  obtain ⟨e0, ev0⟩ := exa_v nw3
  have OE0 := Exa.start ev0 nw3
  have OC0 : Sta s s.heap "org/portcullis/expression/Node$Comparison$Operator" "EQUAL" "Lorg/portcullis/expression/Node$Comparison$Operator;" (.ref e0) := Sta.start ev0 (Or.inr ⟨(hw _ (List.mem_of_getElem? (i := 28) rfl)), (hw _ (List.mem_of_getElem? (i := 42) rfl))⟩)
  obtain ⟨s0, evy0⟩ := exa_v nw15
  have Ey0 := Exa.start evy0 nw15
  have Fy0 : Fld s s.heap e0 "org/portcullis/expression/Node$Comparison$Operator" "iSymbol" "Ljava/lang/String;" (.ref s0) := Fld.start ((fld_at ev0).symm.trans evy0)
  have Fcy0 := Fld.start ((fld_at evy0).symm.trans (eq_eval nw16 (Term.int_eval 0)))
  obtain ⟨ty0, ety0⟩ := arr_v nw17
  have Fvy0 := Fld.start ((fld_at evy0).symm.trans ety0)
  obtain ⟨ky0, Ay0, -⟩ := arvStart (vs := [(.int (61 : Int32)), (.int (61 : Int32))]) (dv := .int 0) hfit ety0 nw17 nw18 (by decide) (by decide) (fun c hA => ⟨(elem_f ety0 (Term.int_eval 0) hA (by decide)).symm.trans (eq_eval nw39 (Term.int_eval 61)), (elem_f ety0 (Term.int_eval 1) hA (by decide)).symm.trans (eq_eval nw47 (Term.int_eval 61)), trivial⟩)
  have Sy0 : Str s s.heap s0 [(61 : Int32), (61 : Int32)] := ⟨ty0, ky0, 0, _, _, Ey0, Fvy0, Fcy0, Ay0, Or.inl ⟨rfl, by decide +kernel, by decide +kernel, by decide +kernel⟩, by decide +kernel, by decide⟩
  obtain ⟨e1, ev1⟩ := exa_v nw5
  have OE1 := Exa.start ev1 nw5
  have OC1 : Sta s s.heap "org/portcullis/expression/Node$Comparison$Operator" "NOT_EQUAL" "Lorg/portcullis/expression/Node$Comparison$Operator;" (.ref e1) := Sta.start ev1 (Or.inr ⟨(hw _ (List.mem_of_getElem? (i := 28) rfl)), (hw _ (List.mem_of_getElem? (i := 43) rfl))⟩)
  obtain ⟨s1, evy1⟩ := exa_v nw19
  have Ey1 := Exa.start evy1 nw19
  have Fy1 : Fld s s.heap e1 "org/portcullis/expression/Node$Comparison$Operator" "iSymbol" "Ljava/lang/String;" (.ref s1) := Fld.start ((fld_at ev1).symm.trans evy1)
  have Fcy1 := Fld.start ((fld_at evy1).symm.trans (eq_eval nw20 (Term.int_eval 0)))
  obtain ⟨ty1, ety1⟩ := arr_v nw21
  have Fvy1 := Fld.start ((fld_at evy1).symm.trans ety1)
  obtain ⟨ky1, Ay1, -⟩ := arvStart (vs := [(.int (33 : Int32)), (.int (61 : Int32))]) (dv := .int 0) hfit ety1 nw21 nw22 (by decide) (by decide) (fun c hA => ⟨(elem_f ety1 (Term.int_eval 0) hA (by decide)).symm.trans (eq_eval nw40 (Term.int_eval 33)), (elem_f ety1 (Term.int_eval 1) hA (by decide)).symm.trans (eq_eval nw48 (Term.int_eval 61)), trivial⟩)
  have Sy1 : Str s s.heap s1 [(33 : Int32), (61 : Int32)] := ⟨ty1, ky1, 0, _, _, Ey1, Fvy1, Fcy1, Ay1, Or.inl ⟨rfl, by decide +kernel, by decide +kernel, by decide +kernel⟩, by decide +kernel, by decide⟩
  obtain ⟨e2, ev2⟩ := exa_v nw7
  have OE2 := Exa.start ev2 nw7
  have OC2 : Sta s s.heap "org/portcullis/expression/Node$Comparison$Operator" "LESS" "Lorg/portcullis/expression/Node$Comparison$Operator;" (.ref e2) := Sta.start ev2 (Or.inr ⟨(hw _ (List.mem_of_getElem? (i := 28) rfl)), (hw _ (List.mem_of_getElem? (i := 44) rfl))⟩)
  obtain ⟨s2, evy2⟩ := exa_v nw23
  have Ey2 := Exa.start evy2 nw23
  have Fy2 : Fld s s.heap e2 "org/portcullis/expression/Node$Comparison$Operator" "iSymbol" "Ljava/lang/String;" (.ref s2) := Fld.start ((fld_at ev2).symm.trans evy2)
  have Fcy2 := Fld.start ((fld_at evy2).symm.trans (eq_eval nw24 (Term.int_eval 0)))
  obtain ⟨ty2, ety2⟩ := arr_v nw25
  have Fvy2 := Fld.start ((fld_at evy2).symm.trans ety2)
  obtain ⟨ky2, Ay2, -⟩ := arvStart (vs := [(.int (60 : Int32))]) (dv := .int 0) hfit ety2 nw25 nw26 (by decide) (by decide) (fun c hA => ⟨(elem_f ety2 (Term.int_eval 0) hA (by decide)).symm.trans (eq_eval nw45 (Term.int_eval 60)), trivial⟩)
  have Sy2 : Str s s.heap s2 [(60 : Int32)] := ⟨ty2, ky2, 0, _, _, Ey2, Fvy2, Fcy2, Ay2, Or.inl ⟨rfl, by decide +kernel, by decide +kernel, by decide +kernel⟩, by decide +kernel, by decide⟩
  obtain ⟨e3, ev3⟩ := exa_v nw9
  have OE3 := Exa.start ev3 nw9
  have OC3 : Sta s s.heap "org/portcullis/expression/Node$Comparison$Operator" "LESS_OR_EQUAL" "Lorg/portcullis/expression/Node$Comparison$Operator;" (.ref e3) := Sta.start ev3 (Or.inr ⟨(hw _ (List.mem_of_getElem? (i := 28) rfl)), (hw _ (List.mem_of_getElem? (i := 45) rfl))⟩)
  obtain ⟨s3, evy3⟩ := exa_v nw27
  have Ey3 := Exa.start evy3 nw27
  have Fy3 : Fld s s.heap e3 "org/portcullis/expression/Node$Comparison$Operator" "iSymbol" "Ljava/lang/String;" (.ref s3) := Fld.start ((fld_at ev3).symm.trans evy3)
  have Fcy3 := Fld.start ((fld_at evy3).symm.trans (eq_eval nw28 (Term.int_eval 0)))
  obtain ⟨ty3, ety3⟩ := arr_v nw29
  have Fvy3 := Fld.start ((fld_at evy3).symm.trans ety3)
  obtain ⟨ky3, Ay3, -⟩ := arvStart (vs := [(.int (60 : Int32)), (.int (61 : Int32))]) (dv := .int 0) hfit ety3 nw29 nw30 (by decide) (by decide) (fun c hA => ⟨(elem_f ety3 (Term.int_eval 0) hA (by decide)).symm.trans (eq_eval nw41 (Term.int_eval 60)), (elem_f ety3 (Term.int_eval 1) hA (by decide)).symm.trans (eq_eval nw44 (Term.int_eval 61)), trivial⟩)
  have Sy3 : Str s s.heap s3 [(60 : Int32), (61 : Int32)] := ⟨ty3, ky3, 0, _, _, Ey3, Fvy3, Fcy3, Ay3, Or.inl ⟨rfl, by decide +kernel, by decide +kernel, by decide +kernel⟩, by decide +kernel, by decide⟩
  obtain ⟨e4, ev4⟩ := exa_v nw11
  have OE4 := Exa.start ev4 nw11
  have OC4 : Sta s s.heap "org/portcullis/expression/Node$Comparison$Operator" "GREATER" "Lorg/portcullis/expression/Node$Comparison$Operator;" (.ref e4) := Sta.start ev4 (Or.inr ⟨(hw _ (List.mem_of_getElem? (i := 28) rfl)), (hw _ (List.mem_of_getElem? (i := 46) rfl))⟩)
  obtain ⟨s4, evy4⟩ := exa_v nw31
  have Ey4 := Exa.start evy4 nw31
  have Fy4 : Fld s s.heap e4 "org/portcullis/expression/Node$Comparison$Operator" "iSymbol" "Ljava/lang/String;" (.ref s4) := Fld.start ((fld_at ev4).symm.trans evy4)
  have Fcy4 := Fld.start ((fld_at evy4).symm.trans (eq_eval nw32 (Term.int_eval 0)))
  obtain ⟨ty4, ety4⟩ := arr_v nw33
  have Fvy4 := Fld.start ((fld_at evy4).symm.trans ety4)
  obtain ⟨ky4, Ay4, -⟩ := arvStart (vs := [(.int (62 : Int32))]) (dv := .int 0) hfit ety4 nw33 nw34 (by decide) (by decide) (fun c hA => ⟨(elem_f ety4 (Term.int_eval 0) hA (by decide)).symm.trans (eq_eval nw46 (Term.int_eval 62)), trivial⟩)
  have Sy4 : Str s s.heap s4 [(62 : Int32)] := ⟨ty4, ky4, 0, _, _, Ey4, Fvy4, Fcy4, Ay4, Or.inl ⟨rfl, by decide +kernel, by decide +kernel, by decide +kernel⟩, by decide +kernel, by decide⟩
  obtain ⟨e5, ev5⟩ := exa_v nw13
  have OE5 := Exa.start ev5 nw13
  have OC5 : Sta s s.heap "org/portcullis/expression/Node$Comparison$Operator" "GREATER_OR_EQUAL" "Lorg/portcullis/expression/Node$Comparison$Operator;" (.ref e5) := Sta.start ev5 (Or.inr ⟨(hw _ (List.mem_of_getElem? (i := 28) rfl)), (hw _ (List.mem_of_getElem? (i := 47) rfl))⟩)
  obtain ⟨s5, evy5⟩ := exa_v nw35
  have Ey5 := Exa.start evy5 nw35
  have Fy5 : Fld s s.heap e5 "org/portcullis/expression/Node$Comparison$Operator" "iSymbol" "Ljava/lang/String;" (.ref s5) := Fld.start ((fld_at ev5).symm.trans evy5)
  have Fcy5 := Fld.start ((fld_at evy5).symm.trans (eq_eval nw36 (Term.int_eval 0)))
  obtain ⟨ty5, ety5⟩ := arr_v nw37
  have Fvy5 := Fld.start ((fld_at evy5).symm.trans ety5)
  obtain ⟨ky5, Ay5, -⟩ := arvStart (vs := [(.int (62 : Int32)), (.int (61 : Int32))]) (dv := .int 0) hfit ety5 nw37 nw38 (by decide) (by decide) (fun c hA => ⟨(elem_f ety5 (Term.int_eval 0) hA (by decide)).symm.trans (eq_eval nw42 (Term.int_eval 62)), (elem_f ety5 (Term.int_eval 1) hA (by decide)).symm.trans (eq_eval nw43 (Term.int_eval 61)), trivial⟩)
  have Sy5 : Str s s.heap s5 [(62 : Int32), (61 : Int32)] := ⟨ty5, ky5, 0, _, _, Ey5, Fvy5, Fcy5, Ay5, Or.inl ⟨rfl, by decide +kernel, by decide +kernel, by decide +kernel⟩, by decide +kernel, by decide⟩
  obtain ⟨av, evV⟩ := arr_v nw0
  have OV := Exa.start evV nw1
  have OT : Sta s s.heap "org/portcullis/expression/Node$Comparison$Operator" "$VALUES" "[Lorg/portcullis/expression/Node$Comparison$Operator;" (.ref av) := Sta.start evV (Or.inr ⟨(hw _ (List.mem_of_getElem? (i := 28) rfl)), (hw _ (List.mem_of_getElem? (i := 34) rfl))⟩)
  obtain ⟨kv, OA, OX⟩ := arvStart (vs := [(.ref e0), (.ref e1), (.ref e2), (.ref e3), (.ref e4), (.ref e5)]) (dv := .null) hfit evV nw0 nw2 (by decide) (by rfl) (fun c hA => ⟨(elem_f evV (Term.int_eval 0) hA (by decide)).symm.trans (eq_eval nw4 ev0), (elem_f evV (Term.int_eval 1) hA (by decide)).symm.trans (eq_eval nw6 ev1), (elem_f evV (Term.int_eval 2) hA (by decide)).symm.trans (eq_eval nw8 ev2), (elem_f evV (Term.int_eval 3) hA (by decide)).symm.trans (eq_eval nw10 ev3), (elem_f evV (Term.int_eval 4) hA (by decide)).symm.trans (eq_eval nw12 ev4), (elem_f evV (Term.int_eval 5) hA (by decide)).symm.trans (eq_eval nw14 ev5), trivial⟩)
  have hCH : CHv s EL0 s.vm s.heap := CHv.start hEL (fun q hq => hcalls.1 q hq) (hsets _ (List.mem_of_getElem? (i := 2) rfl)) (hw _ (List.mem_of_getElem? (i := 19) rfl)) (hw _ (List.mem_of_getElem? (i := 6) rfl))
  obtain ⟨n, o, h1, h2, h3, _, L, rfl, ⟨q1, N, K⟩, -, hq1, hq2, hq3, hq4⟩ := rm0 l s _ hw hEL zc SC hzc fm SF rfm i0 i1 i2 i3 e0 e1 e2 e3 e4 e5 s0 s1 s2 s3 s4 s5 av kv s.heap (Old.start s) OE0 OE1 OE2 OE3 OE4 OE5 Fy0 Fy1 Fy2 Fy3 Fy4 Fy5 Sy0 Sy1 Sy2 Sy3 Sy4 Sy5 OA OV OT OX OC0 OC1 OC2 OC3 OC4 OC5 p e ha hc hk s m _ below hf ((Spec.applies_iff_loose hf).mp happ).1 ⟨rfl, State.Warmed39.refl s, rfl, hCH, all0⟩ trivial
  cases q1
  refine ⟨n, _, h1, h2, h3, hpost _ _ _ _ _ _ ⟨Cond.after_iff.mpr rfl, Cond.after_iff.mpr (eq_i res_at (Term.int_eval (1)) rfl), trivial⟩ ⟨hq1, hq2, hq3, (hq4.sift fun y hy => Or.inr (N y hy)).mono (by decide +kernel) (by decide +kernel)⟩⟩
theorem main_1_1 : Claimed_1_1 := comes_1 fun _ _ _ _ _ _ h hF => ⟨h.1, hF⟩
theorem main_1_2 : Claimed_1_2 := comes_1 fun _ _ _ _ _ _ h hF => ⟨h.2.1, hF⟩
end Jvm.Pilot.@@N@@
namespace Jvm.Pilot.@@N@@
open Jvm Jvm.ClassFile Sem Op Lib Jvm.Free Jvm.Stand Jvm.Pilot.@@N@@.Jvm.D
/-! MADE BY PROGRAM (witnessworld.py) out of the Statement's table words and the real class files: 22 classes; the members and pool entries that the words name. The judged class is class 1, her method 2. -/
namespace start1
open Jvm.ClassFile
def u (s : String) : CpInfo := .utf8 (stringToUtf16 s)
/-- a pool by its gaps: so many unusable entries, then the entry; so many at the end -/
def gap : Nat → List CpInfo → List CpInfo
  | 0, r => r
  | n + 1, r => .unusable :: gap n r
def poolList (es : List (Nat × CpInfo)) (last : Nat) : List CpInfo := es.foldr (fun e r => gap e.1 (e.2 :: r)) (gap last [])
def pool (es : List (Nat × CpInfo)) (last : Nat) : Array CpInfo := ⟨poolList es last⟩
def fileOf (pool : Array CpInfo) (this : Nat) (attrs : Array Attribute := #[]) (ms : Array MethodInfo := #[]) (fl : Nat := 33) (sup : Nat := 0) (ifs : Array Nat := #[]) (fds : Array FieldInfo := #[]) : ClassFile where
  minorVersion := 0
  majorVersion := 65
  constantPool := pool
  accessFlags := fl
  thisClass := this
  superClass := sup
  interfaces := ifs
  fields := fds
  methods := ms
  attributes := attrs
def plain (name : String) (sup : Option ClassId) : Class where
  name := name
  kind := .ordinary
  loader := none
  accessFlags := 33
  super := sup
  interfaces := #[]
  cf := none
  fields := #[]
  methods := #[]
  instanceTypes := #[]
  staticTypes := #[]
  resolved := #[]
  callSites := []
  init := .initialized
  statics := none
  mirror := none

def pool0 : Array CpInfo := pool [(5, u "<init>"), (0, u "()V"), (1, .class_ 10), (1, u "java/lang/Object"), (85, u "clone"), (0, u "()Ljava/lang/Object;")] 26

def k0c0 : Code := { maxStack := 0, maxLocals := 1, code := object_method_1_code, exceptionTable := #[], attributes := #[] }
def k0m0 : Method := { name := "<init>", desc := "()V", sig := { parameters := [], returnType := none }, accessFlags := 1, code := some k0c0 }
def k0m1 : Method := { name := "clone", desc := "()Ljava/lang/Object;", sig := { parameters := [], returnType := some (.object "java/lang/Object") }, accessFlags := 260, code := none }
/-- java/lang/Object -/
def k0 : Class := { plain "java/lang/Object" none with
  accessFlags := 33
  interfaces := #[]
  cf := some (fileOf pool0 8 #[] #[{ accessFlags := 1, nameIndex := 5, descriptorIndex := 6, attributes := #[] }, { accessFlags := 260, nameIndex := 96, descriptorIndex := 97, attributes := #[] }] 33 0 #[] #[])
  fields := #[]
  methods := #[k0m0, k0m1]
  instanceTypes := #[]
  staticTypes := #[]
  resolved := Array.replicate 124 none
  statics := none }

def pool1 : Array CpInfo := pool [(2, .class_ 4), (1, u "java/lang/Object"), (0, u "<init>"), (0, u "()V"), (0, .methodref 8 9), (0, .class_ 10), (0, .nameAndType 11 12), (0, u "org/portcullis/expression/OperatorWrittenPinLaw"), (0, u "pick"), (0, u "(I)C"), (0, .class_ 14), (0, u "java/lang/String"), (0, .methodref 13 16), (0, .nameAndType 5 17), (0, u "([C)V"), (0, .methodref 13 19), (0, .nameAndType 20 21), (0, u "valueOf"), (0, u "(C)Ljava/lang/String;"), (0, .fieldref 23 24), (0, .class_ 25), (0, .nameAndType 26 27), (0, u "org/portcullis/expression/Node$Comparison$Operator"), (0, u "LESS"), (0, u "Lorg/portcullis/expression/Node$Comparison$Operator;"), (0, .fieldref 23 29), (0, .nameAndType 30 27), (0, u "GREATER"), (0, .fieldref 23 32), (0, .nameAndType 33 27), (0, u "EQUAL"), (0, .fieldref 23 35), (0, .nameAndType 36 27), (0, u "NOT_EQUAL"), (0, .fieldref 23 38), (0, .nameAndType 39 27), (0, u "LESS_OR_EQUAL"), (0, .fieldref 23 41), (0, .nameAndType 42 27), (0, u "GREATER_OR_EQUAL"), (0, .methodref 23 44), (0, .nameAndType 45 46), (0, u "written"), (0, u "(Ljava/lang/String;)Lorg/portcullis/expression/Node$Comparison$Operator;"), (3, u "law"), (0, u "(IIII)Z")] 11

def k1m0 : Method := { name := "<init>", desc := "()V", sig := { parameters := [], returnType := none }, accessFlags := 2, code := none }
def k1c1 : Code := { maxStack := 2, maxLocals := 2, code := method_2_code, exceptionTable := #[], attributes := #[] }
def k1m1 : Method := { name := "pick", desc := "(I)C", sig := { parameters := [.int], returnType := some .char }, accessFlags := 10, code := some k1c1 }
def k1c2 : Code := { maxStack := 4, maxLocals := 13, code := code, exceptionTable := #[], attributes := #[] }
def k1m2 : Method := { name := "law", desc := "(IIII)Z", sig := { parameters := [.int, .int, .int, .int], returnType := some .boolean }, accessFlags := 9, code := some k1c2 }
/-- org/portcullis/expression/OperatorWrittenPinLaw -/
def k1 : Class := { plain "org/portcullis/expression/OperatorWrittenPinLaw" (some 0) with
  accessFlags := 49
  interfaces := #[]
  cf := some (fileOf pool1 8 #[] #[{ accessFlags := 2, nameIndex := 5, descriptorIndex := 6, attributes := #[] }, { accessFlags := 10, nameIndex := 11, descriptorIndex := 12, attributes := #[] }, { accessFlags := 9, nameIndex := 50, descriptorIndex := 51, attributes := #[] }] 49 2 #[] #[])
  fields := #[]
  methods := #[k1m0, k1m1, k1m2]
  instanceTypes := #[]
  staticTypes := #[]
  resolved := Array.replicate 63 none
  statics := none }

def pool2 : Array CpInfo := pool [(1, .class_ 2), (0, u "java/io/Serializable"), (0, .class_ 4), (0, u "java/lang/Object")] 2

/-- java/io/Serializable -/
def k2 : Class := { plain "java/io/Serializable" (some 0) with
  accessFlags := 1537
  interfaces := #[]
  cf := some (fileOf pool2 1 #[] #[] 1537 3 #[] #[])
  fields := #[]
  methods := #[]
  instanceTypes := #[]
  staticTypes := #[]
  resolved := Array.replicate 7 none
  statics := none }

def pool3 : Array CpInfo := pool [(1, .class_ 2), (0, u "java/lang/Comparable"), (0, .class_ 4), (0, u "java/lang/Object")] 7

/-- java/lang/Comparable -/
def k3 : Class := { plain "java/lang/Comparable" (some 0) with
  accessFlags := 1537
  interfaces := #[]
  cf := some (fileOf pool3 1 #[] #[] 1537 3 #[] #[])
  fields := #[]
  methods := #[]
  instanceTypes := #[]
  staticTypes := #[]
  resolved := Array.replicate 12 none
  statics := none }

def pool4 : Array CpInfo := pool [(2, .class_ 4), (1, u "java/lang/CharSequence"), (42, .class_ 48), (0, u "java/lang/CharSequence$1CodePointIterator"), (10, .class_ 60), (0, u "java/lang/CharSequence$1CharIterator"), (5, .class_ 67), (0, u "java/lang/Object")] 63

/-- java/lang/CharSequence -/
def k4 : Class := { plain "java/lang/CharSequence" (some 0) with
  accessFlags := 1537
  interfaces := #[]
  cf := some (fileOf pool4 2 #[.nestMembers #[47, 59]] #[] 1537 66 #[] #[])
  fields := #[]
  methods := #[]
  instanceTypes := #[]
  staticTypes := #[]
  resolved := Array.replicate 131 none
  statics := none }

def pool5 : Array CpInfo := pool [(1, .class_ 2), (0, u "java/lang/constant/Constable"), (0, .class_ 4), (0, u "java/lang/Object")] 6

/-- java/lang/constant/Constable -/
def k5 : Class := { plain "java/lang/constant/Constable" (some 0) with
  accessFlags := 1537
  interfaces := #[]
  cf := some (fileOf pool5 1 #[] #[] 1537 3 #[] #[])
  fields := #[]
  methods := #[]
  instanceTypes := #[]
  staticTypes := #[]
  resolved := Array.replicate 11 none
  statics := none }

def pool6 : Array CpInfo := pool [(1, .class_ 2), (0, u "java/lang/constant/ConstantDesc"), (0, .class_ 4), (0, u "java/lang/Object")] 32

/-- java/lang/constant/ConstantDesc -/
def k6 : Class := { plain "java/lang/constant/ConstantDesc" (some 0) with
  accessFlags := 1537
  interfaces := #[]
  cf := some (fileOf pool6 1 #[] #[] 1537 3 #[] #[])
  fields := #[]
  methods := #[]
  instanceTypes := #[]
  staticTypes := #[]
  resolved := Array.replicate 37 none
  statics := none }

def pool7 : Array CpInfo := pool [(1, .methodref 2 3), (0, .class_ 4), (0, .nameAndType 5 6), (0, u "java/lang/Object"), (0, u "<init>"), (0, u "()V"), (0, .string 8), (0, u ""), (0, .fieldref 10 11), (0, .class_ 12), (0, .nameAndType 13 14), (0, u "java/lang/String"), (0, u "value"), (0, u "[B"), (0, .fieldref 10 16), (0, .nameAndType 17 18), (0, u "coder"), (0, u "B"), (2, u "hash"), (0, u "I"), (2, u "hashIsZero"), (0, u "Z"), (0, .methodref 10 28), (0, .nameAndType 5 29), (0, u "([CIILjava/lang/Void;)V"), (8, .fieldref 10 39), (0, .nameAndType 40 26), (0, u "COMPACT_STRINGS"), (1, .class_ 44), (1, u "java/lang/StringUTF16"), (0, u "compress"), (1, .methodref 42 48), (0, .nameAndType 49 50), (0, u "coderFromArrayLen"), (0, u "([BI)B"), (2, u "toBytes"), (53, .class_ 109), (1, u "java/lang/StringLatin1"), (67, .methodref 42 178), (0, .nameAndType 45 179), (0, u "([CII)[B"), (29, .methodref 10 210), (0, .nameAndType 5 211), (0, u "([BB)V"), (157, u "(C)Z"), (171, .methodref 107 542), (0, .nameAndType 543 544), (0, u "equals"), (0, u "([B[B)Z"), (28, u "(Ljava/lang/Object;)Z"), (1, .class_ 576), (0, u "java/lang/CharSequence"), (22, u "CASE_INSENSITIVE_ORDER"), (0, u "Ljava/util/Comparator;"), (181, u "valueOf"), (0, u "(C)Ljava/lang/String;"), (226, u "([C)V"), (4, .methodref 107 1016), (0, .nameAndType 1017 369), (0, u "canEncode"), (0, .methodref 107 1019), (0, .nameAndType 53 1020), (0, u "(C)[B"), (80, u "serialPersistentFields"), (0, u "[Ljava/io/ObjectStreamField;"), (0, .class_ 1104), (0, u "java/lang/String$CaseInsensitiveComparator"), (1, .class_ 1107), (0, u "java/io/Serializable"), (0, .class_ 1109), (0, u "java/lang/Comparable"), (0, .class_ 1111), (0, u "java/lang/constant/Constable"), (0, .class_ 1113), (0, u "java/lang/constant/ConstantDesc"), (2, u "serialVersionUID"), (0, u "J"), (3, u "REPL"), (0, u "C"), (2, u "LATIN1"), (1, u "UTF16")] 323

def k7m0 : Method := { name := "<init>", desc := "()V", sig := { parameters := [], returnType := none }, accessFlags := 1, code := none }
def k7c1 : Code := { maxStack := 5, maxLocals := 2, code := jdk_42_method_3_code, exceptionTable := #[], attributes := #[] }
def k7m1 : Method := { name := "<init>", desc := "([C)V", sig := { parameters := [(.array .char)], returnType := none }, accessFlags := 1, code := some k7c1 }
def k7c2 : Code := { maxStack := 2, maxLocals := 3, code := jdk_42_method_66_code, exceptionTable := #[], attributes := #[] }
def k7m2 : Method := { name := "equals", desc := "(Ljava/lang/Object;)Z", sig := { parameters := [(.object "java/lang/Object")], returnType := some .boolean }, accessFlags := 1, code := some k7c2 }
def k7c3 : Code := { maxStack := 4, maxLocals := 1, code := jdk_42_method_139_code, exceptionTable := #[], attributes := #[] }
def k7m3 : Method := { name := "valueOf", desc := "(C)Ljava/lang/String;", sig := { parameters := [.char], returnType := some (.object "java/lang/String") }, accessFlags := 9, code := some k7c3 }
def k7c4 : Code := { maxStack := 4, maxLocals := 6, code := jdk_42_method_149_code, exceptionTable := #[], attributes := #[] }
def k7m4 : Method := { name := "<init>", desc := "([CIILjava/lang/Void;)V", sig := { parameters := [(.array .char), .int, .int, (.object "java/lang/Void")], returnType := none }, accessFlags := 2, code := some k7c4 }
def k7c5 : Code := { maxStack := 2, maxLocals := 3, code := jdk_42_method_151_code, exceptionTable := #[], attributes := #[] }
def k7m5 : Method := { name := "<init>", desc := "([BB)V", sig := { parameters := [(.array .byte), .byte], returnType := none }, accessFlags := 0, code := some k7c5 }
/-- java/lang/String -/
def k7 : Class := { plain "java/lang/String" (some 0) with
  accessFlags := 49
  interfaces := #[2, 3, 4, 5, 6]
  cf := some (fileOf pool7 10 #[.nestMembers #[1103]] #[{ accessFlags := 1, nameIndex := 5, descriptorIndex := 6, attributes := #[] }, { accessFlags := 1, nameIndex := 5, descriptorIndex := 1010, attributes := #[] }, { accessFlags := 1, nameIndex := 543, descriptorIndex := 573, attributes := #[] }, { accessFlags := 9, nameIndex := 782, descriptorIndex := 783, attributes := #[] }, { accessFlags := 2, nameIndex := 5, descriptorIndex := 29, attributes := #[] }, { accessFlags := 0, nameIndex := 5, descriptorIndex := 211, attributes := #[] }] 49 2 #[1106, 1108, 575, 1110, 1112] #[{ accessFlags := 18, nameIndex := 13, descriptorIndex := 14, attributes := #[] }, { accessFlags := 18, nameIndex := 17, descriptorIndex := 18, attributes := #[] }, { accessFlags := 2, nameIndex := 21, descriptorIndex := 22, attributes := #[] }, { accessFlags := 2, nameIndex := 25, descriptorIndex := 26, attributes := #[] }, { accessFlags := 26, nameIndex := 1116, descriptorIndex := 1117, attributes := #[] }, { accessFlags := 24, nameIndex := 40, descriptorIndex := 26, attributes := #[] }, { accessFlags := 26, nameIndex := 1101, descriptorIndex := 1102, attributes := #[] }, { accessFlags := 26, nameIndex := 1121, descriptorIndex := 1122, attributes := #[] }, { accessFlags := 25, nameIndex := 599, descriptorIndex := 600, attributes := #[] }, { accessFlags := 24, nameIndex := 1125, descriptorIndex := 18, attributes := #[] }, { accessFlags := 24, nameIndex := 1127, descriptorIndex := 18, attributes := #[] }])
  fields := #[{ name := "value", type := (.array .byte), accessFlags := 18, slot := 0, constantValue := 0 }, { name := "coder", type := .byte, accessFlags := 18, slot := 1, constantValue := 0 }, { name := "hash", type := .int, accessFlags := 2, slot := 2, constantValue := 0 }, { name := "hashIsZero", type := .boolean, accessFlags := 2, slot := 3, constantValue := 0 }, { name := "serialVersionUID", type := .long, accessFlags := 26, slot := 0, constantValue := 0 }, { name := "COMPACT_STRINGS", type := .boolean, accessFlags := 24, slot := 1, constantValue := 0 }, { name := "serialPersistentFields", type := (.array (.object "java/io/ObjectStreamField")), accessFlags := 26, slot := 2, constantValue := 0 }, { name := "REPL", type := .char, accessFlags := 26, slot := 3, constantValue := 0 }, { name := "CASE_INSENSITIVE_ORDER", type := (.object "java/util/Comparator"), accessFlags := 25, slot := 4, constantValue := 0 }, { name := "LATIN1", type := .byte, accessFlags := 24, slot := 5, constantValue := 0 }, { name := "UTF16", type := .byte, accessFlags := 24, slot := 6, constantValue := 0 }]
  methods := #[k7m0, k7m1, k7m2, k7m3, k7m4, k7m5]
  instanceTypes := #[(.array .byte), .byte, .int, .boolean]
  staticTypes := #[.long, .boolean, (.array (.object "java/io/ObjectStreamField")), .char, (.object "java/util/Comparator"), .byte, .byte]
  resolved := Array.replicate 1451 none
  statics := some 0 }

def pool8 : Array CpInfo := pool [(2, .class_ 4), (1, u "java/lang/Enum"), (0, u "name"), (0, u "Ljava/lang/String;"), (2, u "ordinal"), (0, u "I"), (1, .class_ 14), (1, u "java/lang/Object"), (4, u "hash"), (86, .class_ 108), (1, u "java/lang/Enum$EnumDesc"), (2, .class_ 112), (0, u "java/lang/constant/Constable"), (0, .class_ 114), (0, u "java/lang/Comparable"), (0, .class_ 116), (0, u "java/io/Serializable")] 87

/-- java/lang/Enum -/
def k8 : Class := { plain "java/lang/Enum" (some 0) with
  accessFlags := 1057
  interfaces := #[5, 3, 2]
  cf := some (fileOf pool8 2 #[.nestMembers #[106]] #[] 1057 12 #[111, 113, 115] #[{ accessFlags := 18, nameIndex := 5, descriptorIndex := 6, attributes := #[] }, { accessFlags := 18, nameIndex := 9, descriptorIndex := 10, attributes := #[] }, { accessFlags := 2, nameIndex := 19, descriptorIndex := 10, attributes := #[] }])
  fields := #[{ name := "name", type := (.object "java/lang/String"), accessFlags := 18, slot := 0, constantValue := 0 }, { name := "ordinal", type := .int, accessFlags := 18, slot := 1, constantValue := 0 }, { name := "hash", type := .int, accessFlags := 2, slot := 2, constantValue := 0 }]
  methods := #[]
  instanceTypes := #[(.object "java/lang/String"), .int, .int]
  staticTypes := #[]
  resolved := Array.replicate 204 none
  statics := none }

def pool9 : Array CpInfo := pool [(1, .class_ 2), (0, u "org/portcullis/expression/Node$Comparison$Operator"), (2, u "EQUAL"), (0, u "Lorg/portcullis/expression/Node$Comparison$Operator;"), (2, u "NOT_EQUAL"), (2, u "LESS"), (2, u "LESS_OR_EQUAL"), (2, u "GREATER"), (2, u "GREATER_OR_EQUAL"), (0, .fieldref 1 23), (0, .nameAndType 24 25), (0, u "$VALUES"), (0, u "[Lorg/portcullis/expression/Node$Comparison$Operator;"), (0, .methodref 27 28), (0, .class_ 25), (0, .nameAndType 29 30), (0, u "clone"), (0, u "()Ljava/lang/Object;"), (1, .class_ 34), (1, u "java/lang/Enum"), (6, .fieldref 1 42), (0, .nameAndType 43 44), (0, u "iSymbol"), (0, u "Ljava/lang/String;"), (0, .methodref 1 46), (0, .nameAndType 47 48), (0, u "values"), (0, u "()[Lorg/portcullis/expression/Node$Comparison$Operator;"), (0, .methodref 50 51), (0, .class_ 52), (0, .nameAndType 53 54), (0, u "java/lang/String"), (0, u "equals"), (0, u "(Ljava/lang/Object;)Z"), (26, u "(Ljava/lang/String;)Lorg/portcullis/expression/Node$Comparison$Operator;"), (3, u "written"), (7, .class_ 94), (0, u "org/portcullis/expression/Node")] 5

def k9c0 : Code := { maxStack := 1, maxLocals := 0, code := prog_74_method_1_code, exceptionTable := #[], attributes := #[] }
def k9m0 : Method := { name := "values", desc := "()[Lorg/portcullis/expression/Node$Comparison$Operator;", sig := { parameters := [], returnType := some (.array (.object "org/portcullis/expression/Node$Comparison$Operator")) }, accessFlags := 9, code := some k9c0 }
def k9c1 : Code := { maxStack := 2, maxLocals := 5, code := prog_74_method_4_code, exceptionTable := #[], attributes := #[] }
def k9m1 : Method := { name := "written", desc := "(Ljava/lang/String;)Lorg/portcullis/expression/Node$Comparison$Operator;", sig := { parameters := [(.object "java/lang/String")], returnType := some (.object "org/portcullis/expression/Node$Comparison$Operator") }, accessFlags := 8, code := some k9c1 }
/-- org/portcullis/expression/Node$Comparison$Operator -/
def k9 : Class := { plain "org/portcullis/expression/Node$Comparison$Operator" (some 8) with
  accessFlags := 16432
  interfaces := #[]
  cf := some (fileOf pool9 1 #[.nestHost 93] #[{ accessFlags := 9, nameIndex := 47, descriptorIndex := 48, attributes := #[] }, { accessFlags := 8, nameIndex := 85, descriptorIndex := 81, attributes := #[] }] 16432 32 #[] #[{ accessFlags := 16409, nameIndex := 5, descriptorIndex := 6, attributes := #[] }, { accessFlags := 16409, nameIndex := 9, descriptorIndex := 6, attributes := #[] }, { accessFlags := 16409, nameIndex := 12, descriptorIndex := 6, attributes := #[] }, { accessFlags := 16409, nameIndex := 15, descriptorIndex := 6, attributes := #[] }, { accessFlags := 16409, nameIndex := 18, descriptorIndex := 6, attributes := #[] }, { accessFlags := 16409, nameIndex := 21, descriptorIndex := 6, attributes := #[] }, { accessFlags := 18, nameIndex := 43, descriptorIndex := 44, attributes := #[] }, { accessFlags := 4122, nameIndex := 24, descriptorIndex := 25, attributes := #[] }])
  fields := #[{ name := "EQUAL", type := (.object "org/portcullis/expression/Node$Comparison$Operator"), accessFlags := 16409, slot := 0, constantValue := 0 }, { name := "NOT_EQUAL", type := (.object "org/portcullis/expression/Node$Comparison$Operator"), accessFlags := 16409, slot := 1, constantValue := 0 }, { name := "LESS", type := (.object "org/portcullis/expression/Node$Comparison$Operator"), accessFlags := 16409, slot := 2, constantValue := 0 }, { name := "LESS_OR_EQUAL", type := (.object "org/portcullis/expression/Node$Comparison$Operator"), accessFlags := 16409, slot := 3, constantValue := 0 }, { name := "GREATER", type := (.object "org/portcullis/expression/Node$Comparison$Operator"), accessFlags := 16409, slot := 4, constantValue := 0 }, { name := "GREATER_OR_EQUAL", type := (.object "org/portcullis/expression/Node$Comparison$Operator"), accessFlags := 16409, slot := 5, constantValue := 0 }, { name := "iSymbol", type := (.object "java/lang/String"), accessFlags := 18, slot := 3, constantValue := 0 }, { name := "$VALUES", type := (.array (.object "org/portcullis/expression/Node$Comparison$Operator")), accessFlags := 4122, slot := 6, constantValue := 0 }]
  methods := #[k9m0, k9m1]
  instanceTypes := #[(.object "java/lang/String"), .int, .int, (.object "java/lang/String")]
  staticTypes := #[(.object "org/portcullis/expression/Node$Comparison$Operator"), (.object "org/portcullis/expression/Node$Comparison$Operator"), (.object "org/portcullis/expression/Node$Comparison$Operator"), (.object "org/portcullis/expression/Node$Comparison$Operator"), (.object "org/portcullis/expression/Node$Comparison$Operator"), (.object "org/portcullis/expression/Node$Comparison$Operator"), (.array (.object "org/portcullis/expression/Node$Comparison$Operator"))]
  resolved := Array.replicate 100 none
  statics := some 1 }

def pool10 : Array CpInfo := pool [(1, .class_ 2), (0, u "java/lang/Cloneable"), (0, .class_ 4), (0, u "java/lang/Object")] 2

/-- java/lang/Cloneable -/
def k10 : Class := { plain "java/lang/Cloneable" (some 0) with
  accessFlags := 1537
  interfaces := #[]
  cf := some (fileOf pool10 1 #[] #[] 1537 3 #[] #[])
  fields := #[]
  methods := #[]
  instanceTypes := #[]
  staticTypes := #[]
  resolved := Array.replicate 7 none
  statics := none }

def pool11 : Array CpInfo := pool [(4, .class_ 6), (1, u "java/lang/Object"), (0, u "<init>"), (0, u "()V"), (5, .class_ 16), (1, u "java/lang/StringLatin1"), (73, u "canEncode"), (14, u "(C)Z"), (15, u "$assertionsDisabled"), (0, u "Z"), (98, .class_ 223), (1, u "java/lang/StringLatin1$LinesSpliterator"), (57, u "equals"), (0, u "([B[B)Z"), (97, u "toBytes"), (1, u "(C)[B"), (7, .class_ 391), (0, u "java/lang/StringLatin1$CharsSpliterator")] 3

def k11m0 : Method := { name := "<init>", desc := "()V", sig := { parameters := [], returnType := none }, accessFlags := 0, code := none }
def k11c1 : Code := { maxStack := 2, maxLocals := 1, code := jdk_43_method_3_code, exceptionTable := #[], attributes := #[] }
def k11m1 : Method := { name := "canEncode", desc := "(C)Z", sig := { parameters := [.char], returnType := some .boolean }, accessFlags := 9, code := some k11c1 }
def k11c2 : Code := { maxStack := 3, maxLocals := 3, code := jdk_43_method_13_code, exceptionTable := #[], attributes := #[] }
def k11m2 : Method := { name := "equals", desc := "([B[B)Z", sig := { parameters := [(.array .byte), (.array .byte)], returnType := some .boolean }, accessFlags := 9, code := some k11c2 }
def k11c3 : Code := { maxStack := 4, maxLocals := 1, code := jdk_43_method_46_code, exceptionTable := #[], attributes := #[] }
def k11m3 : Method := { name := "toBytes", desc := "(C)[B", sig := { parameters := [.char], returnType := some (.array .byte) }, accessFlags := 9, code := some k11c3 }
/-- java/lang/StringLatin1 -/
def k11 : Class := { plain "java/lang/StringLatin1" (some 0) with
  accessFlags := 48
  interfaces := #[]
  cf := some (fileOf pool11 14 #[.nestMembers #[390, 221]] #[{ accessFlags := 0, nameIndex := 7, descriptorIndex := 8, attributes := #[] }, { accessFlags := 9, nameIndex := 90, descriptorIndex := 105, attributes := #[] }, { accessFlags := 9, nameIndex := 281, descriptorIndex := 282, attributes := #[] }, { accessFlags := 9, nameIndex := 380, descriptorIndex := 382, attributes := #[] }] 48 4 #[] #[{ accessFlags := 4120, nameIndex := 121, descriptorIndex := 122, attributes := #[] }])
  fields := #[{ name := "$assertionsDisabled", type := .boolean, accessFlags := 4120, slot := 0, constantValue := 0 }]
  methods := #[k11m0, k11m1, k11m2, k11m3]
  instanceTypes := #[]
  staticTypes := #[.boolean]
  resolved := Array.replicate 395 none
  statics := none }

def pool12 : Array CpInfo := pool [(6, .class_ 8), (1, u "java/lang/Object"), (0, u "<init>"), (0, u "()V"), (1, .class_ 14), (1, u "java/lang/StringUTF16"), (31, u "$assertionsDisabled"), (0, u "Z"), (13, u "HI_BYTE_SHIFT"), (0, u "I"), (2, u "LO_BYTE_SHIFT"), (49, .methodref 12 116), (0, .nameAndType 117 118), (0, u "compress"), (0, u "([CI[BII)I"), (3, u "([CII)[B"), (138, u "coderFromArrayLen"), (0, u "([BI)B"), (106, .class_ 371), (1, u "java/lang/StringUTF16$LinesSpliterator"), (58, u "MAX_LENGTH"), (196, .class_ 628), (0, u "java/lang/StringUTF16$CodePointsSpliterator"), (0, .class_ 630), (0, u "java/lang/StringUTF16$CharsSpliterator")] 4

def k12m0 : Method := { name := "<init>", desc := "()V", sig := { parameters := [], returnType := none }, accessFlags := 0, code := none }
def k12c1 : Code := { maxStack := 2, maxLocals := 2, code := jdk_52_method_15_code, exceptionTable := #[], attributes := #[] }
def k12m1 : Method := { name := "coderFromArrayLen", desc := "([BI)B", sig := { parameters := [(.array .byte), .int], returnType := some .byte }, accessFlags := 8, code := some k12c1 }
def k12c2 : Code := { maxStack := 5, maxLocals := 6, code := jdk_52_method_16_code, exceptionTable := #[], attributes := #[] }
def k12m2 : Method := { name := "compress", desc := "([CII)[B", sig := { parameters := [(.array .char), .int, .int], returnType := some (.array .byte) }, accessFlags := 9, code := some k12c2 }
def k12c3 : Code := { maxStack := 3, maxLocals := 7, code := jdk_52_method_21_code, exceptionTable := #[], attributes := #[] }
def k12m3 : Method := { name := "compress", desc := "([CI[BII)I", sig := { parameters := [(.array .char), .int, (.array .byte), .int, .int], returnType := some .int }, accessFlags := 9, code := some k12c3 }
/-- java/lang/StringUTF16 -/
def k12 : Class := { plain "java/lang/StringUTF16" (some 0) with
  accessFlags := 48
  interfaces := #[]
  cf := some (fileOf pool12 12 #[.nestMembers #[627, 629, 369]] #[{ accessFlags := 0, nameIndex := 9, descriptorIndex := 10, attributes := #[] }, { accessFlags := 8, nameIndex := 261, descriptorIndex := 262, attributes := #[] }, { accessFlags := 9, nameIndex := 117, descriptorIndex := 122, attributes := #[] }, { accessFlags := 9, nameIndex := 117, descriptorIndex := 118, attributes := #[] }] 48 6 #[] #[{ accessFlags := 26, nameIndex := 61, descriptorIndex := 62, attributes := #[] }, { accessFlags := 26, nameIndex := 65, descriptorIndex := 62, attributes := #[] }, { accessFlags := 24, nameIndex := 430, descriptorIndex := 62, attributes := #[] }, { accessFlags := 4120, nameIndex := 46, descriptorIndex := 47, attributes := #[] }])
  fields := #[{ name := "HI_BYTE_SHIFT", type := .int, accessFlags := 26, slot := 0, constantValue := 0 }, { name := "LO_BYTE_SHIFT", type := .int, accessFlags := 26, slot := 1, constantValue := 0 }, { name := "MAX_LENGTH", type := .int, accessFlags := 24, slot := 2, constantValue := 0 }, { name := "$assertionsDisabled", type := .boolean, accessFlags := 4120, slot := 3, constantValue := 0 }]
  methods := #[k12m0, k12m1, k12m2, k12m3]
  instanceTypes := #[]
  staticTypes := #[.int, .int, .int, .boolean]
  resolved := Array.replicate 635 none
  statics := none }

def pool13 : Array CpInfo := pool [(2, .class_ 4), (1, u "java/lang/Object"), (0, u "<init>"), (0, u "()V"), (17, .class_ 26), (1, u "jdk/internal/util/Preconditions"), (28, .class_ 56), (0, u "jdk/internal/util/Preconditions$4"), (57, .class_ 115), (0, u "jdk/internal/util/Preconditions$1"), (7, u "SIOOBE_FORMATTER"), (0, u "Ljava/util/function/BiFunction;"), (0, .class_ 126), (0, u "jdk/internal/util/Preconditions$2"), (3, u "AIOOBE_FORMATTER"), (0, .class_ 132), (0, u "jdk/internal/util/Preconditions$3"), (3, u "IOOBE_FORMATTER")] 57

def k13m0 : Method := { name := "<init>", desc := "()V", sig := { parameters := [], returnType := none }, accessFlags := 1, code := none }
/-- jdk/internal/util/Preconditions -/
def k13 : Class := { plain "jdk/internal/util/Preconditions" (some 0) with
  accessFlags := 33
  interfaces := #[]
  cf := some (fileOf pool13 24 #[.nestMembers #[55, 131, 125, 114]] #[{ accessFlags := 1, nameIndex := 5, descriptorIndex := 6, attributes := #[] }] 33 2 #[] #[{ accessFlags := 25, nameIndex := 123, descriptorIndex := 124, attributes := #[] }, { accessFlags := 25, nameIndex := 130, descriptorIndex := 124, attributes := #[] }, { accessFlags := 25, nameIndex := 136, descriptorIndex := 124, attributes := #[] }])
  fields := #[{ name := "SIOOBE_FORMATTER", type := (.object "java/util/function/BiFunction"), accessFlags := 25, slot := 0, constantValue := 0 }, { name := "AIOOBE_FORMATTER", type := (.object "java/util/function/BiFunction"), accessFlags := 25, slot := 1, constantValue := 0 }, { name := "IOOBE_FORMATTER", type := (.object "java/util/function/BiFunction"), accessFlags := 25, slot := 2, constantValue := 0 }]
  methods := #[k13m0]
  instanceTypes := #[]
  staticTypes := #[(.object "java/util/function/BiFunction"), (.object "java/util/function/BiFunction"), (.object "java/util/function/BiFunction")]
  resolved := Array.replicate 194 none
  statics := some 2 }

def pool14 : Array CpInfo := pool [(9, u "<init>"), (6, .class_ 18), (1, u "java/lang/Object"), (0, u "()V"), (1, .class_ 23), (1, u "jdk/internal/util/ArraysSupport"), (0, u "LOG2_ARRAY_LONG_INDEX_SCALE"), (0, u "I"), (2, u "U"), (0, u "Ljdk/internal/misc/Unsafe;"), (8, u "BIG_ENDIAN"), (0, u "Z"), (8, u "LOG2_BYTE_BIT_SIZE"), (4, u "LOG2_ARRAY_INT_INDEX_SCALE"), (54, u "JLA"), (0, u "Ljdk/internal/access/JavaLangAccess;"), (11, u "LOG2_ARRAY_BOOLEAN_INDEX_SCALE"), (9, u "LOG2_ARRAY_BYTE_INDEX_SCALE"), (5, u "LOG2_ARRAY_CHAR_INDEX_SCALE"), (5, u "LOG2_ARRAY_SHORT_INDEX_SCALE"), (18, u "LOG2_ARRAY_FLOAT_INDEX_SCALE"), (24, u "LOG2_ARRAY_DOUBLE_INDEX_SCALE"), (89, u "T_BOOLEAN"), (2, u "T_CHAR"), (1, u "T_FLOAT"), (1, u "T_DOUBLE"), (1, u "T_BYTE"), (1, u "T_SHORT"), (1, u "T_INT"), (1, u "T_LONG"), (1, u "SOFT_MAX_ARRAY_LENGTH")] 83

def k14m0 : Method := { name := "<init>", desc := "()V", sig := { parameters := [], returnType := none }, accessFlags := 2, code := none }
/-- jdk/internal/util/ArraysSupport -/
def k14 : Class := { plain "jdk/internal/util/ArraysSupport" (some 0) with
  accessFlags := 33
  interfaces := #[]
  cf := some (fileOf pool14 21 #[] #[{ accessFlags := 2, nameIndex := 9, descriptorIndex := 19, attributes := #[] }] 33 16 #[] #[{ accessFlags := 24, nameIndex := 28, descriptorIndex := 29, attributes := #[] }, { accessFlags := 26, nameIndex := 38, descriptorIndex := 39, attributes := #[] }, { accessFlags := 25, nameIndex := 121, descriptorIndex := 25, attributes := #[] }, { accessFlags := 25, nameIndex := 131, descriptorIndex := 25, attributes := #[] }, { accessFlags := 25, nameIndex := 137, descriptorIndex := 25, attributes := #[] }, { accessFlags := 25, nameIndex := 143, descriptorIndex := 25, attributes := #[] }, { accessFlags := 25, nameIndex := 53, descriptorIndex := 25, attributes := #[] }, { accessFlags := 25, nameIndex := 24, descriptorIndex := 25, attributes := #[] }, { accessFlags := 25, nameIndex := 162, descriptorIndex := 25, attributes := #[] }, { accessFlags := 25, nameIndex := 187, descriptorIndex := 25, attributes := #[] }, { accessFlags := 26, nameIndex := 48, descriptorIndex := 25, attributes := #[] }, { accessFlags := 25, nameIndex := 277, descriptorIndex := 25, attributes := #[] }, { accessFlags := 25, nameIndex := 280, descriptorIndex := 25, attributes := #[] }, { accessFlags := 25, nameIndex := 282, descriptorIndex := 25, attributes := #[] }, { accessFlags := 25, nameIndex := 284, descriptorIndex := 25, attributes := #[] }, { accessFlags := 25, nameIndex := 286, descriptorIndex := 25, attributes := #[] }, { accessFlags := 25, nameIndex := 288, descriptorIndex := 25, attributes := #[] }, { accessFlags := 25, nameIndex := 290, descriptorIndex := 25, attributes := #[] }, { accessFlags := 25, nameIndex := 292, descriptorIndex := 25, attributes := #[] }, { accessFlags := 26, nameIndex := 108, descriptorIndex := 109, attributes := #[] }, { accessFlags := 25, nameIndex := 294, descriptorIndex := 25, attributes := #[] }])
  fields := #[{ name := "U", type := (.object "jdk/internal/misc/Unsafe"), accessFlags := 24, slot := 0, constantValue := 0 }, { name := "BIG_ENDIAN", type := .boolean, accessFlags := 26, slot := 1, constantValue := 0 }, { name := "LOG2_ARRAY_BOOLEAN_INDEX_SCALE", type := .int, accessFlags := 25, slot := 2, constantValue := 0 }, { name := "LOG2_ARRAY_BYTE_INDEX_SCALE", type := .int, accessFlags := 25, slot := 3, constantValue := 0 }, { name := "LOG2_ARRAY_CHAR_INDEX_SCALE", type := .int, accessFlags := 25, slot := 4, constantValue := 0 }, { name := "LOG2_ARRAY_SHORT_INDEX_SCALE", type := .int, accessFlags := 25, slot := 5, constantValue := 0 }, { name := "LOG2_ARRAY_INT_INDEX_SCALE", type := .int, accessFlags := 25, slot := 6, constantValue := 0 }, { name := "LOG2_ARRAY_LONG_INDEX_SCALE", type := .int, accessFlags := 25, slot := 7, constantValue := 0 }, { name := "LOG2_ARRAY_FLOAT_INDEX_SCALE", type := .int, accessFlags := 25, slot := 8, constantValue := 0 }, { name := "LOG2_ARRAY_DOUBLE_INDEX_SCALE", type := .int, accessFlags := 25, slot := 9, constantValue := 0 }, { name := "LOG2_BYTE_BIT_SIZE", type := .int, accessFlags := 26, slot := 10, constantValue := 0 }, { name := "T_BOOLEAN", type := .int, accessFlags := 25, slot := 11, constantValue := 0 }, { name := "T_CHAR", type := .int, accessFlags := 25, slot := 12, constantValue := 0 }, { name := "T_FLOAT", type := .int, accessFlags := 25, slot := 13, constantValue := 0 }, { name := "T_DOUBLE", type := .int, accessFlags := 25, slot := 14, constantValue := 0 }, { name := "T_BYTE", type := .int, accessFlags := 25, slot := 15, constantValue := 0 }, { name := "T_SHORT", type := .int, accessFlags := 25, slot := 16, constantValue := 0 }, { name := "T_INT", type := .int, accessFlags := 25, slot := 17, constantValue := 0 }, { name := "T_LONG", type := .int, accessFlags := 25, slot := 18, constantValue := 0 }, { name := "JLA", type := (.object "jdk/internal/access/JavaLangAccess"), accessFlags := 26, slot := 19, constantValue := 0 }, { name := "SOFT_MAX_ARRAY_LENGTH", type := .int, accessFlags := 25, slot := 20, constantValue := 0 }]
  methods := #[k14m0]
  instanceTypes := #[]
  staticTypes := #[(.object "jdk/internal/misc/Unsafe"), .boolean, .int, .int, .int, .int, .int, .int, .int, .int, .int, .int, .int, .int, .int, .int, .int, .int, .int, (.object "jdk/internal/access/JavaLangAccess"), .int]
  resolved := Array.replicate 378 none
  statics := none }

/-- the primitive byte -/
def k15 : Class := { plain "byte" none with kind := .primitive 'B', accessFlags := 0x411 }
/-- [B -/
def k16 : Class := { plain "[B" (some 0) with kind := .array 15 .byte, interfaces := #[10, 2], accessFlags := 1041 }

/-- the primitive char -/
def k17 : Class := { plain "char" none with kind := .primitive 'C', accessFlags := 0x411 }
/-- [C -/
def k18 : Class := { plain "[C" (some 0) with kind := .array 17 .char, interfaces := #[10, 2], accessFlags := 1041 }

/-- the primitive int -/
def k19 : Class := { plain "int" none with kind := .primitive 'I', accessFlags := 0x411 }
/-- [I -/
def k20 : Class := { plain "[I" (some 0) with kind := .array 19 .int, interfaces := #[10, 2], accessFlags := 1041 }

/-- [Lorg/portcullis/expression/Node$Comparison$Operator; -/
def k21 : Class := { plain "[Lorg/portcullis/expression/Node$Comparison$Operator;" (some 0) with kind := .array 9 (.object "org/portcullis/expression/Node$Comparison$Operator"), interfaces := #[10, 2], accessFlags := 1041 }

def heap : Heap := #[{ cls := 7, slots := #[.long 0, .int 1, .null, .int 0, .null, .int 0, .int 0], vm := .statics 7 },
  { cls := 9, slots := #[.ref 4, .ref 5, .ref 6, .ref 7, .ref 8, .ref 9, .ref 3], vm := .statics 9 },
  { cls := 13, slots := #[.null, .null, .null], vm := .statics 13 },
  { cls := 21, slots := #[.ref 4, .ref 5, .ref 6, .ref 7, .ref 8, .ref 9], vm := .none },
  { cls := 9, slots := #[.null, .int 0, .int 0, .ref 10], vm := .none },
  { cls := 9, slots := #[.null, .int 1, .int 0, .ref 11], vm := .none },
  { cls := 9, slots := #[.null, .int 2, .int 0, .ref 12], vm := .none },
  { cls := 9, slots := #[.null, .int 3, .int 0, .ref 13], vm := .none },
  { cls := 9, slots := #[.null, .int 4, .int 0, .ref 14], vm := .none },
  { cls := 9, slots := #[.null, .int 5, .int 0, .ref 15], vm := .none },
  { cls := 7, slots := #[.ref 16, .int 0, .int 0, .int 0], vm := .none },
  { cls := 7, slots := #[.ref 17, .int 0, .int 0, .int 0], vm := .none },
  { cls := 7, slots := #[.ref 18, .int 0, .int 0, .int 0], vm := .none },
  { cls := 7, slots := #[.ref 19, .int 0, .int 0, .int 0], vm := .none },
  { cls := 7, slots := #[.ref 20, .int 0, .int 0, .int 0], vm := .none },
  { cls := 7, slots := #[.ref 21, .int 0, .int 0, .int 0], vm := .none },
  { cls := 16, slots := #[.int 61, .int 61], vm := .none },
  { cls := 16, slots := #[.int 33, .int 61], vm := .none },
  { cls := 16, slots := #[.int 60], vm := .none },
  { cls := 16, slots := #[.int 60, .int 61], vm := .none },
  { cls := 16, slots := #[.int 62], vm := .none },
  { cls := 16, slots := #[.int 62, .int 61], vm := .none }]
def classes : Array Class := #[k0, k1, k2, k3, k4, k5, k6, k7, k8, k9, k10, k11, k12, k13, k14, k15, k16, k17, k18, k19, k20, k21]
def interned : List (Array UInt16 × Addr) := []
def slotsUsed : Nat := 81
def theMethod : MethodId := ⟨1, 2⟩
def args0 : Array Value := #[.int 5, .int 6, .int 7, .int 8]
def aboutOver (below : List Frame) : State where
  vm := { classes := classes, interned := interned.toArray }
  heap := heap
  slotsUsed := slotsUsed
  threads := #[{ frames := .invoking theMethod args0 :: below }]
def below0 : List Frame := [.native { method := ⟨0, 0⟩, args := #[] }]
def about1 : State := aboutOver below0
def p0 : Program := .bare "" "" ""
def e0 : Env := launch0.env 0 0 0
theorem w_frames : about1.frames = Frame.invoking theMethod args0 :: below0 := rfl
set_option maxRecDepth 65536 in
theorem w_args : argsFit about1.vm theMethod args0 = true := by decide +kernel
set_option maxRecDepth 65536 in
theorem w_heap : heapFits about1 = true := by decide +kernel
set_option maxRecDepth 65536 in
theorem w_runnable : about1.curStatus? = some .runnable := by decide +kernel
set_option maxRecDepth 65536 in
theorem w_alone : about1.alone = true := by decide +kernel
set_option maxRecDepth 65536 in
theorem w_named : about1.methodNamed? x = some theMethod := by decide +kernel
set_option maxRecDepth 65536 in
theorem w_hears : about1.hears theMethod below0 = true := by decide +kernel
set_option maxRecDepth 65536 in
theorem w_ripe : about1.ripe theMethod args0 below0 = true := by decide +kernel
theorem w_running : about1.status = .running := rfl
set_option maxRecDepth 65536 in
theorem w_room : about1.hasRoom e0.platform room_1 = true :=
  launch0.hasRoom_least _ room_1 (by decide +kernel) (by decide +kernel) (by decide +kernel) (by decide +kernel) (by decide +kernel) (by decide +kernel)
theorem allAtoms_all (ts : List Jvm.Cond) (a : Array Jvm.Value) (st : Jvm.State) : (allAtoms ts).before a st = ts.all (fun c => c.before a st) := by
  induction ts with
  | nil => rfl
  | cons c t ih =>
    show (Jvm.Cond.and c (allAtoms t)).before a st = _
    rw [Jvm.Cond.before_and, ih, List.all_cons]
def words1 : List Jvm.Cond := Jvm.Cond.code x code maxLocals ret :: tables_1
/-- a 'code' word, met by the world's own term for the bytes: nothing is compared byte by byte -/
theorem code_word {y : MethodName} {bytes : ByteArray} {mx : Nat} {rt : Option FieldType} {a : Array Value} {s : State} {m : MethodId} {meth : Method} {c : Code} (h1 : s.methodNamed? y = some m) (h2 : s.vm.method? m = some meth) (h3 : meth.code = some c) (h4 : c.code = bytes)
    (h5 : (c.maxLocals == mx && c.exceptionTable.isEmpty && decide (c.maxStack ≤ mostOperands) && decide (meth.sig.returnType = rt) && !meth.locks && decide (parseMethodDescriptor y.desc = some meth.sig)) = true) : (Jvm.Cond.code y bytes mx rt).before a s = true := by
  simp only [Bool.and_eq_true, beq_iff_eq, Bool.not_eq_true', decide_eq_true_eq] at h5
  obtain ⟨⟨⟨⟨⟨g1, g2⟩, g3⟩, g4⟩, g5⟩, g6⟩ := h5
  simp [Cond.before, Cond.holds, Cond.value, h1, h2, h3, h4, g1, g2, g3, g4, g5, g6]
def isCode : Jvm.Cond → Bool
  | .code _ _ _ _ => true
  | _ => false
theorem all_split {L : List Jvm.Cond} {P : Jvm.Cond → Bool} (h1 : L.all (fun c => isCode c || P c) = true) (h2 : ∀ c ∈ L.filter isCode, P c = true) : L.all P = true := by
  refine List.all_eq_true.mpr fun c hc => ?_
  have h := List.all_eq_true.mp h1 c hc
  rcases Bool.eq_false_or_eq_true (isCode c) with hi | hi
  · exact h2 c (List.mem_filter.mpr ⟨hc, hi⟩)
  · simpa [hi] using h
set_option maxRecDepth 65536 in
theorem w_c0 : (Jvm.Cond.code x code maxLocals ret).before args0 about1 = true := code_word (m := ⟨1, 2⟩) (meth := k1m2) (c := k1c2) (by decide +kernel) rfl rfl rfl (by decide +kernel)
set_option maxRecDepth 65536 in
theorem w_c1 : (Jvm.Cond.code ({ cls := "org/portcullis/expression/OperatorWrittenPinLaw", name := "pick", desc := "(I)C" } : Jvm.MethodName) method_2_code (2 : Nat) (Option.some Jvm.ClassFile.FieldType.char)).before args0 about1 = true := code_word (m := ⟨1, 1⟩) (meth := k1m1) (c := k1c1) (by decide +kernel) rfl rfl rfl (by decide +kernel)
set_option maxRecDepth 65536 in
theorem w_c2 : (Jvm.Cond.code ({ cls := "java/lang/String", name := "<init>", desc := "([C)V" } : Jvm.MethodName) jdk_42_method_3_code (2 : Nat) (Option.none : Option Jvm.ClassFile.FieldType)).before args0 about1 = true := code_word (m := ⟨7, 1⟩) (meth := k7m1) (c := k7c1) (by decide +kernel) rfl rfl rfl (by decide +kernel)
set_option maxRecDepth 65536 in
theorem w_c3 : (Jvm.Cond.code ({ cls := "java/lang/String", name := "<init>", desc := "([CIILjava/lang/Void;)V" } : Jvm.MethodName) jdk_42_method_149_code (6 : Nat) (Option.none : Option Jvm.ClassFile.FieldType)).before args0 about1 = true := code_word (m := ⟨7, 4⟩) (meth := k7m4) (c := k7c4) (by decide +kernel) rfl rfl rfl (by decide +kernel)
set_option maxRecDepth 65536 in
theorem w_c4 : (Jvm.Cond.code ({ cls := "java/lang/Object", name := "<init>", desc := "()V" } : Jvm.MethodName) object_method_1_code (1 : Nat) (Option.none : Option Jvm.ClassFile.FieldType)).before args0 about1 = true := code_word (m := ⟨0, 0⟩) (meth := k0m0) (c := k0c0) (by decide +kernel) rfl rfl rfl (by decide +kernel)
set_option maxRecDepth 65536 in
theorem w_c5 : (Jvm.Cond.code ({ cls := "org/portcullis/expression/Node$Comparison$Operator", name := "written", desc := "(Ljava/lang/String;)Lorg/portcullis/expression/Node$Comparison$Operator;" } : Jvm.MethodName) prog_74_method_4_code (5 : Nat) (Option.some (Jvm.ClassFile.FieldType.object "org/portcullis/expression/Node$Comparison$Operator"))).before args0 about1 = true := code_word (m := ⟨9, 1⟩) (meth := k9m1) (c := k9c1) (by decide +kernel) rfl rfl rfl (by decide +kernel)
set_option maxRecDepth 65536 in
theorem w_c6 : (Jvm.Cond.code ({ cls := "org/portcullis/expression/Node$Comparison$Operator", name := "values", desc := "()[Lorg/portcullis/expression/Node$Comparison$Operator;" } : Jvm.MethodName) prog_74_method_1_code (0 : Nat) (Option.some (Jvm.ClassFile.FieldType.array (Jvm.ClassFile.FieldType.object "org/portcullis/expression/Node$Comparison$Operator")))).before args0 about1 = true := code_word (m := ⟨9, 0⟩) (meth := k9m0) (c := k9c0) (by decide +kernel) rfl rfl rfl (by decide +kernel)
set_option maxRecDepth 65536 in
theorem w_c7 : (Jvm.Cond.code ({ cls := "java/lang/String", name := "equals", desc := "(Ljava/lang/Object;)Z" } : Jvm.MethodName) jdk_42_method_66_code (3 : Nat) (Option.some Jvm.ClassFile.FieldType.boolean)).before args0 about1 = true := code_word (m := ⟨7, 2⟩) (meth := k7m2) (c := k7c2) (by decide +kernel) rfl rfl rfl (by decide +kernel)
set_option maxRecDepth 65536 in
theorem w_c8 : (Jvm.Cond.code ({ cls := "java/lang/StringLatin1", name := "equals", desc := "([B[B)Z" } : Jvm.MethodName) jdk_43_method_13_code (3 : Nat) (Option.some Jvm.ClassFile.FieldType.boolean)).before args0 about1 = true := code_word (m := ⟨11, 2⟩) (meth := k11m2) (c := k11c2) (by decide +kernel) rfl rfl rfl (by decide +kernel)
set_option maxRecDepth 65536 in
theorem w_c9 : (Jvm.Cond.code ({ cls := "java/lang/StringUTF16", name := "compress", desc := "([CII)[B" } : Jvm.MethodName) jdk_52_method_16_code (6 : Nat) (Option.some (Jvm.ClassFile.FieldType.array Jvm.ClassFile.FieldType.byte))).before args0 about1 = true := code_word (m := ⟨12, 2⟩) (meth := k12m2) (c := k12c2) (by decide +kernel) rfl rfl rfl (by decide +kernel)
set_option maxRecDepth 65536 in
theorem w_c10 : (Jvm.Cond.code ({ cls := "java/lang/StringUTF16", name := "compress", desc := "([CI[BII)I" } : Jvm.MethodName) jdk_52_method_21_code (7 : Nat) (Option.some Jvm.ClassFile.FieldType.int)).before args0 about1 = true := code_word (m := ⟨12, 3⟩) (meth := k12m3) (c := k12c3) (by decide +kernel) rfl rfl rfl (by decide +kernel)
set_option maxRecDepth 65536 in
theorem w_c11 : (Jvm.Cond.code ({ cls := "java/lang/StringUTF16", name := "coderFromArrayLen", desc := "([BI)B" } : Jvm.MethodName) jdk_52_method_15_code (2 : Nat) (Option.some Jvm.ClassFile.FieldType.byte)).before args0 about1 = true := code_word (m := ⟨12, 1⟩) (meth := k12m1) (c := k12c1) (by decide +kernel) rfl rfl rfl (by decide +kernel)
set_option maxRecDepth 65536 in
theorem w_c12 : (Jvm.Cond.code ({ cls := "java/lang/String", name := "valueOf", desc := "(C)Ljava/lang/String;" } : Jvm.MethodName) jdk_42_method_139_code (1 : Nat) (Option.some (Jvm.ClassFile.FieldType.object "java/lang/String"))).before args0 about1 = true := code_word (m := ⟨7, 3⟩) (meth := k7m3) (c := k7c3) (by decide +kernel) rfl rfl rfl (by decide +kernel)
set_option maxRecDepth 65536 in
theorem w_c13 : (Jvm.Cond.code ({ cls := "java/lang/StringLatin1", name := "canEncode", desc := "(C)Z" } : Jvm.MethodName) jdk_43_method_3_code (1 : Nat) (Option.some Jvm.ClassFile.FieldType.boolean)).before args0 about1 = true := code_word (m := ⟨11, 1⟩) (meth := k11m1) (c := k11c1) (by decide +kernel) rfl rfl rfl (by decide +kernel)
set_option maxRecDepth 65536 in
theorem w_c14 : (Jvm.Cond.code ({ cls := "java/lang/StringLatin1", name := "toBytes", desc := "(C)[B" } : Jvm.MethodName) jdk_43_method_46_code (1 : Nat) (Option.some (Jvm.ClassFile.FieldType.array Jvm.ClassFile.FieldType.byte))).before args0 about1 = true := code_word (m := ⟨11, 3⟩) (meth := k11m3) (c := k11c3) (by decide +kernel) rfl rfl rfl (by decide +kernel)
set_option maxRecDepth 65536 in
theorem w_c15 : (Jvm.Cond.code ({ cls := "java/lang/String", name := "<init>", desc := "([BB)V" } : Jvm.MethodName) jdk_42_method_151_code (3 : Nat) (Option.none : Option Jvm.ClassFile.FieldType)).before args0 about1 = true := code_word (m := ⟨7, 5⟩) (meth := k7m5) (c := k7c5) (by decide +kernel) rfl rfl rfl (by decide +kernel)
def codes1 : List Jvm.Cond := [Jvm.Cond.code x code maxLocals ret, Jvm.Cond.code ({ cls := "org/portcullis/expression/OperatorWrittenPinLaw", name := "pick", desc := "(I)C" } : Jvm.MethodName) method_2_code (2 : Nat) (Option.some Jvm.ClassFile.FieldType.char), Jvm.Cond.code ({ cls := "java/lang/String", name := "<init>", desc := "([C)V" } : Jvm.MethodName) jdk_42_method_3_code (2 : Nat) (Option.none : Option Jvm.ClassFile.FieldType), Jvm.Cond.code ({ cls := "java/lang/String", name := "<init>", desc := "([CIILjava/lang/Void;)V" } : Jvm.MethodName) jdk_42_method_149_code (6 : Nat) (Option.none : Option Jvm.ClassFile.FieldType), Jvm.Cond.code ({ cls := "java/lang/Object", name := "<init>", desc := "()V" } : Jvm.MethodName) object_method_1_code (1 : Nat) (Option.none : Option Jvm.ClassFile.FieldType), Jvm.Cond.code ({ cls := "org/portcullis/expression/Node$Comparison$Operator", name := "written", desc := "(Ljava/lang/String;)Lorg/portcullis/expression/Node$Comparison$Operator;" } : Jvm.MethodName) prog_74_method_4_code (5 : Nat) (Option.some (Jvm.ClassFile.FieldType.object "org/portcullis/expression/Node$Comparison$Operator")), Jvm.Cond.code ({ cls := "org/portcullis/expression/Node$Comparison$Operator", name := "values", desc := "()[Lorg/portcullis/expression/Node$Comparison$Operator;" } : Jvm.MethodName) prog_74_method_1_code (0 : Nat) (Option.some (Jvm.ClassFile.FieldType.array (Jvm.ClassFile.FieldType.object "org/portcullis/expression/Node$Comparison$Operator"))), Jvm.Cond.code ({ cls := "java/lang/String", name := "equals", desc := "(Ljava/lang/Object;)Z" } : Jvm.MethodName) jdk_42_method_66_code (3 : Nat) (Option.some Jvm.ClassFile.FieldType.boolean), Jvm.Cond.code ({ cls := "java/lang/StringLatin1", name := "equals", desc := "([B[B)Z" } : Jvm.MethodName) jdk_43_method_13_code (3 : Nat) (Option.some Jvm.ClassFile.FieldType.boolean), Jvm.Cond.code ({ cls := "java/lang/StringUTF16", name := "compress", desc := "([CII)[B" } : Jvm.MethodName) jdk_52_method_16_code (6 : Nat) (Option.some (Jvm.ClassFile.FieldType.array Jvm.ClassFile.FieldType.byte)), Jvm.Cond.code ({ cls := "java/lang/StringUTF16", name := "compress", desc := "([CI[BII)I" } : Jvm.MethodName) jdk_52_method_21_code (7 : Nat) (Option.some Jvm.ClassFile.FieldType.int), Jvm.Cond.code ({ cls := "java/lang/StringUTF16", name := "coderFromArrayLen", desc := "([BI)B" } : Jvm.MethodName) jdk_52_method_15_code (2 : Nat) (Option.some Jvm.ClassFile.FieldType.byte), Jvm.Cond.code ({ cls := "java/lang/String", name := "valueOf", desc := "(C)Ljava/lang/String;" } : Jvm.MethodName) jdk_42_method_139_code (1 : Nat) (Option.some (Jvm.ClassFile.FieldType.object "java/lang/String")), Jvm.Cond.code ({ cls := "java/lang/StringLatin1", name := "canEncode", desc := "(C)Z" } : Jvm.MethodName) jdk_43_method_3_code (1 : Nat) (Option.some Jvm.ClassFile.FieldType.boolean), Jvm.Cond.code ({ cls := "java/lang/StringLatin1", name := "toBytes", desc := "(C)[B" } : Jvm.MethodName) jdk_43_method_46_code (1 : Nat) (Option.some (Jvm.ClassFile.FieldType.array Jvm.ClassFile.FieldType.byte)), Jvm.Cond.code ({ cls := "java/lang/String", name := "<init>", desc := "([BB)V" } : Jvm.MethodName) jdk_42_method_151_code (3 : Nat) (Option.none : Option Jvm.ClassFile.FieldType)]
set_option maxRecDepth 65536 in
theorem codes_eq : words1.filter isCode = codes1 := rfl
theorem w_codes : ∀ c ∈ words1.filter isCode, c.before args0 about1 = true := by
  rw [codes_eq]
  intro c hc
  simp only [codes1, List.mem_cons, List.not_mem_nil, or_false] at hc
  rcases hc with rfl | rfl | rfl | rfl | rfl | rfl | rfl | rfl | rfl | rfl | rfl | rfl | rfl | rfl | rfl | rfl
  · exact w_c0
  · exact w_c1
  · exact w_c2
  · exact w_c3
  · exact w_c4
  · exact w_c5
  · exact w_c6
  · exact w_c7
  · exact w_c8
  · exact w_c9
  · exact w_c10
  · exact w_c11
  · exact w_c12
  · exact w_c13
  · exact w_c14
  · exact w_c15
set_option maxRecDepth 65536 in
theorem w_t1 : (words1.take 24).all (fun c => isCode c || c.before args0 about1) = true := by decide +kernel
set_option maxRecDepth 65536 in
theorem w_t2 : ((words1.drop 24).take 24).all (fun c => isCode c || c.before args0 about1) = true := by decide +kernel
set_option maxRecDepth 65536 in
theorem w_t3 : (((words1.drop 24).drop 24).take 24).all (fun c => isCode c || c.before args0 about1) = true := by decide +kernel
set_option maxRecDepth 65536 in
theorem w_t4 : (((words1.drop 24).drop 24).drop 24).all (fun c => isCode c || c.before args0 about1) = true := by decide +kernel
theorem w_tables : (allAtoms (Jvm.Cond.code x code maxLocals ret :: tables_1)).before args0 about1 = true := by
  rw [allAtoms_all]
  show words1.all (fun c => c.before args0 about1) = true
  refine all_split ?_ w_codes
  rw [← List.take_append_drop 24 words1, List.all_append, w_t1, ← List.take_append_drop 24 (words1.drop 24), List.all_append, w_t2, ← List.take_append_drop 24 ((words1.drop 24).drop 24), List.all_append, w_t3, w_t4]
  rfl
set_option maxRecDepth 65536 in
theorem w_rest : rest_1_c.before args0 about1 = true := by decide +kernel
set_option maxRecDepth 65536 in
theorem w_case : (Jvm.Cond.and given_1 narrow_1).before args0 about1 = true := by decide +kernel
set_option maxRecDepth 65536 in
theorem w_consts : constsHeld consts_1 about1 := Jvm.Lit.constsHeldB_iff.mp (by decide +kernel)
theorem w_applies : (headSpec (Jvm.Cond.code x code maxLocals ret :: tables_1) room_1).applies x e0.platform about1 = true :=
  (Spec.applies_iff w_frames).mpr ⟨w_running, w_runnable, w_alone, w_named, w_hears, w_ripe, w_room, w_tables⟩
theorem atStart : AtStart classFile x code maxLocals ret World_1 tables_1 room_1 Calls_1 rest_1 Pre_1 launch0 p0 e0 about1 theMethod args0 below0 :=
  ⟨lists_1, trivial, launch0.admits_env _ _ _, launch0.least_env, fairChoices_fair.cas, fairChoices_fair.clock, w_frames, w_args, w_heap, w_applies, ⟨w_consts, trivial⟩, w_rest, w_case⟩
end start1
theorem witness_1 : WitnessClaimed_1 := ⟨start1.p0, start1.e0, start1.about1, start1.theMethod, start1.args0, start1.below0, start1.atStart⟩
end Jvm.Pilot.@@N@@
