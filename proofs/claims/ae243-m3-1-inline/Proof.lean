import JvmDerived
import JvmDerived.Pilot.@@N@@Statement
import JvmDerived.Pilot.@@N@@Code
set_option linter.unusedVariables false
set_option linter.unusedSimpArgs false
/- laws to paste: Road.backV, Road.lenW, Road.chN, Road.codOf (cut by pick.py; bodies as the Statement names them) -/
namespace Jvm.Pilot.@@N@@
namespace StrChars
open Jvm Sem ClassFile Op Lib Jvm.Stand Jvm.Free.XT Jvm.Free.ALB Jvm.Free.JM Jvm.Free
open Jvm.Lib.Cold (StaticIs)
/-- a char array whose places are chars -/
def Ch (a : Addr) (A : Cell) (U : State) : Prop := Arr .char a A U ∧ Typed .char A
theorem Ch.mv {a : Addr} {A : Cell} {U U' : State} (h : Ch a A U) (hal : U.vm.Alike U'.vm) (hh : U'.heap = U.heap) : Ch a A U' := ⟨h.1.mv hal hh, h.2⟩
theorem Ch.keep {a : Addr} {A : Cell} {U U' : State} (h : Ch a A U) (hal : U.vm.Alike U'.vm) (hk : U'.heap[a]? = some A) : Ch a A U' := ⟨h.1.keep hal hk, h.2⟩
/-- what place i of a char[]'s cell holds -/
def cv (A : Cell) (i : Nat) : Int32 := match A.slots[i]? with | some (.int x) => x | _ => 0
theorem Ch.get {a : Addr} {A : Cell} {U : State} (h : Ch a A U) {i : Nat} (hi : i < A.slots.size) : A.slots[i]? = some (.int (cv A i)) := by
  have e := Array.getElem?_eq_getElem hi
  have f := h.2 i _ e
  unfold cv; rw [e]
  generalize A.slots[i] = v at f
  cases v <;> simp [fits] at f ⊢
/-- the byte that i2b leaves of a char -/
def lo8 (x : Int32) : Int32 := x.toInt8.toInt32
theorem fits_lo8 (y : Int32) : fits .byte (.int (lo8 y)) = true := by
  have h1 := y.toInt8.le_toInt
  have h2 := y.toInt8.toInt_lt
  simp only [lo8, fits, Bool.and_eq_true, decide_eq_true_eq, Int32.le_iff_toInt_le, Int8.toInt_toInt32, show (-128 : Int32).toInt = -128 from by decide, show (127 : Int32).toInt = 127 from by decide]
  omega
/-- A' is A but that each place j of lo .. hi - 1 holds f j -/
def Laid (A A' : Cell) (lo hi : Nat) (f : Nat → Value) : Prop := A'.cls = A.cls ∧ A'.vm = A.vm ∧ A'.slots.size = A.slots.size ∧ ∀ i, A'.slots[i]? = if lo ≤ i ∧ i < hi then some (f i) else A.slots[i]?
theorem Laid.zero (A : Cell) (lo : Nat) (f : Nat → Value) : Laid A A lo (lo + 0) f := ⟨rfl, rfl, rfl, fun i => by rw [if_neg (by omega)]⟩
theorem Laid.step {A Ak : Cell} {lo k : Nat} {f : Nat → Value} {v : Value} (h : Laid A Ak lo k f) (hlo : lo ≤ k) (hk : k < Ak.slots.size) (hv : v = f k) : Laid A (Ak.setSlot k v) lo (k + 1) f := by
  refine ⟨h.1, h.2.1, by simpa [Cell.setSlot] using h.2.2.1, fun i => ?_⟩
  by_cases e : k = i
  · subst e; rw [Cell.slots_setSlot_self v hk, if_pos (by omega), hv]
  · rw [Cell.slots_setSlot_ne v e, h.2.2.2 i]
    by_cases q : lo ≤ i ∧ i < k
    · rw [if_pos q, if_pos (by omega)]
    · rw [if_neg q, if_neg (by omega)]
def U16 : String := "java/lang/StringUTF16"
namespace Cmp5
def yN : MethodName := ⟨"java/lang/StringUTF16", "compress", "([CI[BII)I"⟩
abbrev yB : ByteArray := jdk_52_method_21_code
theorem d0 : decode yB 0 = .ok (.iconst 0, 1) := by decide +kernel
theorem d1 : decode yB 1 = .ok (.istore 5, 2) := by decide +kernel
theorem d3 : decode yB 3 = .ok (.iload 5, 2) := by decide +kernel
theorem d5 : decode yB 5 = .ok (.iload 4, 2) := by decide +kernel
theorem d7 : decode yB 7 = .ok (.if_icmp (.ge) 37, 3) := by decide +kernel
theorem d10 : decode yB 10 = .ok (.aload_n 0, 1) := by decide +kernel
theorem d11 : decode yB 11 = .ok (.iload_n 1, 1) := by decide +kernel
theorem d12 : decode yB 12 = .ok (.caload, 1) := by decide +kernel
theorem d13 : decode yB 13 = .ok (.istore 6, 2) := by decide +kernel
theorem d15 : decode yB 15 = .ok (.iload 6, 2) := by decide +kernel
theorem d17 : decode yB 17 = .ok (.sipush 255, 3) := by decide +kernel
theorem d20 : decode yB 20 = .ok (.if_icmp (.le) 6, 3) := by decide +kernel
theorem d26 : decode yB 26 = .ok (.aload_n 2, 1) := by decide +kernel
theorem d27 : decode yB 27 = .ok (.iload_n 3, 1) := by decide +kernel
theorem d28 : decode yB 28 = .ok (.iload 6, 2) := by decide +kernel
theorem d30 : decode yB 30 = .ok (.i2b, 1) := by decide +kernel
theorem d31 : decode yB 31 = .ok (.bastore, 1) := by decide +kernel
theorem d32 : decode yB 32 = .ok (.iinc 1 1, 3) := by decide +kernel
theorem d35 : decode yB 35 = .ok (.iinc 3 1, 3) := by decide +kernel
theorem d38 : decode yB 38 = .ok (.iinc 5 1, 3) := by decide +kernel
theorem d41 : decode yB 41 = .ok (.goto (-38), 3) := by decide +kernel
theorem d44 : decode yB 44 = .ok (.iload 4, 2) := by decide +kernel
theorem d46 : decode yB 46 = .ok (.ireturn, 1) := by decide +kernel
def site : List Cond := []
def tab : Cond := tabOf yN yB 7 (some .int) site
def P (b : Addr) (A : Cell) (d : Addr) (B : Cell) (o q len : Nat) (args : Array Value) (s : State) : Prop := args = #[.ref b, .int (Int32.ofNat o), .ref d, .int (Int32.ofNat q), .int (Int32.ofNat len)] ∧ Ch b A s ∧ Arr .byte d B s ∧ b ≠ d ∧ o + len ≤ A.slots.size ∧ q + len ≤ B.slots.size ∧ ∀ i, i < len → ¬ 255 < cv A (o + i)
def E (b : Addr) (A : Cell) (d : Addr) (B : Cell) (o q len : Nat) (r : Option Value) (s u : State) : Prop := r = some (.int (Int32.ofNat len)) ∧ ∃ B', Put d B' s u ∧ Laid B B' q (q + len) (fun j => Value.int (lo8 (cv A (o + (j - q)))))
/-- no char of the range above 255: len; the places written hold each char's low byte -/
theorem law (l : Launch) (b : Addr) (A : Cell) (d : Addr) (B : Cell) (o q len : Nat) : Law l yN 5 5 0 0 yB 7 (some .int) site (P b A d B o q len) (E b A d B o q len) (copyLocs d q len) 0 0 := by
  refine Law.of_walk (plainFor_of_name (by decide +kernel)) (by decide +kernel) (by decide +kernel) (by decide) (fun _ _ h => by rw [h.1]; rfl) (fun _ U U' hal hh h => ⟨h.1, h.2.1.mv hal hh, h.2.2.1.mv hal hh, h.2.2.2⟩) (fun r U U' V V' h1 hal h2 h => ⟨h.1, h.2.elim fun B' q => ⟨B', q.1.mv h1 h2, q.2⟩⟩) ?_
  intro p e s m args below meth c s₁ X0 hexec hbytes hml hret hlk hnm hown hh0 W hP
  obtain ⟨rfl, hA, hB, hne, l1, l2, hp⟩ := hP
  have c1 : Steps p.tables e below (s₁.setTop (entryFrame m #[.ref b, .int (Int32.ofNat o), .ref d, .int (Int32.ofNat q), .int (Int32.ofNat len)] 7)) (s₁.setTop (mkF m 0 #[.val (.ref b), .val (.int (Int32.ofNat o)), .val (.ref d), .val (.int (Int32.ofNat q)), .val (.int (Int32.ofNat len)), .unset, .unset] [])) := entry rfl
  have hA0 := hA.1.mv X0.warmed.alike hh0
  have hB0 := hB.mv X0.warmed.alike hh0
  have a31 := hA.1.2.2.2
  have c2 : Steps p.tables e below (s₁.setTop (entryFrame m #[.ref b, .int (Int32.ofNat o), .ref d, .int (Int32.ofNat q), .int (Int32.ofNat len)] 7)) (s₁.setTop (mkF m 3 #[.val (.ref b), .val (.int (Int32.ofNat o)), .val (.ref d), .val (.int (Int32.ofNat q)), .val (.int (Int32.ofNat len)), .val (.int 0), .unset] [])) := c1.trans (by
    refine iconstV X0.here hexec rfl 0 (hb hbytes d0) (by decide) ?_
    refine XS.istore X0.here hexec rfl (hb hbytes d1) rfl rfl ?_
    exact Steps.refl _)
  have loop : ∀ (r i : Nat), i + r = len → ∀ (z : Slot), (z = .unset ∨ ∃ w, z = .val w ∧ w.category = 1) → ∀ (Tl : State) (Bk : Cell), Stand p l e { frames := 0, locals := 0, cells := 0, slots := 0 } s m #[.ref b, .int (Int32.ofNat o), .ref d, .int (Int32.ofNat q), .int (Int32.ofNat len)] below meth c Tl ([] ++ copyLocs d q i) 0 0 → Put d Bk s₁ Tl → Laid B Bk q (q + i) (fun j => Value.int (lo8 (cv A (o + (j - q))))) →
      Steps p.tables e below (s₁.setTop (entryFrame m #[.ref b, .int (Int32.ofNat o), .ref d, .int (Int32.ofNat q), .int (Int32.ofNat len)] 7)) (Tl.setTop (mkF m 3 #[.val (.ref b), .val (.int (Int32.ofNat (o + i))), .val (.ref d), .val (.int (Int32.ofNat (q + i))), .val (.int (Int32.ofNat len)), .val (.int (Int32.ofNat i)), z] [])) → ∃ (T' : State) (B' : Cell) (z' : Slot), Stand p l e { frames := 0, locals := 0, cells := 0, slots := 0 } s m #[.ref b, .int (Int32.ofNat o), .ref d, .int (Int32.ofNat q), .int (Int32.ofNat len)] below meth c T' ([] ++ copyLocs d q len) 0 0 ∧ Put d B' s₁ T' ∧ Laid B B' q (q + len) (fun j => Value.int (lo8 (cv A (o + (j - q))))) ∧
      Steps p.tables e below (s₁.setTop (entryFrame m #[.ref b, .int (Int32.ofNat o), .ref d, .int (Int32.ofNat q), .int (Int32.ofNat len)] 7)) (T'.setTop (mkF m 3 #[.val (.ref b), .val (.int (Int32.ofNat (o + len))), .val (.ref d), .val (.int (Int32.ofNat (q + len))), .val (.int (Int32.ofNat len)), .val (.int (Int32.ofNat len)), z'] [])) := by
    intro r
    induction r with
    | zero =>
      intro i hi z hz Tl Bk Xl pl fl cl
      have hil : i = len := by omega
      rw [hil] at Xl fl cl
      exact ⟨Tl, Bk, z, Xl, pl, fl, cl⟩
    | succ r ih =>
      intro i hi z hz Tl Bk Xl pl fl cl
      have all := X0.warmed.alike.symm.trans Xl.warmed.alike
      have hAl := hA0.keep all (pl.other hne hA0.1)
      have hBk := hB0.like all pl.1 fl.1 fl.2.1 fl.2.2.1
      have hlt : q + i < Bk.slots.size := by rw [fl.2.2.1]; omega
      have c3 : Steps p.tables e below (s₁.setTop (entryFrame m #[.ref b, .int (Int32.ofNat o), .ref d, .int (Int32.ofNat q), .int (Int32.ofNat len)] 7)) (Tl.setTop (mkF m 12 #[.val (.ref b), .val (.int (Int32.ofNat (o + i))), .val (.ref d), .val (.int (Int32.ofNat (q + i))), .val (.int (Int32.ofNat len)), .val (.int (Int32.ofNat i)), z] [.int (Int32.ofNat (o + i)), .ref b])) := cl.trans (by
        refine XS.iload Xl.here hexec rfl (hb hbytes d3) rfl ?_
        refine XS.iload Xl.here hexec rfl (hb hbytes d5) rfl ?_
        refine XS.icmpNo Xl.here hexec rfl (hb hbytes d7) rfl (ii_ge_f (lt32 (by omega) (by omega))) ?_
        refine XS.aloadN Xl.here hexec rfl (hb hbytes d10) rfl rfl ?_
        refine XS.iloadN Xl.here hexec rfl (hb hbytes d11) rfl ?_
        exact Steps.refl _)
      have c4 : Steps p.tables e below (s₁.setTop (entryFrame m #[.ref b, .int (Int32.ofNat o), .ref d, .int (Int32.ofNat q), .int (Int32.ofNat len)] 7)) (Tl.setTop (mkF m 13 #[.val (.ref b), .val (.int (Int32.ofNat (o + i))), .val (.ref d), .val (.int (Int32.ofNat (q + i))), .val (.int (Int32.ofNat len)), .val (.int (Int32.ofNat i)), z] [.int (cv A (o + i))])) := c3.trans (by
        refine Xl.aget hexec hAl rfl (hA.get (i := o + i) (by omega)) rfl rfl (hb hbytes d12) ?_
        exact Steps.refl _)
      have c5 : Steps p.tables e below (s₁.setTop (entryFrame m #[.ref b, .int (Int32.ofNat o), .ref d, .int (Int32.ofNat q), .int (Int32.ofNat len)] 7)) (Tl.setTop (mkF m 15 #[.val (.ref b), .val (.int (Int32.ofNat (o + i))), .val (.ref d), .val (.int (Int32.ofNat (q + i))), .val (.int (Int32.ofNat len)), .val (.int (Int32.ofNat i)), .val (.int (cv A (o + i)))] [])) := c4.trans (by
        refine XS.istoreS Xl.here hexec rfl (hb hbytes d13) rfl rfl hz ?_
        exact Steps.refl _)
      have c6 : Steps p.tables e below (s₁.setTop (entryFrame m #[.ref b, .int (Int32.ofNat o), .ref d, .int (Int32.ofNat q), .int (Int32.ofNat len)] 7)) (Tl.setTop (mkF m 31 #[.val (.ref b), .val (.int (Int32.ofNat (o + i))), .val (.ref d), .val (.int (Int32.ofNat (q + i))), .val (.int (Int32.ofNat len)), .val (.int (Int32.ofNat i)), .val (.int (cv A (o + i)))] [.int (lo8 (cv A (o + i))), .int (Int32.ofNat (q + i)), .ref d])) := c5.trans (by
        refine XS.iload Xl.here hexec rfl (hb hbytes d15) rfl ?_
        refine sipushV Xl.here hexec rfl 255 (hb hbytes d17) (by decide) ?_
        refine XS.icmpYes Xl.here hexec rfl (pc0 := 20) rfl (hb hbytes d20) rfl (ii_le_t (hp i (by omega))) (by decide) rfl ?_
        refine XS.aloadN Xl.here hexec rfl (hb hbytes d26) rfl rfl ?_
        refine XS.iloadN Xl.here hexec rfl (hb hbytes d27) rfl ?_
        refine XS.iload Xl.here hexec rfl (hb hbytes d28) rfl ?_
        refine i2b Xl.here hexec rfl (hb hbytes d30) rfl ?_
        exact Steps.refl _)
      obtain ⟨T7, X7, p7, st7⟩ := Xl.aput hexec hBk rfl hlt rfl (fits_lo8 (cv A (o + i))) (g := (mkF m 31 #[.val (.ref b), .val (.int (Int32.ofNat (o + i))), .val (.ref d), .val (.int (Int32.ofNat (q + i))), .val (.int (Int32.ofNat len)), .val (.int (Int32.ofNat i)), .val (.int (cv A (o + i)))] [.int (lo8 (cv A (o + i))), .int (Int32.ofNat (q + i)), .ref d])) rfl (rest := []) rfl (hb hbytes d31)
      have c8 : Steps p.tables e below (s₁.setTop (entryFrame m #[.ref b, .int (Int32.ofNat o), .ref d, .int (Int32.ofNat q), .int (Int32.ofNat len)] 7)) (T7.setTop (mkF m 32 #[.val (.ref b), .val (.int (Int32.ofNat (o + i))), .val (.ref d), .val (.int (Int32.ofNat (q + i))), .val (.int (Int32.ofNat len)), .val (.int (Int32.ofNat i)), .val (.int (cv A (o + i)))] [])) := c6.trans (st7 _ (Steps.refl _))
      have c9 : Steps p.tables e below (s₁.setTop (entryFrame m #[.ref b, .int (Int32.ofNat o), .ref d, .int (Int32.ofNat q), .int (Int32.ofNat len)] 7)) (T7.setTop (mkF m 3 #[.val (.ref b), .val (.int (Int32.ofNat (o + i) + 1)), .val (.ref d), .val (.int (Int32.ofNat (q + i) + 1)), .val (.int (Int32.ofNat len)), .val (.int (Int32.ofNat i + 1)), .val (.int (cv A (o + i)))] [])) := c8.trans (by
        refine iincV X7.here hexec rfl 1 (hb hbytes d32) (by decide) rfl rfl ?_
        refine iincV X7.here hexec rfl 1 (hb hbytes d35) (by decide) rfl rfl ?_
        refine iincV X7.here hexec rfl 1 (hb hbytes d38) (by decide) rfl rfl ?_
        refine XS.goto X7.here hexec rfl (pc0 := 41) rfl (hb hbytes d41) (by decide) rfl ?_
        exact Steps.refl _)
      have c10 : Steps p.tables e below (s₁.setTop (entryFrame m #[.ref b, .int (Int32.ofNat o), .ref d, .int (Int32.ofNat q), .int (Int32.ofNat len)] 7)) (T7.setTop (mkF m 3 #[.val (.ref b), .val (.int (Int32.ofNat (o + (i + 1)))), .val (.ref d), .val (.int (Int32.ofNat (q + (i + 1)))), .val (.int (Int32.ofNat len)), .val (.int (Int32.ofNat (i + 1))), .val (.int (cv A (o + i)))] [])) := by
        have := c9
        rw [succ32, succ32, succ32] at this
        exact this
      exact ih (i + 1) (by omega) _ (Or.inr ⟨_, rfl, rfl⟩) T7 _ (by rw [copyLocs_step, ← List.append_assoc]; exact X7) (pl.trans p7) (fl.step (by omega) hlt (by simp)) c10
  obtain ⟨T9, B9, z9, X9, p9, f9, g9⟩ := loop len 0 (by omega) .unset (Or.inl rfl) s₁ B (by simpa [copyLocs] using X0) ⟨hB0.1, fun _ _ => rfl, rfl⟩ (Laid.zero _ _ _) c2
  have c11 : Steps p.tables e below (s₁.setTop (entryFrame m #[.ref b, .int (Int32.ofNat o), .ref d, .int (Int32.ofNat q), .int (Int32.ofNat len)] 7)) (T9.setTop (mkF m 46 #[.val (.ref b), .val (.int (Int32.ofNat (o + len))), .val (.ref d), .val (.int (Int32.ofNat (q + len))), .val (.int (Int32.ofNat len)), .val (.int (Int32.ofNat len)), z9] [.int (Int32.ofNat len)])) := g9.trans (by
    refine XS.iload X9.here hexec rfl (hb hbytes d3) rfl ?_
    refine XS.iload X9.here hexec rfl (hb hbytes d5) rfl ?_
    refine XS.icmpYes X9.here hexec rfl (pc0 := 7) rfl (hb hbytes d7) rfl (ii_ge_t (nlt32 (by omega) (Nat.le_refl _))) (by decide) rfl ?_
    refine XS.iload X9.here hexec rfl (hb hbytes d44) rfl ?_
    exact Steps.refl _)
  exact ⟨T9, some (.int (Int32.ofNat len)), _, _, _, X9, by simp, rfl, rfl, (fun h => by cases h), ⟨rfl, B9, p9.from hh0, f9⟩, fun fs hl => c11.trans (X9.ireturnOut hexec hret rfl (Or.inl rfl) (hb hbytes d46) hl)⟩
end Cmp5
namespace Cmp3
def yN : MethodName := ⟨"java/lang/StringUTF16", "compress", "([CII)[B"⟩
abbrev yB : ByteArray := jdk_52_method_16_code
theorem d0 : decode yB 0 = .ok (.iload_n 2, 1) := by decide +kernel
theorem d1 : decode yB 1 = .ok (.newarray .byte, 2) := by decide +kernel
theorem d3 : decode yB 3 = .ok (.astore_n 3, 1) := by decide +kernel
theorem d4 : decode yB 4 = .ok (.aload_n 0, 1) := by decide +kernel
theorem d5 : decode yB 5 = .ok (.iload_n 1, 1) := by decide +kernel
theorem d6 : decode yB 6 = .ok (.aload_n 3, 1) := by decide +kernel
theorem d7 : decode yB 7 = .ok (.iconst 0, 1) := by decide +kernel
theorem d8 : decode yB 8 = .ok (.iload_n 2, 1) := by decide +kernel
theorem d9 : decode yB 9 = .ok (.invokestatic 115, 3) := by decide +kernel
theorem d12 : decode yB 12 = .ok (.istore 4, 2) := by decide +kernel
theorem d14 : decode yB 14 = .ok (.iload 4, 2) := by decide +kernel
theorem d16 : decode yB 16 = .ok (.iload_n 2, 1) := by decide +kernel
theorem d17 : decode yB 17 = .ok (.if_icmp (.eq) 40, 3) := by decide +kernel
theorem d57 : decode yB 57 = .ok (.aload_n 3, 1) := by decide +kernel
theorem d58 : decode yB 58 = .ok (.areturn, 1) := by decide +kernel
def site : List Cond := [.arrayClass .byte, Cmp5.tab] ++ staticW U16 115 Cmp5.yN
def tab : Cond := tabOf yN yB 6 (some (.array .byte)) site
def P (b : Addr) (A : Cell) (o len : Nat) (args : Array Value) (s : State) : Prop := args = #[.ref b, .int (Int32.ofNat o), .int (Int32.ofNat len)] ∧ Ch b A s ∧ o + len ≤ A.slots.size ∧ len ≤ 536870912 ∧ ∀ i, i < len → ¬ 255 < cv A (o + i)
def E (b : Addr) (A : Cell) (o len : Nat) (r : Option Value) (s u : State) : Prop := NewArr .byte "[B" len (fun j => .int (lo8 (cv A (o + j)))) r s u ∧ u.heap.size = s.heap.size + 1
/-- no char of the range above 255: a new byte[] of their low bytes -/
theorem law (l : Launch) (b : Addr) (A : Cell) (o len : Nat) : Law l yN 3 3 1 18 yB 6 (some (.array .byte)) site (P b A o len) (E b A o len) [] 1 len := by
  refine Law.of_walk (plainFor_of_name (by decide +kernel)) (by decide +kernel) (by decide +kernel) (by decide) (fun _ _ h => by rw [h.1]; rfl) (fun _ U U' hal hh h => ⟨h.1, h.2.1.mv hal hh, h.2.2⟩) (fun r U U' V V' h1 hal h2 h => ⟨NewArr.mv r U U' V V' h1 hal h2 h.1, by rw [h1, h2]; exact h.2⟩) ?_
  intro p e s m args below meth c s₁ X0 hexec hbytes hml hret hlk hnm hown hh0 W hP
  obtain ⟨rfl, hA, l1, l2, hp⟩ := hP
  have a31 := hA.1.2.2.2
  have c1 : Steps p.tables e below (s₁.setTop (entryFrame m #[.ref b, .int (Int32.ofNat o), .int (Int32.ofNat len)] 6)) (s₁.setTop (mkF m 0 #[.val (.ref b), .val (.int (Int32.ofNat o)), .val (.int (Int32.ofNat len)), .unset, .unset, .unset] [])) := entry rfl
  have c2 : Steps p.tables e below (s₁.setTop (entryFrame m #[.ref b, .int (Int32.ofNat o), .int (Int32.ofNat len)] 6)) (s₁.setTop (mkF m 1 #[.val (.ref b), .val (.int (Int32.ofNat o)), .val (.int (Int32.ofNat len)), .unset, .unset, .unset] [.int (Int32.ofNat len)])) := c1.trans (by
    refine XS.iloadN X0.here hexec rfl (hb hbytes d0) rfl ?_
    exact Steps.refl _)
  obtain ⟨T3, B3, X3, ba3, bs3, bv3, bh3, bf3, st3⟩ := X0.anew hexec (atype := .byte) (wk W (.arrayClass .byte)) rfl (by show len * 1 ≤ _; omega) (by omega) (g := (mkF m 1 #[.val (.ref b), .val (.int (Int32.ofNat o)), .val (.int (Int32.ofNat len)), .unset, .unset, .unset] [.int (Int32.ofNat len)])) rfl (hb hbytes d1) (rest := []) rfl (Nat.le_refl _) (by show 0 + len ≤ len; omega)
  rw [hh0] at ba3 st3
  have kp3 : XT.Kept s T3 := (XT.Kept.of_eq hh0).push bh3
  have hA3 := hA.keep X3.warmed.alike (kp3 _ _ hA.1.1)
  have hne : b ≠ s.heap.size := hA.1.ne
  have c4 : Steps p.tables e below (s₁.setTop (entryFrame m #[.ref b, .int (Int32.ofNat o), .int (Int32.ofNat len)] 6)) (T3.setTop (mkF m 3 #[.val (.ref b), .val (.int (Int32.ofNat o)), .val (.int (Int32.ofNat len)), .unset, .unset, .unset] [.ref s.heap.size])) := c2.trans (st3 _ (Steps.refl _))
  have c5 : Steps p.tables e below (s₁.setTop (entryFrame m #[.ref b, .int (Int32.ofNat o), .int (Int32.ofNat len)] 6)) (T3.setTop (mkF m 9 #[.val (.ref b), .val (.int (Int32.ofNat o)), .val (.int (Int32.ofNat len)), .val (.ref s.heap.size), .unset, .unset] [.int (Int32.ofNat len), .int 0, .ref s.heap.size, .int (Int32.ofNat o), .ref b])) := c4.trans (by
    refine XS.astoreN X3.here hexec rfl (hb hbytes d3) rfl rfl rfl ?_
    refine XS.aloadN X3.here hexec rfl (hb hbytes d4) rfl rfl ?_
    refine XS.iloadN X3.here hexec rfl (hb hbytes d5) rfl ?_
    refine XS.aloadN X3.here hexec rfl (hb hbytes d6) rfl rfl ?_
    refine iconstV X3.here hexec rfl 0 (hb hbytes d7) (by decide) ?_
    refine XS.iloadN X3.here hexec rfl (hb hbytes d8) rfl ?_
    exact Steps.refl _)
  obtain ⟨v6, T6, X6, E6, g6⟩ := X3.callS hexec (Cmp5.law l b A s.heap.size B3 o 0 len) hown (wks W (staticW U16 115 Cmp5.yN)) (wk W Cmp5.tab) (W := 0) (Nat.le_of_ble_eq_true rfl) (Nat.le_of_ble_eq_true rfl) (Nat.le_refl _) (by show 0 + len + 0 ≤ len; omega) (g := (mkF m 9 #[.val (.ref b), .val (.int (Int32.ofNat o)), .val (.int (Int32.ofNat len)), .val (.ref s.heap.size), .unset, .unset] [.int (Int32.ofNat len), .int (Int32.ofNat 0), .ref s.heap.size, .int (Int32.ofNat o), .ref b])) rfl (by rw [hml]; rfl) c5 (argsL := [.ref b, .int (Int32.ofNat o), .ref s.heap.size, .int (Int32.ofNat 0), .int (Int32.ofNat len)]) (rest := []) rfl rfl (by show 2 * 0 + 0 ≤ _; decide) (hb hbytes d9) (⟨rfl, hA3, ba3, hne, l1, by rw [bs3]; simp, hp⟩)
  obtain ⟨rfl, B6, p6, f6⟩ := E6
  have c7 : Steps p.tables e below (s₁.setTop (entryFrame m #[.ref b, .int (Int32.ofNat o), .int (Int32.ofNat len)] 6)) (T6.setTop (mkF m 12 #[.val (.ref b), .val (.int (Int32.ofNat o)), .val (.int (Int32.ofNat len)), .val (.ref s.heap.size), .unset, .unset] [.int (Int32.ofNat len)])) := g6
  have c8 : Steps p.tables e below (s₁.setTop (entryFrame m #[.ref b, .int (Int32.ofNat o), .int (Int32.ofNat len)] 6)) (T6.setTop (mkF m 58 #[.val (.ref b), .val (.int (Int32.ofNat o)), .val (.int (Int32.ofNat len)), .val (.ref s.heap.size), .val (.int (Int32.ofNat len)), .unset] [.ref s.heap.size])) := c7.trans (by
    refine XS.istore X6.here hexec rfl (hb hbytes d12) rfl rfl ?_
    refine XS.iload X6.here hexec rfl (hb hbytes d14) rfl ?_
    refine XS.iloadN X6.here hexec rfl (hb hbytes d16) rfl ?_
    refine XS.icmpYes X6.here hexec rfl (pc0 := 17) rfl (hb hbytes d17) rfl (ii_eq_t rfl) (by decide) rfl ?_
    refine XS.aloadN X6.here hexec rfl (hb hbytes d57) rfl rfl ?_
    exact Steps.refl _)
  have X8 := X6.wide (L' := []) (cells' := 1) (slots' := len) (fun x hx hlt => by
    simp only [List.nil_append, copyLocs, List.mem_map, List.mem_range] at hx
    obtain ⟨i, -, rfl⟩ := hx
    exact absurd hlt (Nat.lt_irrefl _)) (Nat.le_refl _) (by omega)
  exact ⟨T6, some (.ref s.heap.size), _, _, _, X8, rfl, rfl, rfl, (fun h => by cases h), ⟨⟨rfl, B6, ba3.like (X3.warmed.alike.symm.trans X6.warmed.alike) p6.1 f6.1 f6.2.1 f6.2.2.1, f6.2.1.trans bv3, by rw [X6.warmed.alike.findClass, f6.1]; exact bf3, by rw [f6.2.2.1, bs3]; simp, fun j hj => by rw [f6.2.2.2 j, if_pos (by omega)]; rfl, kp3.put p6 (Nat.le_refl _)⟩, by rw [p6.2.2, bh3, hh0]; simp⟩, fun fs hl => c8.trans (X8.areturnOut hexec rfl hret rfl (hb hbytes d58) hl)⟩
end Cmp3
namespace CodL
def yN : MethodName := ⟨"java/lang/StringUTF16", "coderFromArrayLen", "([BI)B"⟩
abbrev yB : ByteArray := jdk_52_method_15_code
theorem d0 : decode yB 0 = .ok (.iload_n 1, 1) := by decide +kernel
theorem d1 : decode yB 1 = .ok (.aload_n 0, 1) := by decide +kernel
theorem d2 : decode yB 2 = .ok (.arraylength, 1) := by decide +kernel
theorem d3 : decode yB 3 = .ok (.isub, 1) := by decide +kernel
theorem d4 : decode yB 4 = .ok (.bipush 31, 2) := by decide +kernel
theorem d6 : decode yB 6 = .ok (.iushr, 1) := by decide +kernel
theorem d7 : decode yB 7 = .ok (.i2b, 1) := by decide +kernel
theorem d8 : decode yB 8 = .ok (.ireturn, 1) := by decide +kernel
def site : List Cond := []
def tab : Cond := tabOf yN yB 2 (some .byte) site
def P (d : Addr) (B : Cell) (args : Array Value) (s : State) : Prop := args = #[.ref d, .int (Int32.ofNat B.slots.size)] ∧ Arr .byte d B s
def E (r : Option Value) (s u : State) : Prop := XT.PureE (some (.int 0)) r s u
/-- an array as long as the number of chars: LATIN1 -/
theorem law (l : Launch) (d : Addr) (B : Cell) : Law l yN 2 2 0 0 yB 2 (some .byte) site (P d B) E [] 0 0 := by
  refine Law.of_walk (plainFor_of_name (by decide +kernel)) (by decide +kernel) (by decide +kernel) (by decide) (fun _ _ h => by rw [h.1]; rfl) (fun _ U U' hal hh h => ⟨h.1, h.2.mv hal hh⟩) (fun r U U' V V' h1 hal h2 h => XT.PureE.mv r U U' V V' h1 hal h2 h) ?_
  intro p e s m args below meth c s₁ X0 hexec hbytes hml hret hlk hnm hown hh0 W hP
  obtain ⟨rfl, hB⟩ := hP
  have hB0 := hB.mv X0.warmed.alike hh0
  have c1 : Steps p.tables e below (s₁.setTop (entryFrame m #[.ref d, .int (Int32.ofNat B.slots.size)] 2)) (s₁.setTop (mkF m 0 #[.val (.ref d), .val (.int (Int32.ofNat B.slots.size))] [])) := entry rfl
  have c2 : Steps p.tables e below (s₁.setTop (entryFrame m #[.ref d, .int (Int32.ofNat B.slots.size)] 2)) (s₁.setTop (mkF m 2 #[.val (.ref d), .val (.int (Int32.ofNat B.slots.size))] [.ref d, .int (Int32.ofNat B.slots.size)])) := c1.trans (by
    refine XS.iloadN X0.here hexec rfl (hb hbytes d0) rfl ?_
    refine XS.aloadN X0.here hexec rfl (hb hbytes d1) rfl rfl ?_
    exact Steps.refl _)
  have c3 : Steps p.tables e below (s₁.setTop (entryFrame m #[.ref d, .int (Int32.ofNat B.slots.size)] 2)) (s₁.setTop (mkF m 8 #[.val (.ref d), .val (.int (Int32.ofNat B.slots.size))] [.int (lo8 (ushr (Int32.ofNat B.slots.size - Int32.ofNat B.slots.size) 31))])) := c2.trans (by
    refine X0.alen hexec hB0 rfl rfl (hb hbytes d2) ?_
    refine XS.isub X0.here hexec rfl (hb hbytes d3) rfl ?_
    refine bipushV X0.here hexec rfl 31 (hb hbytes d4) (by decide) ?_
    refine iushr X0.here hexec rfl (hb hbytes d6) rfl ?_
    refine i2b X0.here hexec rfl (hb hbytes d7) rfl ?_
    exact Steps.refl _)
  have e0 : lo8 (ushr (Int32.ofNat B.slots.size - Int32.ofNat B.slots.size) 31) = 0 := by rw [Int32.sub_self]; decide
  rw [e0] at c3
  exact ⟨s₁, some (.int 0), _, _, _, X0, rfl, rfl, rfl, (fun h => by cases h), ⟨rfl, hh0⟩, fun fs hl => c3.trans (X0.ireturnOut hexec hret rfl (Or.inr (Or.inr (Or.inl rfl))) (hb hbytes d8) hl)⟩
end CodL
/-- the String at a is Latin-1 over a new byte[] (the heap's one new cell): the low bytes of the len chars of A from o on; every cell but a is kept -/
def Got (a : Addr) (D : Cell) (fV fC : Field) (A : Cell) (o len : Nat) (r : Option Value) (s u : State) : Prop := r = none ∧ ∃ D' V : Cell, Blank "java/lang/String" a D' u ∧ Same D D' [fV.slot, fC.slot] ∧ D'.slots[fV.slot]? = some (.ref s.heap.size) ∧ D'.slots[fC.slot]? = some (.int 0) ∧ Arr .byte s.heap.size V u ∧ V.vm = .none ∧ u.vm.findClass "[B" = some V.cls ∧ V.slots.size = len ∧ (∀ j, j < len → V.slots[j]? = some (.int (lo8 (cv A (o + j))))) ∧ (∀ (y : Addr) (c : Cell), y ≠ a → s.heap[y]? = some c → u.heap[y]? = some c) ∧ u.heap.size = s.heap.size + 1
theorem Got.mv {a : Addr} {D A : Cell} {fV fC : Field} {o len : Nat} : ∀ r (U U' V V' : State), U'.heap = U.heap → V.vm.Alike V'.vm → V'.heap = V.heap → Got a D fV fC A o len r U V → Got a D fV fC A o len r U' V' :=
  fun r U U' V V' h1 hal h2 ⟨e0, D', X, a1, a2, a3, a4, a5, a6, a7, a8, a9, a10, a11⟩ => ⟨e0, D', X, a1.mv hal h2, a2, by rw [h1]; exact a3, a4, by rw [h1]; exact a5.mv hal h2, a6, by rw [hal.findClass]; exact a7, a8, a9, by rw [h1, h2]; exact a10, by rw [h1, h2]; exact a11⟩
namespace New4
def yN : MethodName := ⟨"java/lang/String", "<init>", "([CIILjava/lang/Void;)V"⟩
abbrev yB : ByteArray := jdk_42_method_149_code
theorem d0 : decode yB 0 = .ok (.aload_n 0, 1) := by decide +kernel
theorem d1 : decode yB 1 = .ok (.invokespecial 1, 3) := by decide +kernel
theorem d4 : decode yB 4 = .ok (.iload_n 3, 1) := by decide +kernel
theorem d5 : decode yB 5 = .ok (.ifCond (.ne) 22, 3) := by decide +kernel
theorem d27 : decode yB 27 = .ok (.getstatic 38, 3) := by decide +kernel
theorem d30 : decode yB 30 = .ok (.ifCond (.eq) 28, 3) := by decide +kernel
theorem d33 : decode yB 33 = .ok (.aload_n 1, 1) := by decide +kernel
theorem d34 : decode yB 34 = .ok (.iload_n 2, 1) := by decide +kernel
theorem d35 : decode yB 35 = .ok (.iload_n 3, 1) := by decide +kernel
theorem d36 : decode yB 36 = .ok (.invokestatic 177, 3) := by decide +kernel
theorem d39 : decode yB 39 = .ok (.astore 5, 2) := by decide +kernel
theorem d41 : decode yB 41 = .ok (.aload_n 0, 1) := by decide +kernel
theorem d42 : decode yB 42 = .ok (.aload 5, 2) := by decide +kernel
theorem d44 : decode yB 44 = .ok (.iload_n 3, 1) := by decide +kernel
theorem d45 : decode yB 45 = .ok (.invokestatic 47, 3) := by decide +kernel
theorem d48 : decode yB 48 = .ok (.putfield 15, 3) := by decide +kernel
theorem d51 : decode yB 51 = .ok (.aload_n 0, 1) := by decide +kernel
theorem d52 : decode yB 52 = .ok (.aload 5, 2) := by decide +kernel
theorem d54 : decode yB 54 = .ok (.putfield 9, 3) := by decide +kernel
theorem d57 : decode yB 57 = .ok (.return_, 1) := by decide +kernel
def site : List Cond := [.fieldLink "java/lang/String" 38 "java/lang/String" "COMPACT_STRINGS" "Z", Cmp3.tab, CodL.tab, .laysFinal "java/lang/String" "java/lang/String" "value" "[B", .fieldLink "java/lang/String" 9 "java/lang/String" "value" "[B", .laysFinal "java/lang/String" "java/lang/String" "coder" "B", .fieldLink "java/lang/String" 15 "java/lang/String" "coder" "B"] ++ objW "java/lang/String" 1 ++ staticW "java/lang/String" 177 Cmp3.yN ++ staticW "java/lang/String" 47 CodL.yN
def tab : Cond := tabOf yN yB 6 none site
def P (a : Addr) (D : Cell) (fV fC : Field) (b : Addr) (A : Cell) (z : Int32) (o len : Nat) (args : Array Value) (s : State) : Prop := args = #[.ref a, .ref b, .int (Int32.ofNat o), .int (Int32.ofNat len), .null] ∧ Blank "java/lang/String" a D s ∧ Found "java/lang/String" "value" "[B" fV s ∧ Found "java/lang/String" "coder" "B" fC s ∧ Ch b A s ∧ StaticIs s "java/lang/String" "COMPACT_STRINGS" "Z" (.int z) ∧ ¬ z = 0 ∧ 0 < len ∧ o + len ≤ A.slots.size ∧ len ≤ 536870912 ∧ ∀ i, i < len → ¬ 255 < cv A (o + i)
def E (a : Addr) (D : Cell) (fV fC : Field) (A : Cell) (o len : Nat) (r : Option Value) (s u : State) : Prop := Got a D fV fC A o len r s u
/-- len > 0, no char of the range above 255: a Latin-1 String of their low bytes -/
theorem law (l : Launch) (a : Addr) (D : Cell) (fV fC : Field) (b : Addr) (A : Cell) (z : Int32) (o len : Nat) : Law l yN 5 4 2 35 yB 6 none site (P a D fV fC b A z o len) (E a D fV fC A o len) [⟨a, fC.slot⟩, ⟨a, fV.slot⟩] 1 len := by
  refine Law.of_walk (plainFor_of_name (by decide +kernel)) (by decide +kernel) (by decide +kernel) (by decide) (fun _ _ h => by rw [h.1]; rfl) (fun _ U U' hal hh h => ⟨h.1, h.2.1.mv hal hh, h.2.2.1.al hal, h.2.2.2.1.al hal, h.2.2.2.2.1.mv hal hh, h.2.2.2.2.2.1.there hal hh, h.2.2.2.2.2.2⟩) (fun r U U' V V' h1 hal h2 h => Got.mv r U U' V V' h1 hal h2 h) ?_
  intro p e s m args below meth c s₁ X0 hexec hbytes hml hret hlk hnm hown hh0 W hP
  obtain ⟨rfl, hB, f1, f2, hA, s1, hz, l0, l1, l2, hp⟩ := hP
  have a31 := hA.1.2.2.2
  have c1 : Steps p.tables e below (s₁.setTop (entryFrame m #[.ref a, .ref b, .int (Int32.ofNat o), .int (Int32.ofNat len), .null] 6)) (s₁.setTop (mkF m 0 #[.val (.ref a), .val (.ref b), .val (.int (Int32.ofNat o)), .val (.int (Int32.ofNat len)), .val .null, .unset] [])) := entry rfl
  have c2 : Steps p.tables e below (s₁.setTop (entryFrame m #[.ref a, .ref b, .int (Int32.ofNat o), .int (Int32.ofNat len), .null] 6)) (s₁.setTop (mkF m 1 #[.val (.ref a), .val (.ref b), .val (.int (Int32.ofNat o)), .val (.int (Int32.ofNat len)), .val .null, .unset] [.ref a])) := c1.trans (by
    refine XS.aloadN X0.here hexec rfl (hb hbytes d0) rfl rfl ?_
    exact Steps.refl _)
  obtain ⟨T3, X3, q3, st3⟩ := X0.oinit hexec hown (wks W (objW "java/lang/String" 1)) (g := (mkF m 1 #[.val (.ref a), .val (.ref b), .val (.int (Int32.ofNat o)), .val (.int (Int32.ofNat len)), .val .null, .unset] [.ref a])) rfl (by rw [hml]; rfl) (rest := []) rfl (hb hbytes d1) (W := 0) (by show 2 * 0 + 0 ≤ _; decide) (Nat.le_of_ble_eq_true rfl) (Nat.le_of_ble_eq_true rfl)
  have hh3 := q3.trans hh0
  have c4 : Steps p.tables e below (s₁.setTop (entryFrame m #[.ref a, .ref b, .int (Int32.ofNat o), .int (Int32.ofNat len), .null] 6)) (T3.setTop (mkF m 27 #[.val (.ref a), .val (.ref b), .val (.int (Int32.ofNat o)), .val (.int (Int32.ofNat len)), .val .null, .unset] [])) := (c2.trans (st3 _ (Steps.refl _))).trans (by
    refine XS.iloadN X3.here hexec rfl (hb hbytes d4) rfl ?_
    refine XS.ifYes X3.here hexec rfl (pc0 := 5) rfl (hb hbytes d5) rfl (i0_ne_t (nz32 (by omega) l0)) (by decide) rfl ?_
    exact Steps.refl _)
  obtain ⟨T5, X5, q5, st5⟩ := X3.sget hexec hown (wk W (.fieldLink "java/lang/String" 38 "java/lang/String" "COMPACT_STRINGS" "Z")) s1 (fun _ _ h => by rw [hh3]; exact h) (g := (mkF m 27 #[.val (.ref a), .val (.ref b), .val (.int (Int32.ofNat o)), .val (.int (Int32.ofNat len)), .val .null, .unset] [])) rfl (hb hbytes d27)
  have hh5 := q5.trans hh3
  have c6 : Steps p.tables e below (s₁.setTop (entryFrame m #[.ref a, .ref b, .int (Int32.ofNat o), .int (Int32.ofNat len), .null] 6)) (T5.setTop (mkF m 30 #[.val (.ref a), .val (.ref b), .val (.int (Int32.ofNat o)), .val (.int (Int32.ofNat len)), .val .null, .unset] [.int z])) := c4.trans (st5 _ (Steps.refl _))
  have c7 : Steps p.tables e below (s₁.setTop (entryFrame m #[.ref a, .ref b, .int (Int32.ofNat o), .int (Int32.ofNat len), .null] 6)) (T5.setTop (mkF m 36 #[.val (.ref a), .val (.ref b), .val (.int (Int32.ofNat o)), .val (.int (Int32.ofNat len)), .val .null, .unset] [.int (Int32.ofNat len), .int (Int32.ofNat o), .ref b])) := c6.trans (by
    refine XS.ifNo X5.here hexec rfl (hb hbytes d30) rfl (i0_eq_f hz) ?_
    refine XS.aloadN X5.here hexec rfl (hb hbytes d33) rfl rfl ?_
    refine XS.iloadN X5.here hexec rfl (hb hbytes d34) rfl ?_
    refine XS.iloadN X5.here hexec rfl (hb hbytes d35) rfl ?_
    exact Steps.refl _)
  obtain ⟨v8, T8, X8, E8, g8⟩ := X5.callS hexec (Cmp3.law l b A o len) hown (wks W (staticW "java/lang/String" 177 Cmp3.yN)) (wk W Cmp3.tab) (W := 0) (Nat.le_of_ble_eq_true rfl) (Nat.le_of_ble_eq_true rfl) (Nat.le_refl _) (by show 0 + len ≤ len; omega) (g := (mkF m 36 #[.val (.ref a), .val (.ref b), .val (.int (Int32.ofNat o)), .val (.int (Int32.ofNat len)), .val .null, .unset] [.int (Int32.ofNat len), .int (Int32.ofNat o), .ref b])) rfl (by rw [hml]; rfl) c7 (argsL := [.ref b, .int (Int32.ofNat o), .int (Int32.ofNat len)]) (rest := []) rfl rfl (by show 2 * 0 + 0 ≤ _; decide) (hb hbytes d36) (⟨rfl, hA.mv X5.warmed.alike hh5, l1, l2, hp⟩)
  obtain ⟨e8, z8⟩ := E8
  obtain ⟨rfl, N, n1, n2, n3, n4, n5, n6⟩ := NewArr.mv _ T5 s _ _ hh5.symm (Vm.Alike.refl _) rfl e8
  rw [hh5] at z8
  have hB1 := hB.keep X8.warmed.alike (n6 _ _ hB.1)
  have hne : s.heap.size ≠ a := (Nat.ne_of_lt (Array.getElem?_eq_some_iff.mp hB.1).1).symm
  have c9 : Steps p.tables e below (s₁.setTop (entryFrame m #[.ref a, .ref b, .int (Int32.ofNat o), .int (Int32.ofNat len), .null] 6)) (T8.setTop (mkF m 39 #[.val (.ref a), .val (.ref b), .val (.int (Int32.ofNat o)), .val (.int (Int32.ofNat len)), .val .null, .unset] [.ref s.heap.size])) := g8
  have c10 : Steps p.tables e below (s₁.setTop (entryFrame m #[.ref a, .ref b, .int (Int32.ofNat o), .int (Int32.ofNat len), .null] 6)) (T8.setTop (mkF m 45 #[.val (.ref a), .val (.ref b), .val (.int (Int32.ofNat o)), .val (.int (Int32.ofNat len)), .val .null, .val (.ref s.heap.size)] [.int (Int32.ofNat N.slots.size), .ref s.heap.size, .ref a])) := by
    have hc : Steps p.tables e below (s₁.setTop (entryFrame m #[.ref a, .ref b, .int (Int32.ofNat o), .int (Int32.ofNat len), .null] 6)) (T8.setTop (mkF m 45 #[.val (.ref a), .val (.ref b), .val (.int (Int32.ofNat o)), .val (.int (Int32.ofNat len)), .val .null, .val (.ref s.heap.size)] [.int (Int32.ofNat len), .ref s.heap.size, .ref a])) := c9.trans (by
      refine XS.astore X8.here hexec rfl (hb hbytes d39) rfl rfl rfl ?_
      refine XS.aloadN X8.here hexec rfl (hb hbytes d41) rfl rfl ?_
      refine XS.aload X8.here hexec rfl (hb hbytes d42) rfl rfl ?_
      refine XS.iloadN X8.here hexec rfl (hb hbytes d44) rfl ?_
      exact Steps.refl _)
    rw [n4]; exact hc
  obtain ⟨v11, T11, X11, E11, g11⟩ := X8.callS hexec (CodL.law l s.heap.size N) hown (wks W (staticW "java/lang/String" 47 CodL.yN)) (wk W CodL.tab) (W := 1) (Nat.le_of_ble_eq_true rfl) (Nat.le_of_ble_eq_true rfl) (Nat.le_refl _) (by show 0 + len + 0 ≤ len; omega) (g := (mkF m 45 #[.val (.ref a), .val (.ref b), .val (.int (Int32.ofNat o)), .val (.int (Int32.ofNat len)), .val .null, .val (.ref s.heap.size)] [.int (Int32.ofNat N.slots.size), .ref s.heap.size, .ref a])) rfl (by rw [hml]; rfl) c10 (argsL := [.ref s.heap.size, .int (Int32.ofNat N.slots.size)]) (rest := [.ref a]) rfl rfl (by show 2 * 0 + (1 + 0) ≤ _; decide) (hb hbytes d45) (⟨rfl, n1⟩)
  obtain ⟨rfl, q11⟩ := E11
  have hB11 := hB1.mv (X8.warmed.alike.symm.trans X11.warmed.alike) q11
  have c12 : Steps p.tables e below (s₁.setTop (entryFrame m #[.ref a, .ref b, .int (Int32.ofNat o), .int (Int32.ofNat len), .null] 6)) (T11.setTop (mkF m 48 #[.val (.ref a), .val (.ref b), .val (.int (Int32.ofNat o)), .val (.int (Int32.ofNat len)), .val .null, .val (.ref s.heap.size)] [.int 0, .ref a])) := g11
  obtain ⟨T13, X13, p13, bl13, sl13, st13⟩ := X11.finit hexec hown (wk W (.fieldLink "java/lang/String" 15 "java/lang/String" "coder" "B")) (Or.inr ⟨_, (wk W (.laysFinal "java/lang/String" "java/lang/String" "coder" "B"))⟩) (Or.inl ⟨rfl, hnm⟩) f2 (Or.inl rfl) hB11 (t := .byte) (by decide +kernel) rfl (g := (mkF m 48 #[.val (.ref a), .val (.ref b), .val (.int (Int32.ofNat o)), .val (.int (Int32.ofNat len)), .val .null, .val (.ref s.heap.size)] [.int 0, .ref a])) rfl (rest := []) rfl (hb hbytes d48)
  have c14 : Steps p.tables e below (s₁.setTop (entryFrame m #[.ref a, .ref b, .int (Int32.ofNat o), .int (Int32.ofNat len), .null] 6)) (T13.setTop (mkF m 54 #[.val (.ref a), .val (.ref b), .val (.int (Int32.ofNat o)), .val (.int (Int32.ofNat len)), .val .null, .val (.ref s.heap.size)] [.ref s.heap.size, .ref a])) := (c12.trans (st13 _ (Steps.refl _))).trans (by
    refine XS.aloadN X13.here hexec rfl (hb hbytes d51) rfl rfl ?_
    refine XS.aload X13.here hexec rfl (hb hbytes d52) rfl rfl ?_
    exact Steps.refl _)
  obtain ⟨T15, X15, p15, bl15, sl15, st15⟩ := X13.finit hexec hown (wk W (.fieldLink "java/lang/String" 9 "java/lang/String" "value" "[B")) (Or.inr ⟨_, (wk W (.laysFinal "java/lang/String" "java/lang/String" "value" "[B"))⟩) (Or.inl ⟨rfl, hnm⟩) f1 (Or.inl rfl) bl13 (t := (.array .byte)) (by decide +kernel) rfl (g := (mkF m 54 #[.val (.ref a), .val (.ref b), .val (.int (Int32.ofNat o)), .val (.int (Int32.ofNat len)), .val .null, .val (.ref s.heap.size)] [.ref s.heap.size, .ref a])) rfl (rest := []) rfl (hb hbytes d54)
  have c16 : Steps p.tables e below (s₁.setTop (entryFrame m #[.ref a, .ref b, .int (Int32.ofNat o), .int (Int32.ofNat len), .null] 6)) (T15.setTop (mkF m 57 #[.val (.ref a), .val (.ref b), .val (.int (Int32.ofNat o)), .val (.int (Int32.ofNat len)), .val .null, .val (.ref s.heap.size)] [])) := c14.trans (st15 _ (Steps.refl _))
  have ap := apart (Or.inr ⟨_, (wk W (.laysFinal "java/lang/String" "java/lang/String" "value" "[B"))⟩) (Or.inr ⟨_, (wk W (.laysFinal "java/lang/String" "java/lang/String" "coder" "B"))⟩) f1 f2 (t₁ := .array .byte) (t₂ := .byte) (by decide +kernel) (by decide +kernel) (by decide)
  have al := X8.warmed.alike.symm.trans X15.warmed.alike
  have n7 : T11.heap[s.heap.size]? = some N := by rw [q11]; exact n1.1
  exact ⟨T15, none, _, _, _, X15, by simp, rfl, by omega, (fun _ => rfl), ⟨rfl, _, N, bl15, ((Same.refl D _).set _ (by simp)).set _ (by simp), sl15, (Cell.slots_setSlot_ne _ ap).trans sl13, n1.keep al (p15.other hne (p13.other hne n7)), n2, by rw [al.findClass]; exact n3, n4, n5, fun y c h1 h2 => p15.other h1 (p13.other h1 (by rw [q11]; exact n6 y c h2)), by rw [p15.2.2, p13.2.2, q11]; exact z8⟩, fun fs hl => c16.trans (X15.returnOut hexec hret (hb hbytes d57) hl)⟩
end New4
namespace New1
def yN : MethodName := ⟨"java/lang/String", "<init>", "([C)V"⟩
abbrev yB : ByteArray := jdk_42_method_3_code
theorem d0 : decode yB 0 = .ok (.aload_n 0, 1) := by decide +kernel
theorem d1 : decode yB 1 = .ok (.aload_n 1, 1) := by decide +kernel
theorem d2 : decode yB 2 = .ok (.iconst 0, 1) := by decide +kernel
theorem d3 : decode yB 3 = .ok (.aload_n 1, 1) := by decide +kernel
theorem d4 : decode yB 4 = .ok (.arraylength, 1) := by decide +kernel
theorem d5 : decode yB 5 = .ok (.aconst_null, 1) := by decide +kernel
theorem d6 : decode yB 6 = .ok (.invokespecial 27, 3) := by decide +kernel
theorem d9 : decode yB 9 = .ok (.return_, 1) := by decide +kernel
def site : List Cond := [New4.tab] ++ initW "java/lang/String" 27 New4.yN
def tab : Cond := tabOf yN yB 2 none site
def P (a : Addr) (D : Cell) (fV fC : Field) (b : Addr) (A : Cell) (z : Int32) (args : Array Value) (s : State) : Prop := args = #[.ref a, .ref b] ∧ Blank "java/lang/String" a D s ∧ Found "java/lang/String" "value" "[B" fV s ∧ Found "java/lang/String" "coder" "B" fC s ∧ Ch b A s ∧ StaticIs s "java/lang/String" "COMPACT_STRINGS" "Z" (.int z) ∧ ¬ z = 0 ∧ 0 < A.slots.size ∧ A.slots.size ≤ 536870912 ∧ ∀ i, i < A.slots.size → ¬ 255 < cv A i
def E (a : Addr) (D : Cell) (fV fC : Field) (A : Cell) (r : Option Value) (s u : State) : Prop := Got a D fV fC A 0 A.slots.size r s u
/-- new String(chars), not empty, no char above 255: a Latin-1 String of their low bytes -/
theorem law (l : Launch) (a : Addr) (D : Cell) (fV fC : Field) (b : Addr) (A : Cell) (z : Int32) : Law l yN 2 1 3 52 yB 2 none site (P a D fV fC b A z) (E a D fV fC A) [⟨a, fC.slot⟩, ⟨a, fV.slot⟩] 1 A.slots.size := by
  refine Law.of_walk (plainFor_of_name (by decide +kernel)) (by decide +kernel) (by decide +kernel) (by decide) (fun _ _ h => by rw [h.1]; rfl) (fun _ U U' hal hh h => ⟨h.1, h.2.1.mv hal hh, h.2.2.1.al hal, h.2.2.2.1.al hal, h.2.2.2.2.1.mv hal hh, h.2.2.2.2.2.1.there hal hh, h.2.2.2.2.2.2⟩) (fun r U U' V V' h1 hal h2 h => Got.mv r U U' V V' h1 hal h2 h) ?_
  intro p e s m args below meth c s₁ X0 hexec hbytes hml hret hlk hnm hown hh0 W hP
  obtain ⟨rfl, hB, f1, f2, hA, s1, hz, l0, l2, hp⟩ := hP
  have c1 : Steps p.tables e below (s₁.setTop (entryFrame m #[.ref a, .ref b] 2)) (s₁.setTop (mkF m 0 #[.val (.ref a), .val (.ref b)] [])) := entry rfl
  have c2 : Steps p.tables e below (s₁.setTop (entryFrame m #[.ref a, .ref b] 2)) (s₁.setTop (mkF m 6 #[.val (.ref a), .val (.ref b)] [.null, .int (Int32.ofNat A.slots.size), .int 0, .ref b, .ref a])) := c1.trans (by
    refine XS.aloadN X0.here hexec rfl (hb hbytes d0) rfl rfl ?_
    refine XS.aloadN X0.here hexec rfl (hb hbytes d1) rfl rfl ?_
    refine iconstV X0.here hexec rfl 0 (hb hbytes d2) (by decide) ?_
    refine XS.aloadN X0.here hexec rfl (hb hbytes d3) rfl rfl ?_
    refine X0.alen hexec (hA.1.mv X0.warmed.alike hh0) rfl rfl (hb hbytes d4) ?_
    refine XS.aconstNull X0.here hexec rfl (hb hbytes d5) ?_
    exact Steps.refl _)
  obtain ⟨v3, T3, X3, E3, g3⟩ := X0.callN hexec (New4.law l a D fV fC b A z 0 A.slots.size) rfl hown (wks W (initW "java/lang/String" 27 New4.yN)) (W New4.tab (by simp only [site, List.mem_cons, List.mem_append, true_or, or_true])) (W := 0) (Nat.le_of_ble_eq_true rfl) (Nat.le_of_ble_eq_true rfl) (Nat.le_refl _) (by show 0 + A.slots.size ≤ A.slots.size; omega) (g := (mkF m 6 #[.val (.ref a), .val (.ref b)] [.null, .int (Int32.ofNat A.slots.size), .int (Int32.ofNat 0), .ref b, .ref a])) rfl (by rw [hml]; rfl) c2 (argsL := [.ref b, .int (Int32.ofNat 0), .int (Int32.ofNat A.slots.size), .null]) (rest := []) rfl rfl (by show 2 * 0 + 0 ≤ _; decide) (hb hbytes d6) (⟨rfl, hB.mv X0.warmed.alike hh0, f1.al X0.warmed.alike, f2.al X0.warmed.alike, hA.mv X0.warmed.alike hh0, s1.there X0.warmed.alike hh0, hz, l0, by omega, l2, fun i hi => by rw [Nat.zero_add]; exact hp i hi⟩)
  have e0 := Got.mv _ s₁ s _ _ hh0.symm (Vm.Alike.refl _) rfl E3
  obtain rfl := e0.1
  have c4 : Steps p.tables e below (s₁.setTop (entryFrame m #[.ref a, .ref b] 2)) (T3.setTop (mkF m 9 #[.val (.ref a), .val (.ref b)] [])) := g3
  exact ⟨T3, none, _, _, _, X3, by simp, rfl, by omega, (fun _ => rfl), e0, fun fs hl => c4.trans (X3.returnOut hexec hret (hb hbytes d9) hl)⟩
theorem pays {l : Launch} {R : Room} {p : Program} {e : Env} {below : List Frame} {s : State} {sargs : Array Value} {len W : Nat} (a : Addr) (D : Cell) (fV fC : Field) (b : Addr) (A : Cell) (z : Int32) (htab : tab.before sargs s = true) (hfr : 4 ≤ R.frames) (hlo : W + 65 ≤ R.locals) :
    Back l R p e below s sargs yN len W (fun A₁ a₁ => A₁.cells + 1 ≤ R.cells ∧ A₁.slots + A.slots.size ≤ R.slots ∧ P a D fV fC b A z a₁ A₁.U) (fun A₁ _ v₁ B₁ => E a D fV fC A v₁ A₁.U B₁.U ∧ B₁.locs = A₁.locs ++ [⟨a, fC.slot⟩, ⟨a, fV.slot⟩] ∧ B₁.cells = A₁.cells + 1 ∧ B₁.slots = A₁.slots + A.slots.size) :=
  (law l a D fV fC b A z).pays htab hfr (by omega)
end New1
/-- the byte, read back as charAt reads it, is the char -/
theorem lo8_mask {x : Int32} (h0 : ¬ x < 0) (h1 : ¬ 255 < x) : lo8 x &&& 255 = x := by
  have t : ∀ k : Fin 256, lo8 (Int32.ofNat k.val) &&& 255 = Int32.ofNat k.val := by decide +kernel
  rw [Int32.lt_iff_toInt_lt] at h0 h1
  have e0 : (0 : Int32).toInt = 0 := rfl
  have e1 : (255 : Int32).toInt = 255 := rfl
  obtain ⟨k, hk⟩ : ∃ k : Nat, x.toInt = k := ⟨x.toInt.toNat, by omega⟩
  have hx : x = Int32.ofNat k := Int32.toInt_inj.mp (by rw [hk, Int32.toInt_ofNat_small (by omega)])
  rw [hx]
  exact t ⟨k, by omega⟩
end StrChars
namespace StrChars.Road
open Jvm Sem ClassFile Op Lib Jvm.Stand Jvm.Free Jvm.Free.XT
open Jvm.Lib.Cold (StaticIs)
abbrev ST : String := "java/lang/String"
/-- every table word that New1's law asks, flat -/
abbrev words : List Jvm.Cond := [.code New1.yN New1.yB 2 none, .initialized ST, .methodLink ST 27 New4.yN, .instanceMethod New4.yN,
  .code New4.yN New4.yB 6 none, .fieldLink ST 38 ST "COMPACT_STRINGS" "Z", .laysFinal ST ST "value" "[B", .fieldLink ST 9 ST "value" "[B", .laysFinal ST ST "coder" "B", .fieldLink ST 15 ST "coder" "B",
  .methodLink ST 1 Lib.objectInit, .instanceMethod Lib.objectInit, .code Lib.objectInit ⟨#[0xb1]⟩ 1 none, .methodLink ST 177 Cmp3.yN, .static Cmp3.yN, .methodLink ST 47 CodL.yN, .static CodL.yN,
  .code Cmp3.yN Cmp3.yB 6 (some (.array .byte)), .initialized U16, .arrayClass .byte, .methodLink U16 115 Cmp5.yN, .static Cmp5.yN, .code Cmp5.yN Cmp5.yB 7 (some .int), .code CodL.yN CodL.yB 2 (some .byte)]
theorem tab_of {a : Array Value} {s : State} (h : ∀ w ∈ words, w.before a s = true) : New1.tab.before a s = true := by
  have h5 : Cmp5.tab.before a s = true := unparts (wk h (.code Cmp5.yN Cmp5.yB 7 (some .int))) (wks h (.initialized Cmp5.yN.cls :: Cmp5.site))
  have hc : CodL.tab.before a s = true := unparts (wk h (.code CodL.yN CodL.yB 2 (some .byte))) (wks h (.initialized CodL.yN.cls :: CodL.site))
  have q5 : ∀ w ∈ Cmp5.tab :: words, w.before a s = true := fun w hw => (List.mem_cons.mp hw).elim (fun e => e ▸ h5) (h w)
  have h3 : Cmp3.tab.before a s = true := unparts (wk q5 (.code Cmp3.yN Cmp3.yB 6 (some (.array .byte)))) (wks q5 (.initialized Cmp3.yN.cls :: Cmp3.site))
  have q3 : ∀ w ∈ Cmp3.tab :: CodL.tab :: words, w.before a s = true := fun w hw => (List.mem_cons.mp hw).elim (fun e => e ▸ h3) fun hw => (List.mem_cons.mp hw).elim (fun e => e ▸ hc) (h w)
  have h4 : New4.tab.before a s = true := unparts (wk q3 (.code New4.yN New4.yB 6 none)) (wks q3 (.initialized New4.yN.cls :: New4.site))
  have q4 : ∀ w ∈ New4.tab :: words, w.before a s = true := fun w hw => (List.mem_cons.mp hw).elim (fun e => e ▸ h4) (h w)
  exact unparts (wk q4 (.code New1.yN New1.yB 2 none)) (wks q4 (.initialized New1.yN.cls :: New1.site))
/-- the words ride from the start Z to the walk's own state -/
theorem moved {Z s : State} {a0 args : Array Value} (hZ : Z.Warmed39 s.vm) (hw : ∀ d ∈ words, d.before a0 Z = true) : ∀ d ∈ words, d.before args s = true := fun d hd => by
  have q := hw d hd
  have t : ∀ d ∈ words, d = .arrayClass .byte ∨ (d.onTables && d.keepsFace) = true := by decide +kernel
  rcases t d hd with rfl | t
  · exact RoadKit.mvA hZ q
  · exact RoadKit.mv hZ q t
/-- WHAT COMES BACK, over the tables of the start Z: h the heap at the call, h' behind it -/
def Q (Z : State) (x : Addr) (A : Cell) (h : Heap) (v : Option Value) (h' : Heap) (L : List Loc) : Prop := v = none ∧ (∀ y ∈ L, y.base = x) ∧ RoadKit.Keep h h' [x] ∧ h'.size = h.size + 1 ∧ RoadKit.Exa Z h' x ST ∧ RoadKit.Fld Z h' x ST "value" "[B" (.ref h.size) ∧ RoadKit.Fld Z h' x ST "coder" "B" (.int 0) ∧
  (∃ V : Cell, RoadKit.Arr Z h' h.size V .byte ∧ V.vm = .none ∧ Z.vm.findClass "[B" = some V.cls ∧ V.slots.size = A.slots.size ∧ ∀ j, j < A.slots.size → V.slots[j]? = some (.int (lo8 (cv A j)))) ∧
  ∀ (O n d : String) (w : Value), RoadKit.Fld Z h x O n d w → RoadKit.slotOf Z O n d ≠ RoadKit.slotOf Z ST "value" "[B" → RoadKit.slotOf Z O n d ≠ RoadKit.slotOf Z ST "coder" "B" → RoadKit.Fld Z h' x O n d w
/-- **new String(chars) AT A CALL, IN THE ROAD'S FORM**: for specialBack behind newO: x the fresh String, b the char[] with the cell A -/
theorem back {p : Program} {l : Launch} {e : Env} {R : Room} {s : State} {args : Array Value} {below : List Frame} {len W : Nat} {Z : State} {a0 : Array Value} {h : Heap} (hZ : Z.Warmed39 s.vm) (hw : ∀ d ∈ words, d.before a0 Z = true) {kI : Nat} (wi : (Jvm.Cond.instantiable ST kI).before a0 Z = true)
    {x b : Addr} {A : Cell} {z : Int32} {v0 c0 : Value} (E : RoadKit.Exa Z h x ST) (V : RoadKit.Fld Z h x ST "value" "[B" v0) (C : RoadKit.Fld Z h x ST "coder" "B" c0) (K : RoadKit.Arr Z h b A .char) (hty : Typed .char A) (S : RoadKit.Sta Z h ST "COMPACT_STRINGS" "Z" (.int z)) (hz : ¬ z = 0)
    (l0 : 0 < A.slots.size) (l2 : A.slots.size ≤ 536870912) (hp : ∀ i, i < A.slots.size → ¬ 255 < cv A i) (hfr : 4 ≤ R.frames) (hlo : W + 65 ≤ R.locals) :
    Back l R p e below s args New1.yN len W (fun P a => a = #[.ref x, .ref b] ∧ P.U.heap = h ∧ P.cells + 1 ≤ R.cells ∧ P.slots + A.slots.size ≤ R.slots)
      (fun P _ v B => ∃ L, Q Z x A h v B.U.heap L ∧ B.locs = P.locs ++ L ∧ B.cells = P.cells + 1 ∧ B.slots = P.slots + A.slots.size) := by
  intro m meth c P g ig mk a X hg hsize hdg hW hn hp'
  obtain ⟨rfl, rfl, r1, r2⟩ := hp'
  have al : Z.vm.Alike P.U.vm := hZ.alike.trans X.warmed.alike
  obtain ⟨D, cfV, kV, iV, fV, hD, gV, stV, knV, obV, asV, slV⟩ := id V
  obtain ⟨D', cfC, kC, iC, fC, hD', gC, stC, -, -, asC, slC⟩ := id C
  cases hD.symm.trans hD'
  obtain ⟨D2, kD, e1, e2, e3, e4, e5⟩ := id E
  cases hD.symm.trans e1
  obtain ⟨c2, k2, i1, i2, i3, -⟩ := Cond.instantiable_spec wi
  cases e2.symm.trans i1
  cases e3.symm.trans i2
  obtain ⟨kU, u1, u2⟩ := al.2.2 _ _ e3
  have hB : Blank ST x D P.U := ⟨hD, ⟨knV, fun q hq => by rw [hq] at obV; cases obV⟩, by rw [al.findClass]; exact e2, kU, u1, by rw [u2]; exact i3, by rw [u2]; exact e5 i3⟩
  have F1 : Found ST "value" "[B" fV P.U := ⟨SBG.found_only al ⟨cfV, kV, iV, gV⟩, stV⟩
  have F2 : Found ST "coder" "B" fC P.U := ⟨SBG.found_only al ⟨cfC, kC, iC, gC⟩, stC⟩
  have hA : Ch b A P.U := ⟨⟨K.1, State.isArrayOf_alike al K.2.1, K.2.2, by omega⟩, hty⟩
  have hS : StaticIs P.U ST "COMPACT_STRINGS" "Z" (.int z) := by
    obtain ⟨cfS, iS, kS, fS, st, cS, t1, t2, t3, t4, t5, t6, t7⟩ := S
    exact StaticIs.there (s := { Z with heap := P.U.heap }) ⟨cfS, iS, kS, fS, st, cS, t1, t2, t3, t4, t5, (fun q => by rw [q] at t6; cases t6), t7⟩ al rfl
  obtain ⟨v, B, X', ⟨⟨hv, E', V', q1, q2, q3, q4, q5, q6, q7, q8, q9, q10, q11⟩, hl, hc, hs⟩, st⟩ := New1.pays x D fV fC b A z (tab_of (moved hZ hw)) hfr hlo m meth c P g ig mk _ X hg hsize hdg hW hn ⟨r1, r2, rfl, hB, F1, F2, hA, hS, hz, l0, l2, hp⟩
  have al' : Z.vm.Alike B.U.vm := hZ.alike.trans X'.warmed.alike
  have hsz : E'.slots.size = D.slots.size := by
    obtain ⟨-, -, -, kB, w1, w2, w3⟩ := q1
    obtain ⟨kB', y1, y2⟩ := al'.2.2 _ _ e3
    rw [q2.2.1] at w1
    cases w1.symm.trans y1
    rw [w3, e5 i3, y2]
  refine ⟨v, B, X', ⟨_, ⟨hv, ?_, ⟨by omega, fun y cy hy hn' => q10 y cy (by simpa using hn') hy, fun y cy hy => ?_⟩, q11, ⟨E', _, q1.1, by rw [q2.2.1]; exact e2, by rw [q2.2.1]; exact e3, by rw [q2.1]; exact obV, fun _ => by rw [hsz]; exact e5 i3⟩,
    ⟨E', cfV, kV, iV, fV, q1.1, gV, stV, by rw [q2.1]; exact knV, by rw [q2.1]; exact obV, by rw [q2.2.1]; exact asV, q3⟩, ⟨E', cfC, kC, iC, fC, q1.1, gC, stC, by rw [q2.1]; exact knV, by rw [q2.1]; exact obV, by rw [q2.2.1]; exact asC, q4⟩,
    ⟨V', ⟨q5.1, State.isArrayOf_alike al'.symm q5.2.1, q5.2.2.1⟩, q6, by rw [← al'.findClass]; exact q7, q8, fun j hj => by have := q9 j hj; rwa [Nat.zero_add] at this⟩, fun O n d w F n1 n2 => ?_⟩, hl, hc, hs⟩, st⟩
  · intro y hy
    simp only [List.mem_cons, List.not_mem_nil, or_false] at hy
    rcases hy with rfl | rfl <;> rfl
  · by_cases q : y = x
    · subst q
      cases hD.symm.trans hy
      exact ⟨E', q1.1, q2.2.1, q2.1, hsz⟩
    · exact ⟨cy, q10 y cy q hy, rfl, rfl, rfl⟩
  · obtain ⟨D3, cf, k, i, f, g1, g2, g3, g4, g5, g6, g7⟩ := F
    cases hD.symm.trans g1
    simp only [RoadKit.slotOf, g2, gV, gC, Option.map_some, Option.getD_some] at n1 n2
    exact ⟨E', cf, k, i, f, q1.1, g2, g3, by rw [q2.1]; exact g4, by rw [q2.1]; exact g5, by rw [q2.2.1]; exact g6, by rw [q2.2.2 f.slot (by simp [n1, n2])]; exact g7⟩
end StrChars.Road
namespace StrChars.Road
open Jvm Sem ClassFile Op Lib Jvm.Stand Jvm.Free Jvm.Free.XT
/-- WHAT COMES BACK, the byte[] as a list of values -/
def QA (Z : State) (x : Addr) (zn : Int32) (cs : List Int32) (h : Heap) (v : Option Value) (h' : Heap) (L : List Loc) : Prop := v = none ∧ (∀ y ∈ L, y.base = x) ∧ RoadKit.Keep h h' [x] ∧ h'.size = h.size + 1 ∧ RoadKit.Exa Z h' x ST ∧ RoadKit.Fld Z h' x ST "value" "[B" (.ref h.size) ∧ RoadKit.Fld Z h' x ST "coder" "B" (.int 0) ∧
  (∃ kb, Z.vm.findClass "[B" = some kb ∧ RoadKit.Arv Z h' h.size kb .byte zn (cs.map fun c => .int (lo8 c)) (.int 0)) ∧
  ∀ (O n d : String) (w : Value), RoadKit.Fld Z h x O n d w → RoadKit.slotOf Z O n d ≠ RoadKit.slotOf Z ST "value" "[B" → RoadKit.slotOf Z O n d ≠ RoadKit.slotOf Z ST "coder" "B" → RoadKit.Fld Z h' x O n d w
/-- **new String(chars) AT A CALL, THE ARRAYS AS LISTS**: the char[] at b holds cs, not empty, no char above 255 -/
theorem backArv {p : Program} {l : Launch} {e : Env} {R : Room} {s : State} {args : Array Value} {below : List Frame} {len W : Nat} {Z : State} {a0 : Array Value} {h : Heap} (hZ : Z.Warmed39 s.vm) (hw : ∀ d ∈ words, d.before a0 Z = true) {kI : Nat} (wi : (Jvm.Cond.instantiable ST kI).before a0 Z = true)
    {x b : Addr} {k : ClassId} {zn z : Int32} {cs : List Int32} {dv v0 c0 : Value} (E : RoadKit.Exa Z h x ST) (V : RoadKit.Fld Z h x ST "value" "[B" v0) (C : RoadKit.Fld Z h x ST "coder" "B" c0) (K : RoadKit.Arv Z h b k .char zn (cs.map Value.int) dv) (S : RoadKit.Sta Z h ST "COMPACT_STRINGS" "Z" (.int z)) (hz : ¬ z = 0)
    (hlen : zn.toNatClampNeg = cs.length) (h0 : 0 < cs.length) (hbig : cs.length ≤ 536870912) (hall : ∀ c ∈ cs, ¬ 255 < c) (hfr : 4 ≤ R.frames) (hlo : W + 65 ≤ R.locals) :
    Back l R p e below s args New1.yN len W (fun P a => a = #[.ref x, .ref b] ∧ P.U.heap = h ∧ P.cells + 1 ≤ R.cells ∧ P.slots + cs.length ≤ R.slots)
      (fun P _ v B => ∃ L, QA Z x zn cs h v B.U.heap L ∧ B.locs = P.locs ++ L ∧ B.cells = P.cells + 1 ∧ B.slots = P.slots + cs.length) := by
  obtain ⟨A, K1, K2, K3, K4, K5, K6⟩ := K
  have e : A.slots.size = cs.length := K3.trans hlen
  have hat : ∀ (i : Nat) (hi : i < cs.length), A.slots[i]? = some (.int cs[i]) := fun i hi => by rw [K5 i (by omega)]; simp [List.getD_eq_getElem?_getD, hi]
  have hcv : ∀ (i : Nat) (hi : i < cs.length), cv A i = cs[i] := fun i hi => by unfold cv; rw [hat i hi]
  have hty : Typed .char A := fun i v hv => by
    have hi : i < A.slots.size := (Array.getElem?_eq_some_iff.mp hv).1
    have q := K5 i hi
    rw [hv] at q
    rw [Option.some.inj q]
    exact K6 i hi
  refine Back.mono (back hZ hw wi E V C K1 hty S hz (by omega) (by omega) (fun i hi => by rw [hcv i (by omega)]; exact hall _ (List.getElem_mem _)) hfr hlo) (fun P a hp => ⟨hp.1, hp.2.1, hp.2.2.1, by rw [e]; exact hp.2.2.2⟩) (fun P a v B hp hq => ?_)
  obtain ⟨L, ⟨q1, q2, q3, q4, q5, q6, q7, ⟨V', v1, v2, v3, v4, v5⟩, q9⟩, hl, hc, hs⟩ := hq
  refine ⟨L, ⟨q1, q2, q3, q4, q5, q6, q7, ⟨V'.cls, v3, V', v1, rfl, by rw [v4, e, hlen], K4, fun i hi => ?_, fun i hi => ?_⟩, q9⟩, hl, hc, by rw [hs, e]⟩
  · have hi' : i < cs.length := by omega
    rw [v5 i (by omega), hcv i hi']; simp [List.getD_eq_getElem?_getD, hi']
  · have hi' : i < cs.length := by omega
    simp only [List.getD_eq_getElem?_getD, List.getElem?_map, List.getElem?_eq_getElem hi', Option.map_some, Option.getD_some]
    exact fits_lo8 _
end StrChars.Road
namespace StrChars.Road
open Jvm Sem ClassFile Op Lib Jvm.Stand Jvm.Free Jvm.Free.XT
/-- WHAT COMES BACK, in the writer's own shape -/
def QV (Z : State) (x : Addr) (N : Int32) (bs : List Int32) (h : Heap) (n0 : Nat) (v : Option Value) (h' : Heap) (L : List Loc) : Prop := v = none ∧ RoadKit.Fr n0 L ∧ RoadKit.Keep h h' [x] ∧ RoadKit.Exa Z h' x ST ∧ RoadKit.Fld Z h' x ST "coder" "B" (.int 0) ∧
  ∃ (t : Addr) (kb : ClassId), n0 ≤ t ∧ h.size ≤ t ∧ ¬ t = x ∧ RoadKit.Fld Z h' x ST "value" "[B" (.ref t) ∧ RoadKit.Arv Z h' t kb .byte N (bs.map Value.int) (.int 0)
/-- **new String(chars) AT A CALL, FOR THE WRITER**: a char[] of n known ints, each 0 to 255 -/
theorem backV {p : Program} {l : Launch} {e : Env} {R : Room} {s : State} {args : Array Value} {below : List Frame} {len W : Nat} {Z : State} {a0 : Array Value} {h : Heap} (hZ : Z.Warmed39 s.vm) (hw : ∀ d ∈ words, d.before a0 Z = true) {kI : Nat} (wi : (Jvm.Cond.instantiable ST kI).before a0 Z = true)
    {x b : Addr} {kC : ClassId} {cs bs : List Int32} {d v0 c0 : Value} {z N : Int32} {n n0 : Nat} (hx0 : n0 ≤ x) (hh0 : n0 ≤ h.size) (E : RoadKit.Exa Z h x ST) (V : RoadKit.Fld Z h x ST "value" "[B" v0) (C : RoadKit.Fld Z h x ST "coder" "B" c0) (K : RoadKit.Arv Z h b kC .char N (cs.map Value.int) d) (S : RoadKit.Sta Z h ST "COMPACT_STRINGS" "Z" (.int z)) (hz : ¬ z = 0)
    (hn : cs.length = n) (hN : N = Int32.ofNat n) (l0 : 0 < n) (l2 : n ≤ 4000) (hp : ∀ c ∈ cs, ¬ c < 0 ∧ ¬ (255 : Int32) < c) (hb : bs = cs.map (fun c => c.toInt8.toInt32)) (hfr : 4 ≤ R.frames) (hlo : W + 65 ≤ R.locals) :
    Back l R p e below s args (⟨"java/lang/String", "<init>", "([C)V"⟩ : MethodName) len W (fun P a => a = #[.ref x, .ref b] ∧ P.U.heap = h ∧ P.cells + 1 ≤ R.cells ∧ P.slots + n ≤ R.slots)
      (fun P _ v B => ∃ L, QV Z x N bs h n0 v B.U.heap L ∧ B.locs = P.locs ++ L ∧ B.cells = P.cells + 1 ∧ B.slots = P.slots + n) := by
  subst hn hN hb
  refine Back.mono (backArv hZ hw wi E V C K S hz (n32 (by omega)) l0 (by omega) (fun c hc => (hp c hc).2) hfr hlo) (fun P a hp => hp) (fun P a v B hp hq => ?_)
  obtain ⟨L, ⟨q1, q2, q3, q4, q5, q6, q7, ⟨kb, v1, v2⟩, q9⟩, hl, hc, hs⟩ := hq
  exact ⟨L, ⟨q1, fun y hy => by rw [q2 y hy]; exact hx0, q3, q5, q7, h.size, kb, hh0, Nat.le_refl _, Nat.ne_of_gt E.lt, q6, by rw [List.map_map]; exact v2⟩, hl, hc, hs⟩
end StrChars.Road
namespace StrChars
open Jvm Sem ClassFile Op Lib Jvm.Stand Jvm.Free.XT Jvm.Free.ALB Jvm.Free.JM Jvm.Free
open Jvm.Lib.Cold (StaticIs)
def hi8 (x : Int32) : Int32 := lo8 (x >>> ((8 : Int32) &&& 31))
/-- what StringUTF16.getChar makes of two bytes -/
def pairCh (u v : Int32) : Int32 := (((u &&& 255) <<< ((0 : Int32) &&& 31)) ||| ((v &&& 255) <<< ((8 : Int32) &&& 31))).toUInt32.toUInt16.toUInt32.toInt32
theorem shr0 (c : Int32) : c >>> ((0 : Int32) &&& 31) = c := by
  have e : ((0 : Int32) &&& 31) = 0 := by decide
  rw [e]
  apply Int32.toBitVec_inj.mp
  rw [Int32.toBitVec_shiftRight]
  have e1 : ((0 : Int32).toBitVec.smod 32) = 0#32 := by decide
  rw [e1, BitVec.sshiftRight_eq']
  exact BitVec.sshiftRight_zero
theorem lo8_and (x : Int32) : (lo8 x &&& 255).toBitVec.toNat = x.toBitVec.toNat % 256 := by
  have h : (lo8 x).toBitVec = (x.toBitVec.signExtend 8).signExtend 32 := by rw [lo8, Int8.toBitVec_toInt32, Int32.toBitVec_toInt8]
  rw [Int32.toBitVec_and, BitVec.toNat_and, h]
  have e : ((x.toBitVec.signExtend 8).signExtend 32).toNat % 256 = x.toBitVec.toNat % 256 := by
    rw [BitVec.toNat_signExtend]
    have hlt := x.toBitVec.isLt
    simp only [BitVec.toNat_setWidth, BitVec.toNat_signExtend]
    split <;> split <;> omega
  rw [← e]
  exact Nat.and_two_pow_sub_one_eq_mod _ 8
theorem pair_says {c : Int32} (h0 : ¬ c < 0) (h1 : ¬ 65535 < c) : pairCh (lo8 c) (hi8 c) = c := by
  rw [Int32.lt_iff_toInt_lt] at h0 h1
  have e0 : (0 : Int32).toInt = 0 := rfl
  have e1 : (65535 : Int32).toInt = 65535 := rfl
  have hc : c.toInt = c.toBitVec.toNat := by
    have := c.toBitVec.isLt
    have e : c.toInt = c.toBitVec.toInt := rfl
    rw [e] at h0 h1
    rw [e]
    rw [BitVec.toInt_eq_toNat_cond] at h0 h1 ⊢
    split at h0 <;> split <;> omega
  have hn : c.toBitVec.toNat < 65536 := by omega
  have a1 := lo8_and c
  have a2 : (hi8 c &&& 255).toBitVec.toNat = c.toBitVec.toNat / 256 := by
    rw [hi8, lo8_and]
    have e : ((8 : Int32) &&& 31) = 8 := by decide
    rw [e, Int32.toBitVec_shiftRight]
    have e2 : ((8 : Int32).toBitVec.smod 32) = 8#32 := by decide
    rw [e2, BitVec.sshiftRight_eq', BitVec.toNat_sshiftRight_of_msb_false (by rw [BitVec.msb_eq_false_iff_two_mul_lt]; omega)]
    show c.toBitVec.toNat >>> 8 % 256 = _
    rw [Nat.shiftRight_eq_div_pow]
    omega
  unfold pairCh
  apply Int32.toBitVec_inj.mp
  apply BitVec.eq_of_toNat_eq
  have f0 : ((0 : Int32) &&& 31) = 0 := by decide
  have f8 : ((8 : Int32) &&& 31) = 8 := by decide
  rw [f0, f8]
  have g : (((lo8 c &&& 255) <<< (0 : Int32)) ||| ((hi8 c &&& 255) <<< (8 : Int32))).toBitVec.toNat = c.toBitVec.toNat := by
    rw [Int32.toBitVec_or, Int32.toBitVec_shiftLeft, Int32.toBitVec_shiftLeft]
    have s0 : ((0 : Int32).toBitVec.smod 32) = 0#32 := by decide
    have s8 : ((8 : Int32).toBitVec.smod 32) = 8#32 := by decide
    rw [s0, s8, BitVec.toNat_or]
    simp only [BitVec.shiftLeft_eq', BitVec.toNat_shiftLeft, a1, a2]
    show (c.toBitVec.toNat % 256) <<< 0 % 2 ^ 32 ||| (c.toBitVec.toNat / 256) <<< 8 % 2 ^ 32 = _
    rw [Nat.shiftLeft_zero, Nat.mod_eq_of_lt (show c.toBitVec.toNat % 256 < 2 ^ 32 by omega), Nat.mod_eq_of_lt (show (c.toBitVec.toNat / 256) <<< 8 < 2 ^ 32 by rw [Nat.shiftLeft_eq]; omega), Nat.or_comm, ← Nat.shiftLeft_add_eq_or_of_lt (by omega), Nat.shiftLeft_eq]
    omega
  show BitVec.toNat (((((lo8 c &&& 255) <<< (0 : Int32)) ||| ((hi8 c &&& 255) <<< (8 : Int32))).toBitVec.setWidth 16).setWidth 32) = _
  rw [BitVec.toNat_setWidth, BitVec.toNat_setWidth, g]
  omega
end StrChars
namespace StrChars
open Jvm Sem ClassFile Op Lib Jvm.Stand Jvm.Free.XT Jvm.Free.ALB Jvm.Free.JM Jvm.Free
open Jvm.Lib.Cold (StaticIs)
theorem shr1 {n : Nat} (h : 2 * n < 2 ^ 31) : Int32.ofNat (2 * n) >>> ((1 : Int32) &&& 31) = Int32.ofNat n := by
  have e : ((1 : Int32) &&& 31) = 1 := by decide
  rw [e]
  apply Int32.toBitVec_inj.mp
  rw [Int32.toBitVec_shiftRight]
  have e1 : ((1 : Int32).toBitVec.smod 32) = 1#32 := by decide
  have hm : (BitVec.ofNat 32 (2 * n)).toNat = 2 * n := by rw [BitVec.toNat_ofNat, Nat.mod_eq_of_lt (by omega)]
  rw [e1, BitVec.sshiftRight_eq']
  apply BitVec.eq_of_toNat_eq
  show ((BitVec.ofNat 32 (2 * n)).sshiftRight 1).toNat = (BitVec.ofNat 32 n).toNat
  rw [BitVec.toNat_sshiftRight_of_msb_false (by rw [BitVec.msb_eq_false_iff_two_mul_lt, hm]; omega), hm, BitVec.toNat_ofNat, Nat.shiftRight_eq_div_pow]
  omega
/-- charAt's cast of a byte read back -/
def chr8 (u : Int32) : Int32 := (u &&& 255).toUInt32.toUInt16.toUInt32.toInt32
theorem chr8_lo8 {c : Int32} (h0 : ¬ c < 0) (h1 : ¬ 255 < c) : chr8 (lo8 c) = c := by
  have t : ∀ k : Fin 256, (Int32.ofNat k.val).toUInt32.toUInt16.toUInt32.toInt32 = Int32.ofNat k.val := by decide +kernel
  unfold chr8
  rw [lo8_mask h0 h1]
  rw [Int32.lt_iff_toInt_lt] at h0 h1
  have e0 : (0 : Int32).toInt = 0 := rfl
  have e1 : (255 : Int32).toInt = 255 := rfl
  obtain ⟨k, hk⟩ : ∃ k : Nat, c.toInt = k := ⟨c.toInt.toNat, by omega⟩
  have hx : c = Int32.ofNat k := Int32.toInt_inj.mp (by rw [hk, Int32.toInt_ofNat_small (by omega)])
  rw [hx]
  exact t ⟨k, by omega⟩
theorem narrow_ch {c : Int32} (h0 : ¬ c < 0) (h1 : ¬ 65535 < c) : narrow .char (.int c) = .int c := by
  have q : narrow .char (.int (pairCh (lo8 c) (hi8 c))) = .int (pairCh (lo8 c) (hi8 c)) := narrow_c _
  rwa [pair_says h0 h1] at q
/-- the array's cell V codes the n chars f 0 .. f (n - 1) by the coder cd, as the JDK does: coder 1 just where some char is above 255 -/
def Cod (cd : Int32) (n : Nat) (f : Nat → Int32) (V : Cell) : Prop := (cd = 0 ∧ V.slots.size = n ∧ ∀ j, j < n → V.slots[j]? = some (.int (lo8 (f j))) ∧ ¬ 255 < f j) ∨ (cd = 1 ∧ V.slots.size = 2 * n ∧ (∀ j, j < n → V.slots[2 * j]? = some (.int (lo8 (f j))) ∧ V.slots[2 * j + 1]? = some (.int (hi8 (f j)))) ∧ ∃ j, j < n ∧ 255 < f j)
theorem Cod.cd {cd : Int32} {n : Nat} {f : Nat → Int32} {V : Cell} (h : Cod cd n f V) : cd = 0 ∨ cd = 1 := h.imp (fun q => q.1) fun q => q.1
theorem Cod.len {cd : Int32} {n : Nat} {f : Nat → Int32} {V : Cell} (h : Cod cd n f V) (hs : V.slots.size < 2 ^ 31) : Int32.ofNat V.slots.size >>> (cd &&& 31) = Int32.ofNat n := by
  rcases h with ⟨rfl, h, -⟩ | ⟨rfl, h, -⟩
  · rw [shr0, h]
  · rw [h, shr1 (by omega)]
/-- **x is a String of the n chars f 0 .. f (n - 1)**, Latin-1 or UTF-16; its array at t has the cell V -/
def Txt (x t : Addr) (V : Cell) (cd : Int32) (n : Nat) (f : Nat → Int32) (U : State) : Prop := Exact "java/lang/String" x U ∧ Has x "java/lang/String" "value" "[B" (.ref t) U ∧ Has x "java/lang/String" "coder" "B" (.int cd) U ∧ XT.Arr .byte t V U ∧ Cod cd n f V ∧ ∀ j, j < n → ¬ f j < 0 ∧ ¬ 65535 < f j
theorem Txt.mv {x t : Addr} {V : Cell} {cd : Int32} {n : Nat} {f : Nat → Int32} {U U' : State} (h : Txt x t V cd n f U) (hal : U.vm.Alike U'.vm) (hh : U'.heap = U.heap) : Txt x t V cd n f U' := ⟨h.1.mv hal hh, h.2.1.mv hal hh, h.2.2.1.mv hal hh, h.2.2.2.1.mv hal hh, h.2.2.2.2⟩
namespace Cdr
def yN : MethodName := ⟨"java/lang/String", "coder", "()B"⟩
abbrev yB : ByteArray := jdk_42_method_152_code
theorem d0 : decode yB 0 = .ok (.getstatic 38, 3) := by decide +kernel
theorem d3 : decode yB 3 = .ok (.ifCond (.eq) 10, 3) := by decide +kernel
theorem d6 : decode yB 6 = .ok (.aload_n 0, 1) := by decide +kernel
theorem d7 : decode yB 7 = .ok (.getfield 15, 3) := by decide +kernel
theorem d10 : decode yB 10 = .ok (.goto 4, 3) := by decide +kernel
theorem d14 : decode yB 14 = .ok (.ireturn, 1) := by decide +kernel
def site : List Cond := [.fieldLink "java/lang/String" 38 "java/lang/String" "COMPACT_STRINGS" "Z", .fieldLink "java/lang/String" 15 "java/lang/String" "coder" "B"]
def tab : Cond := tabOf yN yB 1 (some .byte) site
def P (x : Addr) (cd z : Int32) (args : Array Value) (s : State) : Prop := args = #[.ref x] ∧ Has x "java/lang/String" "coder" "B" (.int cd) s ∧ (cd = 0 ∨ cd = 1) ∧ StaticIs s "java/lang/String" "COMPACT_STRINGS" "Z" (.int z) ∧ ¬ z = 0
def E (cd : Int32) (r : Option Value) (s u : State) : Prop := XT.PureE (some (.int cd)) r s u
theorem law (l : Launch) (x : Addr) (cd z : Int32) : Law l yN 1 0 0 0 yB 1 (some .byte) site (P x cd z) (E cd) [] 0 0 := by
  refine Law.of_walk (plainFor_of_name (by decide +kernel)) (by decide +kernel) (by decide +kernel) (by decide) (fun _ _ h => by rw [h.1]; rfl) (fun _ U U' hal hh h => ⟨h.1, h.2.1.mv hal hh, h.2.2.1, h.2.2.2.1.there hal hh, h.2.2.2.2⟩) (fun r U U' V V' h1 hal h2 h => XT.PureE.mv r U U' V V' h1 hal h2 h) ?_
  intro p e s m args below meth c s₁ X0 hexec hbytes hml hret hlk hnm hown hh0 W hP
  obtain ⟨rfl, hx, hc, s1, hz⟩ := hP
  have c1 : Steps p.tables e below (s₁.setTop (entryFrame m #[.ref x] 1)) (s₁.setTop (mkF m 0 #[.val (.ref x)] [])) := entry rfl
  obtain ⟨T2, X2, q2, st2⟩ := X0.sget hexec hown (wk W (.fieldLink "java/lang/String" 38 "java/lang/String" "COMPACT_STRINGS" "Z")) s1 (fun _ _ h => by rw [hh0]; exact h) (g := (mkF m 0 #[.val (.ref x)] [])) rfl (hb hbytes d0)
  have hh2 := q2.trans hh0
  have c3 : Steps p.tables e below (s₁.setTop (entryFrame m #[.ref x] 1)) (T2.setTop (mkF m 7 #[.val (.ref x)] [.ref x])) := (c1.trans (st2 _ (Steps.refl _))).trans (by
    refine XS.ifNo X2.here hexec rfl (hb hbytes d3) rfl (i0_eq_f hz) ?_
    refine XS.aloadN X2.here hexec rfl (hb hbytes d6) rfl rfl ?_
    exact Steps.refl _)
  obtain ⟨T4, X4, q4, st4⟩ := X2.hget hexec hown (wk W (.fieldLink "java/lang/String" 15 "java/lang/String" "coder" "B")) (hx.mv X2.warmed.alike hh2) (g := (mkF m 7 #[.val (.ref x)] [.ref x])) rfl (rest := []) rfl (hb hbytes d7)
  have c5 : Steps p.tables e below (s₁.setTop (entryFrame m #[.ref x] 1)) (T4.setTop (mkF m 14 #[.val (.ref x)] [.int cd])) := (c3.trans (st4 _ (Steps.refl _))).trans (by
    refine XS.goto X4.here hexec rfl (pc0 := 10) rfl (hb hbytes d10) (by decide) rfl ?_
    exact Steps.refl _)
  exact ⟨T4, some (.int cd), _, _, _, X4, rfl, rfl, rfl, (fun h => by cases h), ⟨rfl, q4.trans hh2⟩, fun fs hl => c5.trans (X4.ireturnOut hexec hret (by rcases hc with rfl | rfl <;> rfl) (Or.inr (Or.inr (Or.inl rfl))) (hb hbytes d14) hl)⟩
end Cdr
namespace Len
def yN : MethodName := ⟨"java/lang/String", "length", "()I"⟩
abbrev yB : ByteArray := jdk_42_method_54_code
theorem d0 : decode yB 0 = .ok (.aload_n 0, 1) := by decide +kernel
theorem d1 : decode yB 1 = .ok (.getfield 9, 3) := by decide +kernel
theorem d4 : decode yB 4 = .ok (.arraylength, 1) := by decide +kernel
theorem d5 : decode yB 5 = .ok (.aload_n 0, 1) := by decide +kernel
theorem d6 : decode yB 6 = .ok (.invokevirtual 335, 3) := by decide +kernel
theorem d9 : decode yB 9 = .ok (.ishr, 1) := by decide +kernel
theorem d10 : decode yB 10 = .ok (.ireturn, 1) := by decide +kernel
def site : List Cond := [.fieldLink "java/lang/String" 9 "java/lang/String" "value" "[B", Cdr.tab] ++ virtW "java/lang/String" 335 "java/lang/String" Cdr.yN Cdr.yN
def tab : Cond := tabOf yN yB 1 (some .int) site
def P (x t : Addr) (V : Cell) (cd : Int32) (n : Nat) (f : Nat → Int32) (z : Int32) (args : Array Value) (s : State) : Prop := args = #[.ref x] ∧ Txt x t V cd n f s ∧ StaticIs s "java/lang/String" "COMPACT_STRINGS" "Z" (.int z) ∧ ¬ z = 0
def E (n : Nat) (r : Option Value) (s u : State) : Prop := XT.PureE (some (.int (Int32.ofNat n))) r s u
/-- length() of a String of n chars, in either coding -/
theorem law (l : Launch) (x t : Addr) (V : Cell) (cd : Int32) (n : Nat) (f : Nat → Int32) (z : Int32) : Law l yN 1 0 1 13 yB 1 (some .int) site (P x t V cd n f z) (E n) [] 0 0 := by
  refine Law.of_walk (plainFor_of_name (by decide +kernel)) (by decide +kernel) (by decide +kernel) (by decide) (fun _ _ h => by rw [h.1]; rfl) (fun _ U U' hal hh h => ⟨h.1, h.2.1.mv hal hh, h.2.2.1.there hal hh, h.2.2.2⟩) (fun r U U' V V' h1 hal h2 h => XT.PureE.mv r U U' V V' h1 hal h2 h) ?_
  intro p e s m args below meth c s₁ X0 hexec hbytes hml hret hlk hnm hown hh0 W hP
  obtain ⟨rfl, hx, s1, hz⟩ := hP
  have v31 := hx.2.2.2.1.2.2.2
  have c1 : Steps p.tables e below (s₁.setTop (entryFrame m #[.ref x] 1)) (s₁.setTop (mkF m 1 #[.val (.ref x)] [.ref x])) := Steps.trans (entry rfl) (by
    show Steps p.tables e below (s₁.setTop (mkF m 0 #[.val (.ref x)] [])) _
    refine XS.aloadN X0.here hexec rfl (hb hbytes d0) rfl rfl ?_
    exact Steps.refl _)
  obtain ⟨T2, X2, q2, st2⟩ := X0.hget hexec hown (wk W (.fieldLink "java/lang/String" 9 "java/lang/String" "value" "[B")) (hx.mv X0.warmed.alike hh0).2.1 (g := (mkF m 1 #[.val (.ref x)] [.ref x])) rfl (rest := []) rfl (hb hbytes d1)
  have hh2 := q2.trans hh0
  have hx2 := hx.mv X2.warmed.alike hh2
  have c3 : Steps p.tables e below (s₁.setTop (entryFrame m #[.ref x] 1)) (T2.setTop (mkF m 6 #[.val (.ref x)] [.ref x, .int (Int32.ofNat V.slots.size)])) := (c1.trans (st2 _ (Steps.refl _))).trans (by
    refine X2.alen hexec hx2.2.2.2.1 rfl rfl (hb hbytes d4) ?_
    refine XS.aloadN X2.here hexec rfl (hb hbytes d5) rfl rfl ?_
    exact Steps.refl _)
  obtain ⟨v4, T4, X4, E4, g4⟩ := X2.callV hexec (Cdr.law l x cd z) hown (wks W (virtW "java/lang/String" 335 "java/lang/String" Cdr.yN Cdr.yN)) rfl (by decide) (wk W Cdr.tab) (W := 1) (Nat.le_of_ble_eq_true rfl) (Nat.le_of_ble_eq_true rfl) (Nat.le_refl _) (Nat.le_refl _) (hx2.1.fc X2.warmed.alike) hx2.1.is (g := (mkF m 6 #[.val (.ref x)] [.ref x, .int (Int32.ofNat V.slots.size)])) rfl (by rw [hml]; rfl) c3 (argsL := []) (rest := [.int (Int32.ofNat V.slots.size)]) rfl rfl (by show 2 * 0 + (1 + 0) ≤ _; decide) (hb hbytes d6) (⟨rfl, hx2.2.2.1, hx.2.2.2.2.1.cd, s1.there X2.warmed.alike hh2, hz⟩)
  obtain ⟨rfl, q4⟩ := E4
  have c5 : Steps p.tables e below (s₁.setTop (entryFrame m #[.ref x] 1)) (T4.setTop (mkF m 10 #[.val (.ref x)] [.int (Int32.ofNat V.slots.size >>> (cd &&& 31))])) := Steps.trans g4 (by
    refine ishr X4.here hexec rfl (hb hbytes d9) rfl ?_
    exact Steps.refl _)
  rw [hx.2.2.2.2.1.len v31] at c5
  exact ⟨T4, some (.int (Int32.ofNat n)), _, _, _, X4, rfl, rfl, rfl, (fun h => by cases h), ⟨rfl, q4.trans hh2⟩, fun fs hl => c5.trans (X4.ireturnOut hexec hret rfl (Or.inl rfl) (hb hbytes d10) hl)⟩
theorem pays {l : Launch} {R : Room} {p : Program} {e : Env} {below : List Frame} {s : State} {sargs : Array Value} {len W : Nat} (x t : Addr) (V : Cell) (cd : Int32) (n : Nat) (f : Nat → Int32) (z : Int32) (htab : tab.before sargs s = true) (hfr : 2 ≤ R.frames) (hlo : W + 25 ≤ R.locals) :
    Back l R p e below s sargs yN len W (fun A₁ a₁ => A₁.cells + 0 ≤ R.cells ∧ A₁.slots + 0 ≤ R.slots ∧ P x t V cd n f z a₁ A₁.U) (fun A₁ _ v₁ B₁ => E n v₁ A₁.U B₁.U ∧ B₁.locs = A₁.locs ++ [] ∧ B₁.cells = A₁.cells + 0 ∧ B₁.slots = A₁.slots + 0) :=
  (law l x t V cd n f z).pays htab hfr (by omega)
end Len
namespace IsL
def yN : MethodName := ⟨"java/lang/String", "isLatin1", "()Z"⟩
abbrev yB : ByteArray := jdk_42_method_154_code
theorem d0 : decode yB 0 = .ok (.getstatic 38, 3) := by decide +kernel
theorem d3 : decode yB 3 = .ok (.ifCond (.eq) 14, 3) := by decide +kernel
theorem d6 : decode yB 6 = .ok (.aload_n 0, 1) := by decide +kernel
theorem d7 : decode yB 7 = .ok (.getfield 15, 3) := by decide +kernel
theorem d10 : decode yB 10 = .ok (.ifCond (.ne) 7, 3) := by decide +kernel
theorem d13 : decode yB 13 = .ok (.iconst 1, 1) := by decide +kernel
theorem d14 : decode yB 14 = .ok (.goto 4, 3) := by decide +kernel
theorem d17 : decode yB 17 = .ok (.iconst 0, 1) := by decide +kernel
theorem d18 : decode yB 18 = .ok (.ireturn, 1) := by decide +kernel
def site : List Cond := [.fieldLink "java/lang/String" 38 "java/lang/String" "COMPACT_STRINGS" "Z", .fieldLink "java/lang/String" 15 "java/lang/String" "coder" "B"]
def tab : Cond := tabOf yN yB 1 (some .boolean) site
def P (x : Addr) (cd z : Int32) (args : Array Value) (s : State) : Prop := args = #[.ref x] ∧ Has x "java/lang/String" "coder" "B" (.int cd) s ∧ (cd = 0 ∨ cd = 1) ∧ StaticIs s "java/lang/String" "COMPACT_STRINGS" "Z" (.int z) ∧ ¬ z = 0
def E (cd : Int32) (r : Option Value) (s u : State) : Prop := XT.PureE (some (.int (1 - cd))) r s u
theorem law (l : Launch) (x : Addr) (cd z : Int32) : Law l yN 1 0 0 0 yB 1 (some .boolean) site (P x cd z) (E cd) [] 0 0 := by
  refine Law.of_walk (plainFor_of_name (by decide +kernel)) (by decide +kernel) (by decide +kernel) (by decide) (fun _ _ h => by rw [h.1]; rfl) (fun _ U U' hal hh h => ⟨h.1, h.2.1.mv hal hh, h.2.2.1, h.2.2.2.1.there hal hh, h.2.2.2.2⟩) (fun r U U' V V' h1 hal h2 h => XT.PureE.mv r U U' V V' h1 hal h2 h) ?_
  intro p e s m args below meth c s₁ X0 hexec hbytes hml hret hlk hnm hown hh0 W hP
  obtain ⟨rfl, hx, hc, s1, hz⟩ := hP
  have c1 : Steps p.tables e below (s₁.setTop (entryFrame m #[.ref x] 1)) (s₁.setTop (mkF m 0 #[.val (.ref x)] [])) := entry rfl
  obtain ⟨T2, X2, q2, st2⟩ := X0.sget hexec hown (wk W (.fieldLink "java/lang/String" 38 "java/lang/String" "COMPACT_STRINGS" "Z")) s1 (fun _ _ h => by rw [hh0]; exact h) (g := (mkF m 0 #[.val (.ref x)] [])) rfl (hb hbytes d0)
  have hh2 := q2.trans hh0
  have c3 : Steps p.tables e below (s₁.setTop (entryFrame m #[.ref x] 1)) (T2.setTop (mkF m 7 #[.val (.ref x)] [.ref x])) := (c1.trans (st2 _ (Steps.refl _))).trans (by
    refine XS.ifNo X2.here hexec rfl (hb hbytes d3) rfl (i0_eq_f hz) ?_
    refine XS.aloadN X2.here hexec rfl (hb hbytes d6) rfl rfl ?_
    exact Steps.refl _)
  obtain ⟨T4, X4, q4, st4⟩ := X2.hget hexec hown (wk W (.fieldLink "java/lang/String" 15 "java/lang/String" "coder" "B")) (hx.mv X2.warmed.alike hh2) (g := (mkF m 7 #[.val (.ref x)] [.ref x])) rfl (rest := []) rfl (hb hbytes d7)
  have c5 : Steps p.tables e below (s₁.setTop (entryFrame m #[.ref x] 1)) (T4.setTop (mkF m 10 #[.val (.ref x)] [.int cd])) := c3.trans (st4 _ (Steps.refl _))
  have c6 : Steps p.tables e below (s₁.setTop (entryFrame m #[.ref x] 1)) (T4.setTop (mkF m 18 #[.val (.ref x)] [.int (1 - cd)])) := by
    rcases hc with rfl | rfl
    · exact c5.trans (by
        refine XS.ifNo X4.here hexec rfl (hb hbytes d10) rfl (i0_ne_f rfl) ?_
        refine iconstV X4.here hexec rfl 1 (hb hbytes d13) (by decide) ?_
        refine XS.goto X4.here hexec rfl (pc0 := 14) rfl (hb hbytes d14) (by decide) rfl ?_
        exact Steps.refl _)
    · exact c5.trans (by
        refine XS.ifYes X4.here hexec rfl (pc0 := 10) rfl (hb hbytes d10) rfl (i0_ne_t (by decide)) (by decide) rfl ?_
        refine iconstV X4.here hexec rfl 0 (hb hbytes d17) (by decide) ?_
        exact Steps.refl _)
  exact ⟨T4, some (.int (1 - cd)), _, _, _, X4, rfl, rfl, rfl, (fun h => by cases h), ⟨rfl, q4.trans hh2⟩, fun fs hl => c6.trans (X4.ireturnOut hexec hret (by rcases hc with rfl | rfl <;> rfl) (Or.inr (Or.inl rfl)) (hb hbytes d18) hl)⟩
end IsL
namespace LChA
def yN : MethodName := ⟨"java/lang/StringLatin1", "charAt", "([BI)C"⟩
abbrev yB : ByteArray := jdk_43_method_2_code
theorem d0 : decode yB 0 = .ok (.iload_n 1, 1) := by decide +kernel
theorem d1 : decode yB 1 = .ok (.aload_n 0, 1) := by decide +kernel
theorem d2 : decode yB 2 = .ok (.arraylength, 1) := by decide +kernel
theorem d3 : decode yB 3 = .ok (.invokestatic 9, 3) := by decide +kernel
theorem d6 : decode yB 6 = .ok (.aload_n 0, 1) := by decide +kernel
theorem d7 : decode yB 7 = .ok (.iload_n 1, 1) := by decide +kernel
theorem d8 : decode yB 8 = .ok (.baload, 1) := by decide +kernel
theorem d9 : decode yB 9 = .ok (.sipush 255, 3) := by decide +kernel
theorem d12 : decode yB 12 = .ok (.iand, 1) := by decide +kernel
theorem d13 : decode yB 13 = .ok (.i2c, 1) := by decide +kernel
theorem d14 : decode yB 14 = .ok (.ireturn, 1) := by decide +kernel
def site : List Cond := [JO.Str_checkIndex.tab] ++ staticW "java/lang/StringLatin1" 9 JO.Str_checkIndex.yN
def tab : Cond := tabOf yN yB 2 (some .char) site
def P (t : Addr) (V : Cell) (i : Nat) (u : Int32) (fm : Value) (args : Array Value) (s : State) : Prop := args = #[.ref t, .int (Int32.ofNat i)] ∧ XT.Arr .byte t V s ∧ V.slots[i]? = some (.int u) ∧ (StaticIs s "jdk/internal/util/Preconditions" "SIOOBE_FORMATTER" "Ljava/util/function/BiFunction;" fm ∧ fm.isRef = true)
def E (u : Int32) (r : Option Value) (s w : State) : Prop := XT.PureE (some (.int (chr8 u))) r s w
theorem law (l : Launch) (t : Addr) (V : Cell) (i : Nat) (u : Int32) (fm : Value) : Law l yN 2 2 2 27 yB 2 (some .char) site (P t V i u fm) (E u) [] 0 0 := by
  refine Law.of_walk (plainFor_of_name (by decide +kernel)) (by decide +kernel) (by decide +kernel) (by decide) (fun _ _ h => by rw [h.1]; rfl) (fun _ U U' hal hh h => ⟨h.1, h.2.1.mv hal hh, h.2.2.1, h.2.2.2.1.there hal hh, h.2.2.2.2⟩) (fun r U U' V V' h1 hal h2 h => XT.PureE.mv r U U' V V' h1 hal h2 h) ?_
  intro p e s m args below meth c s₁ X0 hexec hbytes hml hret hlk hnm hown hh0 W hP
  obtain ⟨rfl, hV, hu, s1, rf⟩ := hP
  have v31 := hV.2.2.2
  have hi : i < V.slots.size := (Array.getElem?_eq_some_iff.mp hu).1
  have c1 : Steps p.tables e below (s₁.setTop (entryFrame m #[.ref t, .int (Int32.ofNat i)] 2)) (s₁.setTop (mkF m 0 #[.val (.ref t), .val (.int (Int32.ofNat i))] [])) := entry rfl
  have c2 : Steps p.tables e below (s₁.setTop (entryFrame m #[.ref t, .int (Int32.ofNat i)] 2)) (s₁.setTop (mkF m 3 #[.val (.ref t), .val (.int (Int32.ofNat i))] [.int (Int32.ofNat V.slots.size), .int (Int32.ofNat i)])) := c1.trans (by
    refine XS.iloadN X0.here hexec rfl (hb hbytes d0) rfl ?_
    refine XS.aloadN X0.here hexec rfl (hb hbytes d1) rfl rfl ?_
    refine X0.alen hexec (hV.mv X0.warmed.alike hh0) rfl rfl (hb hbytes d2) ?_
    exact Steps.refl _)
  obtain ⟨v3, T3, X3, E3, g3⟩ := X0.callS hexec (JO.Str_checkIndex.law l (Int32.ofNat i) (Int32.ofNat V.slots.size) fm) hown (wks W (staticW "java/lang/StringLatin1" 9 JO.Str_checkIndex.yN)) (wk W JO.Str_checkIndex.tab) (W := 0) (Nat.le_of_ble_eq_true rfl) (Nat.le_of_ble_eq_true rfl) (Nat.le_refl _) (Nat.le_refl _) (g := (mkF m 3 #[.val (.ref t), .val (.int (Int32.ofNat i))] [.int (Int32.ofNat V.slots.size), .int (Int32.ofNat i)])) rfl (by rw [hml]; rfl) c2 (argsL := [.int (Int32.ofNat i), .int (Int32.ofNat V.slots.size)]) (rest := []) rfl rfl (by show 2 * 0 + 0 ≤ _; decide) (hb hbytes d3) (⟨rfl, rf, s1.there X0.warmed.alike hh0, Int32.ofNat_not_neg (by omega), lt32 v31 hi⟩)
  obtain ⟨rfl, q3⟩ := E3
  have hh3 := q3.trans hh0
  have c4 : Steps p.tables e below (s₁.setTop (entryFrame m #[.ref t, .int (Int32.ofNat i)] 2)) (T3.setTop (mkF m 14 #[.val (.ref t), .val (.int (Int32.ofNat i))] [.int (chr8 u)])) := Steps.trans g3 (by
    refine XS.aloadN X3.here hexec rfl (hb hbytes d6) rfl rfl ?_
    refine XS.iloadN X3.here hexec rfl (hb hbytes d7) rfl ?_
    refine X3.aget hexec (hV.mv X3.warmed.alike hh3) rfl hu rfl rfl (hb hbytes d8) ?_
    refine sipushV X3.here hexec rfl 255 (hb hbytes d9) (by decide) ?_
    refine XS.iand X3.here hexec rfl (hb hbytes d12) rfl ?_
    refine i2c X3.here hexec rfl (hb hbytes d13) rfl ?_
    exact Steps.refl _)
  exact ⟨T3, some (.int (chr8 u)), _, _, _, X3, rfl, rfl, rfl, (fun h => by cases h), ⟨rfl, hh3⟩, fun fs hl => c4.trans (X3.ireturnOut hexec hret (narrow_c _) (Or.inr (Or.inr (Or.inr (Or.inl rfl)))) (hb hbytes d14) hl)⟩
end LChA
end StrChars
namespace StrChars.Road
open Jvm Sem ClassFile Op Lib Jvm.Stand Jvm.Free Jvm.Free.XT
open Jvm.Lib.Cold (StaticIs)
theorem consq {a : Array Value} {s : State} {c : Jvm.Cond} {L : List Jvm.Cond} (h0 : c.before a s = true) (h : ∀ w ∈ L, w.before a s = true) : ∀ w ∈ c :: L, w.before a s = true := fun w hw => (List.mem_cons.mp hw).elim (fun e => e ▸ h0) (h w)
/-- the words of String.length(), either coding -/
abbrev wordsLen : List Jvm.Cond := [.code Len.yN Len.yB 1 (some .int), .initialized ST, .fieldLink ST 9 ST "value" "[B", .fieldLink ST 38 ST "COMPACT_STRINGS" "Z", .fieldLink ST 15 ST "coder" "B", .code Cdr.yN Cdr.yB 1 (some .byte), .methodLink ST 335 Cdr.yN, .declares Cdr.yN, .selects ST Cdr.yN Cdr.yN, .instanceMethod Cdr.yN]
theorem tabLen_of {a : Array Value} {s : State} (h : ∀ w ∈ wordsLen, w.before a s = true) : Len.tab.before a s = true := by
  have hc : Cdr.tab.before a s = true := unparts (wk h (.code Cdr.yN Cdr.yB 1 (some .byte))) (wks h (.initialized Cdr.yN.cls :: Cdr.site))
  have q := consq hc h
  exact unparts (wk q (.code Len.yN Len.yB 1 (some .int))) (wks q (.initialized Len.yN.cls :: Len.site))
theorem movedLen {Z s : State} {a0 args : Array Value} (hZ : Z.Warmed39 s.vm) (hw : ∀ d ∈ wordsLen, d.before a0 Z = true) : ∀ d ∈ wordsLen, d.before args s = true := fun d hd => by
  have q := hw d hd
  have t : ∀ d ∈ wordsLen, d = .arrayClass .byte ∨ (d.onTables && d.keepsFace) = true := by decide +kernel
  rcases t d hd with rfl | t
  · exact RoadKit.mvA hZ q
  · exact RoadKit.mv hZ q t
/-- the bytes of the chars cs, low before high -/
def wideBytes : List Int32 → List Value
  | [] => []
  | c :: cs => .int (lo8 c) :: .int (hi8 c) :: wideBytes cs
theorem wide_lo (d : Value) : ∀ (cs : List Int32) (j : Nat), j < cs.length → (wideBytes cs).getD (2 * j) d = .int (lo8 (cs.getD j 0))
  | [], j, h => absurd h (Nat.not_lt_zero j)
  | c :: cs, 0, _ => rfl
  | c :: cs, j + 1, h => by
    have q := wide_lo d cs j (by simpa using h)
    rw [show 2 * (j + 1) = 2 * j + 1 + 1 from by omega]
    simpa [wideBytes] using q
theorem wide_hi (d : Value) : ∀ (cs : List Int32) (j : Nat), j < cs.length → (wideBytes cs).getD (2 * j + 1) d = .int (hi8 (cs.getD j 0))
  | [], j, h => absurd h (Nat.not_lt_zero j)
  | c :: cs, 0, _ => rfl
  | c :: cs, j + 1, h => by
    have q := wide_hi d cs j (by simpa using h)
    rw [show 2 * (j + 1) + 1 = 2 * j + 1 + 1 + 1 from by omega]
    simpa [wideBytes] using q
theorem low_at (d : Value) (cs : List Int32) (j : Nat) (h : j < cs.length) : (cs.map fun c => Value.int (lo8 c)).getD j d = .int (lo8 (cs.getD j 0)) := by
  simp [List.getD_eq_getElem?_getD, h]
/-- an array of N2 bytes vs codes the chars cs by the coder cd -/
def CodA (cs : List Int32) (cd N2 : Int32) (vs : List Value) : Prop := (cd = 0 ∧ N2 = Int32.ofNat cs.length ∧ vs = (cs.map fun c => Value.int (lo8 c)) ∧ ∀ c ∈ cs, ¬ 255 < c) ∨ (cd = 1 ∧ N2 = Int32.ofNat (2 * cs.length) ∧ vs = wideBytes cs ∧ ∃ c ∈ cs, 255 < c)
theorem CodA.cod {cs : List Int32} {cd N2 : Int32} {vs : List Value} {V : Cell} (h : CodA cs cd N2 vs) (hn : 2 * cs.length < 2 ^ 31) (hs : V.slots.size = N2.toNatClampNeg) (hv : RoadKit.Has V vs (.int 0)) : Cod cd cs.length (fun j => cs.getD j 0) V := by
  rcases h with ⟨rfl, rfl, rfl, h⟩ | ⟨rfl, rfl, rfl, c, hc, hw⟩
  · rw [n32 (by omega)] at hs
    exact Or.inl ⟨rfl, hs, fun j hj => ⟨by rw [hv j (by omega), low_at _ _ _ hj], by
      have e : cs.getD j 0 = cs[j] := by simp [List.getD_eq_getElem?_getD, hj]
      show ¬ 255 < cs.getD j 0
      rw [e]; exact h _ (List.getElem_mem _)⟩⟩
  · rw [n32 (by omega)] at hs
    obtain ⟨j, hj, rfl⟩ := List.getElem_of_mem hc
    exact Or.inr ⟨rfl, hs, fun j hj => ⟨by rw [hv _ (by omega), wide_lo _ _ _ hj], by rw [hv _ (by omega), wide_hi _ _ _ hj]⟩, j, hj, by
      have e : cs.getD j 0 = cs[j] := by simp [List.getD_eq_getElem?_getD, hj]
      show 255 < cs.getD j 0
      rw [e]; exact hw⟩
/-- an object of exactly java/lang/String, its two fields found: as the laws ask it -/
theorem strObj {Z U : State} {a0 : Array Value} {kI : Nat} (wi : (Jvm.Cond.instantiable ST kI).before a0 Z = true) (al : Z.vm.Alike U.vm) {x : Addr} {v0 c0 : Value} (E : RoadKit.Exa Z U.heap x ST) (V : RoadKit.Fld Z U.heap x ST "value" "[B" v0) (C : RoadKit.Fld Z U.heap x ST "coder" "B" c0) :
    ∃ (D : Cell) (fV fC : Field), Blank ST x D U ∧ Found ST "value" "[B" fV U ∧ Found ST "coder" "B" fC U ∧ D.slots[fV.slot]? = some v0 ∧ D.slots[fC.slot]? = some c0 ∧ RoadKit.slotOf Z ST "value" "[B" = fV.slot ∧ RoadKit.slotOf Z ST "coder" "B" = fC.slot := by
  obtain ⟨D, cfV, kV, iV, fV, hD, gV, stV, knV, obV, asV, slV⟩ := V
  obtain ⟨D', cfC, kC, iC, fC, hD', gC, stC, -, -, asC, slC⟩ := C
  cases hD.symm.trans hD'
  obtain ⟨D2, kD, e1, e2, e3, e4, e5⟩ := E
  cases hD.symm.trans e1
  obtain ⟨c2, k2, i1, i2, i3, -⟩ := Cond.instantiable_spec wi
  cases e2.symm.trans i1
  cases e3.symm.trans i2
  obtain ⟨kU, u1, u2⟩ := al.2.2 _ _ e3
  exact ⟨D, fV, fC, ⟨hD, ⟨knV, fun q hq => by rw [hq] at obV; cases obV⟩, by rw [al.findClass]; exact e2, kU, u1, by rw [u2]; exact i3, by rw [u2]; exact e5 i3⟩, ⟨SBG.found_only al ⟨cfV, kV, iV, gV⟩, stV⟩, ⟨SBG.found_only al ⟨cfC, kC, iC, gC⟩, stC⟩, slV, slC, by simp [RoadKit.slotOf, gV], by simp [RoadKit.slotOf, gC]⟩
theorem sta_is {Z U : State} (al : Z.vm.Alike U.vm) {C n d : String} {v : Value} (S : RoadKit.Sta Z U.heap C n d v) : StaticIs U C n d v := by
  obtain ⟨cfS, iS, kS, fS, st, cS, t1, t2, t3, t4, t5, t6, t7⟩ := S
  exact StaticIs.there (s := { Z with heap := U.heap }) ⟨cfS, iS, kS, fS, st, cS, t1, t2, t3, t4, t5, (fun q => by rw [q] at t6; cases t6), t7⟩ al rfl
/-- **length() OF SUCH A STRING** -/
theorem lenW {p : Program} {l : Launch} {e : Env} {R : Room} {s : State} {args : Array Value} {below : List Frame} {len W : Nat} {Z : State} {a0 : Array Value} {h : Heap} (hZ : Z.Warmed39 s.vm) (hw : ∀ d ∈ wordsLen, d.before a0 Z = true) {kI : Nat} (wi : (Jvm.Cond.instantiable ST kI).before a0 Z = true)
    {x t : Addr} {kb : ClassId} {cs : List Int32} {cd N2 z : Int32} {vs : List Value} (E : RoadKit.Exa Z h x ST) (V : RoadKit.Fld Z h x ST "value" "[B" (.ref t)) (C : RoadKit.Fld Z h x ST "coder" "B" (.int cd)) (K : RoadKit.Arv Z h t kb .byte N2 vs (.int 0)) (hc : CodA cs cd N2 vs) (hb : ∀ c ∈ cs, ¬ c < 0 ∧ ¬ (65535 : Int32) < c)
    (S : RoadKit.Sta Z h ST "COMPACT_STRINGS" "Z" (.int z)) (hz : ¬ z = 0) (l2 : cs.length ≤ 4000) (hfr : 2 ≤ R.frames) (hlo : W + 25 ≤ R.locals) :
    Back l R p e below s args (⟨"java/lang/String", "length", "()I"⟩ : MethodName) len W (fun P a => a = #[.ref x] ∧ P.U.heap = h ∧ P.cells + 0 ≤ R.cells ∧ P.slots + 0 ≤ R.slots)
      (fun P _ v B => ∃ L, (v = some (.int (Int32.ofNat cs.length)) ∧ L = [] ∧ B.U.heap = h) ∧ B.locs = P.locs ++ L ∧ B.cells = P.cells + 0 ∧ B.slots = P.slots + 0) := by
  obtain ⟨A, K1, K2, K3, K4, K5, K6⟩ := K
  have hcod := hc.cod (by omega) K3 K5
  intro m meth c P g ig mk a X hg hsize hdg hW hn hp'
  obtain ⟨rfl, rfl, r1, r2⟩ := hp'
  have al : Z.vm.Alike P.U.vm := hZ.alike.trans X.warmed.alike
  obtain ⟨D, fV, fC, hB, F1, F2, g1, g2, -, -⟩ := strObj wi al E V C
  have hx : Txt x t A cd cs.length (fun j => cs.getD j 0) P.U := ⟨⟨_, hB.2.2.1, D, hB.1, rfl, by cases q : D.vm <;> first | rfl | exact absurd q (hB.2.1.2 _)⟩, Has.of hB F1 g1, Has.of hB F2 g2, ⟨K1.1, State.isArrayOf_alike al K1.2.1, K1.2.2, by rcases hcod with ⟨-, q, -⟩ | ⟨-, q, -⟩ <;> omega⟩, hcod, fun j hj => by
    have e : cs.getD j 0 = cs[j] := by simp [List.getD_eq_getElem?_getD, hj]
    show ¬ cs.getD j 0 < 0 ∧ ¬ 65535 < cs.getD j 0
    rw [e]; exact hb _ (List.getElem_mem _)⟩
  obtain ⟨v, B, X', ⟨⟨hv, hh⟩, hl, hk, hs⟩, st⟩ := Len.pays x t A cd cs.length (fun j => cs.getD j 0) z (tabLen_of (movedLen hZ hw)) hfr hlo m meth c P g ig mk _ X hg hsize hdg hW hn ⟨r1, r2, rfl, hx, sta_is al S, hz⟩
  exact ⟨v, B, X', ⟨[], ⟨hv, rfl, hh⟩, hl, hk, hs⟩, st⟩
end StrChars.Road
namespace StrChars.Road
open Jvm Sem ClassFile Op Lib Jvm.Stand Jvm.Free Jvm.Free.XT
open Jvm.Lib.Cold (StaticIs)
/-- the road's facts of a String, as the laws ask it -/
theorem txt_of {Z U : State} {a0 : Array Value} {kI : Nat} (wi : (Jvm.Cond.instantiable ST kI).before a0 Z = true) (al : Z.vm.Alike U.vm) {x t : Addr} {kb : ClassId} {cs : List Int32} {cd N2 : Int32} {vs : List Value} (E : RoadKit.Exa Z U.heap x ST) (V : RoadKit.Fld Z U.heap x ST "value" "[B" (.ref t)) (C : RoadKit.Fld Z U.heap x ST "coder" "B" (.int cd)) (K : RoadKit.Arv Z U.heap t kb .byte N2 vs (.int 0)) (hc : CodA cs cd N2 vs) (hb : ∀ c ∈ cs, ¬ c < 0 ∧ ¬ (65535 : Int32) < c) (l2 : cs.length ≤ 4000) :
    ∃ A, Txt x t A cd cs.length (fun j => cs.getD j 0) U := by
  obtain ⟨A, K1, K2, K3, K4, K5, K6⟩ := K
  have hcod := hc.cod (by omega) K3 K5
  obtain ⟨D, fV, fC, hB, F1, F2, g1, g2, -, -⟩ := strObj wi al E V C
  exact ⟨A, ⟨_, hB.2.2.1, D, hB.1, rfl, by cases q : D.vm <;> first | rfl | exact absurd q (hB.2.1.2 _)⟩, Has.of hB F1 g1, Has.of hB F2 g2, ⟨K1.1, State.isArrayOf_alike al K1.2.1, K1.2.2, by rcases hcod with ⟨-, q, -⟩ | ⟨-, q, -⟩ <;> omega⟩, hcod, fun j hj => by
    have e : cs.getD j 0 = cs[j] := by simp [List.getD_eq_getElem?_getD, hj]
    show ¬ cs.getD j 0 < 0 ∧ ¬ 65535 < cs.getD j 0
    rw [e]; exact hb _ (List.getElem_mem _)⟩
end StrChars.Road
namespace StrChars
open Jvm Sem ClassFile Op Lib Jvm.Stand Jvm.Free.XT Jvm.Free.ALB Jvm.Free.JM Jvm.Free
open Jvm.Lib.Cold (StaticIs)
namespace ChN
def yN : MethodName := ⟨"java/lang/String", "charAt", "(I)C"⟩
abbrev yB : ByteArray := jdk_42_method_56_code
theorem d0 : decode yB 0 = .ok (.aload_n 0, 1) := by decide +kernel
theorem d1 : decode yB 1 = .ok (.invokevirtual 492, 3) := by decide +kernel
theorem d4 : decode yB 4 = .ok (.ifCond (.eq) 12, 3) := by decide +kernel
theorem d7 : decode yB 7 = .ok (.aload_n 0, 1) := by decide +kernel
theorem d8 : decode yB 8 = .ok (.getfield 9, 3) := by decide +kernel
theorem d11 : decode yB 11 = .ok (.iload_n 1, 1) := by decide +kernel
theorem d12 : decode yB 12 = .ok (.invokestatic 495, 3) := by decide +kernel
theorem d15 : decode yB 15 = .ok (.ireturn, 1) := by decide +kernel
def site : List Cond := [.fieldLink "java/lang/String" 9 "java/lang/String" "value" "[B", IsL.tab, LChA.tab] ++ virtW "java/lang/String" 492 "java/lang/String" IsL.yN IsL.yN ++ staticW "java/lang/String" 495 LChA.yN
def tab : Cond := tabOf yN yB 2 (some .char) site
def P (x t : Addr) (V : Cell) (n : Nat) (f : Nat → Int32) (z : Int32) (fm : Value) (i : Nat) (args : Array Value) (s : State) : Prop := args = #[.ref x, .int (Int32.ofNat i)] ∧ Txt x t V 0 n f s ∧ i < n ∧ StaticIs s "java/lang/String" "COMPACT_STRINGS" "Z" (.int z) ∧ ¬ z = 0 ∧ StaticIs s "jdk/internal/util/Preconditions" "SIOOBE_FORMATTER" "Ljava/util/function/BiFunction;" fm ∧ fm.isRef = true
def E (f : Nat → Int32) (i : Nat) (r : Option Value) (s u : State) : Prop := XT.PureE (some (.int (f i))) r s u
/-- charAt(i) of a Latin-1 String of n chars, i < n: f i -/
theorem law (l : Launch) (x t : Addr) (V : Cell) (n : Nat) (f : Nat → Int32) (z : Int32) (fm : Value) (i : Nat) : Law l yN 2 1 3 40 yB 2 (some .char) site (P x t V n f z fm i) (E f i) [] 0 0 := by
  refine Law.of_walk (plainFor_of_name (by decide +kernel)) (by decide +kernel) (by decide +kernel) (by decide) (fun _ _ h => by rw [h.1]; rfl) (fun _ U U' hal hh h => ⟨h.1, h.2.1.mv hal hh, h.2.2.1, h.2.2.2.1.there hal hh, h.2.2.2.2.1, h.2.2.2.2.2.1.there hal hh, h.2.2.2.2.2.2⟩) (fun r U U' V V' h1 hal h2 h => XT.PureE.mv r U U' V V' h1 hal h2 h) ?_
  intro p e s m args below meth c s₁ X0 hexec hbytes hml hret hlk hnm hown hh0 W hP
  obtain ⟨rfl, hx, hi, s1, hz, s3, rf⟩ := hP
  have v31 := hx.2.2.2.1.2.2.2
  have hr := hx.2.2.2.2.2 i hi
  have hx0 := hx.mv X0.warmed.alike hh0
  have c1 : Steps p.tables e below (s₁.setTop (entryFrame m #[.ref x, .int (Int32.ofNat i)] 2)) (s₁.setTop (mkF m 1 #[.val (.ref x), .val (.int (Int32.ofNat i))] [.ref x])) := Steps.trans (entry rfl) (by
    show Steps p.tables e below (s₁.setTop (mkF m 0 #[.val (.ref x), .val (.int (Int32.ofNat i))] [])) _
    refine XS.aloadN X0.here hexec rfl (hb hbytes d0) rfl rfl ?_
    exact Steps.refl _)
  obtain ⟨v2, T2, X2, E2, g2⟩ := X0.callV hexec (IsL.law l x 0 z) hown (wks W (virtW "java/lang/String" 492 "java/lang/String" IsL.yN IsL.yN)) rfl (by decide) (wk W IsL.tab) (W := 0) (Nat.le_of_ble_eq_true rfl) (Nat.le_of_ble_eq_true rfl) (Nat.le_refl _) (Nat.le_refl _) (hx0.1.fc X0.warmed.alike) hx0.1.is (g := (mkF m 1 #[.val (.ref x), .val (.int (Int32.ofNat i))] [.ref x])) rfl (by rw [hml]; rfl) c1 (argsL := []) (rest := []) rfl rfl (by show 2 * 0 + 0 ≤ _; decide) (hb hbytes d1) (⟨rfl, hx0.2.2.1, hx.2.2.2.2.1.cd, s1.there X0.warmed.alike hh0, hz⟩)
  obtain ⟨rfl, q2⟩ := E2
  have hh2 := q2.trans hh0
  have hx2 := hx.mv X2.warmed.alike hh2
  obtain ⟨-, k1, k2⟩ | ⟨k0, -⟩ := hx.2.2.2.2.1
  · have c3 : Steps p.tables e below (s₁.setTop (entryFrame m #[.ref x, .int (Int32.ofNat i)] 2)) (T2.setTop (mkF m 8 #[.val (.ref x), .val (.int (Int32.ofNat i))] [.ref x])) := Steps.trans g2 (by
      refine XS.ifNo X2.here hexec rfl (hb hbytes d4) rfl (i0_eq_f (by decide)) ?_
      refine XS.aloadN X2.here hexec rfl (hb hbytes d7) rfl rfl ?_
      exact Steps.refl _)
    obtain ⟨T4, X4, q4, st4⟩ := X2.hget hexec hown (wk W (.fieldLink "java/lang/String" 9 "java/lang/String" "value" "[B")) hx2.2.1 (g := (mkF m 8 #[.val (.ref x), .val (.int (Int32.ofNat i))] [.ref x])) rfl (rest := []) rfl (hb hbytes d8)
    have hh4 := q4.trans hh2
    have c5 : Steps p.tables e below (s₁.setTop (entryFrame m #[.ref x, .int (Int32.ofNat i)] 2)) (T4.setTop (mkF m 12 #[.val (.ref x), .val (.int (Int32.ofNat i))] [.int (Int32.ofNat i), .ref t])) := (c3.trans (st4 _ (Steps.refl _))).trans (by
      refine XS.iloadN X4.here hexec rfl (hb hbytes d11) rfl ?_
      exact Steps.refl _)
    obtain ⟨v6, T6, X6, E6, g6⟩ := X4.callS hexec (LChA.law l t V i (lo8 (f i)) fm) hown (wks W (staticW "java/lang/String" 495 LChA.yN)) (wk W LChA.tab) (W := 0) (Nat.le_of_ble_eq_true rfl) (Nat.le_of_ble_eq_true rfl) (Nat.le_refl _) (Nat.le_refl _) (g := (mkF m 12 #[.val (.ref x), .val (.int (Int32.ofNat i))] [.int (Int32.ofNat i), .ref t])) rfl (by rw [hml]; rfl) c5 (argsL := [.ref t, .int (Int32.ofNat i)]) (rest := []) rfl rfl (by show 2 * 0 + 0 ≤ _; decide) (hb hbytes d12) (⟨rfl, hx.2.2.2.1.mv X4.warmed.alike hh4, (k2 i hi).1, s3.there X4.warmed.alike hh4, rf⟩)
    obtain ⟨rfl, q6⟩ := E6
    rw [chr8_lo8 hr.1 (k2 i hi).2] at g6
    exact ⟨T6, some (.int (f i)), _, _, _, X6, rfl, rfl, rfl, (fun h => by cases h), ⟨rfl, q6.trans hh4⟩, fun fs hl => Steps.trans g6 (X6.ireturnOut hexec hret (narrow_ch hr.1 hr.2) (Or.inr (Or.inr (Or.inr (Or.inl rfl)))) (hb hbytes d15) hl)⟩
  · exact absurd k0 (by decide)
theorem pays {l : Launch} {R : Room} {p : Program} {e : Env} {below : List Frame} {s : State} {sargs : Array Value} {len W : Nat} (x t : Addr) (V : Cell) (n : Nat) (f : Nat → Int32) (z : Int32) (fm : Value) (i : Nat) (htab : tab.before sargs s = true) (hfr : 4 ≤ R.frames) (hlo : W + 53 ≤ R.locals) :
    Back l R p e below s sargs yN len W (fun A₁ a₁ => A₁.cells + 0 ≤ R.cells ∧ A₁.slots + 0 ≤ R.slots ∧ P x t V n f z fm i a₁ A₁.U) (fun A₁ _ v₁ B₁ => E f i v₁ A₁.U B₁.U ∧ B₁.locs = A₁.locs ++ [] ∧ B₁.cells = A₁.cells + 0 ∧ B₁.slots = A₁.slots + 0) :=
  (law l x t V n f z fm i).pays htab hfr (by omega)
end ChN
end StrChars
namespace StrChars.Road
open Jvm Sem ClassFile Op Lib Jvm.Stand Jvm.Free Jvm.Free.XT
open Jvm.Lib.Cold (StaticIs)
/-- the words of String.charAt(int), the Latin-1 road alone -/
abbrev wordsChN : List Jvm.Cond := [.code ChN.yN ChN.yB 2 (some .char), .initialized ST, .fieldLink ST 9 ST "value" "[B", .fieldLink ST 38 ST "COMPACT_STRINGS" "Z", .fieldLink ST 15 ST "coder" "B", .code IsL.yN IsL.yB 1 (some .boolean), .methodLink ST 492 IsL.yN, .declares IsL.yN, .selects ST IsL.yN IsL.yN, .instanceMethod IsL.yN,
  .methodLink ST 495 LChA.yN, .static LChA.yN, .code LChA.yN LChA.yB 2 (some .char), .initialized "java/lang/StringLatin1", .methodLink "java/lang/StringLatin1" 9 JO.Str_checkIndex.yN, .static JO.Str_checkIndex.yN, .code JO.Str_checkIndex.yN JO.Str_checkIndex.yB 2 none,
  .fieldLink ST 1053 "jdk/internal/util/Preconditions" "SIOOBE_FORMATTER" "Ljava/util/function/BiFunction;", .methodLink ST 1059 JC.PreCheck.yN, .static JC.PreCheck.yN, .code JC.PreCheck.yN JC.PreCheck.yB 3 (some .int), .initialized "jdk/internal/util/Preconditions"]
theorem tabChN_of {a : Array Value} {s : State} (h : ∀ w ∈ wordsChN, w.before a s = true) : ChN.tab.before a s = true := by
  have hp : JC.PreCheck.tab.before a s = true := unparts (wk h (.code JC.PreCheck.yN JC.PreCheck.yB 3 (some .int))) (wks h (.initialized JC.PreCheck.yN.cls :: JC.PreCheck.site))
  have qk := consq hp h
  have hk : JO.Str_checkIndex.tab.before a s = true := unparts (wk qk (.code JO.Str_checkIndex.yN JO.Str_checkIndex.yB 2 none)) (wks qk (.initialized JO.Str_checkIndex.yN.cls :: JO.Str_checkIndex.site))
  have ql := consq hk h
  have hl : LChA.tab.before a s = true := unparts (wk ql (.code LChA.yN LChA.yB 2 (some .char))) (wks ql (.initialized LChA.yN.cls :: LChA.site))
  have hi : IsL.tab.before a s = true := unparts (wk h (.code IsL.yN IsL.yB 1 (some .boolean))) (wks h (.initialized IsL.yN.cls :: IsL.site))
  have q := consq hi (consq hl h)
  exact unparts (wk q (.code ChN.yN ChN.yB 2 (some .char))) (wks q (.initialized ChN.yN.cls :: ChN.site))
theorem movedChN {Z s : State} {a0 args : Array Value} (hZ : Z.Warmed39 s.vm) (hw : ∀ d ∈ wordsChN, d.before a0 Z = true) : ∀ d ∈ wordsChN, d.before args s = true := fun d hd => by
  have t : ∀ d ∈ wordsChN, (d.onTables && d.keepsFace) = true := by decide +kernel
  exact RoadKit.mv hZ (hw d hd) (t d hd)
/-- **charAt(i) OF A LATIN-1 STRING**, i < n: the char -/
theorem chN {p : Program} {l : Launch} {e : Env} {R : Room} {s : State} {args : Array Value} {below : List Frame} {len W : Nat} {Z : State} {a0 : Array Value} {h : Heap} (hZ : Z.Warmed39 s.vm) (hw : ∀ d ∈ wordsChN, d.before a0 Z = true) {kI : Nat} (wi : (Jvm.Cond.instantiable ST kI).before a0 Z = true)
    {x t : Addr} {kb : ClassId} {cs : List Int32} {N2 z : Int32} {vs : List Value} {fm : Value} {i : Nat} {j : Int32} (E : RoadKit.Exa Z h x ST) (V : RoadKit.Fld Z h x ST "value" "[B" (.ref t)) (C : RoadKit.Fld Z h x ST "coder" "B" (.int 0)) (K : RoadKit.Arv Z h t kb .byte N2 vs (.int 0)) (hc : CodA cs 0 N2 vs) (hb : ∀ c ∈ cs, ¬ c < 0 ∧ ¬ (65535 : Int32) < c)
    (S : RoadKit.Sta Z h ST "COMPACT_STRINGS" "Z" (.int z)) (hz : ¬ z = 0) (F : RoadKit.Sta Z h "jdk/internal/util/Preconditions" "SIOOBE_FORMATTER" "Ljava/util/function/BiFunction;" fm) (rf : fm.isRef = true) (l2 : cs.length ≤ 4000) (hi : i < cs.length) (hj : j = Int32.ofNat i) (hfr : 4 ≤ R.frames) (hlo : W + 53 ≤ R.locals) :
    Back l R p e below s args (⟨"java/lang/String", "charAt", "(I)C"⟩ : MethodName) len W (fun P a => a = #[.ref x, .int j] ∧ P.U.heap = h ∧ P.cells + 0 ≤ R.cells ∧ P.slots + 0 ≤ R.slots)
      (fun P _ v B => ∃ L, (v = some (.int (cs.getD i 0)) ∧ L = [] ∧ B.U.heap = h) ∧ B.locs = P.locs ++ L ∧ B.cells = P.cells + 0 ∧ B.slots = P.slots + 0) := by
  subst hj
  intro m meth c P g ig mk a X hg hsize hdg hW hn hp'
  obtain ⟨rfl, rfl, r1, r2⟩ := hp'
  have al : Z.vm.Alike P.U.vm := hZ.alike.trans X.warmed.alike
  obtain ⟨A, hx⟩ := txt_of wi al E V C K hc hb l2
  obtain ⟨v, B, X', ⟨⟨hv, hh⟩, hl, hk, hs⟩, st⟩ := ChN.pays x t A cs.length (fun j => cs.getD j 0) z fm i (tabChN_of (movedChN hZ hw)) hfr hlo m meth c P g ig mk _ X hg hsize hdg hW hn ⟨r1, r2, rfl, hx, hi, sta_is al S, hz, sta_is al F, rf⟩
  exact ⟨v, B, X', ⟨[], ⟨hv, rfl, hh⟩, hl, hk, hs⟩, st⟩
/-- what backV says of its String, as the contracts of this text ask it: cs's low bytes, coder 0 -/
theorem codOf {cs : List Int32} {n : Nat} (hn : cs.length = n) (hb : ∀ c ∈ cs, ¬ 255 < c) : CodA cs 0 (Int32.ofNat n) ((cs.map lo8).map Value.int) := Or.inl ⟨rfl, by rw [hn], by simp [List.map_map, Function.comp_def], hb⟩
end StrChars.Road
end Jvm.Pilot.@@N@@
namespace Jvm.Pilot.@@N@@
open Jvm Jvm.ClassFile Sem Op Lib Jvm.Free Jvm.Stand Jvm.LawKit Jvm.RoadKit Bundle Jvm.Pilot.@@N@@.Jvm.D
section OwnKit
variable {p : Program} {l : Launch} {e : Env} {R : Room} {s : State} {m : MethodId} {args : Array Value} {below : List Frame} {meth : Method} {c : Code} {T T' : State} {locs : List Loc} {cells slots : Nat} {Z : State} {a0 : Array Value} {h h' : Heap} {EL : List (String × Nat)} {n0 k0 : Nat} {ws ws' sf : List Addr} {own : String} {vm0 vm1 : Vm} {Q : Outcome → State → Prop} {a b x : Addr} {v : Value} {sl : Nat}
/-- the run goes on from t to an end that Q takes -/
def Go (p : Program) (e : Env) (below : List Frame) (Q : Outcome → State → Prop) (t : State) : Prop := ∃ s₂ o, Steps p.tables e below t s₂ ∧ s₂.status = .running ∧ Ended s₂ below o ∧ Q o s₂
theorem Go.of {t t' : State} (k : ∀ z, Steps p.tables e below t' z → Steps p.tables e below t z) (g : Go p e below Q t') : Go p e below Q t := by
  obtain ⟨a, o, st, r⟩ := g
  exact ⟨a, o, k _ st, r⟩
theorem Go.on {t t' : State} (st : Steps p.tables e below t t') (g : Go p e below Q t') : Go p e below Q t := by
  obtain ⟨a, o, st', r⟩ := g
  exact ⟨a, o, st.trans st', r⟩
/-- where a walk stands: the tables at hand, the places written, all hidden -/
def Wk (p : Program) (l : Launch) (e : Env) (R : Room) (s : State) (m : MethodId) (args : Array Value) (below : List Frame) (meth : Method) (c : Code) (Z : State) (EL : List (String × Nat)) (n0 : Nat) (ws : List Addr) (own : String) (sf : List Addr) (T : State) (cells slots : Nat) (h : Heap) : Prop :=
  ∃ (vm0 : Vm) (locs : List Loc) (k0 : Nat), Stand p l e R (s.setVm vm0) m args below meth c T locs cells slots ∧ T.heap = h ∧ s.Since vm0 k0 ∧ k0 ≤ h.size ∧ Z.Warmed39 vm0 ∧ vm0.findClass own = some m.cls ∧ CHr Z EL s.vm s.heap vm0 h ∧ Fr n0 locs ∧ Keep s.heap h ws ∧ Old Z n0 h ∧ ∀ x ∈ sf, Safe Z EL vm0 h x ∧ x < h.size
theorem wk_wr (X : Stand p l e R (s.setVm vm0) m args below meth c T' (locs ++ [⟨a, sl⟩]) cells slots) (e' : T'.heap = h') (W : Wr h h' a sl v) (hS : s.Since vm0 k0) (hk : k0 ≤ h.size) (hZ : Z.Warmed39 vm0) (hown : vm0.findClass own = some m.cls) (hC : CHr Z EL s.vm s.heap vm0 h) (N : Fr n0 locs) (K : Keep s.heap h ws) (O : Old Z n0 h)
    (F : ∀ x ∈ sf, Safe Z EL vm0 h x ∧ x < h.size) (S : Safe Z EL vm0 h a) (ga : n0 ≤ a) (gw : a ∈ ws ∨ s.heap.size ≤ a) : Wk p l e R s m args below meth c Z EL n0 ws own sf T' cells slots h' :=
  ⟨vm0, _, k0, X, e', hS, by rw [Wr.size W]; exact hk, hZ, hown, hC.trans (CHr.wr W S hC.1), Fr.snoc X N ga, K.wr W gw, O.wr W ga, fun y hy => ⟨Safe.wr W S hC.1 (F y hy).1, by rw [Wr.size W]; exact (F y hy).2⟩⟩
theorem wk_new (X : Stand p l e R (s.setVm vm0) m args below meth c T' locs cells slots) (e' : T'.heap = h') (E : Ext h h') (hlt : h.size < h'.size) (hS : s.Since vm0 k0) (hk : k0 ≤ h.size) (hZ : Z.Warmed39 vm0) (hown : vm0.findClass own = some m.cls) (hC : CHr Z EL s.vm s.heap vm0 h) (N : Fr n0 locs) (K : Keep s.heap h ws) (O : Old Z n0 h)
    (F : ∀ x ∈ sf, Safe Z EL vm0 h x ∧ x < h.size) : Wk p l e R s m args below meth c Z EL n0 ws own (h.size :: sf) T' cells slots h' :=
  ⟨vm0, locs, k0, X, e', hS, Nat.le_trans hk E.1, hZ, hown, hC.trans (CHr.ext E hC.1), N, K.ext E, O.ext E, fun y hy => by
    rcases List.mem_cons.mp hy with rfl | hy
    · exact ⟨Safe.ext E hC.1 (Safe.new (Nat.le_refl _)), hlt⟩
    · exact ⟨Safe.ext E hC.1 (F y hy).1, Nat.lt_of_lt_of_le (F y hy).2 E.1⟩⟩
theorem Wk.here (W : Wk p l e R s m args below meth c Z EL n0 ws own sf T cells slots h) : At T m c below := by
  obtain ⟨_, _, _, X, _⟩ := W
  exact X.here
theorem Wk.n0le (W : Wk p l e R s m args below meth c Z EL n0 ws own sf T cells slots h) : n0 ≤ h.size := by
  obtain ⟨_, _, _, _, _, _, _, _, _, _, _, _, O, _⟩ := W
  exact O.1 ▸ O.2.1
theorem Wk.s0le (W : Wk p l e R s m args below meth c Z EL n0 ws own sf T cells slots h) : s.heap.size ≤ h.size := by
  obtain ⟨_, _, _, _, _, _, _, _, _, _, _, K, _, _⟩ := W
  exact K.1
theorem Wk.old (W : Wk p l e R s m args below meth c Z EL n0 ws own sf T cells slots h) : Old Z n0 h := by
  obtain ⟨_, _, _, _, _, _, _, _, _, _, _, _, O, _⟩ := W
  exact O
/-! single steps -/
theorem Wk.getF (W : Wk p l e R s m args below meth c Z EL n0 ws own sf T cells slots h) (hx : p.tables.exec = Jvm.exec) {R0 O n d host : String} {index : Nat} (w : (Cond.fieldLink own index R0 n d).before a0 Z = true ∨ (Cond.fieldLinkNest own index R0 n d host).before a0 Z = true) (via : Via Z R0 O n d)
    (F : Fld Z h a O n d v) {g : JFrame} (hg : g.method = m) {rest : List Value} (hs : g.stack = .ref a :: rest) (hd : decode c.code g.pc = .ok (.getfield index, 3))
    (k : ∀ T', Wk p l e R s m args below meth c Z EL n0 ws own sf T' cells slots h → Go p e below Q (T'.setTop { g with pc := g.pc + 3, stack := v :: rest })) : Go p e below Q (T.setTop g) := by
  obtain ⟨vm0, locs, k0, X, eT, hS, hk, hZ, hown, r⟩ := W
  obtain ⟨T', X', e', st⟩ := RoadKit.getF X hx hZ hown w via eT F hg hs hd
  exact Go.of st (k T' ⟨vm0, locs, k0, X', e', hS, hk, hZ, hown, r⟩)
theorem Wk.getS (W : Wk p l e R s m args below meth c Z EL n0 ws own sf T cells slots h) (hx : p.tables.exec = Jvm.exec) {R0 O n d host : String} {index : Nat} (w : (Cond.fieldLink own index R0 n d).before a0 Z = true ∨ (Cond.fieldLinkNest own index R0 n d host).before a0 Z = true) (via : Via Z R0 O n d)
    (F : Sta Z Z.heap O n d v) {g : JFrame} (hg : g.method = m) (hd : decode c.code g.pc = .ok (.getstatic index, 3))
    (k : ∀ T', Wk p l e R s m args below meth c Z EL n0 ws own sf T' cells slots h → Go p e below Q (T'.setTop { g with pc := g.pc + 3, stack := v :: g.stack })) : Go p e below Q (T.setTop g) := by
  have F' := F.ext W.old.2
  obtain ⟨vm0, locs, k0, X, eT, hS, hk, hZ, hown, r⟩ := W
  obtain ⟨T', X', e', st⟩ := RoadKit.getS2 X hx hZ hown w via eT F' hg hd
  exact Go.of st (k T' ⟨vm0, locs, k0, X', e', hS, hk, hZ, hown, r⟩)
theorem Wk.castY (W : Wk p l e R s m args below meth c Z EL n0 ws own sf T cells slots h) (hx : p.tables.exec = Jvm.exec) {K : String} {index : Nat} (w : (Cond.classLink own index K).before a0 Z = true) (F : Ins Z h a K true) {g : JFrame} (hg : g.method = m) {rest : List Value} (hs : g.stack = .ref a :: rest) (hd : decode c.code g.pc = .ok (.checkcast index, 3))
    (k : ∀ T', Wk p l e R s m args below meth c Z EL n0 ws own sf T' cells slots h → Go p e below Q (T'.setTop { g with pc := g.pc + 3 })) : Go p e below Q (T.setTop g) := by
  obtain ⟨vm0, locs, k0, X, eT, hS, hk, hZ, hown, r⟩ := W
  obtain ⟨T', X', e', st⟩ := RoadKit.castY X hx hZ hown w eT F hg hs hd
  exact Go.of st (k T' ⟨vm0, locs, k0, X', e', hS, hk, hZ, hown, r⟩)
theorem Wk.initO (W : Wk p l e R s m args below meth c Z EL n0 ws own sf T cells slots h) (hx : p.tables.exec = Jvm.exec) {idx : Nat} (w1 : (Cond.methodLink own idx Lib.objectInit).before a0 Z = true) (w2 : (Cond.instanceMethod Lib.objectInit).before a0 Z = true)
    (w3 : (Cond.code Lib.objectInit ⟨#[0xb1]⟩ 1 none).before a0 Z = true) {g : JFrame} (hg : g.method = m) (hsize : g.locals.size = c.maxLocals) {rest : List Value} (hs : g.stack = .ref a :: rest) (hd : decode c.code g.pc = .ok (.invokespecial idx, 3))
    (hf : 1 ≤ R.frames) {Wd : Nat} (hW : 2 * g.monitorRoom + (rest.map fun v => v.category).sum ≤ Wd) (hl : Wd + 12 ≤ R.locals)
    (k : ∀ T', Wk p l e R s m args below meth c Z EL n0 ws own sf T' cells slots h → Go p e below Q (T'.setTop { g with pc := g.pc + 3, stack := rest })) : Go p e below Q (T.setTop g) := by
  obtain ⟨vm0, locs, k0, X, eT, hS, hk, hZ, hown, r⟩ := W
  obtain ⟨T', X', e', st⟩ := RoadKit.initO X hx hZ hown w1 w2 w3 eT hg hsize hs hd hf hW hl
  exact Go.of st (k T' ⟨vm0, locs, k0, X', e', hS, hk, hZ, hown, r⟩)
theorem Wk.newO (W : Wk p l e R s m args below meth c Z EL n0 ws own sf T cells slots h) (hx : p.tables.exec = Jvm.exec) {C : String} {index n : Nat} (w : (Cond.classLink own index C).before a0 Z = true) (wi : (Cond.instantiable C n).before a0 Z = true) (wz : (Cond.initialized C).before a0 Z = true)
    {g : JFrame} (hg : g.method = m) (hd : decode c.code g.pc = .ok (.new index, 3)) (hc : cells + 1 ≤ R.cells) (hl : slots + n ≤ R.slots)
    (k : ∀ T' h' b, b = h.size → n0 ≤ b ∧ s.heap.size ≤ b → Wk p l e R s m args below meth c Z EL n0 ws own (b :: sf) T' (cells + 1) (slots + n) h' → Keep h h' [] → Exa Z h' b C → (∀ {O nm d : String} {ty : FieldType}, Laid Z a0 C O nm d → parseFieldDescriptor d = some ty → Fld Z h' b O nm d (defaultValue ty)) →
      Go p e below Q (T'.setTop { g with pc := g.pc + 3, stack := .ref b :: g.stack })) : Go p e below Q (T.setTop g) := by
  have hle := W.n0le
  have hle' := W.s0le
  obtain ⟨vm0, locs, k0, X, eT, hS, hk, hZ, hown, hC, N, K, O, F⟩ := W
  obtain ⟨T', h', X', e', E, A, D, -, st⟩ := RoadKit.newO X hx hZ hown w wi wz eT hg hd hc hl
  exact Go.of st (k T' h' h.size rfl ⟨hle, hle'⟩ (wk_new X' e' E A.lt hS hk hZ hown hC N K O F) ((Keep.refl h []).ext E) A D)
theorem Wk.newP (W : Wk p l e R s m args below meth c Z EL n0 ws own sf T cells slots h) (hx : p.tables.exec = Jvm.exec) {aty : ArrayType} (w : (Cond.arrayClass (newarray.typeOf aty)).before a0 Z = true)
    {g : JFrame} (hg : g.method = m) (hd : decode c.code g.pc = .ok (.newarray aty, 2)) {n : Int32} {rest : List Value} (hs : g.stack = .int n :: rest)
    (hn : ¬ n < 0) {cap : Nat} (hcap : n.toNatClampNeg ≤ cap) (hb : cap * 8 ≤ 536870912) (hc : cells + 1 ≤ R.cells) (hl : slots + cap ≤ R.slots)
    (k : ∀ T' h' b kc, b = h.size → n0 ≤ b ∧ s.heap.size ≤ b → Wk p l e R s m args below meth c Z EL n0 ws own (b :: sf) T' (cells + 1) (slots + cap) h' → Keep h h' [] → Arv Z h' b kc (newarray.typeOf aty) n (List.replicate cap (defaultValue (newarray.typeOf aty))) (defaultValue (newarray.typeOf aty)) →
      Go p e below Q (T'.setTop { g with pc := g.pc + 2, stack := .ref b :: rest })) : Go p e below Q (T.setTop g) := by
  have hle := W.n0le
  have hle' := W.s0le
  obtain ⟨vm0, locs, k0, X, eT, hS, hk, hZ, hown, hC, N, K, O, F⟩ := W
  obtain ⟨T', h', kc, X', e', E, A, st⟩ := RoadKit.newP X hx hZ w eT hg hd hs hn hcap hb hc hl
  exact Go.of st (k T' h' h.size kc rfl ⟨hle, hle'⟩ (wk_new X' e' E A.lt hS hk hZ hown hC N K O F) ((Keep.refl h []).ext E) ((Arv.new A hn).pad (pad_rep [] _ cap)))
theorem Wk.putF (W : Wk p l e R s m args below meth c Z EL n0 ws own sf T cells slots h) (hx : p.tables.exec = Jvm.exec) {R0 O n d host C : String} {index kk : Nat} {ty : FieldType} (w : (Cond.fieldLink own index R0 n d).before a0 Z = true ∨ (Cond.fieldLinkNest own index R0 n d host).before a0 Z = true) (via : Via Z R0 O n d)
    {old : Value} (F : Fld Z h a O n d old) (E : Exa Z h a C) (L : (Cond.lays C O n d).before a0 Z = true ∨ ((Cond.laysFinal C O n d).before a0 Z = true ∧ own = O ∧ meth.name = "<init>")) (wi : (Cond.instantiable C kk).before a0 Z = true)
    (hty : parseFieldDescriptor d = some ty) (hn : narrow ty v = v) (hf : fits ty v = true) (ga : n0 ≤ a) (gw : a ∈ ws ∨ s.heap.size ≤ a) (sa : a ∈ sf ∨ (C ≠ "java/lang/String" ∧ C ≠ "[B")) {g : JFrame} (hg : g.method = m) {rest : List Value} (hs : g.stack = v :: .ref a :: rest) (hd : decode c.code g.pc = .ok (.putfield index, 3))
    (k : ∀ T' h', Wk p l e R s m args below meth c Z EL n0 ws own sf T' cells slots h' → Wr h h' a (RoadKit.slotOf Z O n d) v → Go p e below Q (T'.setTop { g with pc := g.pc + 3, stack := rest })) : Go p e below Q (T.setTop g) := by
  obtain ⟨vm0, locs, k0, X, eT, hS, hk, hZ, hown, hC, N, K, Ol, Fs⟩ := W
  have S : Safe Z EL vm0 h a := by
    rcases sa with q | ⟨q1, q2⟩
    · exact (Fs a q).1
    · exact Safe.exa hZ.alike E q1 q2
  obtain ⟨T', h', X', e', W', st⟩ := RoadKit.putF X hx hZ hown w via eT F E L wi hty hn hf hg hs hd
  exact Go.of st (k T' h' (wk_wr X' e' W' hS hk hZ hown hC N K Ol Fs S ga gw) W')
theorem Wk.stC (W : Wk p l e R s m args below meth c Z EL n0 ws own sf T cells slots h) (hx : p.tables.exec = Jvm.exec) {kc : ClassId} {z j y : Int32} {vs : List Value} {dv : Value} (V : Arv Z h a kc .char z vs dv) (hj : ¬ j < 0 ∧ j < z) (i : Nat) (hji : j.toNatClampNeg = i) (hi : i < vs.length) (ga : n0 ≤ a) (gw : a ∈ ws ∨ s.heap.size ≤ a)
    {g : JFrame} (hg : g.method = m) {rest : List Value} (hs : g.stack = .int y :: .int j :: .ref a :: rest) (hd : decode c.code g.pc = .ok (.castore, 1))
    (k : ∀ T' h', Wk p l e R s m args below meth c Z EL n0 ws own sf T' cells slots h' → Keep h h' [a] → Arv Z h' a kc .char z (vs.set i (.int (nar .char y))) dv → Go p e below Q (T'.setTop { g with pc := g.pc + 1, stack := rest })) : Go p e below Q (T.setTop g) := by
  obtain ⟨vm0, locs, k0, X, eT, hS, hk, hZ, hown, hC, N, K, Ol, Fs⟩ := W
  obtain ⟨cl, A, q1, S1, q3, H, G⟩ := V
  obtain ⟨T', h', X', e', W', st⟩ := RoadKit.stC X hx hZ eT A (j := j) (inb_of S1 hj) hg hs hd
  exact Go.of st (k T' h' (wk_wr X' e' W' hS hk hZ hown hC N K Ol Fs (Safe.arr hZ.alike A (by decide)) ga gw) (Keep.of_wr W') (Arv.set A q1 S1 q3 H G (fits_nar_char _) W' i hji hi))
theorem Wk.stB (W : Wk p l e R s m args below meth c Z EL n0 ws own sf T cells slots h) (hx : p.tables.exec = Jvm.exec) {kc : ClassId} {z j y : Int32} {vs : List Value} {dv : Value} (V : Arv Z h a kc .byte z vs dv) (hj : ¬ j < 0 ∧ j < z) (i : Nat) (hji : j.toNatClampNeg = i) (hi : i < vs.length) (ga : n0 ≤ a) (gw : a ∈ ws ∨ s.heap.size ≤ a) (sa : a ∈ sf)
    {g : JFrame} (hg : g.method = m) {rest : List Value} (hs : g.stack = .int y :: .int j :: .ref a :: rest) (hd : decode c.code g.pc = .ok (.bastore, 1))
    (k : ∀ T' h', Wk p l e R s m args below meth c Z EL n0 ws own sf T' cells slots h' → Keep h h' [a] → Arv Z h' a kc .byte z (vs.set i (.int (nar .byte y))) dv → Go p e below Q (T'.setTop { g with pc := g.pc + 1, stack := rest })) : Go p e below Q (T.setTop g) := by
  obtain ⟨vm0, locs, k0, X, eT, hS, hk, hZ, hown, hC, N, K, Ol, Fs⟩ := W
  obtain ⟨cl, A, q1, S1, q3, H, G⟩ := V
  obtain ⟨T', h', X', e', W', st⟩ := RoadKit.stB X hx hZ eT A (j := j) (inb_of S1 hj) hg hs hd
  exact Go.of st (k T' h' (wk_wr X' e' W' hS hk hZ hown hC N K Ol Fs (Fs a sa).1 ga gw) (Keep.of_wr W') (Arv.set A q1 S1 q3 H G (fits_nar_byte _) W' i hji hi))
theorem Wk.caload (W : Wk p l e R s m args below meth c Z EL n0 ws own sf T cells slots h) (hx : p.tables.exec = Jvm.exec) {kc : ClassId} {z j : Int32} {vs : List Value} {dv : Value} (V : Arv Z h a kc .char z vs dv) (hj : ¬ j < 0 ∧ j < z) (hv : vs.getD j.toNatClampNeg dv = v)
    {g : JFrame} (hg : g.method = m) {rest : List Value} (hs : g.stack = .int j :: .ref a :: rest) (hd : decode c.code g.pc = .ok (.caload, 1)) (k : Go p e below Q (T.setTop { g with pc := g.pc + 1, stack := v :: rest })) : Go p e below Q (T.setTop g) := by
  obtain ⟨vm0, locs, k0, X, eT, hS, hk, hZ, hown, r⟩ := W
  obtain ⟨cl, A, q1, S1, q3, H, G⟩ := V
  exact Go.of (fun t q => X.caload hx (by rw [eT]; exact A.1) (State.isArrayOf_alike hZ.alike A.2.1) A.2.2 (inb_of S1 hj) (H.at (inb_of S1 hj) hv) hg hs hd t q) k
theorem Wk.baload (W : Wk p l e R s m args below meth c Z EL n0 ws own sf T cells slots h) (hx : p.tables.exec = Jvm.exec) {kc : ClassId} {z j : Int32} {vs : List Value} {dv : Value} (V : Arv Z h a kc .byte z vs dv) (hj : ¬ j < 0 ∧ j < z) (hv : vs.getD j.toNatClampNeg dv = v)
    {g : JFrame} (hg : g.method = m) {rest : List Value} (hs : g.stack = .int j :: .ref a :: rest) (hd : decode c.code g.pc = .ok (.baload, 1)) (k : Go p e below Q (T.setTop { g with pc := g.pc + 1, stack := v :: rest })) : Go p e below Q (T.setTop g) := by
  obtain ⟨vm0, locs, k0, X, eT, hS, hk, hZ, hown, r⟩ := W
  obtain ⟨cl, A, q1, S1, q3, H, G⟩ := V
  exact Go.of (fun t q => X.baloadBytes hx (by rw [eT]; exact A.1) (State.isArrayOf_alike hZ.alike A.2.1) A.2.2 (inb_of S1 hj) (H.at (inb_of S1 hj) hv) hg hs hd t q) k
theorem Wk.alen (W : Wk p l e R s m args below meth c Z EL n0 ws own sf T cells slots h) (hx : p.tables.exec = Jvm.exec) {kc : ClassId} {z : Int32} {ty : FieldType} {vs : List Value} {dv : Value} (V : Arv Z h a kc ty z vs dv)
    {g : JFrame} (hg : g.method = m) {rest : List Value} (hs : g.stack = .ref a :: rest) (hd : decode c.code g.pc = .ok (.arraylength, 1)) (k : Go p e below Q (T.setTop { g with pc := g.pc + 1, stack := .int z :: rest })) : Go p e below Q (T.setTop g) := by
  obtain ⟨vm0, locs, k0, X, eT, hS, hk, hZ, hown, r⟩ := W
  obtain ⟨cl, A, q1, S1, q3, H, G⟩ := V
  exact Go.of (fun t q => X.arraylength hx (by rw [eT]; exact A.1) (State.isArrayOf_alike hZ.alike A.2.1) hg hs hd t (by rw [len_of S1 q3]; exact q)) k
theorem Wk.ldcI (W : Wk p l e R s m args below meth c Z EL n0 ws own sf T cells slots h) (hx : p.tables.exec = Jvm.exec) {index : Nat} {z : Int32} (w : (Cond.constant own index z).before a0 Z = true)
    {g : JFrame} (hg : g.method = m) (hd : decode c.code g.pc = .ok (.ldc index, 2)) (k : Go p e below Q (T.setTop { g with pc := g.pc + 2, stack := .int z :: g.stack })) : Go p e below Q (T.setTop g) := by
  obtain ⟨vm0, locs, k0, X, eT, hS, hk, hZ, hown, r⟩ := W
  exact Go.of (fun t q => X.ldcInt hx hown (mvT (s := s.setVm vm0) hZ w) hg hd t q) k
theorem Wk.ldcJ (W : Wk p l e R s m args below meth c Z EL n0 ws own sf T cells slots h) (hx : p.tables.exec = Jvm.exec) {index : Nat} {z : Int64} (w : (Cond.constantLong own index z).before a0 Z = true)
    {g : JFrame} (hg : g.method = m) (hd : decode c.code g.pc = .ok (.ldc2_w index, 3)) (k : Go p e below Q (T.setTop { g with pc := g.pc + 3, stack := .long z :: g.stack })) : Go p e below Q (T.setTop g) := by
  obtain ⟨vm0, locs, k0, X, eT, hS, hk, hZ, hown, r⟩ := W
  exact Go.of (fun t q => X.ldc2Long hx hown (mvT (s := s.setVm vm0) hZ w) hg hd t q) k
/-! String constants -/
theorem wk_tab {k1 : Nat} (X : Stand p l e R (s.setVm vm1) m args below meth c T' locs cells slots) (e' : T'.heap = h') (E : Keep h h' ws') (gws : ∀ x ∈ ws', n0 ≤ x ∧ (x ∈ ws ∨ s.heap.size ≤ x)) (hS : s.Since vm1 k1) (hk : k1 ≤ h'.size) (hZ : Z.Warmed39 vm1) (hown : vm1.findClass own = some m.cls) (A : CHr Z EL vm0 h vm1 h') (hC : CHr Z EL s.vm s.heap vm0 h) (N : Fr n0 locs) (K : Keep s.heap h ws) (O : Old Z n0 h)
    (F : ∀ x ∈ sf, Safe Z EL vm0 h x ∧ x < h.size) : Wk p l e R s m args below meth c Z EL n0 ws own sf T' cells slots h' :=
  ⟨vm1, locs, k1, X, e', hS, hk, hZ, hown, hC.trans A, N, K.trans E fun y hy => (gws y hy).2, O.keep E fun y hy => (gws y hy).1, fun y hy => ⟨CHr.safe A (F y hy).2 (F y hy).1, Nat.lt_of_lt_of_le (F y hy).2 E.1⟩⟩
theorem Wk.ldcC (W : Wk p l e R s m args below meth c Z EL n0 ws own sf T cells slots h) (hx : p.tables.exec = Jvm.exec) (hEL : EW Z a0 EL) {text : String} {index : Nat} (hmem : (own, index) ∈ EL) (w : (Cond.stringLink own index text).before a0 Z = true) (wS : ∀ a ∈ Bundle.stringAtoms, a.before a0 Z = true)
    (vs : List Value) (z : Int32) (ht : (∀ c ∈ text.toList, c.toNat < 256) ∧ text.toList.map (fun c => Value.int (Jvm.Lit.byteI c.toNat.toUInt16)) = vs) (hz : ¬ z < 0) (hl : z.toNatClampNeg = vs.length)
    {g : JFrame} (hg : g.method = m) (hd : decode c.code g.pc = .ok (.ldc index, 2)) {n : Nat} (hn : 4 * text.toList.length ≤ n) (hbig : n ≤ 536870912) (hc : cells + 2 ≤ R.cells) (hsl : slots + (n + 4) ≤ R.slots)
    (k : ∀ T' h' b t kb, Wk p l e R s m args below meth c Z EL n0 ws own sf T' (cells + 2) (slots + (n + 4)) h' → Keep h h' [] → Exa Z h' b "java/lang/String" → Fld Z h' b "java/lang/String" "value" "[B" (.ref t) → Fld Z h' b "java/lang/String" "coder" "B" (.int 0) → Arv Z h' t kb .byte z vs (.int 0) → (∀ x ∈ sf, x ≠ b ∧ x ≠ t) → Go p e below Q (T'.setTop { g with pc := g.pc + 2, stack := .ref b :: g.stack })) : Go p e below Q (T.setTop g) := by
  obtain ⟨vm0, locs, k0, X, eT, hS, hk, hZ, hown, hC, N, K, Ol, Fs⟩ := W
  obtain ⟨b, T', h', k1, t, kb, X', e', E, hS', hk', hZ', hown', E1, F1, F2, A1, -, -, A, -, hne, st⟩ := ldcCH X hx hZ hown w wS eT hS hk hEL hmem hC.1 ht hz hl hg hd hn hbig hc hsl
  have K1 : Keep h h' [] := (Keep.refl h []).ext E
  exact Go.of st (k T' h' b t kb (wk_tab X' e' K1 all0 hS' hk' hZ' hown' A hC N K Ol Fs) K1 E1 F2 F1 A1 (fun x hx => hne x (CHr.safe A (Fs x hx).2 (Fs x hx).1)))
/-! contracts -/
def Met (l : Launch) (Z : State) (EL : List (String × Nat)) (n0 : Nat) (y : MethodName) (bytes : ByteArray) (maxL : Nat) (ret : Option FieldType) (wl : List Cond) (rm : Room) (as' : Array Value) (h : Heap) (ws sf : List Addr) (Qv : Option Value → Heap → (Addr → Prop) → Prop) : Prop :=
  MetFree l y (head1 (Cond.code y bytes maxL ret :: wl) rm) (fun a U => a = as' ∧ Z.Warmed39 U.vm ∧ U.heap = h ∧ CHv Z EL U.vm h ∧ ∀ x ∈ sf, Safe Z EL U.vm h x ∧ x < h.size) (fun _ _ _ _ _ => True)
    (fun _ U o U' => ∃ v L, o = .returned v ∧ (Qv v U'.heap (fun x => Safe Z EL U'.vm U'.heap x ∧ x < U'.heap.size) ∧ Fr n0 L ∧ Keep h U'.heap ws) ∧ CHr Z EL U.vm U.heap U'.vm U'.heap ∧ ReturnedEndW U o U' L rm.cells rm.slots)
def Fend (Z : State) (EL : List (String × Nat)) (n0 : Nat) (s : State) (h : Heap) (ws : List Addr) (Qv : Option Value → Heap → (Addr → Prop) → Prop) (rm : Room) (o : Outcome) (t : State) : Prop :=
  ∃ v L, o = .returned v ∧ (Qv v t.heap (fun x => Safe Z EL t.vm t.heap x ∧ x < t.heap.size) ∧ Fr n0 L ∧ Keep h t.heap ws) ∧ CHr Z EL s.vm s.heap t.vm t.heap ∧ ReturnedEndW s o t L rm.cells rm.slots
variable {y : MethodName} {bytes : ByteArray} {maxL : Nat} {ret : Option FieldType} {wl : List Cond} {rm : Room} {as' : Array Value} {Qv : Option Value → Heap → (Addr → Prop) → Prop}
theorem Met.of (hy : plainFor y = true) (O : Old Z n0 h) (body : ∀ (p : Program) (e : Env) (s : State) (m : MethodId) (below : List Frame) (meth : Method) (c : Code) (T : State), p.tables.exec = Jvm.exec → c.code = bytes → c.maxLocals = maxL → meth.sig.returnType = ret → meth.locks = false → meth.name = y.name → s.heap = h →
      Wk p l e rm s m as' below meth c Z EL n0 ws y.cls sf T 0 0 h → Go p e below (Fend Z EL n0 s h ws Qv rm) (T.setTop (entryFrame m as' maxL))) : Met l Z EL n0 y bytes maxL ret wl rm as' h ws sf Qv := by
  refine MetFree.of_bodySF hy hisR ?_
  intro p e s m args below meth c s₁ Bd hml0 hP hK
  obtain ⟨rfl, hZ, hh, hC, hF⟩ := hP
  subst hh
  have e0 : s₁.heap = s.heap := by rw [Bd.state]; rfl
  have hown := findClass_of_methodNamed Bd.named
  have X0 : Stand p l e rm s m args below meth c s₁ [] 0 0 := Stand.of_body Bd
  obtain ⟨s₂, o, st, r1, r2, q⟩ := body p e s m below meth c s₁ Bd.exec Bd.bytes hml0 Bd.returns Bd.notSynchronized (name_of_methodNamed Bd.named Bd.method).1 rfl ⟨s.vm, [], 0, X0, e0, (State.WarmedH.refl s).since 0, Nat.zero_le _, hZ, hown, CHr.refl hC, Fr.nil n0, Keep.refl _ _, O, hF⟩
  exact ⟨s₂, o, st, r1, r2, q⟩
theorem Wk.fin {g : JFrame} (W : Wk p l e rm s m args below meth c Z EL n0 ws own sf T cells slots h') (hEL : EW Z a0 EL) (hs : s.heap = h) (hlk : meth.locks = false) (hc : cells ≤ rm.cells) (hl : slots ≤ rm.slots) {w : Option Value} (hv : meth.sig.returnType = none → w = none) (hq : ∀ S : Addr → Prop, (∀ x ∈ sf, S x) → Qv w h' S)
    (k : ∀ (vm0 : Vm) (locs : List Loc) (fs : List Frame), Stand p l e rm (s.setVm vm0) m args below meth c T locs cells slots → (∀ (f : JFrame) (acts : List Action), f.method = m → f.locked = none → f.entered = [] → (doReturn e (T.setTop f) acts w).1 = T.setFrames fs) → Steps p.tables e below (T.setTop g) (T.setFrames fs)) : Go p e below (Fend Z EL n0 s h ws Qv rm) (T.setTop g) := by
  obtain ⟨vm0, locs, k0, X, eT, hS, hk, hZ, hown, hC, N, K, Ol, Fs⟩ := W
  subst hs eT
  obtain ⟨fs, hr, hrun, hended, q1, q2, q3, q4⟩ := X.leaveW hS hk hv hlk
  refine ⟨T.setFrames fs, .returned w, k vm0 locs fs X hr, hrun, hended, w, locs, rfl, ⟨hq _ (fun x hx => (show Safe Z EL T.vm T.heap x ∧ x < T.heap.size from ⟨CHr.safe (CHv.at X hZ hEL hC.1) (Fs x hx).2 (Fs x hx).1, (Fs x hx).2⟩)), N, K⟩, (show CHr Z EL s.vm s.heap T.vm T.heap from hC.trans (CHv.at X hZ hEL hC.1)), q1, q2, q3, q4.mono hc hl⟩
theorem Wk.retG (W : Wk p l e rm s m args below meth c Z EL n0 ws own sf T cells slots h') (hx : p.tables.exec = Jvm.exec) (hEL : EW Z a0 EL) (hs : s.heap = h) (hlk : meth.locks = false) (hc : cells ≤ rm.cells) (hl : slots ≤ rm.slots) {pc : Nat} {Ls : Array Slot} {w : Value} {t : FieldType} {i : Instr} {rest : List Value} (hret : meth.sig.returnType = some t) (hn : narrow t w = w)
    (hi : (i = .ireturn ∧ (t = .int ∨ t = .boolean ∨ t = .byte ∨ t = .char ∨ t = .short) ∧ ∃ z, w = .int z) ∨ (i = .lreturn ∧ t = .long ∧ ∃ z, w = .long z) ∨ (i = .dreturn ∧ t = .double ∧ ∃ z, w = .double z) ∨ (i = .freturn ∧ t = .float ∧ ∃ z, w = .float z) ∨ (i = .areturn ∧ t.isReference = true ∧ w.isRef = true))
    (hd : decode c.code pc = .ok (i, 1)) (hq : ∀ S : Addr → Prop, (∀ x ∈ sf, S x) → Qv (some w) h' S) : Go p e below (Fend Z EL n0 s h ws Qv rm) (T.setTop (mkF m pc Ls (w :: rest))) :=
  W.fin hEL hs hlk hc hl (w := some w) (fun q => by rw [hret] at q; cases q) hq (fun vm0 locs fs X hr => RoadKit.retOut X hx hret hn hi hd hr)
theorem Wk.retI (W : Wk p l e rm s m args below meth c Z EL n0 ws own sf T cells slots h') (hx : p.tables.exec = Jvm.exec) (hEL : EW Z a0 EL) (hs : s.heap = h) (hlk : meth.locks = false) (hc : cells ≤ rm.cells) (hl : slots ≤ rm.slots) {pc : Nat} {Ls : Array Slot} {w : Int32} {t : FieldType} {rest : List Value} (hret : meth.sig.returnType = some t) (ht : t = .int ∨ t = .boolean ∨ t = .byte ∨ t = .char ∨ t = .short) (hn : narrow t (.int w) = .int w)
    (hd : decode c.code pc = .ok (.ireturn, 1)) (hq : ∀ S : Addr → Prop, (∀ x ∈ sf, S x) → Qv (some (.int w)) h' S) : Go p e below (Fend Z EL n0 s h ws Qv rm) (T.setTop (mkF m pc Ls (.int w :: rest))) :=
  W.retG hx hEL hs hlk hc hl hret hn (Or.inl ⟨rfl, ht, w, rfl⟩) hd hq
theorem Wk.retA (W : Wk p l e rm s m args below meth c Z EL n0 ws own sf T cells slots h') (hx : p.tables.exec = Jvm.exec) (hEL : EW Z a0 EL) (hs : s.heap = h) (hlk : meth.locks = false) (hc : cells ≤ rm.cells) (hl : slots ≤ rm.slots) {pc : Nat} {Ls : Array Slot} {w : Value} {t : FieldType} {rest : List Value} (hret : meth.sig.returnType = some t) (ht : t.isReference = true) (hw : w.isRef = true)
    (hd : decode c.code pc = .ok (.areturn, 1)) (hq : ∀ S : Addr → Prop, (∀ x ∈ sf, S x) → Qv (some w) h' S) : Go p e below (Fend Z EL n0 s h ws Qv rm) (T.setTop (mkF m pc Ls (w :: rest))) :=
  W.retG hx hEL hs hlk hc hl hret (by cases t <;> cases w <;> first | rfl | cases ht | cases hw) (Or.inr (Or.inr (Or.inr (Or.inr ⟨rfl, ht, hw⟩)))) hd hq
theorem Wk.retL (W : Wk p l e rm s m args below meth c Z EL n0 ws own sf T cells slots h') (hx : p.tables.exec = Jvm.exec) (hEL : EW Z a0 EL) (hs : s.heap = h) (hlk : meth.locks = false) (hc : cells ≤ rm.cells) (hl : slots ≤ rm.slots) {pc : Nat} {Ls : Array Slot} {w : Int64} {rest : List Value} (hret : meth.sig.returnType = some .long)
    (hd : decode c.code pc = .ok (.lreturn, 1)) (hq : ∀ S : Addr → Prop, (∀ x ∈ sf, S x) → Qv (some (.long w)) h' S) : Go p e below (Fend Z EL n0 s h ws Qv rm) (T.setTop (mkF m pc Ls (.long w :: rest))) :=
  W.retG hx hEL hs hlk hc hl hret rfl (Or.inr (Or.inl ⟨rfl, rfl, w, rfl⟩)) hd hq
theorem Wk.retV (W : Wk p l e rm s m args below meth c Z EL n0 ws own sf T cells slots h') (hx : p.tables.exec = Jvm.exec) (hEL : EW Z a0 EL) (hs : s.heap = h) (hlk : meth.locks = false) (hc : cells ≤ rm.cells) (hl : slots ≤ rm.slots) {pc : Nat} {Ls : Array Slot} (hret : meth.sig.returnType = none)
    (hd : decode c.code pc = .ok (.return_, 1)) (hq : ∀ S : Addr → Prop, (∀ x ∈ sf, S x) → Qv none h' S) : Go p e below (Fend Z EL n0 s h ws Qv rm) (T.setTop (mkF m pc Ls [])) :=
  W.fin hEL hs hlk hc hl (w := none) (fun _ => rfl) hq (fun vm0 locs fs X hr => X.returnOut hx hret hd hr)
/-! calls of what has a contract -/
/-- Wk with the tables named -/
def WkAt (p : Program) (l : Launch) (e : Env) (R : Room) (s : State) (m : MethodId) (args : Array Value) (below : List Frame) (meth : Method) (c : Code) (Z : State) (EL : List (String × Nat)) (n0 : Nat) (ws : List Addr) (own : String) (sf : List Addr) (T : State) (cells slots : Nat) (h : Heap) (vm0 : Vm) : Prop :=
  ∃ (locs : List Loc) (k0 : Nat), Stand p l e R (s.setVm vm0) m args below meth c T locs cells slots ∧ T.heap = h ∧ s.Since vm0 k0 ∧ k0 ≤ h.size ∧ Z.Warmed39 vm0 ∧ vm0.findClass own = some m.cls ∧ CHr Z EL s.vm s.heap vm0 h ∧ Fr n0 locs ∧ Keep s.heap h ws ∧ Old Z n0 h ∧ ∀ x ∈ sf, Safe Z EL vm0 h x ∧ x < h.size
theorem wk_tabAt {k1 : Nat} (X : Stand p l e R (s.setVm vm1) m args below meth c T' locs cells slots) (e' : T'.heap = h') (E : Keep h h' ws') (gws : ∀ x ∈ ws', n0 ≤ x ∧ (x ∈ ws ∨ s.heap.size ≤ x)) (hS : s.Since vm1 k1) (hk : k1 ≤ h'.size) (hZ : Z.Warmed39 vm1) (hown : vm1.findClass own = some m.cls) (A : CHr Z EL vm0 h vm1 h') (hC : CHr Z EL s.vm s.heap vm0 h) (N : Fr n0 locs) (K : Keep s.heap h ws) (O : Old Z n0 h)
    (F : ∀ x ∈ sf, Safe Z EL vm0 h x ∧ x < h.size) : WkAt p l e R s m args below meth c Z EL n0 ws own sf T' cells slots h' vm1 :=
  ⟨locs, k1, X, e', hS, hk, hZ, hown, hC.trans A, N, K.trans E fun y hy => (gws y hy).2, O.keep E fun y hy => (gws y hy).1, fun y hy => ⟨CHr.safe A (F y hy).2 (F y hy).1, Nat.lt_of_lt_of_le (F y hy).2 E.1⟩⟩
theorem wk_more {sfx : List Addr} (W : WkAt p l e R s m args below meth c Z EL n0 ws own sf T cells slots h vm0) (hx : ∀ x ∈ sfx, Safe Z EL vm0 h x ∧ x < h.size) : Wk p l e R s m args below meth c Z EL n0 ws own (sfx ++ sf) T cells slots h := by
  obtain ⟨locs, k0, X, eT, hS, hk, hZ, hown, hC, N, K, O, F⟩ := W
  exact ⟨vm0, locs, k0, X, eT, hS, hk, hZ, hown, hC, N, K, O, fun y hy => (List.mem_append.mp hy).elim (hx y) (F y)⟩
theorem wk_call {U : State} {L : List Loc} {rcells rslots : Nat} (X : Stand p l e R (s.setVm vm0) m args below meth c T locs cells slots) (X' : Stand p l e R ((s.setVm vm0).setVm U.vm) m args below meth c U (locs ++ L) (cells + rcells) (slots + rslots)) (hS' : (s.setVm vm0).Since U.vm U.heap.size) (hle : T.heap.size ≤ U.heap.size) (eT : T.heap = h) (N' : Fr n0 L) (K' : Keep h U.heap ws') (A : CHr Z EL vm0 h U.vm U.heap) (gws : ∀ x ∈ ws', n0 ≤ x ∧ (x ∈ ws ∨ s.heap.size ≤ x))
    (hS : s.Since vm0 k0) (hk : k0 ≤ h.size) (hZ : Z.Warmed39 vm0) (hown : vm0.findClass own = some m.cls) (hC : CHr Z EL s.vm s.heap vm0 h) (N : Fr n0 locs) (K : Keep s.heap h ws) (O : Old Z n0 h) (F : ∀ x ∈ sf, Safe Z EL vm0 h x ∧ x < h.size) : WkAt p l e R s m args below meth c Z EL n0 ws own sf U (cells + rcells) (slots + rslots) U.heap U.vm :=
  wk_tabAt (T' := U) (h' := U.heap) (vm1 := U.vm) (locs := locs ++ L) X' rfl K' gws (hS.trans hS' (Nat.le_trans hk (eT ▸ hle))) (Nat.le_refl _) (State.Warmed39.trans (t := s.setVm vm0) hZ hS'.1) ((hS'.1.alike.findClass _ _).trans hown) A hC (N.app N') K O F
theorem Met.pay {sf' : List Addr} {len Wd : Nat} (M : Met l Z EL n0 y bytes maxL ret [] rm as' h ws' sf' Qv) (hZ : Z.Warmed39 vm0) (wc : (Cond.code y bytes maxL ret).before a0 Z = true) (wz : (Cond.initialized y.cls).before a0 Z = true) (hf : rm.frames + 1 ≤ R.frames) (hl : Wd + (maxL + 11) + rm.locals ≤ R.locals) (hEL : EW Z a0 EL) (H : CHv Z EL vm0 h) (HS : ∀ x ∈ sf', Safe Z EL vm0 h x ∧ x < h.size) :
    BackS l R p e below (s.setVm vm0) args y len Wd (fun A a => a = as' ∧ A.U.heap = h ∧ A.cells + rm.cells ≤ R.cells ∧ A.slots + rm.slots ≤ R.slots)
      (fun A _ v B => ∃ L, (Qv v B.U.heap (fun x => Safe Z EL B.U.vm B.U.heap x ∧ x < B.U.heap.size) ∧ Fr n0 L ∧ Keep h B.U.heap ws') ∧ B.locs = A.locs ++ L ∧ B.cells = A.cells + rm.cells ∧ B.slots = A.slots + rm.slots ∧ CHr Z EL vm0 h B.U.vm B.U.heap) := by
  refine BackS.of_freeW (bytes := bytes) (maxL := maxL) (ret := ret) (E := fun _ first o t L k n => k = rm.cells ∧ n = rm.slots ∧ (∃ v, o = .returned v ∧ (Qv v t.heap (fun x => Safe Z EL t.vm t.heap x ∧ x < t.heap.size) ∧ Fr n0 L ∧ Keep h t.heap ws')) ∧ CHr Z EL first.vm first.heap t.vm t.heap) M hf hl ?_ ?_ (fun _ _ _ _ _ _ _ _ _ => trivial) ?_ ?_
  · intro m meth c A a Y hp
    have hU : Z.Warmed39 A.U.vm := wtrans (s := s.setVm vm0) hZ Y.warmed
    exact ⟨by show (Cond.and _ .tt).before a A.U = true; rw [Cond.before_and, mv hU wc]; rfl, mv hU wc, mv hU wz, hp.2.2.1, hp.2.2.2⟩
  · intro m meth c A a g mk Y hp
    have C0 := CHv.at Y hZ hEL H
    exact ⟨hp.1, wtrans (s := s.setVm vm0) hZ Y.warmed, hp.2.1, C0.1, fun x hx => ⟨C0.safe (HS x hx).2 (HS x hx).1, (HS x hx).2⟩⟩
  · rintro _ _ _ _ ⟨v, L, h1, h2, h3, h4⟩
    exact ⟨L, _, _, h4, rfl, rfl, ⟨v, h1, h2⟩, h3⟩
  · rintro m meth c A a g mk v t L k n Y hp _ _ ⟨e1, e2, ⟨v', e3, e4⟩, e5⟩
    cases e3; subst e1 e2
    refine ⟨L, e4, rfl, rfl, rfl, (CHv.at Y hZ hEL H).trans ?_⟩
    rw [← hp.2.1]; exact e5
theorem Wk.callS (W : Wk p l e R s m args below meth c Z EL n0 ws own sf T cells slots h) (hx : p.tables.exec = Jvm.exec) (hEL : EW Z a0 EL) {index : Nat} (w1 : (Cond.methodLink own index y).before a0 Z = true) (w2 : (Cond.static y).before a0 Z = true) (w3 : (Cond.initialized y.cls).before a0 Z = true) (w4 : (Cond.code y bytes maxL ret).before a0 Z = true)
    (hy : y.cls ≠ "java/lang/invoke/MethodHandle" ∧ y.cls ≠ "java/lang/invoke/VarHandle") {argsL rest : List Value} {sf' : List Addr} (M : Met l Z EL n0 y bytes maxL ret [] rm argsL.toArray h ws' sf' Qv) (hsf : ∀ x ∈ sf', x ∈ sf) (hf : rm.frames + 1 ≤ R.frames) {Wd : Nat} (hl : Wd + (maxL + 11) + rm.locals ≤ R.locals) (hc : cells + rm.cells ≤ R.cells) (hsl : slots + rm.slots ≤ R.slots)
    (gws : ∀ x ∈ ws', n0 ≤ x ∧ (x ∈ ws ∨ s.heap.size ≤ x)) {g : JFrame} (hg : g.method = m) (hsize : g.locals.size = c.maxLocals) (hlen : ∀ sig, parseMethodDescriptor y.desc = some sig → argsL.length = sig.parameters.length) (hstack : g.stack = argsL.reverse ++ rest) (hW : 2 * g.monitorRoom + (rest.map fun v => v.category).sum ≤ Wd)
    (hd : decode c.code g.pc = .ok (.invokestatic index, 3)) (k : ∀ T' h' v (S : Addr → Prop), (∀ sfx : List Addr, (∀ x ∈ sfx, S x) → Wk p l e R s m args below meth c Z EL n0 ws own (sfx ++ sf) T' (cells + rm.cells) (slots + rm.slots) h') → Keep h h' ws' → Qv v h' S → Go p e below Q (T'.setTop { g with pc := g.pc + 3, stack := v.toList ++ rest })) : Go p e below Q (T.setTop g) := by
  obtain ⟨vm0, locs, k0, X, eT, hS, hk, hZ, hown, hC, N, K, Ol, Fs⟩ := W
  obtain ⟨v, vm₁, ⟨U, Lb, kb, nb⟩, hw, X', hS', hle, ⟨L, ⟨q, N', K'⟩, e1, e2, e3, A⟩, st⟩ := callSS X hx hown (mvT (s := s.setVm vm0) hZ w1) (mvT (s := s.setVm vm0) hZ w2) (mvT (s := s.setVm vm0) hZ w3) (mvT (s := s.setVm vm0) hZ w4) hy (Met.pay (s := s) (Wd := Wd) M hZ w4 w3 hf hl hEL hC.1 (fun x hx => Fs x (hsf x hx))) hg hsize hlen hstack hW hd (fun _ _ => ⟨rfl, eT, hc, hsl⟩)
  dsimp only [Pt.U, Pt.locs, Pt.cells, Pt.slots] at X' hS' hle q K' e1 e2 e3 A st
  subst e1 e2 e3
  exact Go.on st (k U U.heap v _ (fun sfx hx => wk_more (wk_call X X' hS' hle eT N' K' A gws hS hk hZ hown hC N K Ol Fs) hx) K' q)
theorem Wk.callP (W : Wk p l e R s m args below meth c Z EL n0 ws own sf T cells slots h) (hx : p.tables.exec = Jvm.exec) (hEL : EW Z a0 EL) {index : Nat} (hy1 : y.name = "<init>") (w1 : (Cond.methodLink own index y).before a0 Z = true) (w2 : (Cond.instanceMethod y).before a0 Z = true) (w3 : (Cond.initialized y.cls).before a0 Z = true) (w4 : (Cond.code y bytes maxL none).before a0 Z = true)
    (hy : y.cls ≠ "java/lang/invoke/MethodHandle" ∧ y.cls ≠ "java/lang/invoke/VarHandle") {argsL rest : List Value} {sf' : List Addr} (M : Met l Z EL n0 y bytes maxL none [] rm (.ref a :: argsL).toArray h ws' sf' Qv) (hsf : ∀ x ∈ sf', x ∈ sf) (hf : rm.frames + 1 ≤ R.frames) {Wd : Nat} (hl : Wd + (maxL + 11) + rm.locals ≤ R.locals) (hc : cells + rm.cells ≤ R.cells) (hsl : slots + rm.slots ≤ R.slots)
    (gws : ∀ x ∈ ws', n0 ≤ x ∧ (x ∈ ws ∨ s.heap.size ≤ x)) {g : JFrame} (hg : g.method = m) (hsize : g.locals.size = c.maxLocals) (hlen : ∀ sig, parseMethodDescriptor y.desc = some sig → argsL.length = sig.parameters.length) (hstack : g.stack = argsL.reverse ++ .ref a :: rest) (hW : 2 * g.monitorRoom + (rest.map fun v => v.category).sum ≤ Wd)
    (hd : decode c.code g.pc = .ok (.invokespecial index, 3)) (k : ∀ T' h' v (S : Addr → Prop), (∀ sfx : List Addr, (∀ x ∈ sfx, S x) → Wk p l e R s m args below meth c Z EL n0 ws own (sfx ++ sf) T' (cells + rm.cells) (slots + rm.slots) h') → Keep h h' ws' → Qv v h' S → Go p e below Q (T'.setTop { g with pc := g.pc + 3, stack := v.toList ++ rest })) : Go p e below Q (T.setTop g) := by
  obtain ⟨vm0, locs, k0, X, eT, hS, hk, hZ, hown, hC, N, K, Ol, Fs⟩ := W
  obtain ⟨v, vm₁, ⟨U, Lb, kb, nb⟩, hw, X', hS', hle, ⟨L, ⟨q, N', K'⟩, e1, e2, e3, A⟩, st⟩ := X.specialBackS hx hy1 hown (mvT (s := s.setVm vm0) hZ w1) (mvT (s := s.setVm vm0) hZ w2) (mvT (s := s.setVm vm0) hZ w4) hy (Met.pay (s := s) (Wd := Wd) M hZ w4 w3 hf hl hEL hC.1 (fun x hx => Fs x (hsf x hx))) hg hsize (Steps.refl _) hlen hstack hW hd (fun _ _ => ⟨rfl, eT, hc, hsl⟩)
  dsimp only [Pt.U, Pt.locs, Pt.cells, Pt.slots] at X' hS' hle q K' e1 e2 e3 A st
  subst e1 e2 e3
  exact Go.on st (k U U.heap v _ (fun sfx hx => wk_more (wk_call X X' hS' hle eT N' K' A gws hS hk hZ hown hC N K Ol Fs) hx) K' q)
theorem Wk.callV (W : Wk p l e R s m args below meth c Z EL n0 ws own sf T cells slots h) (hx : p.tables.exec = Jvm.exec) (hEL : EW Z a0 EL) {index : Nat} {C : String} (w1 : (Cond.methodLink own index y).before a0 Z = true) (w2 : (Cond.declares y).before a0 Z = true) (w5 : (Cond.selects C y y).before a0 Z = true) (w6 : (Cond.instanceMethod y).before a0 Z = true) (w3 : (Cond.initialized y.cls).before a0 Z = true) (w4 : (Cond.code y bytes maxL ret).before a0 Z = true)
    (hy : y.cls ≠ "java/lang/invoke/MethodHandle" ∧ y.cls ≠ "java/lang/invoke/VarHandle") (Ea : Exa Z h a C) {argsL rest : List Value} {sf' : List Addr} (M : Met l Z EL n0 y bytes maxL ret [] rm (.ref a :: argsL).toArray h ws' sf' Qv) (hsf : ∀ x ∈ sf', x ∈ sf) (hf : rm.frames + 1 ≤ R.frames) {Wd : Nat} (hl : Wd + (maxL + 11) + rm.locals ≤ R.locals) (hc : cells + rm.cells ≤ R.cells) (hsl : slots + rm.slots ≤ R.slots)
    (gws : ∀ x ∈ ws', n0 ≤ x ∧ (x ∈ ws ∨ s.heap.size ≤ x)) {g : JFrame} (hg : g.method = m) (hsize : g.locals.size = c.maxLocals) (hlen : ∀ sig, parseMethodDescriptor y.desc = some sig → argsL.length = sig.parameters.length) (hstack : g.stack = argsL.reverse ++ .ref a :: rest) (hW : 2 * g.monitorRoom + (rest.map fun v => v.category).sum ≤ Wd)
    (hd : decode c.code g.pc = .ok (.invokevirtual index, 3)) (k : ∀ T' h' v (S : Addr → Prop), (∀ sfx : List Addr, (∀ x ∈ sfx, S x) → Wk p l e R s m args below meth c Z EL n0 ws own (sfx ++ sf) T' (cells + rm.cells) (slots + rm.slots) h') → Keep h h' ws' → Qv v h' S → Go p e below Q (T'.setTop { g with pc := g.pc + 3, stack := v.toList ++ rest })) : Go p e below Q (T.setTop g) := by
  obtain ⟨vm0, locs, k0, X, eT, hS, hk, hZ, hown, hC, N, K, Ol, Fs⟩ := W
  obtain ⟨cB, kB, qa, qb, qc⟩ := isOf (s := s.setVm vm0) hZ eT Ea
  obtain ⟨v, vm₁, ⟨U, Lb, kb, nb⟩, hw, X', hS', hle, ⟨L, ⟨q, N', K'⟩, e1, e2, e3, A⟩, st⟩ := X.virtualBackS hx (z := y) hown (mvT (s := s.setVm vm0) hZ w1) (mvT (s := s.setVm vm0) hZ w2) (notFace_of_selects (args := #[]) (mvT (s := s.setVm vm0) hZ w5)) (mvT (s := s.setVm vm0) hZ w5) (mvT (s := s.setVm vm0) hZ w6) hy (Met.pay (s := s) (Wd := Wd) M hZ w4 w3 hf hl hEL hC.1 (fun x hx => Fs x (hsf x hx))) qa qc hg hsize (Steps.refl _) hlen hstack hW hd (fun _ _ => ⟨rfl, eT, hc, hsl⟩)
  dsimp only [Pt.U, Pt.locs, Pt.cells, Pt.slots] at X' hS' hle q K' e1 e2 e3 A st
  subst e1 e2 e3
  exact Go.on st (k U U.heap v _ (fun sfx hx => wk_more (wk_call X X' hS' hle eT N' K' A gws hS hk hZ hown hC N K Ol Fs) hx) K' q)
/-! calls: a private method by invokevirtual; a method that lands elsewhere; super's -/
theorem privBackS (X : Stand p l e R s m args below meth c T locs cells slots) (hexec : p.tables.exec = Jvm.exec) {own C : String} {index : Nat} {y : MethodName}
    (hown : s.vm.findClass own = some m.cls) (hlink : (Cond.methodLink own index y).before args s = true) (hcode : (Cond.code y bytes maxL ret).before args s = true)
    (hsel : (Cond.selects C y y).before args s = true) (hinst : (Cond.instanceMethod y).before args s = true)
    (hy : y.cls ≠ "java/lang/invoke/MethodHandle" ∧ y.cls ≠ "java/lang/invoke/VarHandle")
    {W : Nat} {Pre : Pt → Array Value → Prop} {Post : Pt → Array Value → Option Value → Pt → Prop} (hK : BackS l R p e below s args y 3 W Pre Post)
    {b : Addr} {cB : ClassId} (hcB : s.vm.findClass C = some cB) (hrecv : IsOf cB T b)
    {g : JFrame} (hg : g.method = m) (hsize : g.locals.size = c.maxLocals) {s₀ : State} (hcome : Steps p.tables e below s₀ (T.setTop g)) {argsL rest : List Value}
    (hlen : ∀ sig, parseMethodDescriptor y.desc = some sig → argsL.length = sig.parameters.length) (hstack : g.stack = argsL.reverse ++ .ref b :: rest) (hW : 2 * g.monitorRoom + (rest.map fun v => v.category).sum ≤ W)
    (hdg : decode c.code g.pc = .ok (.invokevirtual index, 3)) (hpre : ∀ vm₁, s.WarmedH vm₁ → Pre ⟨T.setVm vm₁, locs, cells, slots⟩ (.ref b :: argsL).toArray) :
    ∃ (v : Option Value) (vm₁ : Vm) (B : Pt), s.WarmedH vm₁ ∧ Stand p l e R (s.setVm B.U.vm) m args below meth c B.U B.locs B.cells B.slots ∧ s.Since B.U.vm B.U.heap.size ∧ T.heap.size ≤ B.U.heap.size ∧ Post ⟨T.setVm vm₁, locs, cells, slots⟩ (.ref b :: argsL).toArray v B ∧
      Steps p.tables e below s₀ (B.U.setTop { g with pc := g.pc + 3, stack := v.toList ++ rest }) := by
  obtain ⟨cellB, hcellT, hclsB, hstatB⟩ := hrecv
  obtain ⟨mk, methM, hnamed, hmethM, hstM, habM⟩ := Cond.instanceMethod_spec hinst
  obtain ⟨methM', cM, hmethM', -, -, -, -, -, -, hsigM⟩ := Cond.code_spec hnamed hcode
  cases hmethM.symm.trans hmethM'
  obtain ⟨c2, r2, m2, q1, q2, q3, q4, kP, hkP, hkPi⟩ := Cond.selects_spec hsel
  cases hcB.symm.trans q1
  cases (State.methodFound?_of_named hnamed hy).symm.trans q2
  have hselP : selectMethod e.platform s.vm cellB.cls mk = .method mk := by
    have q5 := hnamed.symm.trans q3
    cases q5
    rw [Launch.admits_selectMethod X.admits, hclsB]; exact q4
  cases hnamed.symm.trans q3
  obtain ⟨vm₁, X₁, hstep₁⟩ := X.invokevirtual hexec hown hlink hnamed hmethM hstM hkP hkPi hy (a := b) (cell := cellB) hcellT
    (fun z h => by rw [h] at hstatB; cases hstatB) hselP hmethM habM hkP hkPi (g := g) hg (argsL := argsL) (rest := rest) (hlen _ hsigM) hstack hdg
  obtain ⟨v, B, X', hS, hgr, hpost, hsteps⟩ := hK m meth c ⟨T.setVm vm₁, locs, cells, slots⟩ { g with stack := rest } (.invokevirtual index) mk (.ref b :: argsL).toArray X₁ hg hsize hdg hW (X₁.named hnamed) (hpre vm₁ X₁.warmed)
  exact ⟨v, vm₁, B, X₁.warmed, X', hS, hgr, hpost, (hcome.trans (hstep₁ _ fun acts => by rw [doInvoke_state]; exact Steps.refl _)).trans hsteps⟩
theorem same_of {C : String} {u : MethodName} (w2 : (Cond.instanceMethod y).before a0 Z = true) (w6 : (Cond.selects C u u).before a0 Z = true) (hu : u.cls = y.cls) (hy : y.cls ≠ "java/lang/invoke/MethodHandle" ∧ y.cls ≠ "java/lang/invoke/VarHandle") : (Cond.sameMethod y.cls y.cls y.name y.desc).before a0 Z = true := by
  obtain ⟨mk, methM, hnamed, hmethM, hstM, habM⟩ := Cond.instanceMethod_spec w2
  obtain ⟨c2, r2, m2, q1, q2, q3, q4, kP, hkP, hkPi⟩ := Cond.selects_spec w6
  have hf := State.methodFound?_of_named hnamed hy
  have hc := findClass_of_methodNamed hnamed
  have hc2 := findClass_of_methodNamed q3
  rw [hu, hc] at hc2
  have e1 : mk.cls = m2.cls := Option.some.inj hc2
  rw [← e1] at hkP
  have hn' : Z.methodNamed? ⟨y.cls, y.name, y.desc⟩ = some mk := hnamed
  simp [Cond.before, Cond.holds, Cond.value, hc, hf, hn', hkP, hkPi]
theorem Wk.callW (W : Wk p l e R s m args below meth c Z EL n0 ws own sf T cells slots h) (hx : p.tables.exec = Jvm.exec) (hEL : EW Z a0 EL) {index : Nat} {C : String} (w1 : (Cond.methodLink own index y).before a0 Z = true) (w5 : (Cond.selects C y y).before a0 Z = true) (w6 : (Cond.instanceMethod y).before a0 Z = true) (w3 : (Cond.initialized y.cls).before a0 Z = true) (w4 : (Cond.code y bytes maxL ret).before a0 Z = true)
    (hy : y.cls ≠ "java/lang/invoke/MethodHandle" ∧ y.cls ≠ "java/lang/invoke/VarHandle") (Ea : Exa Z h a C) {argsL rest : List Value} {sf' : List Addr} (M : Met l Z EL n0 y bytes maxL ret [] rm (.ref a :: argsL).toArray h ws' sf' Qv) (hsf : ∀ x ∈ sf', x ∈ sf) (hf : rm.frames + 1 ≤ R.frames) {Wd : Nat} (hl : Wd + (maxL + 11) + rm.locals ≤ R.locals) (hc : cells + rm.cells ≤ R.cells) (hsl : slots + rm.slots ≤ R.slots)
    (gws : ∀ x ∈ ws', n0 ≤ x ∧ (x ∈ ws ∨ s.heap.size ≤ x)) {g : JFrame} (hg : g.method = m) (hsize : g.locals.size = c.maxLocals) (hlen : ∀ sig, parseMethodDescriptor y.desc = some sig → argsL.length = sig.parameters.length) (hstack : g.stack = argsL.reverse ++ .ref a :: rest) (hW : 2 * g.monitorRoom + (rest.map fun v => v.category).sum ≤ Wd)
    (hd : decode c.code g.pc = .ok (.invokevirtual index, 3)) (k : ∀ T' h' v (S : Addr → Prop), (∀ sfx : List Addr, (∀ x ∈ sfx, S x) → Wk p l e R s m args below meth c Z EL n0 ws own (sfx ++ sf) T' (cells + rm.cells) (slots + rm.slots) h') → Keep h h' ws' → Qv v h' S → Go p e below Q (T'.setTop { g with pc := g.pc + 3, stack := v.toList ++ rest })) : Go p e below Q (T.setTop g) := by
  obtain ⟨vm0, locs, k0, X, eT, hS, hk, hZ, hown, hC, N, K, Ol, Fs⟩ := W
  obtain ⟨cB, kB, qa, qb, qc⟩ := isOf (s := s.setVm vm0) hZ eT Ea
  obtain ⟨v, vm₁, ⟨U, Lb, kb, nb⟩, hw, X', hS', hle, ⟨L, ⟨q, N', K'⟩, e1, e2, e3, A⟩, st⟩ := privBackS X hx hown (mvT (s := s.setVm vm0) hZ w1) (mvT (s := s.setVm vm0) hZ w4) (mvT (s := s.setVm vm0) hZ w5) (mvT (s := s.setVm vm0) hZ w6) hy (Met.pay (s := s) (Wd := Wd) M hZ w4 w3 hf hl hEL hC.1 (fun x hx => Fs x (hsf x hx))) qa qc hg hsize (Steps.refl _) hlen hstack hW hd (fun _ _ => ⟨rfl, eT, hc, hsl⟩)
  dsimp only [Pt.U, Pt.locs, Pt.cells, Pt.slots] at X' hS' hle q K' e1 e2 e3 A st
  subst e1 e2 e3
  exact Go.on st (k U U.heap v _ (fun sfx hx => wk_more (wk_call X X' hS' hle eT N' K' A gws hS hk hZ hown hC N K Ol Fs) hx) K' q)
theorem notFace_by {C : String} {u y : MethodName} (w : (Cond.selects C u u).before args s = true) (hu : u.cls = y.cls) : NotFace s y := fun r0 hn => by
  obtain ⟨c2, r2, m2, q1, q2, q3, q4, kP, hkP, hkPi⟩ := Cond.selects_spec w
  have h1 := findClass_of_methodNamed q3
  have h2 := findClass_of_methodNamed hn
  rw [hu, h2] at h1
  have e1 : r0.cls = m2.cls := Option.some.inj h1
  exact ⟨kP, by rw [e1]; exact hkP, hkPi⟩
theorem Wk.callL (W : Wk p l e R s m args below meth c Z EL n0 ws own sf T cells slots h) (hx : p.tables.exec = Jvm.exec) (hEL : EW Z a0 EL) {index : Nat} {C : String} {yn : MethodName} (w1 : (Cond.methodLink own index yn).before a0 Z = true) (w2 : (Cond.declares yn).before a0 Z = true) (w5 : (Cond.selects C yn y).before a0 Z = true) (w6 : (Cond.instanceMethod y).before a0 Z = true) (w3 : (Cond.initialized y.cls).before a0 Z = true) (w4 : (Cond.code y bytes maxL ret).before a0 Z = true)
    {u : MethodName} (w7 : (Cond.selects C u u).before a0 Z = true) (hu : u.cls = yn.cls) (hy : yn.cls ≠ "java/lang/invoke/MethodHandle" ∧ yn.cls ≠ "java/lang/invoke/VarHandle") (Ea : Exa Z h a C) {argsL rest : List Value} {sf' : List Addr} (M : Met l Z EL n0 y bytes maxL ret [] rm (.ref a :: argsL).toArray h ws' sf' Qv) (hsf : ∀ x ∈ sf', x ∈ sf) (hf : rm.frames + 1 ≤ R.frames) {Wd : Nat} (hl : Wd + (maxL + 11) + rm.locals ≤ R.locals) (hc : cells + rm.cells ≤ R.cells) (hsl : slots + rm.slots ≤ R.slots)
    (gws : ∀ x ∈ ws', n0 ≤ x ∧ (x ∈ ws ∨ s.heap.size ≤ x)) {g : JFrame} (hg : g.method = m) (hsize : g.locals.size = c.maxLocals) (hlen : ∀ sig, parseMethodDescriptor yn.desc = some sig → argsL.length = sig.parameters.length) (hstack : g.stack = argsL.reverse ++ .ref a :: rest) (hW : 2 * g.monitorRoom + (rest.map fun v => v.category).sum ≤ Wd)
    (hd : decode c.code g.pc = .ok (.invokevirtual index, 3)) (k : ∀ T' h' v (S : Addr → Prop), (∀ sfx : List Addr, (∀ x ∈ sfx, S x) → Wk p l e R s m args below meth c Z EL n0 ws own (sfx ++ sf) T' (cells + rm.cells) (slots + rm.slots) h') → Keep h h' ws' → Qv v h' S → Go p e below Q (T'.setTop { g with pc := g.pc + 3, stack := v.toList ++ rest })) : Go p e below Q (T.setTop g) := by
  obtain ⟨vm0, locs, k0, X, eT, hS, hk, hZ, hown, hC, N, K, Ol, Fs⟩ := W
  obtain ⟨cB, kB, qa, qb, qc⟩ := isOf (s := s.setVm vm0) hZ eT Ea
  obtain ⟨v, vm₁, ⟨U, Lb, kb, nb⟩, hw, X', hS', hle, ⟨L, ⟨q, N', K'⟩, e1, e2, e3, A⟩, st⟩ := X.virtualBackS hx (z := y) hown (mvT (s := s.setVm vm0) hZ w1) (mvT (s := s.setVm vm0) hZ w2) (notFace_by (args := #[]) (mvT (s := s.setVm vm0) hZ w7) hu) (mvT (s := s.setVm vm0) hZ w5) (mvT (s := s.setVm vm0) hZ w6) hy (Met.pay (s := s) (Wd := Wd) M hZ w4 w3 hf hl hEL hC.1 (fun x hx => Fs x (hsf x hx))) qa qc hg hsize (Steps.refl _) hlen hstack hW hd (fun _ _ => ⟨rfl, eT, hc, hsl⟩)
  dsimp only [Pt.U, Pt.locs, Pt.cells, Pt.slots] at X' hS' hle q K' e1 e2 e3 A st
  subst e1 e2 e3
  exact Go.on st (k U U.heap v _ (fun sfx hx => wk_more (wk_call X X' hS' hle eT N' K' A gws hS hk hZ hown hC N K Ol Fs) hx) K' q)
theorem Wk.callU (W : Wk p l e R s m args below meth c Z EL n0 ws own sf T cells slots h) (hx : p.tables.exec = Jvm.exec) (hEL : EW Z a0 EL) {index : Nat} {C : String} (w1 : (Cond.methodLink own index y).before a0 Z = true) {u : MethodName} (w2 : (Cond.superclass own y.cls).before a0 Z = true) (w5 : (Cond.selects C u u).before a0 Z = true) (hu : u.cls = y.cls) (hn : y.name ≠ "<init>") (w6 : (Cond.instanceMethod y).before a0 Z = true) (w3 : (Cond.initialized y.cls).before a0 Z = true) (w4 : (Cond.code y bytes maxL ret).before a0 Z = true)
    (hy : y.cls ≠ "java/lang/invoke/MethodHandle" ∧ y.cls ≠ "java/lang/invoke/VarHandle") (Ea : Exa Z h a C) {argsL rest : List Value} {sf' : List Addr} (M : Met l Z EL n0 y bytes maxL ret [] rm (.ref a :: argsL).toArray h ws' sf' Qv) (hsf : ∀ x ∈ sf', x ∈ sf) (hf : rm.frames + 1 ≤ R.frames) {Wd : Nat} (hl : Wd + (maxL + 11) + rm.locals ≤ R.locals) (hc : cells + rm.cells ≤ R.cells) (hsl : slots + rm.slots ≤ R.slots)
    (gws : ∀ x ∈ ws', n0 ≤ x ∧ (x ∈ ws ∨ s.heap.size ≤ x)) {g : JFrame} (hg : g.method = m) (hsize : g.locals.size = c.maxLocals) (hlen : ∀ sig, parseMethodDescriptor y.desc = some sig → argsL.length = sig.parameters.length) (hstack : g.stack = argsL.reverse ++ .ref a :: rest) (hW : 2 * g.monitorRoom + (rest.map fun v => v.category).sum ≤ Wd)
    (hd : decode c.code g.pc = .ok (.invokespecial index, 3)) (k : ∀ T' h' v (S : Addr → Prop), (∀ sfx : List Addr, (∀ x ∈ sfx, S x) → Wk p l e R s m args below meth c Z EL n0 ws own (sfx ++ sf) T' (cells + rm.cells) (slots + rm.slots) h') → Keep h h' ws' → Qv v h' S → Go p e below Q (T'.setTop { g with pc := g.pc + 3, stack := v.toList ++ rest })) : Go p e below Q (T.setTop g) := by
  obtain ⟨vm0, locs, k0, X, eT, hS, hk, hZ, hown, hC, N, K, Ol, Fs⟩ := W
  obtain ⟨v, vm₁, ⟨U, Lb, kb, nb⟩, hw, X', hS', hle, ⟨L, ⟨q, N', K'⟩, e1, e2, e3, A⟩, st⟩ := superBackS (s := s.setVm vm0) X hx hZ hown w1 (same_of w6 w5 hu hy) w6 w2 hn (Met.pay (s := s) (Wd := Wd) M hZ w4 w3 hf hl hEL hC.1 (fun x hx => Fs x (hsf x hx))) eT (Ins.self Ea) hg hsize w4 hlen hstack hW hd (fun _ _ => ⟨rfl, eT, hc, hsl⟩)
  dsimp only [Pt.U, Pt.locs, Pt.cells, Pt.slots] at X' hS' hle q K' e1 e2 e3 A st
  subst e1 e2 e3
  exact Go.on st (k U U.heap v _ (fun sfx hx => wk_more (wk_call X X' hS' hle eT N' K' A gws hS hk hZ hown hC N K Ol Fs) hx) K' q)
/-! calls that a law of the JDK pays -/
theorem wk_keep (X : Stand p l e R (s.setVm vm0) m args below meth c T' locs cells slots) (e' : T'.heap = h') (E : Keep h h' ws') (gws : ∀ x ∈ ws', n0 ≤ x ∧ (x ∈ ws ∨ s.heap.size ≤ x)) (sws : ∀ x ∈ ws', x ∈ sf) (hS : s.Since vm0 k0) (hk : k0 ≤ h.size) (hZ : Z.Warmed39 vm0) (hown : vm0.findClass own = some m.cls) (hC : CHr Z EL s.vm s.heap vm0 h) (N : Fr n0 locs) (K : Keep s.heap h ws) (O : Old Z n0 h)
    (F : ∀ x ∈ sf, Safe Z EL vm0 h x ∧ x < h.size) : Wk p l e R s m args below meth c Z EL n0 ws own sf T' cells slots h' :=
  wk_tab X e' E gws hS (Nat.le_trans hk E.1) hZ hown (CHr.keep E (fun y hy => (F y (sws y hy)).1) hC.1) hC N K O F
variable {Q1 : Option Value → Heap → List Loc → Prop} {kk nn : Nat} {Qp : Option Value → Heap → Prop}
theorem Wk.specB (W : Wk p l e R s m args below meth c Z EL n0 ws own sf T cells slots h) (hx : p.tables.exec = Jvm.exec) {index : Nat} (hy1 : y.name = "<init>") (w1 : (Cond.methodLink own index y).before a0 Z = true) (w2 : (Cond.instanceMethod y).before a0 Z = true) (w4 : (Cond.code y bytes maxL none).before a0 Z = true)
    (hy : y.cls ≠ "java/lang/invoke/MethodHandle" ∧ y.cls ≠ "java/lang/invoke/VarHandle") {argsL rest : List Value} {Wd : Nat} (hK : ∀ s' : State, Z.Warmed39 s'.vm → Back l R p e below s' args y 3 Wd (fun A as => as = (.ref a :: argsL).toArray ∧ A.U.heap = h ∧ A.cells + kk ≤ R.cells ∧ A.slots + nn ≤ R.slots) (fun A _ v B => ∃ L, Q1 v B.U.heap L ∧ B.locs = A.locs ++ L ∧ B.cells = A.cells + kk ∧ B.slots = A.slots + nn))
    (hq : ∀ v h' L, Q1 v h' L → Fr n0 L ∧ Keep h h' ws' ∧ Qp v h') (hc : cells + kk ≤ R.cells) (hsl : slots + nn ≤ R.slots)
    (gws : ∀ x ∈ ws', n0 ≤ x ∧ (x ∈ ws ∨ s.heap.size ≤ x)) (sws : ∀ x ∈ ws', x ∈ sf) {g : JFrame} (hg : g.method = m) (hsize : g.locals.size = c.maxLocals) (hlen : ∀ sig, parseMethodDescriptor y.desc = some sig → argsL.length = sig.parameters.length) (hstack : g.stack = argsL.reverse ++ .ref a :: rest) (hW : 2 * g.monitorRoom + (rest.map fun v => v.category).sum ≤ Wd)
    (hd : decode c.code g.pc = .ok (.invokespecial index, 3)) (k : ∀ T' h' v, Wk p l e R s m args below meth c Z EL n0 ws own sf T' (cells + kk) (slots + nn) h' → Keep h h' ws' → Qp v h' → Go p e below Q (T'.setTop { g with pc := g.pc + 3, stack := v.toList ++ rest })) : Go p e below Q (T.setTop g) := by
  obtain ⟨vm0, locs, k0, X, eT, hS, hk, hZ, hown, hC, N, K, Ol, Fs⟩ := W
  obtain ⟨v, vm₁, ⟨U, Lb, kb, nb⟩, hw, X', ⟨L, q, e1, e2, e3⟩, st⟩ := X.specialBack hx hy1 hown (mvT (s := s.setVm vm0) hZ w1) (mvT (s := s.setVm vm0) hZ w2) (mvT (s := s.setVm vm0) hZ w4) hy (hK (s.setVm vm0) hZ) hg hsize (Steps.refl _) hlen hstack hW hd (fun _ _ => ⟨rfl, eT, hc, hsl⟩)
  dsimp only [Pt.U, Pt.locs, Pt.cells, Pt.slots] at X' q e1 e2 e3 st
  subst e1 e2 e3
  obtain ⟨N', K', q'⟩ := hq _ _ _ q
  exact Go.on st (k U U.heap v (wk_keep X' rfl K' gws sws hS hk hZ hown hC (N.app N') K Ol Fs) K' q')
theorem Wk.virtB (W : Wk p l e R s m args below meth c Z EL n0 ws own sf T cells slots h) (hx : p.tables.exec = Jvm.exec) {index : Nat} {C : String} (w1 : (Cond.methodLink own index y).before a0 Z = true) (w2 : (Cond.declares y).before a0 Z = true) (w5 : (Cond.selects C y y).before a0 Z = true) (w6 : (Cond.instanceMethod y).before a0 Z = true)
    (hy : y.cls ≠ "java/lang/invoke/MethodHandle" ∧ y.cls ≠ "java/lang/invoke/VarHandle") (Ea : Exa Z h a C) {argsL rest : List Value} {Wd : Nat} (hK : ∀ s' : State, Z.Warmed39 s'.vm → Back l R p e below s' args y 3 Wd (fun A as => as = (.ref a :: argsL).toArray ∧ A.U.heap = h ∧ A.cells + kk ≤ R.cells ∧ A.slots + nn ≤ R.slots) (fun A _ v B => ∃ L, Q1 v B.U.heap L ∧ B.locs = A.locs ++ L ∧ B.cells = A.cells + kk ∧ B.slots = A.slots + nn))
    (hq : ∀ v h' L, Q1 v h' L → Fr n0 L ∧ Keep h h' ws' ∧ Qp v h') (hc : cells + kk ≤ R.cells) (hsl : slots + nn ≤ R.slots)
    (gws : ∀ x ∈ ws', n0 ≤ x ∧ (x ∈ ws ∨ s.heap.size ≤ x)) (sws : ∀ x ∈ ws', x ∈ sf) {g : JFrame} (hg : g.method = m) (hsize : g.locals.size = c.maxLocals) (hlen : ∀ sig, parseMethodDescriptor y.desc = some sig → argsL.length = sig.parameters.length) (hstack : g.stack = argsL.reverse ++ .ref a :: rest) (hW : 2 * g.monitorRoom + (rest.map fun v => v.category).sum ≤ Wd)
    (hd : decode c.code g.pc = .ok (.invokevirtual index, 3)) (k : ∀ T' h' v, Wk p l e R s m args below meth c Z EL n0 ws own sf T' (cells + kk) (slots + nn) h' → Keep h h' ws' → Qp v h' → Go p e below Q (T'.setTop { g with pc := g.pc + 3, stack := v.toList ++ rest })) : Go p e below Q (T.setTop g) := by
  obtain ⟨vm0, locs, k0, X, eT, hS, hk, hZ, hown, hC, N, K, Ol, Fs⟩ := W
  obtain ⟨cB, kB, qa, qb, qc⟩ := isOf (s := s.setVm vm0) hZ eT Ea
  obtain ⟨v, vm₁, ⟨U, Lb, kb, nb⟩, hw, X', ⟨L, q, e1, e2, e3⟩, st⟩ := X.virtualBack hx (z := y) hown (mvT (s := s.setVm vm0) hZ w1) (mvT (s := s.setVm vm0) hZ w2) (notFace_of_selects (args := #[]) (mvT (s := s.setVm vm0) hZ w5)) (mvT (s := s.setVm vm0) hZ w5) (mvT (s := s.setVm vm0) hZ w6) hy (hK (s.setVm vm0) hZ) qa qc hg hsize (Steps.refl _) hlen hstack hW hd (fun _ _ => ⟨rfl, eT, hc, hsl⟩)
  dsimp only [Pt.U, Pt.locs, Pt.cells, Pt.slots] at X' q e1 e2 e3 st
  subst e1 e2 e3
  obtain ⟨N', K', q'⟩ := hq _ _ _ q
  exact Go.on st (k U U.heap v (wk_keep X' rfl K' gws sws hS hk hZ hown hC (N.app N') K Ol Fs) K' q')
theorem Wk.cp (W : Wk p l e R s m args below meth c Z EL n0 ws own sf T cells slots h) (hx : p.tables.exec = Jvm.exec) {index : Nat} (w1 : (Cond.methodLink own index Jvm.Stand.acN).before a0 Z = true) (w2 : (Cond.native Jvm.Stand.acN).before a0 Z = true) (w3 : (Cond.static Jvm.Stand.acN).before a0 Z = true) (w4 : (Cond.initialized "java/lang/System").before a0 Z = true)
    {k1 k2 : ClassId} {ty : FieldType} {z z' sp dp nn : Int32} {vs vd us : List Value} {dv dd : Value} (A : Arv Z h a k1 ty z vs dv) (B : Arv Z h b k2 ty z' vd dd) (hty : refKind ty = false) (h1 : ¬ sp < 0) (h2 : ¬ dp < 0) (h3 : ¬ nn < 0) (h4 : sp.toNatClampNeg + nn.toNatClampNeg ≤ z.toNatClampNeg) (h5 : dp.toNatClampNeg + nn.toNatClampNeg ≤ z'.toNatClampNeg)
    (hus : us = (List.range nn.toNatClampNeg).map fun i => vs.getD (sp.toNatClampNeg + i) dv) (hl : dp.toNatClampNeg + nn.toNatClampNeg ≤ vd.length) (ga : n0 ≤ b) (gw : b ∈ ws ∨ s.heap.size ≤ b) (sb : b ∈ sf)
    {g : JFrame} (hg : g.method = m) (hsize : g.locals.size = c.maxLocals) {rest : List Value} (hs : g.stack = .int nn :: .int dp :: .ref b :: .int sp :: .ref a :: rest) (hd : decode c.code g.pc = .ok (.invokestatic index, 3))
    (hf : 1 ≤ R.frames) {Wd : Nat} (hW : 2 * g.monitorRoom + (rest.map fun v => v.category).sum ≤ Wd) (hlo : Wd + (nativeFrameWords "java/lang/System" "arraycopy" 5 + 11) ≤ R.locals)
    (k : ∀ T' h', Wk p l e R s m args below meth c Z EL n0 ws own sf T' cells slots h' → Keep h h' [b] → Arv Z h' b k2 ty z' (vd.take dp.toNatClampNeg ++ us ++ vd.drop (dp.toNatClampNeg + nn.toNatClampNeg)) dd → Go p e below Q (T'.setTop { g with pc := g.pc + 3, stack := rest })) : Go p e below Q (T.setTop g) := by
  obtain ⟨vm0, locs, k0, X, eT, hS, hk, hZ, hown, hC, N, K, Ol, Fs⟩ := W
  obtain ⟨T', h', L, X', e', N', K', A', st⟩ := RoadKit.cpA X hx hZ hown w1 w2 w3 w4 eT A B (Or.inl ⟨rfl, hty⟩) h1 h2 h3 h4 h5 hus hl N ga hg hsize hs hd hf hW hlo
  exact Go.of st (k T' h' (wk_keep X' e' K' (allS ⟨ga, gw⟩ all0) (allS sb all0) hS hk hZ hown hC N' K Ol Fs) K' A')
theorem Wk.cloneV (W : Wk p l e R s m args below meth c Z EL n0 ws own sf T cells slots h) (hx : p.tables.exec = Jvm.exec) {ad : String} {index : Nat} (w1 : (Cond.methodLink own index ⟨ad, "clone", "()Ljava/lang/Object;"⟩).before a0 Z = true) (w2 : (Cond.sameMethod ad "java/lang/Object" "clone" "()Ljava/lang/Object;").before a0 Z = true) (w3 : (Cond.native ⟨"java/lang/Object", "clone", "()Ljava/lang/Object;"⟩).before a0 Z = true)
    (w4 : (Cond.instanceMethod ⟨"java/lang/Object", "clone", "()Ljava/lang/Object;"⟩).before a0 Z = true) (w5 : (Cond.selects ad ⟨ad, "clone", "()Ljava/lang/Object;"⟩ ⟨"java/lang/Object", "clone", "()Ljava/lang/Object;"⟩).before a0 Z = true) (w6 : (Cond.castable ad "java/lang/Cloneable").before a0 Z = true)
    {kc : ClassId} {ty : FieldType} {z : Int32} {vs : List Value} {dv : Value} (V : Arv Z h a kc ty z vs dv) (E : Exa Z h a ad) (F : ∀ cl : Cell, Arr Z h a cl ty → FitC Z cl) {g : JFrame} (hg : g.method = m) (hsize : g.locals.size = c.maxLocals) {rest : List Value} (hs : g.stack = .ref a :: rest) (hd : decode c.code g.pc = .ok (.invokevirtual index, 3))
    (hf : 1 ≤ R.frames) {Wd cap : Nat} (hW : 2 * g.monitorRoom + (rest.map fun v => v.category).sum ≤ Wd) (hl : Wd + 14 ≤ R.locals) (hcap : z.toNatClampNeg ≤ cap) (hc : cells + 1 ≤ R.cells) (hsl : slots + cap ≤ R.slots)
    (k : ∀ T' h' b, b = h.size → n0 ≤ b ∧ s.heap.size ≤ b → Wk p l e R s m args below meth c Z EL n0 ws own (b :: sf) T' (cells + 1) (slots + cap) h' → Keep h h' [] → Arv Z h' b kc ty z vs dv → Exa Z h' b ad → Go p e below Q (T'.setTop { g with pc := g.pc + 3, stack := .ref b :: rest })) : Go p e below Q (T.setTop g) := by
  have hle := W.n0le
  have hle' := W.s0le
  obtain ⟨vm0, locs, k0, X, eT, hS, hk, hZ, hown, hC, N, K, O, Fs⟩ := W
  obtain ⟨cl, A, q1, S1, q3, H, G⟩ := V
  obtain ⟨T', h', X', e', Ex, A', E', st⟩ := RoadKit.cloneA X hx hZ hown w1 w2 w3 w4 w5 w6 eT A E (F cl A) hg hsize hs hd hf hW hl (by rw [S1]; exact hcap) hc hsl
  exact Go.of st (k T' h' h.size rfl ⟨hle, hle'⟩ (wk_new X' e' Ex A'.lt hS hk hZ hown hC N K O Fs) ((Keep.refl h []).ext Ex) ⟨cloneOf cl, A', q1, S1, q3, H, G⟩ E')
theorem ne_of_born {h h1 : Heap} (hb : h.size ≤ b) (hlt : a < h1.size) (hle : h1.size ≤ h.size) : a ≠ b := Nat.ne_of_lt (Nat.lt_of_lt_of_le hlt (Nat.le_trans hle hb))
theorem all1 {P : Addr → Prop} (q : P a) : ∀ x ∈ [a], P x := allS q all0
theorem all0i {P : Int32 → Prop} : ∀ x ∈ ([] : List Int32), P x := fun _ q => nomatch q
theorem allSi {P : Int32 → Prop} {y : Int32} {L : List Int32} (q : P y) (r : ∀ x ∈ L, P x) : ∀ x ∈ y :: L, P x := fun x z => (List.mem_cons.mp z).elim (fun u => u ▸ q) (r x)
theorem fin256 {P : Int32 → Prop} (t : ∀ k : Fin 256, P (Int32.ofNat k.val)) {q : Int32} (hq : ¬ q < 0 ∧ ¬ (255 : Int32) < q) : P q := by
  have h0 : ¬ q.toInt < 0 := fun z => hq.1 (by rw [Int32.lt_iff_toInt_lt]; exact z)
  have h1 : ¬ 255 < q.toInt := fun z => hq.2 (by rw [Int32.lt_iff_toInt_lt]; exact z)
  have e : q = Int32.ofNat q.toInt.toNat := by
    apply Int32.toInt_inj.mp
    rw [Int32.toInt_ofNat_of_lt (by omega)]
    omega
  rw [e]
  exact t ⟨q.toInt.toNat, by omega⟩
theorem and255 (x : Int32) : ¬ (x &&& (255 : Int32)) < 0 ∧ ¬ (255 : Int32) < (x &&& (255 : Int32)) := by
  have t : ∀ k : Fin 256, ¬ (Int32.ofNat k.val) < 0 ∧ ¬ (255 : Int32) < (Int32.ofNat k.val) := by decide +kernel
  have h : (x &&& 255).toBitVec.toNat < 256 := by
    simp only [Int32.toBitVec_and, BitVec.toNat_and]
    exact Nat.lt_succ_of_le Nat.and_le_right
  have e : (x &&& 255) = Int32.ofNat (x &&& 255).toBitVec.toNat := by
    apply Int32.toBitVec_inj.mp
    show _ = BitVec.ofNat 32 _
    rw [BitVec.ofNat_toNat]; simp
  rw [e]
  exact t ⟨_, h⟩
theorem snd255 {cs : List Int32} (h : ∀ c ∈ cs, ¬ c < 0 ∧ ¬ (255 : Int32) < c) : ∀ c ∈ cs, ¬ (255 : Int32) < c := fun c hc => (h c hc).2
theorem char_id {q : Int32} (hq : ¬ q < 0 ∧ ¬ (255 : Int32) < q) : q.toUInt32.toUInt16.toUInt32.toInt32 = q := fin256 (P := fun q => q.toUInt32.toUInt16.toUInt32.toInt32 = q) (by decide +kernel) hq
theorem char255 (x : Int32) : ∃ q : Int32, (x &&& (255 : Int32)).toUInt32.toUInt16.toUInt32.toInt32 = q ∧ (¬ q < 0 ∧ ¬ (255 : Int32) < q) ∧ q = x &&& (255 : Int32) := ⟨x &&& 255, char_id (and255 x), and255 x, rfl⟩
theorem nar_char {q : Int32} (hq : ¬ q < 0 ∧ ¬ (255 : Int32) < q) : nar .char q = q := fin256 (P := fun q => nar .char q = q) (by decide +kernel) hq
theorem and3 (x : Int32) : (x &&& (3 : Int32)) = (0 : Int32) ∨ (x &&& (3 : Int32)) = (1 : Int32) ∨ (x &&& (3 : Int32)) = (2 : Int32) ∨ (x &&& (3 : Int32)) = (3 : Int32) := by
  have t : ∀ k : Fin 4, (Int32.ofNat k.val) = (0 : Int32) ∨ (Int32.ofNat k.val) = (1 : Int32) ∨ (Int32.ofNat k.val) = (2 : Int32) ∨ (Int32.ofNat k.val) = (3 : Int32) := by decide +kernel
  have h : (x &&& 3).toBitVec.toNat < 4 := by
    simp only [Int32.toBitVec_and, BitVec.toNat_and]
    exact Nat.lt_succ_of_le Nat.and_le_right
  have e : (x &&& 3) = Int32.ofNat (x &&& 3).toBitVec.toNat := by
    apply Int32.toBitVec_inj.mp
    show _ = BitVec.ofNat 32 _
    rw [BitVec.ofNat_toNat]; simp
  rw [e]
  exact t ⟨_, h⟩
theorem nar_byte (x : Int32) : nar .byte (x.toInt8.toInt32) = x.toInt8.toInt32 := by
  show x.toInt8.toInt32.toInt8.toInt32 = x.toInt8.toInt32
  simp
end OwnKit
end Jvm.Pilot.@@N@@
namespace Jvm.Pilot.@@N@@
open Jvm Jvm.ClassFile Sem Op Lib Jvm.Free Jvm.Stand Jvm.LawKit Jvm.RoadKit Bundle Jvm.Pilot.@@N@@.Jvm.D
section OwnStr
variable {p : Program} {l : Launch} {e : Env} {R : Room} {s : State} {m : MethodId} {args : Array Value} {below : List Frame} {meth : Method} {c : Code} {T T' : State} {locs : List Loc} {cells slots : Nat} {Z : State} {a0 : Array Value} {h h' : Heap} {EL : List (String × Nat)} {n0 k0 : Nat} {ws ws' sf : List Addr} {own : String} {Q : Outcome → State → Prop} {a b x : Addr} {v : Value} {sl : Nat}
variable {y : MethodName} {bytes : ByteArray} {maxL : Nat} {zc : Int32} {cs ds : List Int32} {kC : ClassId} {N : Int32} {d : Value} {n : Nat} {v0 c0 : Value} {index : Nat} {Wd : Nat} {g : JFrame} {rest : List Value}
/-- a String at x that spells cs -/
def Str (Z : State) (h : Heap) (x : Addr) (cs : List Int32) : Prop := ∃ (t : Addr) (kb : ClassId) (cd N2 : Int32) (vs : List Value), Exa Z h x "java/lang/String" ∧ Fld Z h x "java/lang/String" "value" "[B" (.ref t) ∧ Fld Z h x "java/lang/String" "coder" "B" (.int cd) ∧ Arv Z h t kb .byte N2 vs (.int 0) ∧ StrChars.Road.CodA cs cd N2 vs ∧ (∀ c ∈ cs, ¬ c < 0 ∧ ¬ (65535 : Int32) < c) ∧ cs.length ≤ 4000
theorem Str.exa (S : Str Z h x cs) : Exa Z h x "java/lang/String" := by
  obtain ⟨_, _, _, _, _, E, _⟩ := S
  exact E
theorem Str.keep0 (S : Str Z h x cs) (K : Keep h h' []) : Str Z h' x cs := by
  obtain ⟨t, kb, cd, N2, vs, E, V, C, A, r⟩ := S
  exact ⟨t, kb, cd, N2, vs, E.keep K, V.keep K nin0, C.keep K nin0, A.keep K nin0, r⟩
theorem Str.ext (S : Str Z h x cs) (E : Ext h h') : Str Z h' x cs := S.keep0 ((Keep.refl h []).ext E)
theorem Str.open_ (S : Str Z h x cs) (hlat : ∀ c ∈ cs, ¬ (255 : Int32) < c) : ∃ (t : Addr) (kb : ClassId), Exa Z h x "java/lang/String" ∧ Fld Z h x "java/lang/String" "value" "[B" (.ref t) ∧ Fld Z h x "java/lang/String" "coder" "B" (.int 0) ∧ Arv Z h t kb .byte (Int32.ofNat cs.length) (cs.map fun c => Value.int (StrChars.lo8 c)) (.int 0) := by
  obtain ⟨t, kb, cd, N2, vs, E, V, C, A, hc, -, -⟩ := S
  rcases hc with ⟨rfl, rfl, rfl, -⟩ | ⟨-, -, -, c, hc, hw⟩
  · exact ⟨t, kb, E, V, C, A⟩
  · exact absurd hw (hlat c hc)
theorem up255 (h : ∀ c ∈ cs, ¬ c < 0 ∧ ¬ (255 : Int32) < c) : ∀ c ∈ cs, ¬ c < 0 ∧ ¬ (65535 : Int32) < c := fun c hc => ⟨(h c hc).1, fun q => (h c hc).2 (by rw [Int32.lt_iff_toInt_lt] at q ⊢; have e1 : (65535 : Int32).toInt = 65535 := rfl; have e2 : (255 : Int32).toInt = 255 := rfl; omega)⟩
theorem pdChars : parseMethodDescriptor "([C)V" = some ⟨[.array .char], none⟩ := by decide +kernel
theorem Wk.newStr (W : Wk p l e R s m args below meth c Z EL n0 ws own sf T cells slots h) (hx : p.tables.exec = Jvm.exec) (hws : ∀ d ∈ StrChars.Road.words, d.before a0 Z = true) (wi : (Cond.instantiable "java/lang/String" 4).before a0 Z = true) (SC : Sta Z Z.heap "java/lang/String" "COMPACT_STRINGS" "Z" (.int zc)) (hz : ¬ zc = 0)
    (w1 : (Cond.methodLink own index ⟨"java/lang/String", "<init>", "([C)V"⟩).before a0 Z = true) (w2 : (Cond.instanceMethod ⟨"java/lang/String", "<init>", "([C)V"⟩).before a0 Z = true) (w4 : (Cond.code ⟨"java/lang/String", "<init>", "([C)V"⟩ bytes maxL none).before a0 Z = true)
    (Ex : Exa Z h x "java/lang/String") (V : Fld Z h x "java/lang/String" "value" "[B" v0) (C : Fld Z h x "java/lang/String" "coder" "B" c0) (A : Arv Z h b kC .char N (cs.map Value.int) d) (hn : cs.length = n) (hN : N = Int32.ofNat n) (l0 : 0 < n) (l2 : n ≤ 4000) (hp : ∀ c ∈ cs, ¬ c < 0 ∧ ¬ (255 : Int32) < c) (gx : n0 ≤ x) (gw : x ∈ ws ∨ s.heap.size ≤ x) (sx : x ∈ sf)
    (hfr : 4 ≤ R.frames) (hlo : Wd + 65 ≤ R.locals) (hc : cells + 1 ≤ R.cells) (hsl : slots + n ≤ R.slots) (hg : g.method = m) (hsize : g.locals.size = c.maxLocals) (hstack : g.stack = .ref b :: .ref x :: rest) (hW : 2 * g.monitorRoom + (rest.map fun v => v.category).sum ≤ Wd) (hd : decode c.code g.pc = .ok (.invokespecial index, 3))
    (k : ∀ T' h', Wk p l e R s m args below meth c Z EL n0 ws own sf T' (cells + 1) (slots + n) h' → Keep h h' [x] → Str Z h' x cs → Go p e below Q (T'.setTop { g with pc := g.pc + 3, stack := rest })) : Go p e below Q (T.setTop g) := by
  have hle := W.n0le
  have hO := W.old
  refine W.specB hx (y := ⟨"java/lang/String", "<init>", "([C)V"⟩) rfl w1 w2 w4 (by decide) (kk := 1) (nn := n) (ws' := [x]) (a := x) (Qp := fun v h' => v = none ∧ Str Z h' x cs) (Q1 := fun v h' L => StrChars.Road.QV Z x N (cs.map fun c => c.toInt8.toInt32) h n0 v h' L) (argsL := [.ref b]) (rest := rest) (Wd := Wd)
    (fun s' hZ' => StrChars.Road.backV (W := Wd) hZ' hws wi gx hle Ex V C A (SC.ext hO.2) hz hn hN l0 l2 hp rfl hfr hlo) (fun v h' L q => ?_) hc hsl (all1 ⟨gx, gw⟩) (all1 sx) hg hsize (lenOf pdChars rfl) hstack hW hd (fun T' h' v W' K' q => ?_)
  · obtain ⟨rfl, q1, q2, q3, q4, t, kb, -, -, -, q5, q6⟩ := q
    refine ⟨q1, q2, rfl, t, kb, 0, N, _, q3, q5, q4, q6, ?_, up255 hp, by omega⟩
    subst hN
    exact StrChars.Road.codOf hn (fun c hc => (hp c hc).2)
  · obtain ⟨rfl, S⟩ := q
    exact k T' h' W' K' S
end OwnStr
end Jvm.Pilot.@@N@@
namespace Jvm.Pilot.@@N@@
open Jvm Jvm.ClassFile Sem Op Lib Jvm.Free Jvm.Stand Jvm.LawKit Jvm.RoadKit Bundle Jvm.Pilot.@@N@@.Jvm.D
section OwnStrMore
variable {p : Program} {l : Launch} {e : Env} {R : Room} {s : State} {m : MethodId} {args : Array Value} {below : List Frame} {meth : Method} {c : Code} {T T' : State} {cells slots : Nat} {Z : State} {a0 : Array Value} {h h' : Heap} {EL : List (String × Nat)} {n0 : Nat} {ws sf : List Addr} {own : String} {Q : Outcome → State → Prop} {a b x y : Addr}
variable {zc : Int32} {cs ds : List Int32} {n : Nat} {index : Nat} {Wd : Nat} {g : JFrame} {rest : List Value} {fm : Value}
theorem pdStrLen : parseMethodDescriptor "()I" = some ⟨[], some .int⟩ := by decide +kernel
theorem Wk.strLen (W : Wk p l e R s m args below meth c Z EL n0 ws own sf T cells slots h) (hx : p.tables.exec = Jvm.exec) (hsw : ∀ d ∈ StrChars.Road.wordsLen, d.before a0 Z = true) (wi : (Cond.instantiable "java/lang/String" 4).before a0 Z = true) (SC : Sta Z Z.heap "java/lang/String" "COMPACT_STRINGS" "Z" (.int zc)) (hz : ¬ zc = 0) (S : Str Z h x cs)
    (w1 : (Cond.methodLink own index ⟨"java/lang/String", "length", "()I"⟩).before a0 Z = true) (w2 : (Cond.declares ⟨"java/lang/String", "length", "()I"⟩).before a0 Z = true) (w5 : (Cond.selects "java/lang/String" ⟨"java/lang/String", "length", "()I"⟩ ⟨"java/lang/String", "length", "()I"⟩).before a0 Z = true) (w6 : (Cond.instanceMethod ⟨"java/lang/String", "length", "()I"⟩).before a0 Z = true)
    (hfr : 2 ≤ R.frames) (hlo : Wd + 25 ≤ R.locals) (hc : cells ≤ R.cells) (hsl : slots ≤ R.slots) (hg : g.method = m) (hsize : g.locals.size = c.maxLocals) (hstack : g.stack = .ref x :: rest) (hW : 2 * g.monitorRoom + (rest.map fun v => v.category).sum ≤ Wd) (hd : decode c.code g.pc = .ok (.invokevirtual index, 3))
    (k : ∀ T', Wk p l e R s m args below meth c Z EL n0 ws own sf T' cells slots h → Go p e below Q (T'.setTop { g with pc := g.pc + 3, stack := (.int (Int32.ofNat cs.length)) :: rest })) : Go p e below Q (T.setTop g) := by
  have hO := W.old
  have hEx := S.exa
  obtain ⟨t, kb, cd, N2, vs, E1, V1, C1, A1, hcd, hbd, hln⟩ := S
  refine W.virtB hx w1 w2 w5 w6 (by decide) hEx (kk := 0) (nn := 0) (ws' := []) (Qp := fun v h' => v = some (.int (Int32.ofNat cs.length)) ∧ h = h') (Q1 := fun v h' L => v = some (.int (Int32.ofNat cs.length)) ∧ L = [] ∧ h' = h) (argsL := []) (rest := rest) (Wd := Wd)
    (fun s' hZ' => StrChars.Road.lenW (W := Wd) hZ' hsw wi E1 V1 C1 A1 hcd hbd (SC.ext hO.2) hz hln hfr hlo) (fun v h' L q => ?_) hc hsl all0 all0 hg hsize (lenOf pdStrLen rfl) hstack hW hd (fun T' h' v W' K' q => ?_)
  · obtain ⟨q1, rfl, rfl⟩ := q
    exact ⟨Fr.nil n0, Keep.refl _ _, q1, rfl⟩
  · obtain ⟨q1, rfl⟩ := q
    subst q1
    exact k T' W'
end OwnStrMore
end Jvm.Pilot.@@N@@
namespace Jvm.Pilot.@@N@@
open Jvm Jvm.ClassFile Sem Op Lib Jvm.Free Jvm.Stand Jvm.LawKit Jvm.RoadKit Bundle Jvm.Pilot.@@N@@.Jvm.D
section OwnStrMore
variable {p : Program} {l : Launch} {e : Env} {R : Room} {s : State} {m : MethodId} {args : Array Value} {below : List Frame} {meth : Method} {c : Code} {T T' : State} {cells slots : Nat} {Z : State} {a0 : Array Value} {h h' : Heap} {EL : List (String × Nat)} {n0 : Nat} {ws sf : List Addr} {own : String} {Q : Outcome → State → Prop} {a b x y : Addr}
variable {zc : Int32} {cs ds : List Int32} {n : Nat} {index : Nat} {Wd : Nat} {g : JFrame} {rest : List Value} {fm : Value}
theorem lat0 {cd N2 : Int32} {vs : List Value} {i : Nat} (hlat : ∀ c ∈ cs, ¬ (255 : Int32) < c) (hc : StrChars.Road.CodA cs cd N2 vs) (hi : i < cs.length) : cd = 0 := by
  rcases hc with ⟨h1, -⟩ | ⟨-, -, -, c, hc, hw⟩
  · exact h1
  · exact absurd hw (hlat c hc)
theorem pdStrChar : parseMethodDescriptor "(I)C" = some ⟨[.int], some .char⟩ := by decide +kernel
theorem Wk.strChar (W : Wk p l e R s m args below meth c Z EL n0 ws own sf T cells slots h) (hx : p.tables.exec = Jvm.exec) (hsw : ∀ d ∈ StrChars.Road.wordsChN, d.before a0 Z = true) (wi : (Cond.instantiable "java/lang/String" 4).before a0 Z = true) (SC : Sta Z Z.heap "java/lang/String" "COMPACT_STRINGS" "Z" (.int zc)) (hz : ¬ zc = 0) (SF : Sta Z Z.heap "jdk/internal/util/Preconditions" "SIOOBE_FORMATTER" "Ljava/util/function/BiFunction;" fm) (rf : fm.isRef = true) (S : Str Z h x cs) (hlat : ∀ c ∈ cs, ¬ (255 : Int32) < c) {i : Nat} {j : Int32} (hi : i < cs.length) (hj : j = Int32.ofNat i)
    (w1 : (Cond.methodLink own index ⟨"java/lang/String", "charAt", "(I)C"⟩).before a0 Z = true) (w2 : (Cond.declares ⟨"java/lang/String", "charAt", "(I)C"⟩).before a0 Z = true) (w5 : (Cond.selects "java/lang/String" ⟨"java/lang/String", "charAt", "(I)C"⟩ ⟨"java/lang/String", "charAt", "(I)C"⟩).before a0 Z = true) (w6 : (Cond.instanceMethod ⟨"java/lang/String", "charAt", "(I)C"⟩).before a0 Z = true)
    (hfr : 4 ≤ R.frames) (hlo : Wd + 53 ≤ R.locals) (hc : cells ≤ R.cells) (hsl : slots ≤ R.slots) (hg : g.method = m) (hsize : g.locals.size = c.maxLocals) (hstack : g.stack = .int j :: .ref x :: rest) (hW : 2 * g.monitorRoom + (rest.map fun v => v.category).sum ≤ Wd) (hd : decode c.code g.pc = .ok (.invokevirtual index, 3))
    (k : ∀ T', Wk p l e R s m args below meth c Z EL n0 ws own sf T' cells slots h → Go p e below Q (T'.setTop { g with pc := g.pc + 3, stack := (.int (cs.getD i 0)) :: rest })) : Go p e below Q (T.setTop g) := by
  have hO := W.old
  have hEx := S.exa
  obtain ⟨t, kb, cd, N2, vs, E1, V1, C1, A1, hcd, hbd, hln⟩ := S
  obtain rfl : cd = 0 := lat0 hlat hcd hi
  refine W.virtB hx w1 w2 w5 w6 (by decide) hEx (kk := 0) (nn := 0) (ws' := []) (Qp := fun v h' => v = some (.int (cs.getD i 0)) ∧ h = h') (Q1 := fun v h' L => v = some (.int (cs.getD i 0)) ∧ L = [] ∧ h' = h) (argsL := [.int j]) (rest := rest) (Wd := Wd)
    (fun s' hZ' => StrChars.Road.chN (W := Wd) (i := i) (j := j) hZ' hsw wi E1 V1 C1 A1 hcd hbd (SC.ext hO.2) hz (SF.ext hO.2) rf hln hi hj hfr hlo) (fun v h' L q => ?_) hc hsl all0 all0 hg hsize (lenOf pdStrChar rfl) hstack hW hd (fun T' h' v W' K' q => ?_)
  · obtain ⟨q1, rfl, rfl⟩ := q
    exact ⟨Fr.nil n0, Keep.refl _ _, q1, rfl⟩
  · obtain ⟨q1, rfl⟩ := q
    subst q1
    exact k T' W'
end OwnStrMore
end Jvm.Pilot.@@N@@
namespace Jvm.Pilot.@@N@@
open Jvm Jvm.ClassFile Sem Op Lib Jvm.Free Jvm.Stand Jvm.LawKit Jvm.RoadKit Bundle Jvm.Pilot.@@N@@.Jvm.D
section OwnArr
variable {p : Program} {l : Launch} {e : Env} {R : Room} {s : State} {m : MethodId} {args : Array Value} {below : List Frame} {meth : Method} {c : Code} {T T' : State} {locs : List Loc} {cells slots : Nat} {Z : State} {a0 : Array Value} {h h' : Heap} {EL : List (String × Nat)} {n0 k0 : Nat} {ws ws' sf : List Addr} {own : String} {vm0 vm1 : Vm} {Q : Outcome → State → Prop} {a b x : Addr} {v : Value} {sl : Nat}
variable {y : MethodName} {bytes : ByteArray} {maxL : Nat} {ret : Option FieldType} {wl : List Cond} {rm : Room} {as' : Array Value} {Qv : Option Value → Heap → (Addr → Prop) → Prop}
theorem Wk.callN (W : Wk p l e R s m args below meth c Z EL n0 ws own sf T cells slots h) (hx : p.tables.exec = Jvm.exec) (hEL : EW Z a0 EL) {index : Nat} {host : String} (hy1 : y.name = "<init>") (w1 : (Cond.methodLinkNest own index y host).before a0 Z = true) (w2 : (Cond.instanceMethod y).before a0 Z = true) (w3 : (Cond.initialized y.cls).before a0 Z = true) (w4 : (Cond.code y bytes maxL none).before a0 Z = true)
    (hy : y.cls ≠ "java/lang/invoke/MethodHandle" ∧ y.cls ≠ "java/lang/invoke/VarHandle") {argsL rest : List Value} {sf' : List Addr} (M : Met l Z EL n0 y bytes maxL none [] rm (.ref a :: argsL).toArray h ws' sf' Qv) (hsf : ∀ x ∈ sf', x ∈ sf) (hf : rm.frames + 1 ≤ R.frames) {Wd : Nat} (hl : Wd + (maxL + 11) + rm.locals ≤ R.locals) (hc : cells + rm.cells ≤ R.cells) (hsl : slots + rm.slots ≤ R.slots)
    (gws : ∀ x ∈ ws', n0 ≤ x ∧ (x ∈ ws ∨ s.heap.size ≤ x)) {g : JFrame} (hg : g.method = m) (hsize : g.locals.size = c.maxLocals) (hlen : ∀ sig, parseMethodDescriptor y.desc = some sig → argsL.length = sig.parameters.length) (hstack : g.stack = argsL.reverse ++ .ref a :: rest) (hW : 2 * g.monitorRoom + (rest.map fun v => v.category).sum ≤ Wd)
    (hd : decode c.code g.pc = .ok (.invokespecial index, 3)) (k : ∀ T' h' v (S : Addr → Prop), (∀ sfx : List Addr, (∀ x ∈ sfx, S x) → Wk p l e R s m args below meth c Z EL n0 ws own (sfx ++ sf) T' (cells + rm.cells) (slots + rm.slots) h') → Keep h h' ws' → Qv v h' S → Go p e below Q (T'.setTop { g with pc := g.pc + 3, stack := v.toList ++ rest })) : Go p e below Q (T.setTop g) := by
  obtain ⟨vm0, locs, k0, X, eT, hS, hk, hZ, hown, hC, N, K, Ol, Fs⟩ := W
  obtain ⟨v, vm₁, ⟨U, Lb, kb, nb⟩, hw, X', hS', hle, ⟨L, ⟨q, N', K'⟩, e1, e2, e3, A⟩, st⟩ := X.specialBackNestS hx hy1 hown (Cond.methodLinkNest_wide hZ w1 :) (mvT (s := s.setVm vm0) hZ w2) (mvT (s := s.setVm vm0) hZ w4) hy (Met.pay (s := s) (Wd := Wd) M hZ w4 w3 hf hl hEL hC.1 (fun x hx => Fs x (hsf x hx))) hg hsize (Steps.refl _) hlen hstack hW hd (fun _ _ => ⟨rfl, eT, hc, hsl⟩)
  dsimp only [Pt.U, Pt.locs, Pt.cells, Pt.slots] at X' hS' hle q K' e1 e2 e3 A st
  subst e1 e2 e3
  exact Go.on st (k U U.heap v _ (fun sfx hx => wk_more (wk_call X X' hS' hle eT N' K' A gws hS hk hZ hown hC N K Ol Fs) hx) K' q)
end OwnArr
end Jvm.Pilot.@@N@@
namespace Jvm.Pilot.@@N@@
open Jvm Jvm.ClassFile Sem Op Lib Jvm.Free Jvm.Stand Jvm.LawKit Jvm.RoadKit Bundle Jvm.Pilot.@@N@@.Jvm.D
section OwnLen
variable {p : Program} {l : Launch} {e : Env} {R : Room} {s : State} {m : MethodId} {args : Array Value} {below : List Frame} {meth : Method} {c : Code} {T T' : State} {locs : List Loc} {cells slots : Nat} {Z : State} {a0 : Array Value} {h h' : Heap} {EL : List (String × Nat)} {n0 k0 : Nat} {ws ws' sf : List Addr} {own : String} {vm0 vm1 : Vm} {Q : Outcome → State → Prop} {a b x : Addr} {v : Value} {sl : Nat}
abbrev lv (c : Int32) : Value := .int (StrChars.lo8 c)
theorem toIntN {n : Nat} (h : n < 2147483648) : (Int32.ofNat n).toInt = n := Int32.toInt_ofNat_of_lt h
theorem clampN {n : Nat} (h : n < 2147483648) : (Int32.ofNat n).toNatClampNeg = n := by
  simp only [Int32.toNatClampNeg]; rw [toIntN h]; rfl
theorem ltN {a b : Nat} (h : a < b ∧ b < 2147483648) : Int32.ofNat a < Int32.ofNat b := by
  rw [Int32.lt_iff_toInt_lt, toIntN (by omega), toIntN (by omega)]; omega
theorem nltN {a b : Nat} (h : b ≤ a ∧ a < 2147483648) : ¬ Int32.ofNat a < Int32.ofNat b := by
  rw [Int32.lt_iff_toInt_lt, toIntN (by omega), toIntN (by omega)]; omega
theorem neN {a b : Nat} (h : a ≠ b ∧ a < 2147483648 ∧ b < 2147483648) : ¬ Int32.ofNat a = Int32.ofNat b := fun q => by
  have := congrArg Int32.toInt q
  rw [toIntN (by omega), toIntN (by omega)] at this; omega
theorem eqN {a b : Nat} (h : a = b) : Int32.ofNat a = Int32.ofNat b := by rw [h]
theorem addN (a b : Nat) : Int32.ofNat a + Int32.ofNat b = Int32.ofNat (a + b) := by
  apply Int32.toBitVec_inj.mp
  show BitVec.ofNat 32 a + BitVec.ofNat 32 b = BitVec.ofNat 32 (a + b)
  exact (BitVec.ofNat_add a b).symm
theorem subN {a b : Nat} (h : b ≤ a) : Int32.ofNat a - Int32.ofNat b = Int32.ofNat (a - b) := by
  have e : Int32.ofNat a = Int32.ofNat (a - b) + Int32.ofNat b := by rw [addN, Nat.sub_add_cancel h]
  rw [e, Int32.add_sub_cancel]
theorem decN {n : Nat} (h : 1 ≤ n) : Int32.ofNat n + (-1 : Int32) = Int32.ofNat (n - 1) := by
  have e : Int32.ofNat n = Int32.ofNat (n - 1) + Int32.ofNat 1 := by rw [addN, Nat.sub_add_cancel h]
  rw [e]
  show Int32.ofNat (n - 1) + 1 + -1 = _
  rw [Int32.add_assoc, show (1 : Int32) + -1 = 0 from by decide, Int32.add_zero]
theorem shr0 (x : Int32) : x >>> ((0 : Int32) &&& 31) = x := by
  have : ((0 : Int32) &&& 31) = 0 := by decide
  rw [this]; simp
theorem shl0 (x : Int32) : x <<< ((0 : Int32) &&& 31) = x := by
  have : ((0 : Int32) &&& 31) = 0 := by decide
  rw [this]; simp
theorem posN {a b : Nat} (h : b < a ∧ a ≤ 4000) : (0 : Int32) < Int32.ofNat a - Int32.ofNat b := by
  rw [subN (by omega)]; exact ltN (a := 0) (by omega)
theorem negNN {a b : Nat} (h : a ≤ b ∧ b ≤ 4000) : ¬ (0 : Int32) < Int32.ofNat a - Int32.ofNat b := by
  rw [Int32.lt_iff_toInt_lt, Int32.toInt_sub, toIntN (by omega), toIntN (by omega)]
  have e : ((a : Int) - (b : Int)).bmod (2 ^ 32) = a - b := by rw [Int.bmod_eq_of_le] <;> omega
  rw [e]; show ¬ ((0 : Int) < _); omega
theorem clamp3 {a b c : Nat} (h : a + b ≤ c ∧ c < 2147483648) : (Int32.ofNat a).toNatClampNeg + (Int32.ofNat b).toNatClampNeg ≤ (Int32.ofNat c).toNatClampNeg := by
  rw [clampN (by omega), clampN (by omega), clampN (by omega)]; exact h.1
theorem clamp2 {a b c : Nat} (h : a + b ≤ c ∧ c < 2147483648) : (Int32.ofNat a).toNatClampNeg + (Int32.ofNat b).toNatClampNeg ≤ c := by
  rw [clampN (by omega), clampN (by omega)]; exact h.1
theorem clamp1 {a c : Nat} (h : a ≤ c ∧ a < 2147483648) : (Int32.ofNat a).toNatClampNeg ≤ c := by
  rw [clampN (by omega)]; exact h.1
theorem usV {vl : List Value} {s k : Nat} {d : Value} (h : s + k ≤ vl.length ∧ vl.length < 2147483648) : (vl.drop s).take k = (List.range (Int32.ofNat k).toNatClampNeg).map fun i => vl.getD ((Int32.ofNat s).toNatClampNeg + i) d := by
  rw [clampN (by omega), clampN (by omega)]
  apply List.ext_getElem
  · simp; omega
  · intro i h1 h2
    simp only [List.length_map, List.length_range] at h2
    simp [List.getD_eq_getElem?_getD]
    rw [List.getElem?_eq_getElem (by omega)]; simp
theorem sbApp (ds xs : List Int32) (rs : List Value) {s k : Nat} (h : s + k ≤ xs.length) : (List.map lv ds ++ rs).take ds.length ++ ((List.map lv xs).drop s).take k ++ (List.map lv ds ++ rs).drop (ds.length + k) = List.map lv (ds ++ (xs.drop s).take k) ++ rs.drop k := by
  have e1 : (ds.map lv ++ rs).take ds.length = ds.map lv := by
    rw [List.take_append_of_le_length (by simp)]; rw [List.take_of_length_le (by simp)]
  have e2 : (ds.map lv ++ rs).drop (ds.length + k) = rs.drop k := by
    have : ds.length = (ds.map lv).length := by simp
    rw [this, List.drop_append]; simp
  rw [e1, e2, List.map_append, List.map_take, List.map_drop]
theorem tkD (ds : List Int32) (rs : List Value) : (List.map lv ds ++ rs).take ds.length = List.map lv ds := by
  rw [List.take_append_of_le_length (by simp), List.take_of_length_le (by simp)]
theorem takeAll (xs : List Int32) : (xs.drop 0).take xs.length = xs := by simp
theorem sbAll (ds xs : List Int32) (rs : List Value) : (List.map lv ds ++ rs).take ds.length ++ ((List.map lv xs).drop 0).take xs.length ++ (List.map lv ds ++ rs).drop (ds.length + xs.length) = List.map lv (ds ++ xs) ++ rs.drop xs.length := by
  have := sbApp ds xs rs (s := 0) (k := xs.length) (by omega)
  rw [takeAll] at this; exact this
theorem mod3e (x : Int32) : ((x &&& (3 : Int32)) % (3 : Int32)) = (0 : Int32) ∨ ((x &&& (3 : Int32)) % (3 : Int32)) = (1 : Int32) ∨ ((x &&& (3 : Int32)) % (3 : Int32)) = (2 : Int32) := by
  rcases and3 x with e | e | e | e <;> rw [e] <;> decide
theorem rem3N (x : Int32) : ∃ r, r < 3 ∧ ((x &&& (3 : Int32)) % (3 : Int32)) = Int32.ofNat r := by
  rcases mod3e x with e | e | e
  · exact ⟨0, by omega, e⟩
  · exact ⟨1, by omega, e⟩
  · exact ⟨2, by omega, e⟩
theorem bApp {ds xs : List Int32} {P : Int32 → Prop} (h1 : ∀ c ∈ ds, P c) (h2 : ∀ c ∈ xs, P c) : ∀ c ∈ ds ++ xs, P c := fun c hc => (List.mem_append.mp hc).elim (h1 c) (h2 c)
theorem bTake {xs : List Int32} {P : Int32 → Prop} (k : Nat) (h : ∀ c ∈ xs, P c) : ∀ c ∈ xs.take k, P c := fun c hc => h c (List.mem_of_mem_take hc)
theorem Str.len4 {cs : List Int32} (S : Str Z h x cs) : cs.length ≤ 4000 := by
  obtain ⟨_, _, _, _, _, _, _, _, _, _, _, q⟩ := S
  exact q
theorem arvN {k : ClassId} {ty : FieldType} {z : Int32} {vd us : List Value} {dd : Value} {D N : Nat} (A : Arv Z h b k ty z (vd.take (Int32.ofNat D).toNatClampNeg ++ us ++ vd.drop ((Int32.ofNat D).toNatClampNeg + (Int32.ofNat N).toNatClampNeg)) dd) (hD : D < 2147483648) (hN : N < 2147483648) : Arv Z h b k ty z (vd.take D ++ us ++ vd.drop (D + N)) dd := by
  rw [clampN hD, clampN hN] at A; exact A
theorem arvPad0 {k : ClassId} {z : Int32} {n : Nat} {us : List Value} {dd : Value} (A : Arv Z h b k .byte z ((List.replicate n dd).take 0 ++ us ++ (List.replicate n dd).drop (0 + us.length)) dd) : Arv Z h b k .byte z us dd := by
  refine A.pad fun i => ?_
  simp only [List.take_zero, List.nil_append, Nat.zero_add, List.getD_eq_getElem?_getD, List.getElem?_append]
  by_cases q : i < us.length
  · rw [if_pos q]
  · rw [if_neg q, List.getElem?_eq_none (Nat.le_of_not_lt q), List.drop_replicate, List.getElem?_replicate]
    split <;> rfl
theorem Wk.stI (W : Wk p l e R s m args below meth c Z EL n0 ws own sf T cells slots h) (hx : p.tables.exec = Jvm.exec) {kc : ClassId} {z j y : Int32} {vs : List Value} {dv : Value} (V : Arv Z h a kc .int z vs dv) (hj : ¬ j < 0 ∧ j < z) (i : Nat) (hji : j.toNatClampNeg = i) (hi : i < vs.length) (ga : n0 ≤ a) (gw : a ∈ ws ∨ s.heap.size ≤ a)
    {g : JFrame} (hg : g.method = m) {rest : List Value} (hs : g.stack = .int y :: .int j :: .ref a :: rest) (hd : decode c.code g.pc = .ok (.iastore, 1))
    (k : ∀ T' h', Wk p l e R s m args below meth c Z EL n0 ws own sf T' cells slots h' → Keep h h' [a] → Arv Z h' a kc .int z (vs.set i (.int y)) dv → Go p e below Q (T'.setTop { g with pc := g.pc + 1, stack := rest })) : Go p e below Q (T.setTop g) := by
  obtain ⟨vm0, locs, k0, X, eT, hS, hk, hZ, hown, hC, N, K, Ol, Fs⟩ := W
  obtain ⟨cl, A, q1, S1, q3, H, G⟩ := V
  obtain ⟨T', h', X', e', W', st⟩ := RoadKit.stI X hx hZ eT A (j := j) (inb_of S1 hj) hg hs hd
  exact Go.of st (k T' h' (wk_wr X' e' W' hS hk hZ hown hC N K Ol Fs (Safe.arr hZ.alike A (by decide)) ga gw) (Keep.of_wr W') (Arv.set A q1 S1 q3 H G rfl W' i hji hi))
theorem Wk.stJ (W : Wk p l e R s m args below meth c Z EL n0 ws own sf T cells slots h) (hx : p.tables.exec = Jvm.exec) {kc : ClassId} {z j : Int32} {y : Int64} {vs : List Value} {dv : Value} (V : Arv Z h a kc .long z vs dv) (hj : ¬ j < 0 ∧ j < z) (i : Nat) (hji : j.toNatClampNeg = i) (hi : i < vs.length) (ga : n0 ≤ a) (gw : a ∈ ws ∨ s.heap.size ≤ a)
    {g : JFrame} (hg : g.method = m) {rest : List Value} (hs : g.stack = .long y :: .int j :: .ref a :: rest) (hd : decode c.code g.pc = .ok (.lastore, 1))
    (k : ∀ T' h', Wk p l e R s m args below meth c Z EL n0 ws own sf T' cells slots h' → Keep h h' [a] → Arv Z h' a kc .long z (vs.set i (.long y)) dv → Go p e below Q (T'.setTop { g with pc := g.pc + 1, stack := rest })) : Go p e below Q (T.setTop g) := by
  obtain ⟨vm0, locs, k0, X, eT, hS, hk, hZ, hown, hC, N, K, Ol, Fs⟩ := W
  obtain ⟨cl, A, q1, S1, q3, H, G⟩ := V
  obtain ⟨T', h', X', e', W', st⟩ := RoadKit.stJ X hx hZ eT A (j := j) (inb_of S1 hj) hg hs hd
  exact Go.of st (k T' h' (wk_wr X' e' W' hS hk hZ hown hC N K Ol Fs (Safe.arr hZ.alike A (by decide)) ga gw) (Keep.of_wr W') (Arv.set A q1 S1 q3 H G rfl W' i hji hi))
theorem Wk.laload (W : Wk p l e R s m args below meth c Z EL n0 ws own sf T cells slots h) (hx : p.tables.exec = Jvm.exec) {kc : ClassId} {z j : Int32} {vs : List Value} {dv : Value} (V : Arv Z h a kc .long z vs dv) (hj : ¬ j < 0 ∧ j < z) (hv : vs.getD j.toNatClampNeg dv = v)
    {g : JFrame} (hg : g.method = m) {rest : List Value} (hs : g.stack = .int j :: .ref a :: rest) (hd : decode c.code g.pc = .ok (.laload, 1)) (k : Go p e below Q (T.setTop { g with pc := g.pc + 1, stack := v :: rest })) : Go p e below Q (T.setTop g) := by
  obtain ⟨vm0, locs, k0, X, eT, hS, hk, hZ, hown, r⟩ := W
  obtain ⟨cl, A, q1, S1, q3, H, G⟩ := V
  exact Go.of (fun t q => X.laload hx (by rw [eT]; exact A.1) (State.isArrayOf_alike hZ.alike A.2.1) A.2.2 (inb_of S1 hj) (H.at (inb_of S1 hj) hv) hg hs hd t q) k
end OwnLen
end Jvm.Pilot.@@N@@
namespace Jvm.Pilot.@@N@@
open Jvm Jvm.ClassFile Sem Op Lib Jvm.Free Jvm.Stand Jvm.LawKit Jvm.RoadKit Bundle Jvm.Pilot.@@N@@.Jvm.D
section OwnGrow
variable {p : Program} {l : Launch} {e : Env} {R : Room} {s : State} {m : MethodId} {args : Array Value} {below : List Frame} {meth : Method} {c : Code} {T T' : State} {locs : List Loc} {cells slots : Nat} {Z : State} {a0 : Array Value} {h h' : Heap} {EL : List (String × Nat)} {n0 k0 : Nat} {ws ws' sf : List Addr} {own : String} {vm0 vm1 : Vm} {Q : Outcome → State → Prop} {a b x : Addr} {v : Value} {sl : Nat}
def posL (u : Nat) : Int64 := Int64.ofNat u
def negL (u : Nat) : Int64 := Int64.ofInt (-(u : Int))
def negI (u : Nat) : Int32 := Int32.ofInt (-(u : Int))
theorem toInt_posL {u : Nat} (h : u < 9223372036854775808) : (posL u).toInt = u := Int64.toInt_ofNat_of_lt h
theorem toInt_negL {u : Nat} (h : u ≤ 9223372036854775808) : (negL u).toInt = -(u : Int) := by
  unfold negL; rw [Int64.toInt_ofInt]
  have e : (Int64.size : Int) = 18446744073709551616 := by decide
  rw [Int.bmod_eq_of_le] <;> omega
theorem toInt_negI {u : Nat} (h : u ≤ 2147483648) : (negI u).toInt = -(u : Int) := by
  unfold negI; rw [Int32.toInt_ofInt]
  have e : (Int32.size : Int) = 4294967296 := by decide
  rw [Int.bmod_eq_of_le] <;> omega
theorem inj64 {a b : Int64} (h : a.toInt = b.toInt) : a = b := Int64.toInt_inj.mp h
theorem split64 (m : Int64) (h : -9223372036854 ≤ m.toInt ∧ m.toInt ≤ 9223372036854) : (∃ u, u ≤ 9223372036854 ∧ m = posL u) ∨ (∃ u, 0 < u ∧ u ≤ 9223372036854 ∧ m = negL u) := by
  by_cases c : 0 ≤ m.toInt
  · refine Or.inl ⟨m.toInt.toNat, by omega, inj64 ?_⟩
    rw [toInt_posL (by omega)]; omega
  · refine Or.inr ⟨(-m.toInt).toNat, by omega, by omega, inj64 ?_⟩
    rw [toInt_negL (by omega)]; omega
theorem div6 (t : Int64) : -9223372036854 ≤ (t / (1000000 : Int64)).toInt ∧ (t / (1000000 : Int64)).toInt ≤ 9223372036854 := by
  have h1 := t.le_toInt
  have h2 := t.toInt_lt
  rw [Int64.toInt_div]
  have e : (1000000 : Int64).toInt = 1000000 := by decide
  rw [e]
  have : (t.toInt.tdiv 1000000).bmod (2 ^ 64) = t.toInt.tdiv 1000000 := by
    rw [Int.bmod_eq_of_le] 
    · have := Int.tdiv_nonneg_of_nonpos_of_nonpos (a := 0) (b := 0)
      rcases Int.le_total 0 t.toInt with c | c
      · rw [Int.tdiv_eq_ediv_of_nonneg c]; omega
      · have : t.toInt.tdiv 1000000 = -((-t.toInt) / 1000000) := by
          rw [← Int.neg_neg t.toInt, Int.neg_tdiv, Int.tdiv_eq_ediv_of_nonneg (by omega)]; simp
        omega
    · rcases Int.le_total 0 t.toInt with c | c
      · rw [Int.tdiv_eq_ediv_of_nonneg c]; omega
      · have : t.toInt.tdiv 1000000 = -((-t.toInt) / 1000000) := by
          rw [← Int.neg_neg t.toInt, Int.neg_tdiv, Int.tdiv_eq_ediv_of_nonneg (by omega)]; simp
        omega
  rw [this]
  rcases Int.le_total 0 t.toInt with c | c
  · rw [Int.tdiv_eq_ediv_of_nonneg c]; omega
  · have : t.toInt.tdiv 1000000 = -((-t.toInt) / 1000000) := by
      rw [← Int.neg_neg t.toInt, Int.neg_tdiv, Int.tdiv_eq_ediv_of_nonneg (by omega)]; simp
    omega

theorem td_nonneg {a : Nat} {b : Nat} : ((a : Int)).tdiv (b : Int) = ((a / b : Nat) : Int) := by
  rw [Int.tdiv_eq_ediv_of_nonneg (by omega)]; rfl
theorem td_neg {a : Nat} {b : Nat} : (-(a : Int)).tdiv (b : Int) = -((a / b : Nat) : Int) := by
  rw [Int.neg_tdiv, td_nonneg]
theorem small64 {z : Int} (h : -9223372036854775808 ≤ z ∧ z < 9223372036854775808) : z.bmod (2 ^ 64) = z := by rw [Int.bmod_eq_of_le] <;> omega
theorem small32 {z : Int} (h : -2147483648 ≤ z ∧ z < 2147483648) : z.bmod (2 ^ 32) = z := by rw [Int.bmod_eq_of_le] <;> omega
theorem divPos {u d : Nat} (h : u < 9223372036854775808 ∧ d < 9223372036854775808) : posL u / posL d = posL (u / d) := by
  have h2 : u / d ≤ u := Nat.div_le_self _ _
  apply inj64
  rw [Int64.toInt_div, toInt_posL h.1, toInt_posL h.2, td_nonneg]
  generalize u / d = q at h2 ⊢
  rw [toInt_posL (by omega), small64 (by omega)]
theorem divNeg {u d : Nat} (h : u < 9223372036854775808 ∧ d < 9223372036854775808) : negL u / posL d = negL (u / d) := by
  have h2 : u / d ≤ u := Nat.div_le_self _ _
  apply inj64
  rw [Int64.toInt_div, toInt_negL (u := u) (by omega), toInt_posL h.2, td_neg]
  generalize u / d = q at h2 ⊢
  rw [toInt_negL (by omega), small64 (by omega)]
theorem mulSub {u : Nat} (h : u < 92233720368547758) : negL (u / 100) * posL 100 - negL u = posL (u % 100) := by
  have h2 : u / 100 ≤ u := Nat.div_le_self _ _
  apply inj64
  have e1 : (-((u / 100 : Nat) : Int) * ((100 : Nat) : Int)).bmod (2 ^ 64) = -((u / 100 : Nat) : Int) * 100 := small64 (by omega)
  rw [Int64.toInt_sub, Int64.toInt_mul, toInt_negL (u := u / 100) (by omega), toInt_posL (u := 100) (by omega), toInt_negL (u := u) (by omega), toInt_posL (by omega), e1, small64 (by omega)]
  omega
theorem negNeg {u : Nat} (h : u < 9223372036854775808) : -(negL u) = posL u := by
  apply inj64
  rw [Int64.toInt_neg, toInt_negL (by omega), toInt_posL h, small64 (by omega)]; omega
theorem negPos {u : Nat} (h : u < 9223372036854775808) : -(posL u) = negL u := by
  apply inj64
  rw [Int64.toInt_neg, toInt_negL (by omega), toInt_posL h, small64 (by omega)]
theorem l2iPos {u : Nat} (h : u < 2147483648) : (posL u).toInt32 = Int32.ofNat u := by
  apply Int32.toInt_inj.mp
  rw [Int64.toInt_toInt32, toInt_posL (by omega), Int32.toInt_ofNat_of_lt h, small32 (by omega)]
theorem l2iNeg {u : Nat} (h : u < 2147483648) : (negL u).toInt32 = negI u := by
  apply Int32.toInt_inj.mp
  rw [Int64.toInt_toInt32, toInt_negL (by omega), toInt_negI (by omega), small32 (by omega)]
theorem ltLP {a b : Nat} (h : a < b ∧ b < 9223372036854775808) : posL a < posL b := by
  rw [Int64.lt_iff_toInt_lt, toInt_posL (by omega), toInt_posL (by omega)]; omega
theorem nltLP {a b : Nat} (h : b ≤ a ∧ a < 9223372036854775808) : ¬ posL a < posL b := by
  rw [Int64.lt_iff_toInt_lt, toInt_posL (by omega), toInt_posL (by omega)]; omega
theorem ltLN {a b : Nat} (h : b < a ∧ a < 9223372036854775808) : negL a < negL b := by
  rw [Int64.lt_iff_toInt_lt, toInt_negL (by omega), toInt_negL (by omega)]; omega
theorem nltLN {a b : Nat} (h : a ≤ b ∧ b < 9223372036854775808) : ¬ negL a < negL b := by
  rw [Int64.lt_iff_toInt_lt, toInt_negL (by omega), toInt_negL (by omega)]; omega
theorem divNegI {u d : Nat} (h : u < 2147483648 ∧ d < 2147483648) : negI u / Int32.ofNat d = negI (u / d) := by
  have h2 : u / d ≤ u := Nat.div_le_self _ _
  apply Int32.toInt_inj.mp
  rw [Int32.toInt_div, toInt_negI (u := u) (by omega), Int32.toInt_ofNat_of_lt h.2, td_neg]
  generalize u / d = q at h2 ⊢
  rw [toInt_negI (by omega), small32 (by omega)]
theorem mulSubI {u : Nat} (h : u < 2147483648) : negI (u / 100) * Int32.ofNat 100 - negI u = Int32.ofNat (u % 100) := by
  have h2 : u / 100 ≤ u := Nat.div_le_self _ _
  apply Int32.toInt_inj.mp
  have e1 : (-((u / 100 : Nat) : Int) * ((100 : Nat) : Int)).bmod (2 ^ 32) = -((u / 100 : Nat) : Int) * 100 := small32 (by omega)
  rw [Int32.toInt_sub, Int32.toInt_mul, toInt_negI (u := u / 100) (by omega), Int32.toInt_ofNat_of_lt (n := 100) (by omega), toInt_negI (u := u) (by omega), Int32.toInt_ofNat_of_lt (by omega), e1, small32 (by omega)]
  omega
theorem negNegI {u : Nat} (h : u < 2147483648) : -(negI u) = Int32.ofNat u := by
  apply Int32.toInt_inj.mp
  rw [Int32.toInt_neg, toInt_negI (by omega), Int32.toInt_ofNat_of_lt h, small32 (by omega)]; omega
theorem ltNI {a b : Nat} (h : b < a ∧ a < 2147483648) : negI a < negI b := by
  rw [Int32.lt_iff_toInt_lt, toInt_negI (by omega), toInt_negI (by omega)]; omega
theorem nltNI {a b : Nat} (h : a ≤ b ∧ b < 2147483648) : ¬ negI a < negI b := by
  rw [Int32.lt_iff_toInt_lt, toInt_negI (by omega), toInt_negI (by omega)]; omega
theorem i2cN {n : Nat} (h : n < 65536) : (Int32.ofNat n).toUInt32.toUInt16.toUInt32.toInt32 = Int32.ofNat n := by
  apply Int32.toBitVec_inj.mp
  show BitVec.setWidth 32 (BitVec.setWidth 16 (BitVec.ofNat 32 n)) = BitVec.ofNat 32 n
  apply BitVec.eq_of_toNat_eq
  simp only [BitVec.toNat_setWidth, BitVec.toNat_ofNat]
  omega
def ND (u nn : Nat) : Prop := (nn = 1 ∧ u < 10) ∨ (nn = 2 ∧ 10 ≤ u ∧ u < 100) ∨ (nn = 3 ∧ 100 ≤ u ∧ u < 1000) ∨ (nn = 4 ∧ 1000 ≤ u ∧ u < 10000) ∨ (nn = 5 ∧ 10000 ≤ u ∧ u < 100000) ∨ (nn = 6 ∧ 100000 ≤ u ∧ u < 1000000) ∨ (nn = 7 ∧ 1000000 ≤ u ∧ u < 10000000) ∨ (nn = 8 ∧ 10000000 ≤ u ∧ u < 100000000) ∨ (nn = 9 ∧ 100000000 ≤ u ∧ u < 1000000000) ∨ (nn = 10 ∧ 1000000000 ≤ u ∧ u < 10000000000) ∨ (nn = 11 ∧ 10000000000 ≤ u ∧ u < 100000000000) ∨ (nn = 12 ∧ 100000000000 ≤ u ∧ u < 1000000000000) ∨ (nn = 13 ∧ 1000000000000 ≤ u ∧ u ≤ 9223372036854)
theorem ndEx (u : Nat) (h : u ≤ 9223372036854) : ∃ nn, ND u nn ∧ 1 ≤ nn ∧ nn ≤ 13 := by
  by_cases c1 : u < 10; · exact ⟨1, (Or.inl ⟨rfl, c1⟩), by decide, by decide⟩
  by_cases c2 : u < 100; · exact ⟨2, (Or.inr (Or.inl ⟨rfl, Nat.le_of_not_lt c1, c2⟩)), by decide, by decide⟩
  by_cases c3 : u < 1000; · exact ⟨3, (Or.inr (Or.inr (Or.inl ⟨rfl, Nat.le_of_not_lt c2, c3⟩))), by decide, by decide⟩
  by_cases c4 : u < 10000; · exact ⟨4, (Or.inr (Or.inr (Or.inr (Or.inl ⟨rfl, Nat.le_of_not_lt c3, c4⟩)))), by decide, by decide⟩
  by_cases c5 : u < 100000; · exact ⟨5, (Or.inr (Or.inr (Or.inr (Or.inr (Or.inl ⟨rfl, Nat.le_of_not_lt c4, c5⟩))))), by decide, by decide⟩
  by_cases c6 : u < 1000000; · exact ⟨6, (Or.inr (Or.inr (Or.inr (Or.inr (Or.inr (Or.inl ⟨rfl, Nat.le_of_not_lt c5, c6⟩)))))), by decide, by decide⟩
  by_cases c7 : u < 10000000; · exact ⟨7, (Or.inr (Or.inr (Or.inr (Or.inr (Or.inr (Or.inr (Or.inl ⟨rfl, Nat.le_of_not_lt c6, c7⟩))))))), by decide, by decide⟩
  by_cases c8 : u < 100000000; · exact ⟨8, (Or.inr (Or.inr (Or.inr (Or.inr (Or.inr (Or.inr (Or.inr (Or.inl ⟨rfl, Nat.le_of_not_lt c7, c8⟩)))))))), by decide, by decide⟩
  by_cases c9 : u < 1000000000; · exact ⟨9, (Or.inr (Or.inr (Or.inr (Or.inr (Or.inr (Or.inr (Or.inr (Or.inr (Or.inl ⟨rfl, Nat.le_of_not_lt c8, c9⟩))))))))), by decide, by decide⟩
  by_cases c10 : u < 10000000000; · exact ⟨10, (Or.inr (Or.inr (Or.inr (Or.inr (Or.inr (Or.inr (Or.inr (Or.inr (Or.inr (Or.inl ⟨rfl, Nat.le_of_not_lt c9, c10⟩)))))))))), by decide, by decide⟩
  by_cases c11 : u < 100000000000; · exact ⟨11, (Or.inr (Or.inr (Or.inr (Or.inr (Or.inr (Or.inr (Or.inr (Or.inr (Or.inr (Or.inr (Or.inl ⟨rfl, Nat.le_of_not_lt c10, c11⟩))))))))))), by decide, by decide⟩
  by_cases c12 : u < 1000000000000; · exact ⟨12, (Or.inr (Or.inr (Or.inr (Or.inr (Or.inr (Or.inr (Or.inr (Or.inr (Or.inr (Or.inr (Or.inr (Or.inl ⟨rfl, Nat.le_of_not_lt c11, c12⟩)))))))))))), by decide, by decide⟩
  exact ⟨13, (Or.inr (Or.inr (Or.inr (Or.inr (Or.inr (Or.inr (Or.inr (Or.inr (Or.inr (Or.inr (Or.inr (Or.inr (⟨rfl, Nat.le_of_not_lt c12, h⟩))))))))))))), by decide, by decide⟩
def dgc (u k : Nat) : Int32 := Int32.ofNat (48 + u / 10 ^ k % 10)
/-- the nn last digits, the greatest first -/
def dgl (u : Nat) : Nat → List Int32
  | 0 => []
  | n + 1 => dgc u n :: dgl u n
theorem dgl_len (u n : Nat) : (dgl u n).length = n := by induction n with
  | zero => rfl
  | succ n ih => simp [dgl, ih]
theorem dgl_at (u : Nat) : ∀ (n k : Nat), k < n → (dgl u n).getD (n - 1 - k) 0 = dgc u k
  | n + 1, k, h => by
    by_cases c : k = n
    · subst c; simp [dgl]
    · have e : n + 1 - 1 - k = (n - 1 - k) + 1 := by omega
      rw [e, dgl, List.getD_cons_succ]
      exact dgl_at u n k (by omega)
theorem dgc_b (u k : Nat) : ¬ dgc u k < 0 ∧ ¬ (255 : Int32) < dgc u k := by
  have t : ∀ d : Fin 10, ¬ Int32.ofNat (48 + d.val) < 0 ∧ ¬ (255 : Int32) < Int32.ofNat (48 + d.val) := by decide
  exact t ⟨u / 10 ^ k % 10, Nat.mod_lt _ (by decide)⟩
theorem dgl_b (u : Nat) : ∀ n, ∀ c ∈ dgl u n, ¬ c < 0 ∧ ¬ (255 : Int32) < c
  | 0, c, h => nomatch h
  | n + 1, c, h => by
    rcases List.mem_cons.mp h with rfl | h
    · exact dgc_b u n
    · exact dgl_b u n c h
section
variable {α : Type}
/-- written downwards from c -/
def wrd (L : List α) (c : Nat) : List α → List α
  | [] => L
  | v :: r => wrd (L.set (c - 1) v) (c - 1) r
theorem wrd_eq (vs : List α) : ∀ (A R : List α), vs.length ≤ R.length → wrd (A ++ R) (A.length + vs.length) vs = A ++ vs.reverse ++ R.drop vs.length := by
  induction vs with
  | nil => intro A R h; simp [wrd]
  | cons v r ih =>
    intro A R h
    simp only [List.length_cons] at h
    have e : A.length + (v :: r).length - 1 = A.length + r.length := by simp
    rw [wrd, e]
    have e2 : (A ++ R).set (A.length + r.length) v = A ++ (R.set r.length v) := by rw [List.set_append_right _ _ (by omega)]; congr 2; omega
    rw [e2, ih A _ (by simp; omega)]
    have hl : r.length < R.length := by omega
    have e3 : (R.set r.length v).drop r.length = v :: R.drop (r.length + 1) := by
      rw [List.set_eq_take_append_cons_drop, if_pos hl, List.drop_left' (by simp; omega)]
    rw [e3]; simp
end
theorem rem10 {u : Nat} (h : u < 92233720368547758) : posL u - posL u / posL 10 * posL 10 = posL (u % 10) := by
  rw [divPos (by omega)]
  apply inj64
  have e1 : (((u / 10 : Nat) : Int) * ((10 : Nat) : Int)).bmod (2 ^ 64) = ((u / 10 : Nat) : Int) * 10 := small64 (by omega)
  rw [Int64.toInt_sub, Int64.toInt_mul, toInt_posL (u := u / 10) (by omega), toInt_posL (u := 10) (by omega), toInt_posL (u := u) (by omega), toInt_posL (by omega), e1, small64 (by omega)]
  omega
theorem wrdD {ds es : List Int32} {rs vs : List Value} {cc : Nat} (hv : vs.reverse = List.map lv es) (hc : cc = ds.length + vs.length) (hr : vs.length ≤ rs.length) : wrd (List.map lv ds ++ rs) cc vs = List.map lv (ds ++ es) ++ rs.drop vs.length := by
  have q := wrd_eq vs (List.map lv ds) rs hr
  rw [List.length_map, ← hc, hv, ← List.map_append] at q
  exact q
theorem gmid {P X S : List Int32} {j : Nat} (q : j < X.length) : (P ++ X ++ S).getD (P.length + j) 0 = X.getD j 0 := by
  rw [List.append_assoc]
  simp only [List.getD_eq_getElem?_getD, List.getElem?_append]
  rw [if_neg (by omega), Nat.add_sub_cancel_left, if_pos q]
theorem getTake {L : List Int32} {n j : Nat} (q : j < n) : (List.take n L).getD j 0 = L.getD j 0 := by
  simp only [List.getD_eq_getElem?_getD, List.getElem?_take, if_pos q]
theorem on1 {v u D : Nat} (hv : v = u / D) : v % 100 < 100 ∧ v % 100 % 10 = u / D % 10 := by rw [hv]; generalize u / D = q; omega
theorem tn1 {v u D D' : Nat} (hD : D' = D * 10) (hv : v = u / D) : v % 100 < 100 ∧ v % 100 / 10 = u / D' % 10 := by rw [hD, ← Nat.div_div_eq_div_mul, ← hv]; omega
theorem dvS {v u D D' : Nat} (hD : D' = D * 100) (hv : v = u / D) : v / 100 = u / D' := by rw [hD, ← Nat.div_div_eq_div_mul, ← hv]
theorem on2 {v u D : Nat} (q : v ≤ 99) (hv : v = u / D) : v < 100 ∧ v % 10 = u / D % 10 := ⟨by omega, by rw [hv]⟩
theorem tn2 {v u D D' : Nat} (hD : D' = D * 10) (q : v ≤ 99) (hv : v = u / D) : v < 100 ∧ v / 10 = u / D' % 10 := by rw [hD, ← Nat.div_div_eq_div_mul, ← hv]; omega
theorem decLe {E cp : Nat} (q : E + 1 ≤ cp) : E - 1 + 1 ≤ cp := by omega
theorem decLe0 {E cp : Nat} (q : E ≤ cp) (r : 1 ≤ E) : E - 1 + 1 ≤ cp := by omega
theorem decGe {k E : Nat} (q : k + 1 ≤ E) : k ≤ E - 1 := by omega
theorem stIdx {E cp : Nat} (q : E + 1 ≤ cp) (hc : cp ≤ 92) : ¬ Int32.ofNat E < 0 ∧ Int32.ofNat E < Int32.ofNat cp := ⟨nltN (b := 0) (by omega), ltN (by omega)⟩
theorem stClamp {E cp : Nat} (q : E + 1 ≤ cp) (hc : cp ≤ 92) : (Int32.ofNat E).toNatClampNeg = E := clampN (by omega)
theorem stLen {E cp : Nat} {L : List Value} (q : E + 1 ≤ cp) (hl : L.length = cp) : E < L.length := by omega
theorem stSet {cp i : Nat} {L L' : List Value} {v : Value} (hl : L.length = cp) (hs : L' = L.set i v) : L'.length = cp := by rw [hs, List.length_set]; exact hl
theorem ltHi {a b c : Nat} (q : a ≤ b) (r : b < c) : a < c := Nat.lt_of_le_of_lt q r
theorem loLt {a b c : Nat} (q : b ≤ c) (r : a < b) : a < c := Nat.lt_of_lt_of_le r q
theorem m100 (v : Nat) : v % 100 < 100 := Nat.mod_lt _ (by decide)
theorem ltZ1 {a b : Nat} {z : Int64} (hz : z = negL b) (q : b < a ∧ a < 9223372036854775808) : negL a < z := by rw [hz]; exact ltLN q
theorem ltZ2 {a b : Nat} {z : Int64} (hz : z = negL b) (q : a < b ∧ b < 9223372036854775808) : z < negL a := by rw [hz]; exact ltLN q
theorem nltZ2 {a b : Nat} {z : Int64} (hz : z = negL b) (q : b ≤ a ∧ a < 9223372036854775808) : ¬ z < negL a := by rw [hz]; exact nltLN q
theorem ltZI1 {a b : Nat} {z : Int32} (hz : z = negI b) (q : b < a ∧ a < 2147483648) : negI a < z := by rw [hz]; exact ltNI q
theorem nltZI1 {a b : Nat} {z : Int32} (hz : z = negI b) (q : a ≤ b ∧ b < 2147483648) : ¬ negI a < z := by rw [hz]; exact nltNI q
theorem ltZI2 {a b : Nat} {z : Int32} (hz : z = negI b) (q : a < b ∧ b < 2147483648) : z < negI a := by rw [hz]; exact ltNI q
theorem nltZI2 {a b : Nat} {z : Int32} (hz : z = negI b) (q : b ≤ a ∧ a < 2147483648) : ¬ z < negI a := by rw [hz]; exact nltNI q
theorem neOr {n : Nat} {t t' : Addr} (q : t' = t ∨ n ≤ t') (q1 : a ≠ t) (q2 : a < n) : a ≠ t' := fun r => q.elim (fun u => q1 (r.trans u)) (fun u => Nat.lt_irrefl _ (Nat.lt_of_lt_of_le q2 (r ▸ u)))
def onesL : List Value := (List.range 100).map fun i => .int (Int32.ofNat (48 + i % 10))
def tensL : List Value := (List.range 100).map fun i => .int (Int32.ofNat (48 + i / 10))
theorem onesAt {u j r D : Nat} (hD : D = 10 ^ j) (q : r < 100 ∧ r % 10 = u / D % 10) : onesL.getD (Int32.ofNat r).toNatClampNeg (.int 0) = .int (dgc u j) := by
  rw [clampN (by omega)]
  simp only [onesL, List.getD_eq_getElem?_getD, List.getElem?_map, List.getElem?_range q.1, Option.map_some, Option.getD_some, dgc]
  rw [q.2, hD]
theorem tensAt {u j r D : Nat} (hD : D = 10 ^ j) (q : r < 100 ∧ r / 10 = u / D % 10) : tensL.getD (Int32.ofNat r).toNatClampNeg (.int 0) = .int (dgc u j) := by
  rw [clampN (by omega)]
  simp only [tensL, List.getD_eq_getElem?_getD, List.getElem?_map, List.getElem?_range q.1, Option.map_some, Option.getD_some, dgc]
  rw [q.2, hD]
theorem arvPadR {k : ClassId} {z : Int32} {n c m : Nat} {vl : List Value} (A : Arv Z h b k .byte z ((List.replicate n (Value.int 0)).take 0 ++ (vl.drop 0).take c ++ (List.replicate n (Value.int 0)).drop (0 + c)) (.int 0)) (hc : c = vl.length) : Arv Z h b k .byte z (vl ++ List.replicate m (Value.int 0)) (.int 0) := by
  subst hc
  refine A.pad fun i => ?_
  rw [List.drop_zero, List.take_of_length_le (Nat.le_refl _)]
  simp only [List.take_zero, List.nil_append, Nat.zero_add, List.getD_eq_getElem?_getD, List.getElem?_append, List.drop_replicate, List.getElem?_replicate]
  by_cases q : i < vl.length
  · rw [if_pos q, if_pos q]
  · rw [if_neg q, if_neg q]
    split <;> split <;> rfl
theorem Wk.newPE (W : Wk p l e R s m args below meth c Z EL n0 ws own sf T cells slots h) (hx : p.tables.exec = Jvm.exec) {aty : ArrayType} {ad : String} (w : (Cond.arrayClass (newarray.typeOf aty)).before a0 Z = true) (had : "[" ++ (newarray.typeOf aty).toString = ad)
    {g : JFrame} (hg : g.method = m) (hd : decode c.code g.pc = .ok (.newarray aty, 2)) {n : Int32} {rest : List Value} (hs : g.stack = .int n :: rest)
    (hn : ¬ n < 0) {cap : Nat} (hcap : n.toNatClampNeg ≤ cap) (hb : cap * 8 ≤ 536870912) (hc : cells + 1 ≤ R.cells) (hl : slots + cap ≤ R.slots)
    (k : ∀ T' h' b kc, b = h.size → n0 ≤ b ∧ s.heap.size ≤ b → Wk p l e R s m args below meth c Z EL n0 ws own (b :: sf) T' (cells + 1) (slots + cap) h' → Keep h h' [] → Arv Z h' b kc (newarray.typeOf aty) n (List.replicate cap (defaultValue (newarray.typeOf aty))) (defaultValue (newarray.typeOf aty)) → Exa Z h' b ad →
      Go p e below Q (T'.setTop { g with pc := g.pc + 2, stack := .ref b :: rest })) : Go p e below Q (T.setTop g) := by
  have hle := W.n0le
  have hle' := W.s0le
  obtain ⟨vm0, locs, k0, X, eT, hS, hk, hZ, hown, hC, N, K, O, F⟩ := W
  obtain ⟨T', h', kc, X', e', E, A, Ea, st⟩ := RoadKit.newPE X hx hZ w eT hg hd hs hn hcap hb hc hl had
  exact Go.of st (k T' h' h.size kc rfl ⟨hle, hle'⟩ (wk_new X' e' E A.lt hS hk hZ hown hC N K O F) ((Keep.refl h []).ext E) ((Arv.new A hn).pad (pad_rep [] _ cap)) Ea)
theorem fitArv {k : ClassId} {ty : FieldType} {z : Int32} {vs : List Value} {dv : Value} (V : Arv Z h a k ty z vs dv) : ∀ cl : Cell, Arr Z h a cl ty → FitC Z cl := fun cl A i v hv => by
  obtain ⟨c0, A0, q1, q2, q3, H, G⟩ := V
  cases A0.1.symm.trans A.1
  obtain ⟨hi, -⟩ := Array.getElem?_eq_some_iff.mp hv
  have e := (H i hi).symm.trans hv
  have g := G i hi
  rw [Option.some.inj e] at g
  obtain ⟨hs, kk, hk, comp, hkind⟩ := A.2.1
  simp [State.fitsSlot, State.slotType?, hk, hkind, g]
end OwnGrow
end Jvm.Pilot.@@N@@
namespace Jvm.Pilot.@@N@@
open Jvm Jvm.ClassFile Sem Op Lib Jvm.Free Jvm.Stand Jvm.LawKit Jvm.RoadKit Bundle Jvm.Pilot.@@N@@.Jvm.D
theorem static_any {s : State} {args : Array Value} {C n d : String} {v : Value} {idx : List Nat} (q : (Term.static C n d).eval args s none [] s = some v) : (Term.static C n d).eval args s none idx s = some v := by
  simp only [Term.eval] at q ⊢; exact q
theorem digStart_ones {s : State} {args : Array Value} {t : Term} {a : Addr} (hf : Fit s) (ev : ∀ idx, t.eval args s none idx s = some (.ref a)) (E : Exa s s.heap a "[B") (w : (Cond.arrayClass .byte).before args s = true) (hl : (Cond.eq (.length t) (.int (100 : Int32))).value args s none s [] = some true)
    (hall : (Cond.all t (.eq (.elem t (.index 0)) (.add (.int (48 : Int32)) (.rem (.index 0) (.int (10 : Int32)))))).value args s none s [] = some true) : ∃ k, Arv s s.heap a k .byte (100 : Int32) onesL (.int (0 : Int32)) := by
  cases hA : s.arrayAt? a with
  | none => simp [Cond.value, Term.eval, ev, hA] at hl
  | some c =>
    obtain ⟨h1, h2, h3, -⟩ := State.arrayAt?_spec hA
    obtain ⟨cell, k, e1, e2, e3, -⟩ := E
    cases e1.symm.trans h1
    obtain ⟨cc, kk, comp, w1, w2, w3⟩ := Cond.arrayClass_spec w
    cases (show s.vm.findClass "[B" = some cc from w1).symm.trans e2
    have A : Arr s s.heap a c .byte := ⟨h1, ⟨(fun z q => by rw [q] at h3; cases h3), kk, w2, comp, w3⟩, h2⟩
    by_cases hs : c.slots.size < 2 ^ 31
    · have e := len_f (ev []) hA hs
      have e4 := gotT (Cond.eq_ints e (Term.int_eval (100 : Int32))) hl
      have e5 : c.slots.size = 100 := by
        have q := congrArg Int32.toInt e4
        rw [len_toInt hs] at q
        have q2 : (100 : Int32).toInt = 100 := rfl
        omega
      have H : Has c onesL (.int (0 : Int32)) := fun i hi => by
        have hi' : i < 100 := e5 ▸ hi
        have hn : ¬ Int32.ofNat i < 0 := nltN (b := 0) (by omega)
        have hc := clampN (n := i) (by omega)
        have q := Cond.all_elim (ev []) hA hall i hi
        have hx : (Term.index 0).eval args s none [i] s = some (.int (Int32.ofNat i)) := by have z := idx_at (args := args) (s := s) (first := s) (o := none) hn; rw [hc] at z; exact z
        have t1 : ∀ k : Fin 100, (48 + Int32.ofNat k.val % 10 : Int32) = Int32.ofNat (48 + k.val % 10) := by decide +kernel
        have hF : (Term.add (.int (48 : Int32)) (.rem (.index 0) (.int (10 : Int32)))).eval args s none [i] s = some (.int (Int32.ofNat (48 + i % 10))) := by
          rw [← t1 ⟨i, hi'⟩]
          simp only [Term.eval]
          first | rfl | (simp; done) | (simp [hx]; done)
        have q2 := eqv_i hF q
        have q3 := elem_f (ev [i]) hx hA hn
        rw [hc] at q3
        rw [← q3, q2]
        simp only [onesL, List.getD_eq_getElem?_getD, List.getElem?_map, List.getElem?_range hi', Option.map_some, Option.getD_some]
      refine ⟨c.cls, c, A, rfl, e5, by decide, H, fun i hi => ?_⟩
      have q := H i hi
      obtain ⟨v, r1, r2⟩ := elem_fit (j := Int32.ofNat i) hf A (fun z => z.elim (nltN (b := 0) (by omega)) (fun z => by rw [clampN (by omega)] at z; omega))
      rw [clampN (by omega)] at r1
      rw [Option.some.inj (q.symm.trans r1)]; exact r2
    · simp [Cond.value, Term.eval, ev, hA, hs] at hl

theorem digStart_tens {s : State} {args : Array Value} {t : Term} {a : Addr} (hf : Fit s) (ev : ∀ idx, t.eval args s none idx s = some (.ref a)) (E : Exa s s.heap a "[B") (w : (Cond.arrayClass .byte).before args s = true) (hl : (Cond.eq (.length t) (.int (100 : Int32))).value args s none s [] = some true)
    (hall : (Cond.all t (.eq (.elem t (.index 0)) (.add (.int (48 : Int32)) (.div (.index 0) (.int (10 : Int32)))))).value args s none s [] = some true) : ∃ k, Arv s s.heap a k .byte (100 : Int32) tensL (.int (0 : Int32)) := by
  cases hA : s.arrayAt? a with
  | none => simp [Cond.value, Term.eval, ev, hA] at hl
  | some c =>
    obtain ⟨h1, h2, h3, -⟩ := State.arrayAt?_spec hA
    obtain ⟨cell, k, e1, e2, e3, -⟩ := E
    cases e1.symm.trans h1
    obtain ⟨cc, kk, comp, w1, w2, w3⟩ := Cond.arrayClass_spec w
    cases (show s.vm.findClass "[B" = some cc from w1).symm.trans e2
    have A : Arr s s.heap a c .byte := ⟨h1, ⟨(fun z q => by rw [q] at h3; cases h3), kk, w2, comp, w3⟩, h2⟩
    by_cases hs : c.slots.size < 2 ^ 31
    · have e := len_f (ev []) hA hs
      have e4 := gotT (Cond.eq_ints e (Term.int_eval (100 : Int32))) hl
      have e5 : c.slots.size = 100 := by
        have q := congrArg Int32.toInt e4
        rw [len_toInt hs] at q
        have q2 : (100 : Int32).toInt = 100 := rfl
        omega
      have H : Has c tensL (.int (0 : Int32)) := fun i hi => by
        have hi' : i < 100 := e5 ▸ hi
        have hn : ¬ Int32.ofNat i < 0 := nltN (b := 0) (by omega)
        have hc := clampN (n := i) (by omega)
        have q := Cond.all_elim (ev []) hA hall i hi
        have hx : (Term.index 0).eval args s none [i] s = some (.int (Int32.ofNat i)) := by have z := idx_at (args := args) (s := s) (first := s) (o := none) hn; rw [hc] at z; exact z
        have t1 : ∀ k : Fin 100, (48 + Int32.ofNat k.val / 10 : Int32) = Int32.ofNat (48 + k.val / 10) := by decide +kernel
        have hF : (Term.add (.int (48 : Int32)) (.div (.index 0) (.int (10 : Int32)))).eval args s none [i] s = some (.int (Int32.ofNat (48 + i / 10))) := by
          rw [← t1 ⟨i, hi'⟩]
          simp only [Term.eval]
          first | rfl | (simp; done) | (simp [hx]; done)
        have q2 := eqv_i hF q
        have q3 := elem_f (ev [i]) hx hA hn
        rw [hc] at q3
        rw [← q3, q2]
        simp only [tensL, List.getD_eq_getElem?_getD, List.getElem?_map, List.getElem?_range hi', Option.map_some, Option.getD_some]
      refine ⟨c.cls, c, A, rfl, e5, by decide, H, fun i hi => ?_⟩
      have q := H i hi
      obtain ⟨v, r1, r2⟩ := elem_fit (j := Int32.ofNat i) hf A (fun z => z.elim (nltN (b := 0) (by omega)) (fun z => by rw [clampN (by omega)] at z; omega))
      rw [clampN (by omega)] at r1
      rw [Option.some.inj (q.symm.trans r1)]; exact r2
    · simp [Cond.value, Term.eval, ev, hA, hs] at hl

end Jvm.Pilot.@@N@@
namespace Jvm.Pilot.@@N@@
open Jvm Jvm.ClassFile Sem Op Lib Jvm.Free Jvm.Stand Jvm.LawKit Jvm.RoadKit Bundle Jvm.Pilot.@@N@@.Jvm.D
open Jvm.Free.XT (cmpL)
/-! plain steps by evaluation -/
abbrev Tb := List (Nat × Instr × Nat)
def tAt : Tb → Nat → Option (Instr × Nat)
  | [], _ => none
  | q :: t, pc => bif Nat.beq q.1 pc then some q.2 else tAt t pc
abbrev TOk (b : ByteArray) (t : Tb) : Prop := ∀ q ∈ t, decode b q.1 = .ok q.2
theorem tAt_mem : ∀ {t : Tb} {q : Nat} {r : Instr × Nat}, tAt t q = some r → (q, r) ∈ t
  | [], _, _, h => nomatch h
  | (a, b) :: t, q, r, h => by
    unfold tAt at h
    cases hb : Nat.beq a q with
    | true =>
      simp only [hb, cond_true, Option.some.injEq] at h
      have := Nat.eq_of_beq_eq_true hb
      subst this; subst h
      exact List.mem_cons_self
    | false =>
      simp only [hb, cond_false] at h
      exact List.mem_cons_of_mem _ (tAt_mem h)
theorem tk {c : Code} {b : ByteArray} {t : Tb} (hby : c.code = b) (K : TOk b t) (q : Nat) {r : Instr × Nat} (h : tAt t q = some r) : decode c.code q = .ok r := by
  have k := K _ (tAt_mem h)
  rw [hby]
  exact k
def sAt : List Slot → Nat → Option Slot
  | [], _ => none
  | a :: _, 0 => some a
  | _ :: l, k + 1 => sAt l k
theorem sAt_eq : ∀ (l : List Slot) (k : Nat), l.toArray[k]? = sAt l k := by
  intro l k
  rw [List.getElem?_toArray]
  induction l generalizing k with
  | nil => rfl
  | cons a l ih =>
    cases k with
    | zero => rfl
    | succ k => rw [List.getElem?_cons_succ]; exact ih k
def st0 (l : List Slot) (v : Value) : Slot → Option (List Slot)
  | .unset => some (.val v :: l)
  | .val w => bif Nat.beq w.category 1 then some (.val v :: l) else none
  | .second => none
def st1 : List Slot → Nat → Value → Option (List Slot)
  | [], _, _ => none
  | o :: l, 0, v => st0 l v o
  | o :: l, k + 1, v => match st1 l k v with
    | some l' => some (o :: l')
    | none => none
theorem st1_eq : ∀ {l : List Slot} {k : Nat} {v : Value} {l' : List Slot}, st1 l k v = some l' → ∃ o, l[k]? = some o ∧ (o = .unset ∨ ∃ w, o = .val w ∧ w.category = 1) ∧ l' = l.set k (.val v) := by
  intro l
  induction l with
  | nil => intro k v l' h; simp [st1] at h
  | cons a l ih =>
    intro k v l' h
    cases k with
    | zero =>
      unfold st1 at h
      cases a with
      | unset => simp only [st0, Option.some.injEq] at h; subst h; exact ⟨_, rfl, Or.inl rfl, rfl⟩
      | second => simp [st0] at h
      | val w =>
        unfold st0 at h
        cases hb : Nat.beq w.category 1 with
        | false => simp [hb] at h
        | true => simp only [hb, cond_true, Option.some.injEq] at h; subst h; exact ⟨_, rfl, Or.inr ⟨w, rfl, Nat.eq_of_beq_eq_true hb⟩, rfl⟩
    | succ k =>
      unfold st1 at h
      cases hs : st1 l k v with
      | none => simp [hs] at h
      | some l2 =>
        simp only [hs, Option.some.injEq] at h
        obtain ⟨o, h1, h2, h3⟩ := ih hs
        subst h; subst h3
        exact ⟨o, by rw [List.getElem?_cons_succ]; exact h1, h2, rfl⟩
theorem st1_ok {l : List Slot} {k : Nat} {v : Value} {l' : List Slot} (hv : v.category = 1) (h : st1 l k v = some l') : storeLocals l.toArray k v = some l'.toArray := by
  obtain ⟨o, h1, h2, rfl⟩ := st1_eq h
  rw [XS.store1 (by rw [List.getElem?_toArray]; exact h1) h2 hv, List.setIfInBounds_toArray]
def jT (pc : Nat) (o : Int) : Option Nat := match Int.add (Int.ofNat pc) o with
  | .ofNat q => some q
  | .negSucc _ => none
theorem jT_ok {pc : Nat} {o : Int} {q : Nat} (h : jT pc o = some q) : 0 ≤ (pc : Int) + o ∧ ((pc : Int) + o).toNat = q := by
  unfold jT at h
  have e : (pc : Int) + o = Int.add (Int.ofNat pc) o := rfl
  rw [e]
  cases hz : Int.add (Int.ofNat pc) o with
  | ofNat z => rw [hz] at h; simp only [Option.some.injEq] at h; subst h; exact ⟨Int.natCast_nonneg _, rfl⟩
  | negSucc z => rw [hz] at h; exact nomatch h
abbrev PF := Nat × Nat × List Slot × List Value
def ldI (n pc : Nat) (l : List Slot) (s : List Value) (k : Nat) : Option PF := match sAt l k with
  | some (.val (.int v)) => some (n, pc + n, l, .int v :: s)
  | _ => none
def ldL (n pc : Nat) (l : List Slot) (s : List Value) (k : Nat) : Option PF := match sAt l k with
  | some (.val (.long v)) => some (n, pc + n, l, .long v :: s)
  | _ => none
def ldA (n pc : Nat) (l : List Slot) (s : List Value) (k : Nat) : Option PF := match sAt l k with
  | some (.val (.ref v)) => some (n, pc + n, l, .ref v :: s)
  | some (.val .null) => some (n, pc + n, l, .null :: s)
  | _ => none
def stB (n pc : Nat) (r : List Value) : Option (List Slot) → Option PF
  | some l' => some (n, pc + n, l', r)
  | none => none
def stI (n pc : Nat) (l : List Slot) (s : List Value) (k : Nat) : Option PF := match s with
  | .int v :: r => stB n pc r (st1 l k (.int v))
  | _ => none
def stA (n pc : Nat) (l : List Slot) (s : List Value) (k : Nat) : Option PF := match s with
  | .ref v :: r => stB n pc r (st1 l k (.ref v))
  | .null :: r => stB n pc r (st1 l k .null)
  | _ => none
def stL (n pc : Nat) (l : List Slot) (s : List Value) (k : Nat) : Option PF := match s with
  | .long v :: r => match storeLocals l.toArray k (.long v) with
    | some l' => some (n, pc + n, l'.toList, r)
    | none => none
  | _ => none
def i1 (pc : Nat) (l : List Slot) (s : List Value) (f : Int32 → Value) : Option PF := match s with
  | .int x :: r => some (1, pc + 1, l, f x :: r)
  | _ => none
def l1 (pc : Nat) (l : List Slot) (s : List Value) (f : Int64 → Value) : Option PF := match s with
  | .long x :: r => some (1, pc + 1, l, f x :: r)
  | _ => none
def i2 (pc : Nat) (l : List Slot) (s : List Value) (f : Int32 → Int32 → Value) : Option PF := match s with
  | .int y :: .int x :: r => some (1, pc + 1, l, f x y :: r)
  | _ => none
def l2 (pc : Nat) (l : List Slot) (s : List Value) (f : Int64 → Int64 → Value) : Option PF := match s with
  | .long y :: .long x :: r => some (1, pc + 1, l, f x y :: r)
  | _ => none
/-- a plain step: its length, and the frame behind it -/
def pS (pc : Nat) (l : List Slot) (s : List Value) : Instr → Option PF
  | .iload k => ldI 2 pc l s k
  | .iload_n k => ldI 1 pc l s k.val
  | .lload k => ldL 2 pc l s k
  | .lload_n k => ldL 1 pc l s k.val
  | .aload k => ldA 2 pc l s k
  | .aload_n k => ldA 1 pc l s k.val
  | .istore k => stI 2 pc l s k
  | .istore_n k => stI 1 pc l s k.val
  | .lstore k => stL 2 pc l s k
  | .lstore_n k => stL 1 pc l s k.val
  | .astore k => stA 2 pc l s k
  | .astore_n k => stA 1 pc l s k.val
  | .iconst i => some (1, pc + 1, l, .int (Int32.ofInt i) :: s)
  | .bipush i => some (2, pc + 2, l, .int (Int8.ofInt i).toInt32 :: s)
  | .sipush i => some (3, pc + 3, l, .int (Int16.ofInt i).toInt32 :: s)
  | .lconst k => some (1, pc + 1, l, .long (Int64.ofNat k) :: s)
  | .aconst_null => some (1, pc + 1, l, .null :: s)
  | .iadd => i2 pc l s fun x y => .int (x + y)
  | .isub => i2 pc l s fun x y => .int (x - y)
  | .imul => i2 pc l s fun x y => .int (x * y)
  | .iand => i2 pc l s fun x y => .int (x &&& y)
  | .ior => i2 pc l s fun x y => .int (x ||| y)
  | .ishl => i2 pc l s fun x y => .int (x <<< (y &&& 31))
  | .ishr => i2 pc l s fun x y => .int (x >>> (y &&& 31))
  | .iushr => i2 pc l s fun x y => .int ((x.toUInt32 >>> (y &&& 31).toUInt32).toInt32)
  | .lsub => l2 pc l s fun x y => .long (x - y)
  | .ladd => l2 pc l s fun x y => .long (x + y)
  | .lmul => l2 pc l s fun x y => .long (x * y)
  | .land => l2 pc l s fun x y => .long (x &&& y)
  | .lcmp => l2 pc l s fun x y => .int (XT.cmpL x y)
  | .lushr => match s with
    | .int y :: .long x :: r => some (1, pc + 1, l, .long ((x.toUInt64 >>> (y &&& 0x3f).toInt64.toUInt64).toInt64) :: r)
    | _ => none
  | .ineg => i1 pc l s fun x => .int (-x)
  | .i2b => i1 pc l s fun x => .int (x.toInt8.toInt32)
  | .i2c => i1 pc l s fun x => .int (x.toUInt32.toUInt16.toUInt32.toInt32)
  | .i2l => i1 pc l s fun x => .long x.toInt64
  | .l2i => l1 pc l s fun x => .int x.toInt32
  | .lneg => l1 pc l s fun x => .long (-x)
  | .dup => match s with
    | .int x :: r => some (1, pc + 1, l, .int x :: .int x :: r)
    | .ref x :: r => some (1, pc + 1, l, .ref x :: .ref x :: r)
    | .null :: r => some (1, pc + 1, l, .null :: .null :: r)
    | _ => none
  | .pop => match s with
    | .int _ :: r => some (1, pc + 1, l, r)
    | .ref _ :: r => some (1, pc + 1, l, r)
    | .null :: r => some (1, pc + 1, l, r)
    | _ => none
  | .iinc k i => match sAt l k with
    | some (.val (.int x)) => match st1 l k (.int (x + Int32.ofInt i)) with
      | some l' => some (3, pc + 3, l', s)
      | none => none
    | _ => none
  | .goto o => match jT pc o with
    | some q => some (3, q, l, s)
    | none => none
  | .ifnull o => match s with
    | .null :: r => match jT pc o with
      | some q => some (3, q, l, r)
      | none => none
    | .ref _ :: r => some (3, pc + 3, l, r)
    | _ => none
  | .ifnonnull o => match s with
    | .ref _ :: r => match jT pc o with
      | some q => some (3, q, l, r)
      | none => none
    | .null :: r => some (3, pc + 3, l, r)
    | _ => none
  | _ => none
theorem ld0 {n pc : Nat} {l : List Slot} {s : List Value} {k n' pc' : Nat} {l' : List Slot} {s' : List Value} (h : ldI n pc l s k = some (n', pc', l', s')) : ∃ v, l.toArray[k]? = some (.val (.int v)) ∧ n' = n ∧ pc' = pc + n ∧ l' = l ∧ s' = .int v :: s := by
  rw [sAt_eq]
  unfold ldI at h
  split at h
  · rename_i v hv; cases h; exact ⟨v, hv, rfl, rfl, rfl, rfl⟩
  · cases h
theorem ld1 {n pc : Nat} {l : List Slot} {s : List Value} {k n' pc' : Nat} {l' : List Slot} {s' : List Value} (h : ldL n pc l s k = some (n', pc', l', s')) : ∃ v, l.toArray[k]? = some (.val (.long v)) ∧ n' = n ∧ pc' = pc + n ∧ l' = l ∧ s' = .long v :: s := by
  rw [sAt_eq]
  unfold ldL at h
  split at h
  · rename_i v hv; cases h; exact ⟨v, hv, rfl, rfl, rfl, rfl⟩
  · cases h
theorem ld2 {n pc : Nat} {l : List Slot} {s : List Value} {k n' pc' : Nat} {l' : List Slot} {s' : List Value} (h : ldA n pc l s k = some (n', pc', l', s')) : ∃ v, l.toArray[k]? = some (.val v) ∧ v.isRef = true ∧ n' = n ∧ pc' = pc + n ∧ l' = l ∧ s' = v :: s := by
  rw [sAt_eq]
  unfold ldA at h
  split at h
  · rename_i v hv; cases h; exact ⟨_, hv, rfl, rfl, rfl, rfl, rfl⟩
  · rename_i hv; cases h; exact ⟨_, hv, rfl, rfl, rfl, rfl, rfl⟩
  · cases h
theorem sB {n pc : Nat} {r : List Value} {o : Option (List Slot)} {n' pc' : Nat} {l' : List Slot} {s' : List Value} (h : stB n pc r o = some (n', pc', l', s')) : o = some l' ∧ n' = n ∧ pc' = pc + n ∧ s' = r := by
  cases o with
  | none => cases h
  | some l' => cases h; exact ⟨rfl, rfl, rfl, rfl⟩
theorem so0 {n pc : Nat} {l : List Slot} {s : List Value} {k n' pc' : Nat} {l' : List Slot} {s' : List Value} (h : stI n pc l s k = some (n', pc', l', s')) : ∃ v, s = .int v :: s' ∧ storeLocals l.toArray k (.int v) = some l'.toArray ∧ n' = n ∧ pc' = pc + n := by
  unfold stI at h
  split at h
  · rename_i v r
    obtain ⟨hv, rfl, rfl, rfl⟩ := sB h
    exact ⟨_, rfl, st1_ok rfl hv, rfl, rfl⟩
  · cases h
theorem so1 {n pc : Nat} {l : List Slot} {s : List Value} {k n' pc' : Nat} {l' : List Slot} {s' : List Value} (h : stL n pc l s k = some (n', pc', l', s')) : ∃ v, s = .long v :: s' ∧ storeLocals l.toArray k (.long v) = some l'.toArray ∧ n' = n ∧ pc' = pc + n := by
  unfold stL at h
  split at h
  · split at h
    · rename_i hv; cases h; exact ⟨_, rfl, by rw [hv, Array.toArray_toList], rfl, rfl⟩
    · cases h
  · cases h
theorem so2 {n pc : Nat} {l : List Slot} {s : List Value} {k n' pc' : Nat} {l' : List Slot} {s' : List Value} (h : stA n pc l s k = some (n', pc', l', s')) : ∃ v, s = v :: s' ∧ v.isRef = true ∧ storeLocals l.toArray k v = some l'.toArray ∧ n' = n ∧ pc' = pc + n := by
  unfold stA at h
  split at h
  · rename_i v r
    obtain ⟨hv, rfl, rfl, rfl⟩ := sB h
    exact ⟨_, rfl, rfl, st1_ok rfl hv, rfl, rfl⟩
  · rename_i r
    obtain ⟨hv, rfl, rfl, rfl⟩ := sB h
    exact ⟨_, rfl, rfl, st1_ok rfl hv, rfl, rfl⟩
  · cases h
theorem i1o {pc : Nat} {l : List Slot} {s : List Value} {f : Int32 → Value} {n' pc' : Nat} {l' : List Slot} {s' : List Value} (h : i1 pc l s f = some (n', pc', l', s')) : ∃ x r, s = .int x :: r ∧ n' = 1 ∧ pc' = pc + 1 ∧ l' = l ∧ s' = f x :: r := by
  unfold i1 at h
  split at h
  · cases h; exact ⟨_, _, rfl, rfl, rfl, rfl, rfl⟩
  · cases h
theorem l1o {pc : Nat} {l : List Slot} {s : List Value} {f : Int64 → Value} {n' pc' : Nat} {l' : List Slot} {s' : List Value} (h : l1 pc l s f = some (n', pc', l', s')) : ∃ x r, s = .long x :: r ∧ n' = 1 ∧ pc' = pc + 1 ∧ l' = l ∧ s' = f x :: r := by
  unfold l1 at h
  split at h
  · cases h; exact ⟨_, _, rfl, rfl, rfl, rfl, rfl⟩
  · cases h
theorem i2o {pc : Nat} {l : List Slot} {s : List Value} {f : Int32 → Int32 → Value} {n' pc' : Nat} {l' : List Slot} {s' : List Value} (h : i2 pc l s f = some (n', pc', l', s')) : ∃ x y r, s = .int y :: .int x :: r ∧ n' = 1 ∧ pc' = pc + 1 ∧ l' = l ∧ s' = f x y :: r := by
  unfold i2 at h
  split at h
  · cases h; exact ⟨_, _, _, rfl, rfl, rfl, rfl, rfl⟩
  · cases h
theorem l2o {pc : Nat} {l : List Slot} {s : List Value} {f : Int64 → Int64 → Value} {n' pc' : Nat} {l' : List Slot} {s' : List Value} (h : l2 pc l s f = some (n', pc', l', s')) : ∃ x y r, s = .long y :: .long x :: r ∧ n' = 1 ∧ pc' = pc + 1 ∧ l' = l ∧ s' = f x y :: r := by
  unfold l2 at h
  split at h
  · cases h; exact ⟨_, _, _, rfl, rfl, rfl, rfl, rfl⟩
  · cases h
section
variable {p : Program} {e : Env} {below : List Frame} {m : MethodId} {c : Code} {T : State} {pc : Nat} {l : List Slot} {s : List Value}
abbrev Goes (p : Program) (e : Env) (below : List Frame) (m : MethodId) (T : State) (pc : Nat) (l : List Slot) (s : List Value) (pc' : Nat) (l' : List Slot) (s' : List Value) : Prop := ∀ z, Steps p.tables e below (T.setTop (mkF m pc' l'.toArray s')) z → Steps p.tables e below (T.setTop (mkF m pc l.toArray s)) z
theorem pS_ok (h : At T m c below) (hx : p.tables.exec = Jvm.exec) {i : Instr} {n pc' : Nat} {l' : List Slot} {s' : List Value} (hd : decode c.code pc = .ok (i, n)) (hp : pS pc l s i = some (n, pc', l', s')) : Goes p e below m T pc l s pc' l' s' := by
  intro z kk
  cases i
  case iload k =>
    obtain ⟨v, e1, rfl, rfl, rfl, rfl⟩ := ld0 hp
    exact XS.iload h hx rfl hd e1 kk
  case iload_n k =>
    obtain ⟨v, e1, rfl, rfl, rfl, rfl⟩ := ld0 hp
    exact XS.iloadN h hx rfl hd e1 kk
  case lload k =>
    obtain ⟨v, e1, rfl, rfl, rfl, rfl⟩ := ld1 hp
    exact XS.lload h hx rfl hd e1 kk
  case lload_n k =>
    obtain ⟨v, e1, rfl, rfl, rfl, rfl⟩ := ld1 hp
    exact XS.lloadN h hx rfl hd e1 kk
  case aload k =>
    obtain ⟨v, e1, e2, rfl, rfl, rfl, rfl⟩ := ld2 hp
    exact XS.aload h hx rfl hd e1 e2 kk
  case aload_n k =>
    obtain ⟨v, e1, e2, rfl, rfl, rfl, rfl⟩ := ld2 hp
    exact XS.aloadN h hx rfl hd e1 e2 kk
  case istore k =>
    obtain ⟨v, rfl, e1, rfl, rfl⟩ := so0 hp
    exact XS.istore h hx rfl hd rfl e1 kk
  case istore_n k =>
    obtain ⟨v, rfl, e1, rfl, rfl⟩ := so0 hp
    exact XS.istoreN h hx rfl hd rfl e1 kk
  case lstore k =>
    obtain ⟨v, rfl, e1, rfl, rfl⟩ := so1 hp
    exact XS.lstore h hx rfl hd rfl e1 kk
  case lstore_n k =>
    obtain ⟨v, rfl, e1, rfl, rfl⟩ := so1 hp
    exact XS.lstoreN h hx rfl hd rfl e1 kk
  case astore k =>
    obtain ⟨v, rfl, e2, e1, rfl, rfl⟩ := so2 hp
    exact XS.astore h hx rfl hd rfl e2 e1 kk
  case astore_n k =>
    obtain ⟨v, rfl, e2, e1, rfl, rfl⟩ := so2 hp
    exact XS.astoreN h hx rfl hd rfl e2 e1 kk
  case iconst k =>
    cases hp
    exact XS.iconst h hx rfl hd kk
  case bipush k =>
    cases hp
    exact XS.bipush h hx rfl hd kk
  case sipush k =>
    cases hp
    exact XS.sipush h hx rfl hd kk
  case lconst k =>
    cases hp
    exact XS.lconst h hx rfl hd kk
  case aconst_null =>
    cases hp
    exact XS.aconstNull h hx rfl hd kk
  case iadd =>
    obtain ⟨x, y, r, rfl, rfl, rfl, rfl, rfl⟩ := i2o hp
    exact XS.iadd h hx rfl hd rfl kk
  case isub =>
    obtain ⟨x, y, r, rfl, rfl, rfl, rfl, rfl⟩ := i2o hp
    exact XS.isub h hx rfl hd rfl kk
  case imul =>
    obtain ⟨x, y, r, rfl, rfl, rfl, rfl, rfl⟩ := i2o hp
    exact XS.imul h hx rfl hd rfl kk
  case iand =>
    obtain ⟨x, y, r, rfl, rfl, rfl, rfl, rfl⟩ := i2o hp
    exact XS.iand h hx rfl hd rfl kk
  case ior =>
    obtain ⟨x, y, r, rfl, rfl, rfl, rfl, rfl⟩ := i2o hp
    exact XS.ior h hx rfl hd rfl kk
  case ishl =>
    obtain ⟨x, y, r, rfl, rfl, rfl, rfl, rfl⟩ := i2o hp
    exact XS.ishl h hx rfl hd rfl kk
  case ishr =>
    obtain ⟨x, y, r, rfl, rfl, rfl, rfl, rfl⟩ := i2o hp
    exact XS.ishr h hx rfl hd rfl kk
  case iushr =>
    obtain ⟨x, y, r, rfl, rfl, rfl, rfl, rfl⟩ := i2o hp
    exact XS.iushr h hx rfl hd rfl kk
  case lsub =>
    obtain ⟨x, y, r, rfl, rfl, rfl, rfl, rfl⟩ := l2o hp
    exact XS.lsub h hx rfl hd rfl kk
  case ladd =>
    obtain ⟨x, y, r, rfl, rfl, rfl, rfl, rfl⟩ := l2o hp
    exact XS.ladd h hx rfl hd rfl kk
  case lmul =>
    obtain ⟨x, y, r, rfl, rfl, rfl, rfl, rfl⟩ := l2o hp
    exact XS.lmul h hx rfl hd rfl kk
  case land =>
    obtain ⟨x, y, r, rfl, rfl, rfl, rfl, rfl⟩ := l2o hp
    exact XS.land h hx rfl hd rfl kk
  case lcmp =>
    obtain ⟨x, y, r, rfl, rfl, rfl, rfl, rfl⟩ := l2o hp
    exact XT.lcmp h hx rfl hd rfl kk
  case ineg =>
    obtain ⟨x, r, rfl, rfl, rfl, rfl, rfl⟩ := i1o hp
    exact XS.ineg h hx rfl hd rfl kk
  case i2b =>
    obtain ⟨x, r, rfl, rfl, rfl, rfl, rfl⟩ := i1o hp
    exact XS.i2b h hx rfl hd rfl kk
  case i2c =>
    obtain ⟨x, r, rfl, rfl, rfl, rfl, rfl⟩ := i1o hp
    exact XS.i2c h hx rfl hd rfl kk
  case i2l =>
    obtain ⟨x, r, rfl, rfl, rfl, rfl, rfl⟩ := i1o hp
    exact XS.i2l h hx rfl hd rfl kk
  case l2i =>
    obtain ⟨x, r, rfl, rfl, rfl, rfl, rfl⟩ := l1o hp
    exact XS.l2i h hx rfl hd rfl kk
  case lneg =>
    obtain ⟨x, r, rfl, rfl, rfl, rfl, rfl⟩ := l1o hp
    exact XS.lneg h hx rfl hd rfl kk
  case lushr =>
    unfold pS at hp
    dsimp only at hp
    split at hp
    · cases hp; exact XS.lushr h hx rfl hd rfl kk
    · cases hp
  case dup =>
    unfold pS at hp
    dsimp only at hp
    split at hp
    · cases hp; exact XS.dup h hx rfl hd rfl rfl kk
    · cases hp; exact XS.dup h hx rfl hd rfl rfl kk
    · cases hp; exact XS.dup h hx rfl hd rfl rfl kk
    · cases hp
  case pop =>
    unfold pS at hp
    dsimp only at hp
    split at hp
    · cases hp; exact XS.pop h hx rfl hd rfl rfl kk
    · cases hp; exact XS.pop h hx rfl hd rfl rfl kk
    · cases hp; exact XS.pop h hx rfl hd rfl rfl kk
    · cases hp
  case iinc k i =>
    unfold pS at hp
    dsimp only at hp
    split at hp
    · rename_i hv
      split at hp
      · rename_i hw; cases hp; exact XS.iinc h hx rfl hd (by rw [show (mkF m pc l.toArray s).locals = l.toArray from rfl, sAt_eq]; exact hv) (st1_ok rfl hw) kk
      · cases hp
    · cases hp
  case goto o =>
    unfold pS at hp
    dsimp only at hp
    split at hp
    · rename_i hv; cases hp; exact XS.goto h hx rfl rfl hd (jT_ok hv).1 (jT_ok hv).2 kk
    · cases hp
  case ifnull o =>
    unfold pS at hp
    dsimp only at hp
    split at hp
    · split at hp
      · rename_i hv; cases hp; exact XS.ifnullYes h hx rfl rfl hd rfl (jT_ok hv).1 (jT_ok hv).2 kk
      · cases hp
    · cases hp; exact XS.ifnullNo h hx rfl hd rfl kk
    · cases hp
  case ifnonnull o =>
    unfold pS at hp
    dsimp only at hp
    split at hp
    · split at hp
      · rename_i hv; cases hp; exact XS.ifnonnullYes h hx rfl rfl hd rfl (jT_ok hv).1 (jT_ok hv).2 kk
      · cases hp
    · cases hp; exact XS.ifnonnullNo h hx rfl hd rfl kk
    · cases hp
  all_goals cases (show none = some _ from hp)
/-- n plain steps -/
def pN (t : Tb) : Nat → Nat → List Slot → List Value → Option (Nat × List Slot × List Value)
  | 0, pc, l, s => some (pc, l, s)
  | k + 1, pc, l, s => match tAt t pc with
    | some (i, n) => match pS pc l s i with
      | some (n', pc', l', s') => bif Nat.beq n n' then pN t k pc' l' s' else none
      | none => none
    | none => none
theorem pN_ok {t : Tb} (h : At T m c below) (hx : p.tables.exec = Jvm.exec) (D : ∀ (q : Nat) {r : Instr × Nat}, tAt t q = some r → decode c.code q = .ok r) : ∀ (k : Nat) {pc : Nat} {l : List Slot} {s : List Value} {pc' : Nat} {l' : List Slot} {s' : List Value}, pN t k pc l s = some (pc', l', s') → Goes p e below m T pc l s pc' l' s'
  | 0, _, _, _, _, _, _, hp => by cases hp; exact fun _ kk => kk
  | k + 1, pc, l, s, pc', l', s', hp => by
    unfold pN at hp
    split at hp
    · rename_i i n hi
      split at hp
      · rename_i n' pc2 l2 s2 h2
        cases hb : Nat.beq n n' with
        | false => rw [hb] at hp; cases hp
        | true =>
          rw [hb] at hp
          have := Nat.eq_of_beq_eq_true hb
          subst this
          exact fun z kk => pS_ok h hx (D pc hi) h2 z (pN_ok h hx D k hp z kk)
      · cases hp
    · cases hp
/-- plain steps with branches between, each taken as told -/
def pR (t : Tb) : List (Nat × Bool) → Nat → Nat → List Slot → List Value → Prop → Option (Prop × Nat × List Slot × List Value)
  | [], n, pc, l, s, P => match pN t n pc l s with
    | some r => some (P, r)
    | none => none
  | (k, b) :: bs, n, pc, l, s, P => match pN t k pc l s with
    | some (pc, l, s) => match tAt t pc, s with
      | some (.ifCond cd o, 3), .int x :: r => match b with
        | true => match jT pc o with
          | some q => pR t bs n q l r (P ∧ ifCond.holds cd x = true)
          | none => none
        | false => pR t bs n (pc + 3) l r (P ∧ ifCond.holds cd x = false)
      | some (.if_icmp cd o, 3), .int y :: .int x :: r => match b with
        | true => match jT pc o with
          | some q => pR t bs n q l r (P ∧ if_icmp.holds cd x y = true)
          | none => none
        | false => pR t bs n (pc + 3) l r (P ∧ if_icmp.holds cd x y = false)
      | _, _ => none
    | none => none
theorem pR_ok {t : Tb} (h : At T m c below) (hx : p.tables.exec = Jvm.exec) (D : ∀ (q : Nat) {r : Instr × Nat}, tAt t q = some r → decode c.code q = .ok r) (n : Nat) : ∀ (bs : List (Nat × Bool)) {pc : Nat} {l : List Slot} {s : List Value} {P P' : Prop} {pc' : Nat} {l' : List Slot} {s' : List Value}, pR t bs n pc l s P = some (P', pc', l', s') → P' → P ∧ Goes p e below m T pc l s pc' l' s'
  | [], pc, l, s, P, P', pc', l', s', hp, q => by
    unfold pR at hp
    split at hp
    · rename_i r hr; cases hp; exact ⟨q, pN_ok h hx D n hr⟩
    · cases hp
  | (k, b) :: bs, pc, l, s, P, P', pc', l', s', hp, q => by
    unfold pR at hp
    split at hp
    · rename_i pc2 l2 s2 h2
      have g := pN_ok (p := p) (e := e) h hx D k h2
      split at hp
      · rename_i cd o x r hd
        cases b with
        | true =>
          dsimp only at hp
          split at hp
          · rename_i q1 hj
            obtain ⟨⟨q2, q3⟩, g2⟩ := pR_ok h hx D n bs hp q
            exact ⟨q2, fun z kk => g z (XS.ifYes h hx rfl rfl (D _ hd) rfl q3 (jT_ok hj).1 (jT_ok hj).2 (g2 z kk))⟩
          · cases hp
        | false =>
          dsimp only at hp
          obtain ⟨⟨q2, q3⟩, g2⟩ := pR_ok h hx D n bs hp q
          exact ⟨q2, fun z kk => g z (XS.ifNo h hx rfl (D _ hd) rfl q3 (g2 z kk))⟩
      · rename_i cd o y x r hd
        cases b with
        | true =>
          dsimp only at hp
          split at hp
          · rename_i q1 hj
            obtain ⟨⟨q2, q3⟩, g2⟩ := pR_ok h hx D n bs hp q
            exact ⟨q2, fun z kk => g z (XS.icmpYes h hx rfl rfl (D _ hd) rfl q3 (jT_ok hj).1 (jT_ok hj).2 (g2 z kk))⟩
          · cases hp
        | false =>
          dsimp only at hp
          obtain ⟨⟨q2, q3⟩, g2⟩ := pR_ok h hx D n bs hp q
          exact ⟨q2, fun z kk => g z (XS.icmpNo h hx rfl (D _ hd) rfl q3 (g2 z kk))⟩
      · cases hp
    · cases hp
variable {l : Launch} {R : Room} {s : State} {args : Array Value} {meth : Method} {Z : State} {EL : List (String × Nat)} {n0 : Nat} {ws : List Addr} {own : String} {sf : List Addr} {cells slots : Nat} {h : Heap} {Q : Outcome → State → Prop} {t : Tb} {ls : List Slot} {vs : List Value}
theorem Wk.pv (W : Wk p l e R s m args below meth c Z EL n0 ws own sf T cells slots h) (hx : p.tables.exec = Jvm.exec) (D : ∀ (q : Nat) {r : Instr × Nat}, tAt t q = some r → decode c.code q = .ok r) (pc n pc' : Nat) (ls' : List Slot) (vs' : List Value) (hr : pN t n pc ls vs = some (pc', ls', vs')) (g : Go p e below Q (T.setTop (mkF m pc' ls'.toArray vs'))) : Go p e below Q (T.setTop (mkF m pc ls.toArray vs)) := Go.of (pN_ok W.here hx D n hr) g
theorem Wk.pu (W : Wk p l e R s m args below meth c Z EL n0 ws own sf T cells slots h) (hx : p.tables.exec = Jvm.exec) (D : ∀ (q : Nat) {r : Instr × Nat}, tAt t q = some r → decode c.code q = .ok r) (pc : Nat) (bs : List (Nat × Bool)) (n pc' : Nat) (ls' : List Slot) (vs' : List Value) {P : Prop} (hr : pR t bs n pc ls vs True = some (P, pc', ls', vs')) (hP : P) (g : Go p e below Q (T.setTop (mkF m pc' ls'.toArray vs'))) : Go p e below Q (T.setTop (mkF m pc ls.toArray vs)) := Go.of (pR_ok W.here hx D n bs hr hP).2 g
end
/-! shorter calls -/
section OwnS
variable {p : Program} {l : Launch} {e : Env} {R : Room} {s : State} {m : MethodId} {args : Array Value} {below : List Frame} {meth : Method} {c : Code} {T : State} {cells slots : Nat} {Z : State} {a0 : Array Value} {h : Heap} {EL : List (String × Nat)} {n0 : Nat} {ws ws' sf : List Addr} {own : String} {Q : Outcome → State → Prop} {a x : Addr} {y : MethodName} {bytes : ByteArray} {maxL : Nat} {ret : Option FieldType} {rm : Room} {Qv : Option Value → Heap → (Addr → Prop) → Prop} {index mL i : Nat} {C : String} {g : JFrame} {argsL rest : List Value} {sf' : List Addr} {zc j : Int32} {cs : List Int32} {fm : Value}
abbrev KQ (y : MethodName) (rm R : Room) (Wd maxL cells slots : Nat) : Prop := (y.cls ≠ "java/lang/invoke/MethodHandle" ∧ y.cls ≠ "java/lang/invoke/VarHandle") ∧ rm.frames + 1 ≤ R.frames ∧ Wd + (maxL + 11) + rm.locals ≤ R.locals ∧ cells + rm.cells ≤ R.cells ∧ slots + rm.slots ≤ R.slots
abbrev KW (g : JFrame) (rest : List Value) : Nat := 2 * g.monitorRoom + (rest.map fun v => v.category).sum
theorem Wk.kS (W : Wk p l e R s m args below meth c Z EL n0 ws own sf T cells slots h) (hx : p.tables.exec = Jvm.exec) (hEL : EW Z a0 EL) (w1 : (Cond.methodLink own index y).before a0 Z = true) (w2 : (Cond.static y).before a0 Z = true) (w3 : (Cond.initialized y.cls).before a0 Z = true) (w4 : (Cond.code y bytes maxL ret).before a0 Z = true) (argsL rest : List Value) (M : Met l Z EL n0 y bytes maxL ret [] rm argsL.toArray h ws' sf' Qv) (hsf : ∀ x ∈ sf', x ∈ sf) (Wd : Nat) (hq : KQ y rm R Wd maxL cells slots) (gws : ∀ x ∈ ws', n0 ≤ x ∧ (x ∈ ws ∨ s.heap.size ≤ x)) (hml : c.maxLocals = mL) (hlen : ∀ sig, parseMethodDescriptor y.desc = some sig → argsL.length = sig.parameters.length) (hd : decode c.code g.pc = .ok (.invokestatic index, 3)) (hg : g.method = m ∧ g.locals.size = mL ∧ g.stack = argsL.reverse ++ rest ∧ KW g rest = Wd)
    (k : ∀ T' h' v (S : Addr → Prop), (∀ sfx : List Addr, (∀ x ∈ sfx, S x) → Wk p l e R s m args below meth c Z EL n0 ws own (sfx ++ sf) T' (cells + rm.cells) (slots + rm.slots) h') → Keep h h' ws' → Qv v h' S → Go p e below Q (T'.setTop { g with pc := g.pc + 3, stack := v.toList ++ rest })) : Go p e below Q (T.setTop g) := W.callS hx hEL w1 w2 w3 w4 hq.1 M hsf hq.2.1 hq.2.2.1 hq.2.2.2.1 hq.2.2.2.2 gws hg.1 (hg.2.1.trans hml.symm) hlen hg.2.2.1 (Nat.le_of_eq hg.2.2.2) hd k
theorem Wk.kV (W : Wk p l e R s m args below meth c Z EL n0 ws own sf T cells slots h) (hx : p.tables.exec = Jvm.exec) (hEL : EW Z a0 EL) (w1 : (Cond.methodLink own index y).before a0 Z = true) (w2 : (Cond.declares y).before a0 Z = true) (w5 : (Cond.selects C y y).before a0 Z = true) (w6 : (Cond.instanceMethod y).before a0 Z = true) (w3 : (Cond.initialized y.cls).before a0 Z = true) (w4 : (Cond.code y bytes maxL ret).before a0 Z = true) (Ea : Exa Z h a C) (argsL rest : List Value) (M : Met l Z EL n0 y bytes maxL ret [] rm (.ref a :: argsL).toArray h ws' sf' Qv) (hsf : ∀ x ∈ sf', x ∈ sf) (Wd : Nat) (hq : KQ y rm R Wd maxL cells slots) (gws : ∀ x ∈ ws', n0 ≤ x ∧ (x ∈ ws ∨ s.heap.size ≤ x)) (hml : c.maxLocals = mL) (hlen : ∀ sig, parseMethodDescriptor y.desc = some sig → argsL.length = sig.parameters.length) (hd : decode c.code g.pc = .ok (.invokevirtual index, 3)) (hg : g.method = m ∧ g.locals.size = mL ∧ g.stack = argsL.reverse ++ .ref a :: rest ∧ KW g rest = Wd)
    (k : ∀ T' h' v (S : Addr → Prop), (∀ sfx : List Addr, (∀ x ∈ sfx, S x) → Wk p l e R s m args below meth c Z EL n0 ws own (sfx ++ sf) T' (cells + rm.cells) (slots + rm.slots) h') → Keep h h' ws' → Qv v h' S → Go p e below Q (T'.setTop { g with pc := g.pc + 3, stack := v.toList ++ rest })) : Go p e below Q (T.setTop g) := W.callV hx hEL w1 w2 w5 w6 w3 w4 hq.1 Ea M hsf hq.2.1 hq.2.2.1 hq.2.2.2.1 hq.2.2.2.2 gws hg.1 (hg.2.1.trans hml.symm) hlen hg.2.2.1 (Nat.le_of_eq hg.2.2.2) hd k
theorem Wk.kP (W : Wk p l e R s m args below meth c Z EL n0 ws own sf T cells slots h) (hx : p.tables.exec = Jvm.exec) (hEL : EW Z a0 EL) (hy1 : y.name = "<init>") (w1 : (Cond.methodLink own index y).before a0 Z = true) (w6 : (Cond.instanceMethod y).before a0 Z = true) (w3 : (Cond.initialized y.cls).before a0 Z = true) (w4 : (Cond.code y bytes maxL none).before a0 Z = true) (argsL rest : List Value) (M : Met l Z EL n0 y bytes maxL none [] rm (.ref a :: argsL).toArray h ws' sf' Qv) (hsf : ∀ x ∈ sf', x ∈ sf) (Wd : Nat) (hq : KQ y rm R Wd maxL cells slots) (gws : ∀ x ∈ ws', n0 ≤ x ∧ (x ∈ ws ∨ s.heap.size ≤ x)) (hml : c.maxLocals = mL) (hlen : ∀ sig, parseMethodDescriptor y.desc = some sig → argsL.length = sig.parameters.length) (hd : decode c.code g.pc = .ok (.invokespecial index, 3)) (hg : g.method = m ∧ g.locals.size = mL ∧ g.stack = argsL.reverse ++ .ref a :: rest ∧ KW g rest = Wd)
    (k : ∀ T' h' v (S : Addr → Prop), (∀ sfx : List Addr, (∀ x ∈ sfx, S x) → Wk p l e R s m args below meth c Z EL n0 ws own (sfx ++ sf) T' (cells + rm.cells) (slots + rm.slots) h') → Keep h h' ws' → Qv v h' S → Go p e below Q (T'.setTop { g with pc := g.pc + 3, stack := v.toList ++ rest })) : Go p e below Q (T.setTop g) := W.callP hx hEL hy1 w1 w6 w3 w4 hq.1 M hsf hq.2.1 hq.2.2.1 hq.2.2.2.1 hq.2.2.2.2 gws hg.1 (hg.2.1.trans hml.symm) hlen hg.2.2.1 (Nat.le_of_eq hg.2.2.2) hd k
theorem Wk.kC (W : Wk p l e R s m args below meth c Z EL n0 ws own sf T cells slots h) (hx : p.tables.exec = Jvm.exec) (hsw : ∀ d ∈ StrChars.Road.wordsChN, d.before a0 Z = true) (wi : (Cond.instantiable "java/lang/String" 4).before a0 Z = true) (SC : Sta Z Z.heap "java/lang/String" "COMPACT_STRINGS" "Z" (.int zc)) (hz : ¬ zc = 0) (SF : Sta Z Z.heap "jdk/internal/util/Preconditions" "SIOOBE_FORMATTER" "Ljava/util/function/BiFunction;" fm) (rf : fm.isRef = true)
    (w1 : (Cond.methodLink own index ⟨"java/lang/String", "charAt", "(I)C"⟩).before a0 Z = true) (w2 : (Cond.declares ⟨"java/lang/String", "charAt", "(I)C"⟩).before a0 Z = true) (w5 : (Cond.selects "java/lang/String" ⟨"java/lang/String", "charAt", "(I)C"⟩ ⟨"java/lang/String", "charAt", "(I)C"⟩).before a0 Z = true) (w6 : (Cond.instanceMethod ⟨"java/lang/String", "charAt", "(I)C"⟩).before a0 Z = true) (hml : c.maxLocals = mL) (S : Str Z h x cs) (hlat : ∀ c ∈ cs, ¬ (255 : Int32) < c) (i : Nat) (hi : i < cs.length)
    (Wd : Nat) (hq : 4 ≤ R.frames ∧ Wd + 53 ≤ R.locals ∧ cells ≤ R.cells ∧ slots ≤ R.slots) (hd : decode c.code g.pc = .ok (.invokevirtual index, 3)) (hg : j = Int32.ofNat i ∧ g.method = m ∧ g.locals.size = mL ∧ g.stack = .int j :: .ref x :: rest ∧ KW g rest = Wd)
    (k : ∀ T', Wk p l e R s m args below meth c Z EL n0 ws own sf T' cells slots h → Go p e below Q (T'.setTop { g with pc := g.pc + 3, stack := (.int (cs.getD i 0)) :: rest })) : Go p e below Q (T.setTop g) :=
  W.strChar hx hsw wi SC hz SF rf S hlat hi hg.1 w1 w2 w5 w6 hq.1 hq.2.1 hq.2.2.1 hq.2.2.2 hg.2.1 (hg.2.2.1.trans hml.symm) hg.2.2.2.1 (Nat.le_of_eq hg.2.2.2.2) hd k
theorem lat8 {cs : List Int32} (h : (cs.all fun c => !decide (c < 0) && !decide ((255 : Int32) < c)) = true) : ∀ c ∈ cs, ¬ c < 0 ∧ ¬ (255 : Int32) < c := fun c hc => by
  have q := List.all_eq_true.mp h c hc
  rw [Bool.and_eq_true, Bool.not_eq_true', Bool.not_eq_true', decide_eq_false_iff_not, decide_eq_false_iff_not] at q
  exact q
theorem LN {α : Type} : (∀ a b : List α, (a ++ b).length = a.length + b.length) ∧ (∀ (β : Type) (f : β → α) (l : List β), (l.map f).length = l.length) ∧ (∀ n (l : List α), (l.take n).length = min n l.length) ∧ (∀ n (l : List α), (l.drop n).length = l.length - n) ∧ (∀ n (a : α), (List.replicate n a).length = n) ∧ (∀ (l : List α) n a, (l.set n a).length = l.length) ∧ (∀ (a : α) l, (a :: l).length = l.length + 1) ∧ ([] : List α).length = 0 :=
  ⟨fun _ _ => List.length_append, fun _ _ _ => List.length_map _, fun _ _ => List.length_take, fun _ _ => List.length_drop, fun _ _ => List.length_replicate, fun _ _ _ => List.length_set, fun _ _ => List.length_cons, List.length_nil⟩
end OwnS
/-! digits written downwards: where the loops stand -/
def Dg (A0 : List Value) (c0 u0 nw uu nn cc : Nat) (as : List Value) : Prop := ND uu nn ∧ ∃ wl : List Int32, dgl uu nn ++ wl = dgl u0 nw ∧ cc + wl.length = c0 ∧ as = wrd A0 c0 (List.map lv wl.reverse)
theorem wrd_snoc {α : Type} (v : α) : ∀ (vs L : List α) (c : Nat), wrd L c (vs ++ [v]) = (wrd L c vs).set (c - vs.length - 1) v
  | [], L, c => rfl
  | a :: r, L, c => by
    show wrd (L.set (c - 1) a) (c - 1) (r ++ [v]) = _
    rw [wrd_snoc v r]
    show _ = (wrd (L.set (c - 1) a) (c - 1) r).set (c - (r.length + 1) - 1) v
    rw [show c - 1 - r.length - 1 = c - (r.length + 1) - 1 from by omega]
theorem wrd_cons {A0 as L : List Value} {c0 cc : Nat} {wl : List Int32} {x : Int32} (h : as = wrd A0 c0 (List.map lv wl.reverse)) (hc : cc + wl.length = c0) (e : L = as.set (cc - 1) (lv x)) : L = wrd A0 c0 (List.map lv (x :: wl).reverse) := by
  rw [List.reverse_cons, List.map_append, List.map_cons, List.map_nil, wrd_snoc, List.length_map, List.length_reverse, ← h, e, show c0 - wl.length - 1 = cc - 1 from by omega]
theorem dgc_div (u k : Nat) : dgc u (k + 2) = dgc (u / 100) k := by
  unfold dgc
  rw [Nat.div_div_eq_div_mul, Nat.pow_add, Nat.mul_comm]
theorem dgl_two (u : Nat) : ∀ n, dgl u (n + 2) = dgl (u / 100) n ++ [dgc u 1, dgc u 0]
  | 0 => rfl
  | n + 1 => by
    show dgc u (n + 2) :: dgl u (n + 2) = _
    rw [dgl_two u n, dgc_div]; rfl
theorem nd_two {u n : Nat} (h : ND u n) (q : 100 ≤ u) : ∃ k, k + 2 = n ∧ ND (u / 100) k := by
  rcases h with ⟨rfl, h⟩ | ⟨rfl, h⟩ | ⟨rfl, h⟩ | ⟨rfl, h⟩ | ⟨rfl, h⟩ | ⟨rfl, h⟩ | ⟨rfl, h⟩ | ⟨rfl, h⟩ | ⟨rfl, h⟩ | ⟨rfl, h⟩ | ⟨rfl, h⟩ | ⟨rfl, h⟩ | ⟨rfl, h⟩
  · omega
  · omega
  · exact ⟨1, rfl, Or.inl ⟨rfl, by omega⟩⟩
  · exact ⟨2, rfl, Or.inr (Or.inl ⟨rfl, by omega, by omega⟩)⟩
  · exact ⟨3, rfl, Or.inr (Or.inr (Or.inl ⟨rfl, by omega, by omega⟩))⟩
  · exact ⟨4, rfl, Or.inr (Or.inr (Or.inr (Or.inl ⟨rfl, by omega, by omega⟩)))⟩
  · exact ⟨5, rfl, Or.inr (Or.inr (Or.inr (Or.inr (Or.inl ⟨rfl, by omega, by omega⟩))))⟩
  · exact ⟨6, rfl, Or.inr (Or.inr (Or.inr (Or.inr (Or.inr (Or.inl ⟨rfl, by omega, by omega⟩)))))⟩
  · exact ⟨7, rfl, Or.inr (Or.inr (Or.inr (Or.inr (Or.inr (Or.inr (Or.inl ⟨rfl, by omega, by omega⟩))))))⟩
  · exact ⟨8, rfl, Or.inr (Or.inr (Or.inr (Or.inr (Or.inr (Or.inr (Or.inr (Or.inl ⟨rfl, by omega, by omega⟩)))))))⟩
  · exact ⟨9, rfl, Or.inr (Or.inr (Or.inr (Or.inr (Or.inr (Or.inr (Or.inr (Or.inr (Or.inl ⟨rfl, by omega, by omega⟩))))))))⟩
  · exact ⟨10, rfl, Or.inr (Or.inr (Or.inr (Or.inr (Or.inr (Or.inr (Or.inr (Or.inr (Or.inr (Or.inl ⟨rfl, by omega, by omega⟩)))))))))⟩
  · exact ⟨11, rfl, Or.inr (Or.inr (Or.inr (Or.inr (Or.inr (Or.inr (Or.inr (Or.inr (Or.inr (Or.inr (Or.inl ⟨rfl, by omega, by omega⟩))))))))))⟩
theorem nd_1 {u n : Nat} (h : ND u n) (q : u ≤ 9) : n = 1 := by unfold ND at h; omega
theorem nd_2 {u n : Nat} (h : ND u n) (q1 : 10 ≤ u) (q : u ≤ 99) : n = 2 := by unfold ND at h; omega
theorem nd_3 {u n : Nat} (h : ND u n) (q1 : 100 ≤ u) : 3 ≤ n := by unfold ND at h; omega
theorem dgS {A0 as L1 L2 : List Value} {c0 u0 nw uu nn cc : Nat} (D : Dg A0 c0 u0 nw uu nn cc as) (q : 100 ≤ uu) (hc : 2 ≤ cc) (e1 : L1 = as.set (cc - 1) (lv (dgc uu 0))) (e2 : L2 = L1.set (cc - 1 - 1) (lv (dgc uu 1))) : ∃ k, k + 2 = nn ∧ Dg A0 c0 u0 nw (uu / 100) k (cc - 1 - 1) L2 := by
  obtain ⟨hn, wl, h1, h2, h3⟩ := D
  obtain ⟨k, rfl, hk⟩ := nd_two hn q
  have f1 := wrd_cons h3 h2 e1
  have f2 := wrd_cons (cc := cc - 1) f1 (by simp only [List.length_cons]; omega) e2
  refine ⟨k, rfl, hk, dgc uu 1 :: dgc uu 0 :: wl, ?_, by simp only [List.length_cons]; omega, f2⟩
  rw [← h1, dgl_two, List.append_assoc]; rfl
theorem fin0 {ds : List Int32} {rs : List Value} {c0 u0 nw : Nat} (hc : c0 = ds.length + nw) (hr : nw ≤ rs.length) : wrd (List.map lv ds ++ rs) c0 (List.map lv (dgl u0 nw).reverse) = List.map lv (ds ++ dgl u0 nw) ++ rs.drop nw := by
  have e : (List.map lv (dgl u0 nw).reverse).length = nw := by rw [List.length_map, List.length_reverse, dgl_len]
  have q := wrdD (ds := ds) (es := dgl u0 nw) (rs := rs) (vs := List.map lv (dgl u0 nw).reverse) (cc := c0) (by rw [List.map_reverse, List.reverse_reverse]) (by rw [e]; exact hc) (by rw [e]; exact hr)
  rw [q, e]
theorem fin1 {ds : List Int32} {rs : List Value} {c0 u0 nw : Nat} (hc : c0 = ds.length + (nw + 1)) (hr : nw + 1 ≤ rs.length) : wrd (List.map lv ds ++ rs) c0 (List.map lv ((45 : Int32) :: dgl u0 nw).reverse) = List.map lv (ds ++ ((45 : Int32) :: dgl u0 nw)) ++ rs.drop (nw + 1) := by
  have e : (List.map lv ((45 : Int32) :: dgl u0 nw).reverse).length = nw + 1 := by rw [List.length_map, List.length_reverse, List.length_cons, dgl_len]
  have q := wrdD (ds := ds) (es := (45 : Int32) :: dgl u0 nw) (rs := rs) (vs := List.map lv ((45 : Int32) :: dgl u0 nw).reverse) (cc := c0) (by rw [List.map_reverse, List.reverse_reverse]) (by rw [e]; exact hc) (by rw [e]; exact hr)
  rw [q, e]
section
variable {ds : List Int32} {rs as L1 L2 L3 : List Value} {c0 u0 nw uu nn cc : Nat}
theorem dg1 (D : Dg A0 c0 u0 nw uu nn cc as) (h : uu ≤ 9) (hc : 1 ≤ cc) (e1 : L1 = as.set (cc - 1) (lv (dgc uu 0))) : L1 = wrd A0 c0 (List.map lv (dgl u0 nw).reverse) ∧ cc - 1 + (dgl u0 nw).length = c0 := by
  obtain ⟨hn, wl, h1, h2, h3⟩ := D
  cases nd_1 hn h
  have e : dgl u0 nw = dgc uu 0 :: wl := h1.symm
  rw [e]
  exact ⟨wrd_cons h3 h2 e1, by simp only [List.length_cons]; omega⟩
theorem dg2 (D : Dg A0 c0 u0 nw uu nn cc as) (q : 10 ≤ uu) (h : uu ≤ 99) (hc : 2 ≤ cc) (e1 : L1 = as.set (cc - 1) (lv (dgc uu 0))) (e2 : L2 = L1.set (cc - 1 - 1) (lv (dgc uu 1))) : L2 = wrd A0 c0 (List.map lv (dgl u0 nw).reverse) ∧ cc - 1 - 1 + (dgl u0 nw).length = c0 := by
  obtain ⟨hn, wl, h1, h2, h3⟩ := D
  cases nd_2 hn q h
  have e : dgl u0 nw = dgc uu 1 :: dgc uu 0 :: wl := h1.symm
  rw [e]
  exact ⟨wrd_cons (cc := cc - 1) (wrd_cons h3 h2 e1) (by simp only [List.length_cons]; omega) e2, by simp only [List.length_cons]; omega⟩
theorem fi10 (D : Dg (List.map lv ds ++ rs) c0 u0 nw uu nn cc as) (hc0 : c0 = ds.length + nw) (hr : nw ≤ rs.length) (hc : 1 ≤ cc) (h : uu ≤ 9) (e1 : L1 = as.set (cc - 1) (lv (dgc uu 0))) : L1 = List.map lv (ds ++ dgl u0 nw) ++ rs.drop nw := (dg1 D h hc e1).1.trans (fin0 hc0 hr)
theorem fi20 (D : Dg (List.map lv ds ++ rs) c0 u0 nw uu nn cc as) (hc0 : c0 = ds.length + nw) (hr : nw ≤ rs.length) (hc : 2 ≤ cc) (q : 10 ≤ uu) (h : uu ≤ 99) (e1 : L1 = as.set (cc - 1) (lv (dgc uu 0))) (e2 : L2 = L1.set (cc - 1 - 1) (lv (dgc uu 1))) : L2 = List.map lv (ds ++ dgl u0 nw) ++ rs.drop nw := (dg2 D q h hc e1 e2).1.trans (fin0 hc0 hr)
theorem fi11 (D : Dg (List.map lv ds ++ rs) c0 u0 nw uu nn cc as) (hc0 : c0 = ds.length + (nw + 1)) (hr : nw + 1 ≤ rs.length) (hc : 1 ≤ cc) (h : uu ≤ 9) (e1 : L1 = as.set (cc - 1) (lv (dgc uu 0))) (e2 : L2 = L1.set (cc - 1 - 1) (lv (45 : Int32))) : L2 = List.map lv (ds ++ ((45 : Int32) :: dgl u0 nw)) ++ rs.drop (nw + 1) :=
  (wrd_cons (cc := cc - 1) (dg1 D h hc e1).1 (dg1 D h hc e1).2 e2).trans (fin1 hc0 hr)
theorem fi21 (D : Dg (List.map lv ds ++ rs) c0 u0 nw uu nn cc as) (hc0 : c0 = ds.length + (nw + 1)) (hr : nw + 1 ≤ rs.length) (hc : 2 ≤ cc) (q : 10 ≤ uu) (h : uu ≤ 99) (e1 : L1 = as.set (cc - 1) (lv (dgc uu 0))) (e2 : L2 = L1.set (cc - 1 - 1) (lv (dgc uu 1))) (e3 : L3 = L2.set (cc - 1 - 1 - 1) (lv (45 : Int32))) : L3 = List.map lv (ds ++ ((45 : Int32) :: dgl u0 nw)) ++ rs.drop (nw + 1) :=
  (wrd_cons (cc := cc - 1 - 1) (dg2 D q h hc e1 e2).1 (dg2 D q h hc e1 e2).2 e3).trans (fin1 hc0 hr)
end

abbrev EL0 : List (String × Nat) := [("com/example/sem1/sem1/store/StoreFailures", 28), ("com/example/sem1/sem1/store/StoreFailures", 38), ("com/example/sem1/sem1/store/StoreFailures", 53), ("com/example/sem1/sem1/store/StoreFailuresUnansweredPinLaw", 72), ("java/lang/String", 7)]
set_option maxRecDepth 65536 in
theorem sa_in : ∀ d ∈ Bundle.stringAtoms, d ∈ tables_1 := by decide +kernel
set_option maxRecDepth 65536 in
theorem ws_in : ∀ d ∈ StrChars.Road.words, d ∈ tables_1 := by decide +kernel
set_option maxRecDepth 65536 in
theorem ln_in : ∀ d ∈ StrChars.Road.wordsLen, d ∈ tables_1 := by decide +kernel
set_option maxRecDepth 65536 in
theorem ch_in : ∀ d ∈ StrChars.Road.wordsChN, d ∈ tables_1 := by decide +kernel
abbrev EV (l : Launch) (Z : State) (a0 : Array Value) (zc : Int32) (fm : Value) : Prop := (∀ d ∈ tables_1, d.before a0 Z = true) ∧ EW Z a0 EL0 ∧ Sta Z Z.heap "java/lang/String" "COMPACT_STRINGS" "Z" (.int zc) ∧ ¬ zc = 0 ∧ Sta Z Z.heap "jdk/internal/util/Preconditions" "SIOOBE_FORMATTER" "Ljava/util/function/BiFunction;" fm ∧ fm.isRef = true
variable {l : Launch} {Z : State} {a0 : Array Value} {zc : Int32} {fm : Value}
theorem pn0 : plainName "java/lang/String" = true := by first | (simp [plainName, overriddenIn]; done) | decide +kernel
theorem pn1 : plainName "java/lang/StringLatin1" = true := by first | (simp [plainName, overriddenIn]; done) | decide +kernel
theorem pn2 : plainName "java/lang/AbstractStringBuilder" = true := by first | (simp [plainName, overriddenIn]; done) | decide +kernel
theorem pn3 : plainName "java/lang/StringBuilder" = true := by first | (simp [plainName, overriddenIn]; done) | decide +kernel
theorem pn4 : plainName "java/util/Arrays" = true := by first | (simp [plainName, overriddenIn]; done) | decide +kernel
theorem pn5 : plainName "jdk/internal/util/ArraysSupport" = true := by first | (simp [plainName, overriddenIn]; done) | decide +kernel
theorem pn6 : plainName "java/util/concurrent/TimeUnit" = true := by first | (simp [plainName, overriddenIn]; done) | decide +kernel
theorem pn7 : plainName "java/lang/Long" = true := by first | (simp [plainName, overriddenIn]; done) | decide +kernel
theorem pn8 : plainName "com/example/sem1/sem1/store/StoreFailuresUnansweredPinLaw" = true := by first | (simp [plainName, overriddenIn]; done) | decide +kernel
theorem pn9 : plainName "com/example/sem1/sem1/store/StoreFailures" = true := by first | (simp [plainName, overriddenIn]; done) | decide +kernel
theorem pd0 : parseMethodDescriptor "([CIILjava/lang/Void;)V" = some ⟨[(.array .char), .int, .int, (.object "java/lang/Void")], none⟩ := by decide +kernel
theorem pd1 : parseMethodDescriptor "(C)Z" = some ⟨[.char], (some .boolean)⟩ := by decide +kernel
theorem pd2 : parseMethodDescriptor "(C)[B" = some ⟨[.char], (some (.array .byte))⟩ := by decide +kernel
theorem pd3 : parseMethodDescriptor "([BB)V" = some ⟨[(.array .byte), .byte], none⟩ := by decide +kernel
theorem pd4 : parseMethodDescriptor "(I)V" = some ⟨[.int], none⟩ := by decide +kernel
theorem pd5 : parseMethodDescriptor "()I" = some ⟨[], (some .int)⟩ := by decide +kernel
theorem pd6 : parseMethodDescriptor "()B" = some ⟨[], (some .byte)⟩ := by decide +kernel
theorem pd7 : parseMethodDescriptor "(II)I" = some ⟨[.int, .int], (some .int)⟩ := by decide +kernel
theorem pd8 : parseMethodDescriptor "(III)I" = some ⟨[.int, .int, .int], (some .int)⟩ := by decide +kernel
theorem pd9 : parseMethodDescriptor "(I)I" = some ⟨[.int], (some .int)⟩ := by decide +kernel
theorem pd10 : parseMethodDescriptor "([BI)[B" = some ⟨[(.array .byte), .int], (some (.array .byte))⟩ := by decide +kernel
theorem pd11 : parseMethodDescriptor "(Ljava/lang/String;)V" = some ⟨[(.object "java/lang/String")], none⟩ := by decide +kernel
theorem pd12 : parseMethodDescriptor "([BIB)V" = some ⟨[(.array .byte), .int, .byte], none⟩ := by decide +kernel
theorem pd13 : parseMethodDescriptor "(ILjava/lang/String;)V" = some ⟨[.int, (.object "java/lang/String")], none⟩ := by decide +kernel
theorem pd14 : parseMethodDescriptor "(Ljava/lang/String;)Ljava/lang/AbstractStringBuilder;" = some ⟨[(.object "java/lang/String")], (some (.object "java/lang/AbstractStringBuilder"))⟩ := by decide +kernel
theorem pd15 : parseMethodDescriptor "(II)V" = some ⟨[.int, .int], none⟩ := by decide +kernel
theorem pd16 : parseMethodDescriptor "([BII)[B" = some ⟨[(.array .byte), .int, .int], (some (.array .byte))⟩ := by decide +kernel
theorem pd17 : parseMethodDescriptor "()[B" = some ⟨[], (some (.array .byte))⟩ := by decide +kernel
theorem pd18 : parseMethodDescriptor "()Z" = some ⟨[], (some .boolean)⟩ := by decide +kernel
theorem pd19 : parseMethodDescriptor "(Ljava/lang/AbstractStringBuilder;Ljava/lang/Void;)V" = some ⟨[(.object "java/lang/AbstractStringBuilder"), (.object "java/lang/Void")], none⟩ := by decide +kernel
theorem pd20 : parseMethodDescriptor "(Ljava/lang/StringBuilder;)V" = some ⟨[(.object "java/lang/StringBuilder")], none⟩ := by decide +kernel
theorem pd21 : parseMethodDescriptor "(J)I" = some ⟨[.long], (some .int)⟩ := by decide +kernel
theorem pd22 : parseMethodDescriptor "(JI[B)I" = some ⟨[.long, .int, (.array .byte)], (some .int)⟩ := by decide +kernel
theorem pd23 : parseMethodDescriptor "(J)Ljava/lang/AbstractStringBuilder;" = some ⟨[.long], (some (.object "java/lang/AbstractStringBuilder"))⟩ := by decide +kernel
theorem pd24 : parseMethodDescriptor "([C)V" = some ⟨[(.array .char)], none⟩ := by decide +kernel
theorem pd25 : parseMethodDescriptor "(C)Ljava/lang/String;" = some ⟨[.char], (some (.object "java/lang/String"))⟩ := by decide +kernel
theorem pd26 : parseMethodDescriptor "()V" = some ⟨[], none⟩ := by decide +kernel
theorem pd27 : parseMethodDescriptor "(Ljava/lang/String;)Ljava/lang/StringBuilder;" = some ⟨[(.object "java/lang/String")], (some (.object "java/lang/StringBuilder"))⟩ := by decide +kernel
theorem pd28 : parseMethodDescriptor "(J)J" = some ⟨[.long], (some .long)⟩ := by decide +kernel
theorem pd29 : parseMethodDescriptor "(J)Ljava/lang/StringBuilder;" = some ⟨[.long], (some (.object "java/lang/StringBuilder"))⟩ := by decide +kernel
theorem pd30 : parseMethodDescriptor "()Ljava/lang/String;" = some ⟨[], (some (.object "java/lang/String"))⟩ := by decide +kernel
theorem pd31 : parseMethodDescriptor "(Ljava/lang/String;ILjava/lang/String;I)Z" = some ⟨[(.object "java/lang/String"), .int, (.object "java/lang/String"), .int], (some .boolean)⟩ := by decide +kernel
theorem pd32 : parseMethodDescriptor "(Ljava/lang/String;IJII[J)Z" = some ⟨[(.object "java/lang/String"), .int, .long, .int, .int, (.array .long)], (some .boolean)⟩ := by decide +kernel
theorem pd33 : parseMethodDescriptor "(ICC)Ljava/lang/String;" = some ⟨[.int, .char, .char], (some (.object "java/lang/String"))⟩ := by decide +kernel
theorem pd34 : parseMethodDescriptor "(Ljava/lang/String;JLjava/lang/String;)Ljava/lang/String;" = some ⟨[(.object "java/lang/String"), .long, (.object "java/lang/String")], (some (.object "java/lang/String"))⟩ := by decide +kernel
theorem pd35 : parseMethodDescriptor "(Ljava/lang/String;I)Z" = some ⟨[(.object "java/lang/String"), .int], (some .boolean)⟩ := by decide +kernel
theorem pd36 : parseMethodDescriptor "(Ljava/lang/String;IJI)Z" = some ⟨[(.object "java/lang/String"), .int, .long, .int], (some .boolean)⟩ := by decide +kernel
theorem EV.h (B : EV l Z a0 zc fm) (i : Nat) {d : Cond} (h : tables_1[i]? = some d) : d.before a0 Z = true := B.1 d (List.mem_of_getElem? h)
abbrev rO (f c s l : Nat) : Room := { frames := f, cells := c, slots := s, locals := l }
theorem mI {α : Type} {l : List α} {a : α} (i : Nat) (h : l[i]? = some a) : a ∈ l := List.mem_of_getElem? h
abbrev vi (x : Int32) : Slot := .val (.int x)
abbrev vr (a : Addr) : Slot := .val (.ref a)
abbrev vN : Slot := .val .null
abbrev U0 : Slot := .unset
abbrev S0 : Slot := .second
theorem gof {p : Program} {e : Env} {below : List Frame} {Q : Outcome → State → Prop} {t : State} (T : State) (m : MethodId) (pc : Nat) (L : Array Slot) (S : List Value) (k : ∀ z, Steps p.tables e below (T.setTop (mkF m pc L S)) z → Steps p.tables e below t z) (g : Go p e below Q (T.setTop (mkF m pc L S))) : Go p e below Q t := Go.of k g
abbrev DD (b : ByteArray) (p : Nat) (i : Instr) (n : Nat) : Prop := decode b p = .ok (i, n)
def Tq0 : Tb := [(0, .aload_n 0, 1), (1, .invokespecial 1, 3), (4, .iload_n 3, 1), (5, .ifCond .ne 22, 3), (8, .aload_n 0, 1), (9, .ldc 7, 2), (11, .getfield 9, 3), (14, .putfield 9, 3), (17, .aload_n 0, 1), (18, .ldc 7, 2), (20, .getfield 15, 3), (23, .putfield 15, 3), (26, .return_, 1)]
theorem Kq0 : TOk jdk_42_method_149_code Tq0 := by decide +kernel
def Tq1 : Tb := [(0, .aload_n 0, 1), (1, .aload_n 1, 1), (2, .iconst 0, 1), (3, .aload_n 1, 1), (4, .arraylength, 1), (5, .aconst_null, 1), (6, .invokespecial 27, 3), (9, .return_, 1)]
theorem Kq1 : TOk jdk_42_method_3_code Tq1 := by decide +kernel
def Tq2 : Tb := [(0, .iload_n 0, 1), (1, .sipush 255, 3), (4, .if_icmp .gt 7, 3), (7, .iconst 1, 1), (8, .goto 4, 3), (12, .ireturn, 1)]
theorem Kq2 : TOk jdk_43_method_3_code Tq2 := by decide +kernel
def Tq3 : Tb := [(0, .iconst 1, 1), (1, .newarray .byte, 2), (3, .dup, 1), (4, .iconst 0, 1), (5, .iload_n 0, 1), (6, .i2b, 1), (7, .bastore, 1), (8, .areturn, 1)]
theorem Kq3 : TOk jdk_43_method_46_code Tq3 := by decide +kernel
def Tq4 : Tb := [(0, .aload_n 0, 1), (1, .invokespecial 1, 3), (4, .aload_n 0, 1), (5, .aload_n 1, 1), (6, .putfield 9, 3), (9, .aload_n 0, 1), (10, .iload_n 2, 1), (11, .putfield 15, 3), (14, .return_, 1)]
theorem Kq4 : TOk jdk_42_method_151_code Tq4 := by decide +kernel
def Tq5 : Tb := [(0, .getstatic 38, 3), (3, .ifCond .eq 23, 3), (6, .iload_n 0, 1), (7, .invokestatic 1015, 3), (10, .ifCond .eq 16, 3), (13, .new 10, 3), (16, .dup, 1), (17, .iload_n 0, 1), (18, .invokestatic 1018, 3), (21, .iconst 0, 1), (22, .invokespecial 209, 3), (25, .areturn, 1)]
theorem Kq5 : TOk jdk_42_method_139_code Tq5 := by decide +kernel
def Tq6 : Tb := [(0, .aload_n 0, 1), (1, .invokespecial 3, 3), (4, .getstatic 18, 3), (7, .ifCond .eq 18, 3), (10, .aload_n 0, 1), (11, .iload_n 1, 1), (12, .newarray .byte, 2), (14, .putfield 15, 3), (17, .aload_n 0, 1), (18, .iconst 0, 1), (19, .putfield 22, 3), (22, .goto 16, 3), (38, .return_, 1)]
theorem Kq6 : TOk jdk_68_method_2_code Tq6 := by decide +kernel
def Tq7 : Tb := [(0, .aload_n 0, 1), (1, .bipush 16, 2), (3, .invokespecial 1, 3), (6, .return_, 1)]
theorem Kq7 : TOk jdk_67_method_1_code Tq7 := by decide +kernel
def Tq8 : Tb := [(0, .getstatic 38, 3), (3, .ifCond .eq 10, 3), (6, .aload_n 0, 1), (7, .getfield 15, 3), (10, .goto 4, 3), (14, .ireturn, 1)]
theorem Kq8 : TOk jdk_42_method_152_code Tq8 := by decide +kernel
def Tq9 : Tb := [(0, .getstatic 38, 3), (3, .ifCond .eq 14, 3), (6, .aload_n 0, 1), (7, .getfield 15, 3), (10, .ifCond .ne 7, 3), (13, .iconst 1, 1), (14, .goto 4, 3), (18, .ireturn, 1)]
theorem Kq9 : TOk jdk_42_method_154_code Tq9 := by decide +kernel
def Tq10 : Tb := [(0, .aload_n 0, 1), (1, .getfield 15, 3), (4, .areturn, 1)]
theorem Kq10 : TOk jdk_68_method_64_code Tq10 := by decide +kernel
def Tq11 : Tb := [(0, .getstatic 18, 3), (3, .ifCond .eq 14, 3), (6, .aload_n 0, 1), (7, .getfield 22, 3), (10, .ifCond .ne 7, 3), (13, .iconst 1, 1), (14, .goto 4, 3), (18, .ireturn, 1)]
theorem Kq11 : TOk jdk_68_method_68_code Tq11 := by decide +kernel
def Tq12 : Tb := [(0, .aload_n 0, 1), (1, .getfield 79, 3), (4, .ireturn, 1)]
theorem Kq12 : TOk jdk_68_method_6_code Tq12 := by decide +kernel
def Tq13 : Tb := [(0, .aload_n 0, 1), (1, .invokespecial 343, 3), (4, .ireturn, 1)]
theorem Kq13 : TOk jdk_67_method_93_code Tq13 := by decide +kernel
def Tq14 : Tb := [(0, .getstatic 18, 3), (3, .ifCond .eq 18, 3), (6, .aload_n 0, 1), (7, .getfield 22, 3), (10, .aload_n 1, 1), (11, .invokevirtual 40, 3), (14, .if_icmp .eq 7, 3), (21, .return_, 1)]
theorem Kq14 : TOk jdk_68_method_71_code Tq14 := by decide +kernel
def Tq15 : Tb := [(0, .iload_n 1, 1), (1, .iload_n 0, 1), (2, .if_icmp .ge 35, 3), (37, .return_, 1)]
theorem Kq15 : TOk jdk_65_method_131_code Tq15 := by decide +kernel
def Tq16 : Tb := [(0, .iload_n 0, 1), (1, .iload_n 1, 1), (2, .if_icmp .gt 7, 3), (5, .iload_n 0, 1), (6, .goto 4, 3), (9, .iload_n 1, 1), (10, .ireturn, 1)]
theorem Kq16 : TOk jdk_29_method_69_code Tq16 := by decide +kernel
def Tq17 : Tb := [(0, .iload_n 0, 1), (1, .iload_n 1, 1), (2, .if_icmp .lt 7, 3), (5, .iload_n 0, 1), (6, .goto 4, 3), (9, .iload_n 1, 1), (10, .ireturn, 1)]
theorem Kq17 : TOk jdk_29_method_65_code Tq17 := by decide +kernel
def Tq18 : Tb := [(0, .iload_n 0, 1), (1, .iload_n 1, 1), (2, .iload_n 2, 1), (3, .invokestatic 194, 3), (6, .iadd, 1), (7, .istore_n 3, 1), (8, .iconst 0, 1), (9, .iload_n 3, 1), (10, .if_icmp .ge 11, 3), (13, .iload_n 3, 1), (14, .ldc 200, 2), (16, .if_icmp .gt 5, 3), (19, .iload_n 3, 1), (20, .ireturn, 1)]
theorem Kq18 : TOk jdk_48_method_27_code Tq18 := by decide +kernel
def Tq19 : Tb := [(0, .aload_n 0, 1), (1, .getfield 15, 3), (4, .arraylength, 1), (5, .istore_n 2, 1), (6, .iload_n 1, 1), (7, .aload_n 0, 1), (8, .getfield 22, 3), (11, .ishl, 1), (12, .istore_n 3, 1), (13, .iload_n 3, 1), (14, .iload_n 2, 1), (15, .isub, 1), (16, .istore 4, 2), (18, .iload_n 2, 1), (19, .iload 4, 2), (21, .iload_n 2, 1), (22, .iconst 2, 1), (23, .aload_n 0, 1), (24, .getfield 22, 3), (27, .ishl, 1), (28, .iadd, 1), (29, .invokestatic 114, 3), (32, .istore 5, 2), (34, .iload 5, 2), (36, .ldc 39, 2), (38, .if_icmp .ne 13, 3), (51, .iload 5, 2), (53, .aload_n 0, 1), (54, .getfield 22, 3), (57, .ishr, 1), (58, .ireturn, 1)]
theorem Kq19 : TOk jdk_68_method_10_code Tq19 := by decide +kernel
def Tq20 : Tb := [(0, .iload_n 1, 1), (1, .aload_n 0, 1), (2, .arraylength, 1), (3, .if_icmp .ne 11, 3), (14, .iload_n 1, 1), (15, .newarray .byte, 2), (17, .astore_n 2, 1), (18, .aload_n 0, 1), (19, .iconst 0, 1), (20, .aload_n 2, 1), (21, .iconst 0, 1), (22, .aload_n 0, 1), (23, .arraylength, 1), (24, .iload_n 1, 1), (25, .invokestatic 304, 3), (28, .invokestatic 150, 3), (31, .aload_n 2, 1), (32, .areturn, 1)]
theorem Kq20 : TOk jdk_65_method_121_code Tq20 := by decide +kernel
def Tq21 : Tb := [(0, .aload_n 0, 1), (1, .getfield 15, 3), (4, .arraylength, 1), (5, .aload_n 0, 1), (6, .getfield 22, 3), (9, .ishr, 1), (10, .istore_n 2, 1), (11, .iload_n 1, 1), (12, .iload_n 2, 1), (13, .isub, 1), (14, .ifCond .le 24, 3), (17, .aload_n 0, 1), (18, .aload_n 0, 1), (19, .getfield 15, 3), (22, .aload_n 0, 1), (23, .iload_n 1, 1), (24, .invokevirtual 104, 3), (27, .aload_n 0, 1), (28, .getfield 22, 3), (31, .ishl, 1), (32, .invokestatic 108, 3), (35, .putfield 15, 3), (38, .return_, 1)]
theorem Kq21 : TOk jdk_68_method_9_code Tq21 := by decide +kernel
def Tq22 : Tb := [(0, .aload_n 0, 1), (1, .invokevirtual 335, 3), (4, .iload_n 3, 1), (5, .if_icmp .ne 23, 3), (8, .aload_n 0, 1), (9, .getfield 9, 3), (12, .iconst 0, 1), (13, .aload_n 1, 1), (14, .iload_n 2, 1), (15, .iload_n 3, 1), (16, .ishl, 1), (17, .aload_n 0, 1), (18, .getfield 9, 3), (21, .arraylength, 1), (22, .invokestatic 212, 3), (25, .goto 18, 3), (43, .return_, 1)]
theorem Kq22 : TOk jdk_42_method_147_code Tq22 := by decide +kernel
def Tq23 : Tb := [(0, .aload_n 0, 1), (1, .aload_n 2, 1), (2, .invokevirtual 397, 3), (5, .aload_n 2, 1), (6, .aload_n 0, 1), (7, .getfield 15, 3), (10, .iload_n 1, 1), (11, .aload_n 0, 1), (12, .getfield 22, 3), (15, .invokevirtual 399, 3), (18, .return_, 1)]
theorem Kq23 : TOk jdk_68_method_73_code Tq23 := by decide +kernel
def Tq24 : Tb := [(0, .aload_n 1, 1), (1, .ifnonnull 8, 3), (9, .aload_n 1, 1), (10, .invokevirtual 32, 3), (13, .istore_n 2, 1), (14, .aload_n 0, 1), (15, .aload_n 0, 1), (16, .getfield 79, 3), (19, .iload_n 2, 1), (20, .iadd, 1), (21, .invokevirtual 100, 3), (24, .aload_n 0, 1), (25, .aload_n 0, 1), (26, .getfield 79, 3), (29, .aload_n 1, 1), (30, .invokevirtual 208, 3), (33, .aload_n 0, 1), (34, .dup, 1), (35, .getfield 79, 3), (38, .iload_n 2, 1), (39, .iadd, 1), (40, .putfield 79, 3), (43, .aload_n 0, 1), (44, .areturn, 1)]
theorem Kq24 : TOk jdk_68_method_22_code Tq24 := by decide +kernel
def Tq25 : Tb := [(0, .aload_n 0, 1), (1, .aload_n 1, 1), (2, .invokespecial 29, 3), (5, .pop, 1), (6, .aload_n 0, 1), (7, .areturn, 1)]
theorem Kq25 : TOk jdk_67_method_7_code Tq25 := by decide +kernel
def Tq26 : Tb := [(0, .iload_n 1, 1), (1, .iload_n 2, 1), (2, .invokestatic 343, 3), (5, .iload_n 2, 1), (6, .iload_n 1, 1), (7, .isub, 1), (8, .istore_n 3, 1), (9, .iload_n 3, 1), (10, .newarray .byte, 2), (12, .astore 4, 2), (14, .aload_n 0, 1), (15, .iload_n 1, 1), (16, .aload 4, 2), (18, .iconst 0, 1), (19, .aload_n 0, 1), (20, .arraylength, 1), (21, .iload_n 1, 1), (22, .isub, 1), (23, .iload_n 3, 1), (24, .invokestatic 304, 3), (27, .invokestatic 150, 3), (30, .aload 4, 2), (32, .areturn, 1)]
theorem Kq26 : TOk jdk_65_method_133_code Tq26 := by decide +kernel
def Tq27 : Tb := [(0, .iload_n 1, 1), (1, .ifCond .ne 9, 3), (4, .iload_n 2, 1), (5, .aload_n 0, 1), (6, .arraylength, 1), (7, .if_icmp .eq 10, 3), (10, .aload_n 0, 1), (11, .iload_n 1, 1), (12, .iload_n 2, 1), (13, .invokestatic 339, 3), (16, .areturn, 1), (17, .aload_n 0, 1), (18, .invokevirtual 310, 3), (21, .checkcast 311, 3), (24, .areturn, 1)]
theorem Kq27 : TOk jdk_65_method_132_code Tq27 := by decide +kernel
def Tq28 : Tb := [(0, .aload_n 0, 1), (1, .invokespecial 1, 3), (4, .aload_n 1, 1), (5, .invokevirtual 552, 3), (8, .astore_n 3, 1), (9, .aload_n 1, 1), (10, .invokevirtual 549, 3), (13, .istore 4, 2), (15, .aload_n 1, 1), (16, .invokevirtual 1047, 3), (19, .ifCond .eq 22, 3), (22, .aload_n 0, 1), (23, .iconst 0, 1), (24, .putfield 15, 3), (27, .aload_n 0, 1), (28, .aload_n 3, 1), (29, .iconst 0, 1), (30, .iload 4, 2), (32, .invokestatic 54, 3), (35, .putfield 9, 3), (38, .goto 59, 3), (97, .return_, 1)]
theorem Kq28 : TOk jdk_42_method_150_code Tq28 := by decide +kernel
def Tq29 : Tb := [(0, .aload_n 0, 1), (1, .aload_n 1, 1), (2, .aconst_null, 1), (3, .invokespecial 489, 3), (6, .return_, 1)]
theorem Kq29 : TOk jdk_42_method_53_code Tq29 := by decide +kernel
def Tq30 : Tb := [(0, .new 18, 3), (3, .dup, 1), (4, .aload_n 0, 1), (5, .invokespecial 137, 3), (8, .areturn, 1)]
theorem Kq30 : TOk jdk_67_method_42_code Tq30 := by decide +kernel
def Tq31 : Tb := [(0, .aload_n 0, 1), (1, .getfield 44, 3), (4, .dup2, 1), (5, .lstore_n 3, 1), (6, .ldc2_w 63, 3), (9, .lcmp, 1), (10, .ifCond .gt 23, 3), (13, .lload_n 3, 1), (14, .ldc2_w 63, 3), (17, .lcmp, 1), (18, .ifCond .ne 7, 3), (25, .lload_n 1, 1), (26, .aload_n 0, 1), (27, .getfield 65, 3), (30, .i2l, 1), (31, .ldiv, 1), (32, .lreturn, 1)]
theorem Kq31 : TOk jdk_2799_method_9_code Tq31 := by decide +kernel
def Tq32 : Tb := [(0, .iconst 1, 1), (1, .istore_n 2, 1), (2, .lload_n 0, 1), (3, .lconst 0, 1), (4, .lcmp, 1), (5, .ifCond .lt 8, 3), (8, .iconst 0, 1), (9, .istore_n 2, 1), (10, .lload_n 0, 1), (11, .lneg, 1), (12, .lstore_n 0, 1), (13, .ldc2_w 140, 3), (16, .lstore_n 3, 1), (17, .iconst 1, 1), (18, .istore 5, 2), (20, .iload 5, 2), (22, .bipush 19, 2), (24, .if_icmp .ge 26, 3), (27, .lload_n 0, 1), (28, .lload_n 3, 1), (29, .lcmp, 1), (30, .ifCond .le 8, 3), (33, .iload 5, 2), (35, .iload_n 2, 1), (36, .iadd, 1), (37, .ireturn, 1), (38, .ldc2_w 53, 3), (41, .lload_n 3, 1), (42, .lmul, 1), (43, .lstore_n 3, 1), (44, .iinc 5 1, 3), (47, .goto (-27), 3)]
theorem Kq32 : TOk jdk_35_method_15_code Tq32 := by decide +kernel
def Tq33 : Tb := [(0, .iload_n 2, 1), (1, .istore 7, 2), (3, .lload_n 0, 1), (4, .lconst 0, 1), (5, .lcmp, 1), (6, .ifCond .ge 7, 3), (9, .iconst 1, 1), (10, .goto 4, 3), (13, .iconst 0, 1), (14, .istore 8, 2), (16, .iload 8, 2), (18, .ifCond .ne 6, 3), (21, .lload_n 0, 1), (22, .lneg, 1), (23, .lstore_n 0, 1), (24, .lload_n 0, 1), (25, .ldc2_w 129, 3), (28, .lcmp, 1), (29, .ifCond .gt 53, 3), (32, .lload_n 0, 1), (33, .ldc2_w 131, 3), (36, .ldiv, 1), (37, .lstore 4, 2), (39, .lload 4, 2), (41, .ldc2_w 131, 3), (44, .lmul, 1), (45, .lload_n 0, 1), (46, .lsub, 1), (47, .l2i, 1), (48, .istore 6, 2), (50, .lload 4, 2), (52, .lstore_n 0, 1), (53, .aload_n 3, 1), (54, .iinc 7 (-1), 3), (57, .iload 7, 2), (59, .getstatic 133, 3), (62, .iload 6, 2), (64, .baload, 1), (65, .bastore, 1), (66, .aload_n 3, 1), (67, .iinc 7 (-1), 3), (70, .iload 7, 2), (72, .getstatic 137, 3), (75, .iload 6, 2), (77, .baload, 1), (78, .bastore, 1), (79, .goto (-55), 3), (82, .lload_n 0, 1), (83, .l2i, 1), (84, .istore 10, 2), (86, .iload 10, 2), (88, .bipush (-100), 2), (90, .if_icmp .gt 53, 3), (93, .iload 10, 2), (95, .bipush 100, 2), (97, .idiv, 1), (98, .istore 9, 2), (100, .iload 9, 2), (102, .bipush 100, 2), (104, .imul, 1), (105, .iload 10, 2), (107, .isub, 1), (108, .istore 6, 2), (110, .iload 9, 2), (112, .istore 10, 2), (114, .aload_n 3, 1), (115, .iinc 7 (-1), 3), (118, .iload 7, 2), (120, .getstatic 133, 3), (123, .iload 6, 2), (125, .baload, 1), (126, .bastore, 1), (127, .aload_n 3, 1), (128, .iinc 7 (-1), 3), (131, .iload 7, 2), (133, .getstatic 137, 3), (136, .iload 6, 2), (138, .baload, 1), (139, .bastore, 1), (140, .goto (-54), 3), (143, .aload_n 3, 1), (144, .iinc 7 (-1), 3), (147, .iload 7, 2), (149, .getstatic 133, 3), (152, .iload 10, 2), (154, .ineg, 1), (155, .baload, 1), (156, .bastore, 1), (157, .iload 10, 2), (159, .bipush (-9), 2), (161, .if_icmp .ge 17, 3), (164, .aload_n 3, 1), (165, .iinc 7 (-1), 3), (168, .iload 7, 2), (170, .getstatic 137, 3), (173, .iload 10, 2), (175, .ineg, 1), (176, .baload, 1), (177, .bastore, 1), (178, .iload 8, 2), (180, .ifCond .eq 12, 3), (183, .aload_n 3, 1), (184, .iinc 7 (-1), 3), (187, .iload 7, 2), (189, .bipush 45, 2), (191, .bastore, 1), (192, .iload 7, 2), (194, .ireturn, 1)]
theorem Kq33 : TOk jdk_35_method_14_code Tq33 := by decide +kernel
def Tq34 : Tb := [(0, .aload_n 0, 1), (1, .getfield 79, 3), (4, .istore_n 3, 1), (5, .iload_n 3, 1), (6, .lload_n 1, 1), (7, .invokestatic 254, 3), (10, .iadd, 1), (11, .istore 4, 2), (13, .aload_n 0, 1), (14, .iload 4, 2), (16, .invokevirtual 100, 3), (19, .aload_n 0, 1), (20, .invokevirtual 83, 3), (23, .ifCond .eq 17, 3), (26, .lload_n 1, 1), (27, .iload 4, 2), (29, .aload_n 0, 1), (30, .getfield 15, 3), (33, .invokestatic 259, 3), (36, .pop, 1), (37, .goto 15, 3), (52, .aload_n 0, 1), (53, .iload 4, 2), (55, .putfield 79, 3), (58, .aload_n 0, 1), (59, .areturn, 1)]
theorem Kq34 : TOk jdk_68_method_33_code Tq34 := by decide +kernel
def Tq35 : Tb := [(0, .aload_n 0, 1), (1, .lload_n 1, 1), (2, .invokespecial 56, 3), (5, .pop, 1), (6, .aload_n 0, 1), (7, .areturn, 1)]
theorem Kq35 : TOk jdk_67_method_16_code Tq35 := by decide +kernel
def Tq36 : Tb := [(0, .iload_n 0, 1), (1, .ifCond .ne 14, 3), (4, .new 26, 3), (7, .dup, 1), (8, .iconst 0, 1), (9, .newarray .char, 2), (11, .invokespecial 43, 3), (14, .areturn, 1), (15, .iload_n 0, 1), (16, .iconst 1, 1), (17, .if_icmp .ne 8, 3), (20, .iload_n 1, 1), (21, .invokestatic 46, 3), (24, .areturn, 1), (25, .new 26, 3), (28, .dup, 1), (29, .iconst 2, 1), (30, .newarray .char, 2), (32, .dup, 1), (33, .iconst 0, 1), (34, .iload_n 1, 1), (35, .castore, 1), (36, .dup, 1), (37, .iconst 1, 1), (38, .iload_n 2, 1), (39, .castore, 1), (40, .invokespecial 43, 3), (43, .areturn, 1)]
theorem Kq36 : TOk method_3_code Tq36 := by decide +kernel
def Tq37 : Tb := [(0, .new 7, 3), (3, .dup, 1), (4, .invokespecial 37, 3), (7, .aload_n 0, 1), (8, .invokevirtual 30, 3), (11, .ldc 38, 2), (13, .invokevirtual 30, 3), (16, .getstatic 40, 3), (19, .lload_n 1, 1), (20, .invokevirtual 46, 3), (23, .invokevirtual 50, 3), (26, .ldc 53, 2), (28, .invokevirtual 30, 3), (31, .invokevirtual 34, 3), (34, .astore 4, 2), (36, .aload_n 3, 1), (37, .ifnonnull 8, 3), (40, .aload 4, 2), (42, .goto 27, 3), (45, .new 7, 3), (48, .dup, 1), (49, .invokespecial 37, 3), (52, .aload 4, 2), (54, .invokevirtual 30, 3), (57, .ldc 28, 2), (59, .invokevirtual 30, 3), (62, .aload_n 3, 1), (63, .invokevirtual 30, 3), (66, .invokevirtual 34, 3), (69, .areturn, 1)]
theorem Kq37 : TOk prog_22_method_3_code Tq37 := by decide +kernel
def Tq38 : Tb := [(0, .iconst 1, 1), (1, .istore_n 2, 1), (2, .lload_n 0, 1), (3, .ldc2_w 50, 3), (6, .lcmp, 1), (7, .ifCond .lt 5, 3), (10, .iconst 2, 1), (11, .istore_n 2, 1), (12, .lload_n 0, 1), (13, .ldc2_w 52, 3), (16, .lcmp, 1), (17, .ifCond .lt 5, 3), (20, .iconst 3, 1), (21, .istore_n 2, 1), (22, .lload_n 0, 1), (23, .ldc2_w 54, 3), (26, .lcmp, 1), (27, .ifCond .lt 5, 3), (30, .iconst 4, 1), (31, .istore_n 2, 1), (32, .lload_n 0, 1), (33, .ldc2_w 56, 3), (36, .lcmp, 1), (37, .ifCond .lt 5, 3), (40, .iconst 5, 1), (41, .istore_n 2, 1), (42, .lload_n 0, 1), (43, .ldc2_w 58, 3), (46, .lcmp, 1), (47, .ifCond .lt 6, 3), (50, .bipush 6, 2), (52, .istore_n 2, 1), (53, .lload_n 0, 1), (54, .ldc2_w 19, 3), (57, .lcmp, 1), (58, .ifCond .lt 6, 3), (61, .bipush 7, 2), (63, .istore_n 2, 1), (64, .lload_n 0, 1), (65, .ldc2_w 60, 3), (68, .lcmp, 1), (69, .ifCond .lt 6, 3), (72, .bipush 8, 2), (74, .istore_n 2, 1), (75, .lload_n 0, 1), (76, .ldc2_w 62, 3), (79, .lcmp, 1), (80, .ifCond .lt 6, 3), (83, .bipush 9, 2), (85, .istore_n 2, 1), (86, .lload_n 0, 1), (87, .ldc2_w 64, 3), (90, .lcmp, 1), (91, .ifCond .lt 6, 3), (94, .bipush 10, 2), (96, .istore_n 2, 1), (97, .lload_n 0, 1), (98, .ldc2_w 66, 3), (101, .lcmp, 1), (102, .ifCond .lt 6, 3), (105, .bipush 11, 2), (107, .istore_n 2, 1), (108, .lload_n 0, 1), (109, .ldc2_w 68, 3), (112, .lcmp, 1), (113, .ifCond .lt 6, 3), (116, .bipush 12, 2), (118, .istore_n 2, 1), (119, .lload_n 0, 1), (120, .ldc2_w 70, 3), (123, .lcmp, 1), (124, .ifCond .lt 6, 3), (127, .bipush 13, 2), (129, .istore_n 2, 1), (130, .iload_n 2, 1), (131, .ireturn, 1)]
theorem Kq38 : TOk method_4_code Tq38 := by decide +kernel
def Tq39 : Tb := [(0, .aload_n 0, 1), (1, .iload_n 1, 1), (2, .iload_n 3, 1), (3, .iadd, 1), (4, .invokevirtual 31, 3), (7, .aload_n 2, 1), (8, .iload_n 3, 1), (9, .invokevirtual 31, 3), (12, .if_icmp .ne 7, 3), (15, .iconst 1, 1), (16, .goto 4, 3), (20, .ireturn, 1)]
theorem Kq39 : TOk method_5_code Tq39 := by decide +kernel
def Tq40 : Tb := [(0, .ldc 72, 2), (2, .astore_n 2, 1), (3, .aload_n 0, 1), (4, .iload_n 1, 1), (5, .aload_n 2, 1), (6, .iconst 0, 1), (7, .invokestatic 74, 3), (10, .ifCond .eq 244, 3), (13, .aload_n 0, 1), (14, .iload_n 1, 1), (15, .aload_n 2, 1), (16, .iconst 1, 1), (17, .invokestatic 74, 3), (20, .ifCond .eq 234, 3), (23, .aload_n 0, 1), (24, .iload_n 1, 1), (25, .aload_n 2, 1), (26, .iconst 2, 1), (27, .invokestatic 74, 3), (30, .ifCond .eq 224, 3), (33, .aload_n 0, 1), (34, .iload_n 1, 1), (35, .aload_n 2, 1), (36, .iconst 3, 1), (37, .invokestatic 74, 3), (40, .ifCond .eq 214, 3), (43, .aload_n 0, 1), (44, .iload_n 1, 1), (45, .aload_n 2, 1), (46, .iconst 4, 1), (47, .invokestatic 74, 3), (50, .ifCond .eq 204, 3), (53, .aload_n 0, 1), (54, .iload_n 1, 1), (55, .aload_n 2, 1), (56, .iconst 5, 1), (57, .invokestatic 74, 3), (60, .ifCond .eq 194, 3), (63, .aload_n 0, 1), (64, .iload_n 1, 1), (65, .aload_n 2, 1), (66, .bipush 6, 2), (68, .invokestatic 74, 3), (71, .ifCond .eq 183, 3), (74, .aload_n 0, 1), (75, .iload_n 1, 1), (76, .aload_n 2, 1), (77, .bipush 7, 2), (79, .invokestatic 74, 3), (82, .ifCond .eq 172, 3), (85, .aload_n 0, 1), (86, .iload_n 1, 1), (87, .aload_n 2, 1), (88, .bipush 8, 2), (90, .invokestatic 74, 3), (93, .ifCond .eq 161, 3), (96, .aload_n 0, 1), (97, .iload_n 1, 1), (98, .aload_n 2, 1), (99, .bipush 9, 2), (101, .invokestatic 74, 3), (104, .ifCond .eq 150, 3), (107, .aload_n 0, 1), (108, .iload_n 1, 1), (109, .aload_n 2, 1), (110, .bipush 10, 2), (112, .invokestatic 74, 3), (115, .ifCond .eq 139, 3), (118, .aload_n 0, 1), (119, .iload_n 1, 1), (120, .aload_n 2, 1), (121, .bipush 11, 2), (123, .invokestatic 74, 3), (126, .ifCond .eq 128, 3), (129, .aload_n 0, 1), (130, .iload_n 1, 1), (131, .aload_n 2, 1), (132, .bipush 12, 2), (134, .invokestatic 74, 3), (137, .ifCond .eq 117, 3), (140, .aload_n 0, 1), (141, .iload_n 1, 1), (142, .aload_n 2, 1), (143, .bipush 13, 2), (145, .invokestatic 74, 3), (148, .ifCond .eq 106, 3), (151, .aload_n 0, 1), (152, .iload_n 1, 1), (153, .aload_n 2, 1), (154, .bipush 14, 2), (156, .invokestatic 74, 3), (159, .ifCond .eq 95, 3), (162, .aload_n 0, 1), (163, .iload_n 1, 1), (164, .aload_n 2, 1), (165, .bipush 15, 2), (167, .invokestatic 74, 3), (170, .ifCond .eq 84, 3), (173, .aload_n 0, 1), (174, .iload_n 1, 1), (175, .aload_n 2, 1), (176, .bipush 16, 2), (178, .invokestatic 74, 3), (181, .ifCond .eq 73, 3), (184, .aload_n 0, 1), (185, .iload_n 1, 1), (186, .aload_n 2, 1), (187, .bipush 17, 2), (189, .invokestatic 74, 3), (192, .ifCond .eq 62, 3), (195, .aload_n 0, 1), (196, .iload_n 1, 1), (197, .aload_n 2, 1), (198, .bipush 18, 2), (200, .invokestatic 74, 3), (203, .ifCond .eq 51, 3), (206, .aload_n 0, 1), (207, .iload_n 1, 1), (208, .aload_n 2, 1), (209, .bipush 19, 2), (211, .invokestatic 74, 3), (214, .ifCond .eq 40, 3), (217, .aload_n 0, 1), (218, .iload_n 1, 1), (219, .aload_n 2, 1), (220, .bipush 20, 2), (222, .invokestatic 74, 3), (225, .ifCond .eq 29, 3), (228, .aload_n 0, 1), (229, .iload_n 1, 1), (230, .aload_n 2, 1), (231, .bipush 21, 2), (233, .invokestatic 74, 3), (236, .ifCond .eq 18, 3), (239, .aload_n 0, 1), (240, .iload_n 1, 1), (241, .aload_n 2, 1), (242, .bipush 22, 2), (244, .invokestatic 74, 3), (247, .ifCond .eq 7, 3), (250, .iconst 1, 1), (251, .goto 4, 3), (255, .ireturn, 1)]
theorem Kq40 : TOk method_6_code Tq40 := by decide +kernel
def Tq41 : Tb := [(0, .iload 5, 2), (2, .iload 4, 2), (4, .if_icmp .lt 5, 3), (7, .iconst 1, 1), (8, .ireturn, 1), (9, .lload_n 2, 1), (10, .aload 6, 2), (12, .iload 5, 2), (14, .laload, 1), (15, .ldiv, 1), (16, .ldc2_w 50, 3), (19, .lrem, 1), (20, .lstore 7, 2), (22, .aload_n 0, 1), (23, .iload_n 1, 1), (24, .iconst 1, 1), (25, .isub, 1), (26, .iload 5, 2), (28, .isub, 1), (29, .invokevirtual 31, 3), (32, .bipush 48, 2), (34, .lload 7, 2), (36, .l2i, 1), (37, .iadd, 1), (38, .i2c, 1), (39, .if_icmp .ne 7, 3), (42, .iconst 1, 1), (43, .goto 4, 3), (47, .ireturn, 1)]
theorem Kq41 : TOk method_7_code Tq41 := by decide +kernel
def Tq42 : Tb := [(0, .bipush 13, 2), (2, .newarray .long, 2), (4, .dup, 1), (5, .iconst 0, 1), (6, .lconst 1, 1), (7, .lastore, 1), (8, .dup, 1), (9, .iconst 1, 1), (10, .ldc2_w 50, 3), (13, .lastore, 1), (14, .dup, 1), (15, .iconst 2, 1), (16, .ldc2_w 52, 3), (19, .lastore, 1), (20, .dup, 1), (21, .iconst 3, 1), (22, .ldc2_w 54, 3), (25, .lastore, 1), (26, .dup, 1), (27, .iconst 4, 1), (28, .ldc2_w 56, 3), (31, .lastore, 1), (32, .dup, 1), (33, .iconst 5, 1), (34, .ldc2_w 58, 3), (37, .lastore, 1), (38, .dup, 1), (39, .bipush 6, 2), (41, .ldc2_w 19, 3), (44, .lastore, 1), (45, .dup, 1), (46, .bipush 7, 2), (48, .ldc2_w 60, 3), (51, .lastore, 1), (52, .dup, 1), (53, .bipush 8, 2), (55, .ldc2_w 62, 3), (58, .lastore, 1), (59, .dup, 1), (60, .bipush 9, 2), (62, .ldc2_w 64, 3), (65, .lastore, 1), (66, .dup, 1), (67, .bipush 10, 2), (69, .ldc2_w 66, 3), (72, .lastore, 1), (73, .dup, 1), (74, .bipush 11, 2), (76, .ldc2_w 68, 3), (79, .lastore, 1), (80, .dup, 1), (81, .bipush 12, 2), (83, .ldc2_w 70, 3), (86, .lastore, 1), (87, .astore 5, 2), (89, .aload_n 0, 1), (90, .iload_n 1, 1), (91, .lload_n 2, 1), (92, .iload 4, 2), (94, .iconst 0, 1), (95, .aload 5, 2), (97, .invokestatic 78, 3), (100, .ifCond .eq 182, 3), (103, .aload_n 0, 1), (104, .iload_n 1, 1), (105, .lload_n 2, 1), (106, .iload 4, 2), (108, .iconst 1, 1), (109, .aload 5, 2), (111, .invokestatic 78, 3), (114, .ifCond .eq 168, 3), (117, .aload_n 0, 1), (118, .iload_n 1, 1), (119, .lload_n 2, 1), (120, .iload 4, 2), (122, .iconst 2, 1), (123, .aload 5, 2), (125, .invokestatic 78, 3), (128, .ifCond .eq 154, 3), (131, .aload_n 0, 1), (132, .iload_n 1, 1), (133, .lload_n 2, 1), (134, .iload 4, 2), (136, .iconst 3, 1), (137, .aload 5, 2), (139, .invokestatic 78, 3), (142, .ifCond .eq 140, 3), (145, .aload_n 0, 1), (146, .iload_n 1, 1), (147, .lload_n 2, 1), (148, .iload 4, 2), (150, .iconst 4, 1), (151, .aload 5, 2), (153, .invokestatic 78, 3), (156, .ifCond .eq 126, 3), (159, .aload_n 0, 1), (160, .iload_n 1, 1), (161, .lload_n 2, 1), (162, .iload 4, 2), (164, .iconst 5, 1), (165, .aload 5, 2), (167, .invokestatic 78, 3), (170, .ifCond .eq 112, 3), (173, .aload_n 0, 1), (174, .iload_n 1, 1), (175, .lload_n 2, 1), (176, .iload 4, 2), (178, .bipush 6, 2), (180, .aload 5, 2), (182, .invokestatic 78, 3), (185, .ifCond .eq 97, 3), (188, .aload_n 0, 1), (189, .iload_n 1, 1), (190, .lload_n 2, 1), (191, .iload 4, 2), (193, .bipush 7, 2), (195, .aload 5, 2), (197, .invokestatic 78, 3), (200, .ifCond .eq 82, 3), (203, .aload_n 0, 1), (204, .iload_n 1, 1), (205, .lload_n 2, 1), (206, .iload 4, 2), (208, .bipush 8, 2), (210, .aload 5, 2), (212, .invokestatic 78, 3), (215, .ifCond .eq 67, 3), (218, .aload_n 0, 1), (219, .iload_n 1, 1), (220, .lload_n 2, 1), (221, .iload 4, 2), (223, .bipush 9, 2), (225, .aload 5, 2), (227, .invokestatic 78, 3), (230, .ifCond .eq 52, 3), (233, .aload_n 0, 1), (234, .iload_n 1, 1), (235, .lload_n 2, 1), (236, .iload 4, 2), (238, .bipush 10, 2), (240, .aload 5, 2), (242, .invokestatic 78, 3), (245, .ifCond .eq 37, 3), (248, .aload_n 0, 1), (249, .iload_n 1, 1), (250, .lload_n 2, 1), (251, .iload 4, 2), (253, .bipush 11, 2), (255, .aload 5, 2), (257, .invokestatic 78, 3), (260, .ifCond .eq 22, 3), (263, .aload_n 0, 1), (264, .iload_n 1, 1), (265, .lload_n 2, 1), (266, .iload 4, 2), (268, .bipush 12, 2), (270, .aload 5, 2), (272, .invokestatic 78, 3), (275, .ifCond .eq 7, 3), (278, .iconst 1, 1), (279, .goto 4, 3), (283, .ireturn, 1)]
theorem Kq42 : TOk method_8_code Tq42 := by decide +kernel
def Tq43 : Tb := [(0, .iload_n 0, 1), (1, .sipush 255, 3), (4, .iand, 1), (5, .i2c, 1), (6, .istore 5, 2), (8, .iload_n 0, 1), (9, .bipush 8, 2), (11, .iushr, 1), (12, .sipush 255, 3), (15, .iand, 1), (16, .i2c, 1), (17, .istore 6, 2), (19, .iload_n 1, 1), (20, .sipush 255, 3), (23, .iand, 1), (24, .i2c, 1), (25, .istore 7, 2), (27, .iload_n 1, 1), (28, .bipush 8, 2), (30, .iushr, 1), (31, .sipush 255, 3), (34, .iand, 1), (35, .i2c, 1), (36, .istore 8, 2), (38, .iload 4, 2), (40, .iconst 3, 1), (41, .iand, 1), (42, .iconst 3, 1), (43, .irem, 1), (44, .istore 9, 2), (46, .iload 4, 2), (48, .iconst 2, 1), (49, .iushr, 1), (50, .iconst 3, 1), (51, .iand, 1), (52, .iconst 3, 1), (53, .irem, 1), (54, .istore 10, 2), (56, .iload 4, 2), (58, .iconst 4, 1), (59, .iushr, 1), (60, .iconst 1, 1), (61, .iand, 1), (62, .ifCond .eq 7, 3), (65, .iconst 1, 1), (66, .goto 4, 3), (69, .iconst 0, 1), (70, .istore 11, 2), (72, .iload 9, 2), (74, .iload 5, 2), (76, .iload 6, 2), (78, .invokestatic 7, 3), (81, .astore 12, 2), (83, .iload 11, 2), (85, .ifCond .eq 15, 3), (88, .iload 10, 2), (90, .iload 7, 2), (92, .iload 8, 2), (94, .invokestatic 7, 3), (97, .goto 4, 3), (100, .aconst_null, 1), (101, .astore 13, 2), (103, .aload 12, 2), (105, .lload_n 2, 1), (106, .aload 13, 2), (108, .invokestatic 13, 3), (111, .astore 14, 2), (113, .lload_n 2, 1), (114, .ldc2_w 19, 3), (117, .ldiv, 1), (118, .lstore 15, 2), (120, .lload 15, 2), (122, .lconst 0, 1), (123, .lcmp, 1), (124, .ifCond .ge 7, 3), (127, .iconst 1, 1), (128, .goto 4, 3), (131, .iconst 0, 1), (132, .istore 17, 2), (134, .iload 17, 2), (136, .ifCond .eq 9, 3), (139, .lload 15, 2), (141, .lneg, 1), (142, .goto 5, 3), (145, .lload 15, 2), (147, .lstore 18, 2), (149, .lload 18, 2), (151, .invokestatic 21, 3), (154, .istore 20, 2), (156, .iload 9, 2), (158, .bipush 23, 2), (160, .iadd, 1), (161, .istore 21, 2), (163, .iload 21, 2), (165, .iload 20, 2), (167, .iadd, 1), (168, .iload 17, 2), (170, .ifCond .eq 7, 3), (173, .iconst 1, 1), (174, .goto 4, 3), (177, .iconst 0, 1), (178, .iadd, 1), (179, .istore 22, 2), (181, .iload 22, 2), (183, .iconst 3, 1), (184, .iadd, 1), (185, .istore 23, 2), (187, .iload 11, 2), (189, .ifCond .eq 13, 3), (192, .iload 23, 2), (194, .iconst 2, 1), (195, .iadd, 1), (196, .iload 10, 2), (198, .iadd, 1), (199, .goto 5, 3), (202, .iload 23, 2), (204, .istore 24, 2), (206, .aload 14, 2), (208, .ifnull 13, 3), (211, .aload 14, 2), (213, .invokevirtual 25, 3), (216, .iload 24, 2), (218, .if_icmp .eq 5, 3), (223, .iload 9, 2), (225, .iconst 1, 1), (226, .if_icmp .lt 16, 3), (229, .aload 14, 2), (231, .iconst 0, 1), (232, .invokevirtual 31, 3), (235, .iload 5, 2), (237, .if_icmp .eq 5, 3), (242, .iload 9, 2), (244, .iconst 2, 1), (245, .if_icmp .lt 16, 3), (248, .aload 14, 2), (250, .iconst 1, 1), (251, .invokevirtual 31, 3), (254, .iload 6, 2), (256, .if_icmp .eq 5, 3), (261, .aload 14, 2), (263, .iload 9, 2), (265, .invokestatic 35, 3), (268, .ifCond .ne 5, 3), (273, .iload 17, 2), (275, .ifCond .eq 17, 3), (278, .aload 14, 2), (280, .iload 21, 2), (282, .invokevirtual 31, 3), (285, .bipush 45, 2), (287, .if_icmp .eq 5, 3), (292, .aload 14, 2), (294, .iload 22, 2), (296, .lload 18, 2), (298, .iload 20, 2), (300, .invokestatic 39, 3), (303, .ifCond .ne 5, 3), (308, .aload 14, 2), (310, .iload 22, 2), (312, .invokevirtual 31, 3), (315, .bipush 32, 2), (317, .if_icmp .ne 31, 3), (320, .aload 14, 2), (322, .iload 22, 2), (324, .iconst 1, 1), (325, .iadd, 1), (326, .invokevirtual 31, 3), (329, .bipush 109, 2), (331, .if_icmp .ne 17, 3), (334, .aload 14, 2), (336, .iload 22, 2), (338, .iconst 2, 1), (339, .iadd, 1), (340, .invokevirtual 31, 3), (343, .bipush 115, 2), (345, .if_icmp .eq 5, 3), (350, .iload 11, 2), (352, .ifCond .eq 75, 3), (355, .aload 14, 2), (357, .iload 23, 2), (359, .invokevirtual 31, 3), (362, .bipush 59, 2), (364, .if_icmp .ne 17, 3), (367, .aload 14, 2), (369, .iload 23, 2), (371, .iconst 1, 1), (372, .iadd, 1), (373, .invokevirtual 31, 3), (376, .bipush 32, 2), (378, .if_icmp .eq 5, 3), (383, .iload 10, 2), (385, .iconst 1, 1), (386, .if_icmp .lt 19, 3), (389, .aload 14, 2), (391, .iload 23, 2), (393, .iconst 2, 1), (394, .iadd, 1), (395, .invokevirtual 31, 3), (398, .iload 7, 2), (400, .if_icmp .eq 5, 3), (405, .iload 10, 2), (407, .iconst 2, 1), (408, .if_icmp .lt 19, 3), (411, .aload 14, 2), (413, .iload 23, 2), (415, .iconst 3, 1), (416, .iadd, 1), (417, .invokevirtual 31, 3), (420, .iload 8, 2), (422, .if_icmp .eq 5, 3), (427, .iconst 1, 1), (428, .ireturn, 1)]
theorem Kq43 : TOk code Tq43 := by decide +kernel
theorem ef20 (m : MethodId) (x0 x1 : Addr) (x2 x3 : Int32)  : entryFrame m #[(.ref x0), (.ref x1), (.int x2), (.int x3), .null] 6 = mkF m 0 #[vr x0, vr x1, vi x2, vi x3, vN, U0] [] := by first | (simp [entryFrame, mkF, argsToLocals, Value.category]; done) | rfl | rfl
set_option maxRecDepth 65536 in
set_option maxHeartbeats 40000000 in
theorem rm20 (B : EV l Z a0 zc fm) (x1 x2 : Addr) (h0 : Heap) {n0 : Nat} (O0 : Old Z n0 h0) (E1 : Exa Z h0 x1 "java/lang/String") (F1 : Fld Z h0 x1 "java/lang/String" "value" "[B" .null) (F2 : Fld Z h0 x1 "java/lang/String" "coder" "B" (.int 0)) (g1 : n0 ≤ x1) :
    Met l Z EL0 n0 (⟨"java/lang/String", "<init>", "([CIILjava/lang/Void;)V"⟩ : MethodName) jdk_42_method_149_code 6 none [] (rO 1 4 8 12) #[(.ref x1), (.ref x2), (.int 0), (.int 0), .null] h0 [x1] [x1] (fun v h' S => v = none ∧ Str Z h' x1 []) := by
  obtain ⟨hw, hEL, SC, hzc, SF, rfm⟩ := id B
  refine Met.of (plainFor_of_name pn0) O0 ?_
  intro p e s m below meth c T0 hx hby hml hret hlk hnm hs W0
  have W0 : Wk p l e _ s m _ below meth c Z EL0 n0 [x1] "java/lang/String" [x1] T0 0 0 h0 := W0
  have D := @tk c _ _ hby Kq0
  have hSA := fun d hd => hw d (sa_in d hd)
  refine Go.of (fun _ kk => castTop (ef20 m x1 x2 (0 : Int32) (0 : Int32)) kk) ?_
  refine W0.pv hx D 0 1 1 [_, _, _, _, _, _] [_] rfl ?_
  refine W0.initO hx (B.h 15 rfl) (B.h 16 rfl) (B.h 17 rfl) rfl (by rw [hml]; rfl) rfl (D 1 rfl) (by decide +kernel) (Wd := 0) (by show 2 * 0 + _ ≤ _; exact Nat.le_of_eq rfl) (by decide +kernel) (fun T1 W1 => ?_)
  refine W1.pu hx D 4 [(1, false)] 1 9 [_, _, _, _, _, _] [_] rfl ⟨trivial, (XT.i0_ne_f (by decide +kernel))⟩ ?_
  refine W1.ldcC hx hEL (by decide +kernel) (B.h 18 rfl) hSA [] (0 : Int32) (by decide +kernel) (by decide +kernel) (by decide +kernel) rfl (D 9 rfl) (n := 0) (by decide +kernel) (by decide +kernel) (by decide +kernel) (by decide +kernel) (fun T2 h2 b2 t2 kb2 W2 K2 E2 Fv2 Fc2 A2 N2 => ?_)
  have S2 : Str Z h2 b2 [] := ⟨t2, kb2, 0, (0 : Int32), _, E2, Fv2, Fc2, A2, Or.inl ⟨rfl, by decide +kernel, by decide +kernel, by decide +kernel⟩, by decide +kernel, by decide⟩
  refine W2.getF hx (host := "") (Or.inl (B.h 24 rfl)) Via.refl Fv2 rfl rfl (D 11 rfl) (fun T3 W3 => ?_)
  have k4 := (F1.keep K2 nin0)
  have k5 := (E1.keep K2)
  refine W3.putF hx (host := "") (Or.inl (B.h 24 rfl)) Via.refl k4 k5 (Or.inr ⟨(B.h 20 rfl), rfl, hnm⟩) (B.h 5 rfl) (ty := (.array .byte)) (by decide +kernel) rfl rfl g1 (Or.inl (mI 0 rfl)) (Or.inl (mI 0 rfl)) rfl rfl (D 14 rfl) (fun T6 h6 W6 w6 => ?_)
  have k7 := (F2.keep K2 nin0)
  have K6 := Keep.of_wr w6
  have k8 := k7.other w6 (Or.inr (slot_ne (Or.inr (B.h 21 rfl)) (Or.inr (B.h 20 rfl)) (by decide +kernel) (t := .byte) (t' := (.array .byte)) (by decide +kernel) (by decide +kernel)))
  have k9 := k4.same w6
  refine W6.pv hx D 17 1 18 [_, _, _, _, _, _] [_] rfl ?_
  refine W6.ldcC hx hEL (by decide +kernel) (B.h 18 rfl) hSA [] (0 : Int32) (by decide +kernel) (by decide +kernel) (by decide +kernel) rfl (D 18 rfl) (n := 0) (by decide +kernel) (by decide +kernel) (by decide +kernel) (by decide +kernel) (fun T10 h10 b10 t10 kb10 W10 K10 E10 Fv10 Fc10 A10 N10 => ?_)
  have S10 : Str Z h10 b10 [] := ⟨t10, kb10, 0, (0 : Int32), _, E10, Fv10, Fc10, A10, Or.inl ⟨rfl, by decide +kernel, by decide +kernel, by decide +kernel⟩, by decide +kernel, by decide⟩
  refine W10.getF hx (host := "") (Or.inl (B.h 25 rfl)) Via.refl Fc10 rfl rfl (D 20 rfl) (fun T11 W11 => ?_)
  have k12 := (k8.keep K10 nin0)
  have k13 := ((k5.keep K6).keep K10)
  refine W11.putF hx (host := "") (Or.inl (B.h 25 rfl)) Via.refl k12 k13 (Or.inr ⟨(B.h 21 rfl), rfl, hnm⟩) (B.h 5 rfl) (ty := .byte) (by decide +kernel) rfl rfl g1 (Or.inl (mI 0 rfl)) (Or.inl (mI 0 rfl)) rfl rfl (D 23 rfl) (fun T14 h14 W14 w14 => ?_)
  have k15 := (k9.keep K10 nin0)
  have K14 := Keep.of_wr w14
  have k16 := k15.other w14 (Or.inr (slot_ne (Or.inr (B.h 20 rfl)) (Or.inr (B.h 21 rfl)) (by decide +kernel) (t := (.array .byte)) (t' := .byte) (by decide +kernel) (by decide +kernel)))
  have k17 := k12.same w14
  have k18 := (k13.keep K14)
  have k19 := (((A2.keep K6 (ninS ((N2 _ (mI 0 rfl)).2).symm nin0)).keep K10 nin0).keep K14 (ninS ((N2 _ (mI 0 rfl)).2).symm nin0))
  show Go p e below _ (T14.setTop (mkF m 26 #[vr x1, vr x2, vi 0, vi 0, vN, U0] []))
  exact W14.retV hx hEL hs hlk (by decide +kernel) (by decide +kernel) hret (D 26 rfl) (fun S hS => ⟨rfl, ⟨t2, kb2, _, _, _, k18, k16, k17, k19, StrChars.Road.codOf (cs := []) (n := 0) rfl all0i, all0i, Nat.le_of_ble_eq_true rfl⟩⟩)
theorem ef21 (m : MethodId) (x0 x1 : Addr)  : entryFrame m #[(.ref x0), (.ref x1)] 2 = mkF m 0 #[vr x0, vr x1] [] := by first | (simp [entryFrame, mkF, argsToLocals, Value.category]; done) | rfl | rfl
set_option maxRecDepth 65536 in
set_option maxHeartbeats 40000000 in
theorem rm21 (B : EV l Z a0 zc fm) (x1 x2 : Addr) (kc : ClassId) (h0 : Heap) {n0 : Nat} (O0 : Old Z n0 h0) (E1 : Exa Z h0 x1 "java/lang/String") (F1 : Fld Z h0 x1 "java/lang/String" "value" "[B" .null) (F2 : Fld Z h0 x1 "java/lang/String" "coder" "B" (.int 0)) (g1 : n0 ≤ x1) (A1 : Arv Z h0 x2 kc .char (0 : Int32) [] (.int 0)) :
    Met l Z EL0 n0 (⟨"java/lang/String", "<init>", "([C)V"⟩ : MethodName) jdk_42_method_3_code 2 none [] (rO 2 4 8 29) #[(.ref x1), (.ref x2)] h0 [x1] [x1] (fun v h' S => v = none ∧ Str Z h' x1 []) := by
  obtain ⟨hw, hEL, SC, hzc, SF, rfm⟩ := id B
  refine Met.of (plainFor_of_name pn0) O0 ?_
  intro p e s m below meth c T0 hx hby hml hret hlk hnm hs W0
  have W0 : Wk p l e _ s m _ below meth c Z EL0 n0 [x1] "java/lang/String" [x1] T0 0 0 h0 := W0
  have D := @tk c _ _ hby Kq1
  refine Go.of (fun _ kk => castTop (ef21 m x1 x2) kk) ?_
  refine W0.pv hx D 0 4 4 [_, _] [_, .int 0, _, _] rfl ?_
  refine W0.alen hx A1 rfl rfl (D 4 rfl) ?_
  refine W0.pv hx D 5 1 6 [_, _] [.null, _, _, _, _] rfl ?_
  refine W0.kP hx hEL rfl (B.h 11 rfl) (B.h 12 rfl) (B.h 6 rfl) (B.h 14 rfl) (a := x1) [(.ref x2), (.int 0), (.int 0), .null] [] (rm20 B x1 x2 h0 W0.old E1 F1 F2 g1) (allS (mI 0 rfl) all0) 0 (by decide +kernel) (allS ⟨g1, (Or.inl (mI 0 rfl))⟩ all0) hml (lenOf pd0 rfl) (D 6 rfl) ⟨rfl, rfl, rfl, rfl⟩ (fun T1 h1 v1 P1 Ws1 K1 q1 => ?_)
  have W1 := Ws1 [] all0
  obtain ⟨rfl, S1⟩ := q1
  show Go p e below _ (T1.setTop (mkF m 9 #[vr x1, vr x2] []))
  exact W1.retV hx hEL hs hlk (by decide +kernel) (by decide +kernel) hret (D 9 rfl) (fun S hS => ⟨rfl, S1⟩)
theorem ef24 (m : MethodId) (x0 : Int32)  : entryFrame m #[(.int x0)] 1 = mkF m 0 #[vi x0] [] := by first | (simp [entryFrame, mkF, argsToLocals, Value.category]; done) | rfl | rfl
set_option maxRecDepth 65536 in
set_option maxHeartbeats 40000000 in
theorem rm24 (B : EV l Z a0 zc fm) (q1 : Int32) (h0 : Heap) {n0 : Nat} (O0 : Old Z n0 h0) (cq1 : ¬ q1 < 0 ∧ ¬ (255 : Int32) < q1) :
    Met l Z EL0 n0 (⟨"java/lang/StringLatin1", "canEncode", "(C)Z"⟩ : MethodName) jdk_43_method_3_code 1 (some .boolean) [] (rO 0 0 0 0) #[(.int q1)] h0 [] [] (fun v h' S => v = some (.int 1) ∧ h0 = h') := by
  obtain ⟨hw, hEL, SC, hzc, SF, rfm⟩ := id B
  refine Met.of (plainFor_of_name pn1) O0 ?_
  intro p e s m below meth c T0 hx hby hml hret hlk hnm hs W0
  have W0 : Wk p l e _ s m _ below meth c Z EL0 n0 [] "java/lang/StringLatin1" [] T0 0 0 h0 := W0
  have D := @tk c _ _ hby Kq2
  refine Go.of (fun _ kk => castTop (ef24 m q1) kk) ?_
  refine W0.pu hx D 0 [(2, false)] 2 12 [_] [.int 1] rfl ⟨trivial, (XT.ii_gt_f cq1.2)⟩ ?_
  exact W0.retI hx hEL hs hlk (by decide +kernel) (by decide +kernel) hret (by simp) rfl (D 12 rfl) (fun S hS => ⟨rfl, rfl⟩)
set_option maxRecDepth 65536 in
set_option maxHeartbeats 40000000 in
theorem rm25 (B : EV l Z a0 zc fm) (q1 : Int32) (h0 : Heap) {n0 : Nat} (O0 : Old Z n0 h0)  :
    Met l Z EL0 n0 (⟨"java/lang/StringLatin1", "toBytes", "(C)[B"⟩ : MethodName) jdk_43_method_46_code 1 (some (.array .byte)) [] (rO 0 1 1 0) #[(.int q1)] h0 [] [] (fun v h' S => ∃ (r : Addr) (kc : ClassId), v = some (.ref r) ∧ h0.size ≤ r ∧ Arv Z h' r kc .byte (1 : Int32) [(.int (q1.toInt8.toInt32))] (.int 0)) := by
  obtain ⟨hw, hEL, SC, hzc, SF, rfm⟩ := id B
  refine Met.of (plainFor_of_name pn1) O0 ?_
  intro p e s m below meth c T0 hx hby hml hret hlk hnm hs W0
  have W0 : Wk p l e _ s m _ below meth c Z EL0 n0 [] "java/lang/StringLatin1" [] T0 0 0 h0 := W0
  have D := @tk c _ _ hby Kq3
  refine Go.of (fun _ kk => castTop (ef24 m q1) kk) ?_
  refine W0.pv hx D 0 1 1 [_] [.int 1] rfl ?_
  refine W0.newP hx (B.h 19 rfl) rfl (D 1 rfl) rfl (by decide +kernel) (cap := 1) (by decide +kernel) (by decide +kernel) (by decide +kernel) (by decide +kernel) (fun T1 h1 b1 c1 eb1 gb1 W1 K1 A1 => ?_)
  have V1 : Arv Z h1 b1 c1 .byte (1 : Int32) [(.int 0)] (.int 0) := A1
  refine W1.pv hx D 3 4 7 [_] [.int (q1.toInt8.toInt32), .int 0, _, _] rfl ?_
  refine W1.stB hx V1 ⟨by decide, by decide⟩ 0 rfl (Nat.le_of_ble_eq_true rfl) gb1.1 (Or.inr gb1.2) (mI 0 rfl) rfl rfl (D 7 rfl) (fun T2 h2 W2 K2 A2 => ?_)
  have V2 : Arv Z h2 b1 c1 .byte (1 : Int32) [(.int (q1.toInt8.toInt32))] (.int 0) := (by rw [(nar_byte _)] at A2; exact A2)
  show Go p e below _ (T2.setTop (mkF m 8 #[vi q1] [(.ref b1)]))
  exact W2.retA hx hEL hs hlk (by decide +kernel) (by decide +kernel) hret rfl rfl (D 8 rfl) (fun S hS => ⟨b1, c1, rfl, hs ▸ gb1.2, V2⟩)
theorem ef26 (m : MethodId) (x0 x1 : Addr) (x2 : Int32)  : entryFrame m #[(.ref x0), (.ref x1), (.int x2)] 3 = mkF m 0 #[vr x0, vr x1, vi x2] [] := by first | (simp [entryFrame, mkF, argsToLocals, Value.category]; done) | rfl | rfl
set_option maxRecDepth 65536 in
set_option maxHeartbeats 40000000 in
theorem rm26 (B : EV l Z a0 zc fm) (x1 x2 : Addr) (z3 : Int32) (h0 : Heap) {n0 : Nat} (O0 : Old Z n0 h0) (E1 : Exa Z h0 x1 "java/lang/String") (F1 : Fld Z h0 x1 "java/lang/String" "value" "[B" .null) (F2 : Fld Z h0 x1 "java/lang/String" "coder" "B" (.int 0)) (g1 : n0 ≤ x1) (hn3 : narrow .byte (.int z3) = .int z3) (hf3 : fits .byte (.int z3) = true) :
    Met l Z EL0 n0 (⟨"java/lang/String", "<init>", "([BB)V"⟩ : MethodName) jdk_42_method_151_code 3 none [] (rO 1 0 0 12) #[(.ref x1), (.ref x2), (.int z3)] h0 [x1] [x1] (fun v h' S => v = none ∧ Fld Z h' x1 "java/lang/String" "value" "[B" (.ref x2) ∧ Fld Z h' x1 "java/lang/String" "coder" "B" (.int z3)) := by
  obtain ⟨hw, hEL, SC, hzc, SF, rfm⟩ := id B
  refine Met.of (plainFor_of_name pn0) O0 ?_
  intro p e s m below meth c T0 hx hby hml hret hlk hnm hs W0
  have W0 : Wk p l e _ s m _ below meth c Z EL0 n0 [x1] "java/lang/String" [x1] T0 0 0 h0 := W0
  have D := @tk c _ _ hby Kq4
  refine Go.of (fun _ kk => castTop (ef26 m x1 x2 z3) kk) ?_
  refine W0.pv hx D 0 1 1 [_, _, _] [_] rfl ?_
  refine W0.initO hx (B.h 15 rfl) (B.h 16 rfl) (B.h 17 rfl) rfl (by rw [hml]; rfl) rfl (D 1 rfl) (by decide +kernel) (Wd := 0) (by show 2 * 0 + _ ≤ _; exact Nat.le_of_eq rfl) (by decide +kernel) (fun T1 W1 => ?_)
  refine W1.pv hx D 4 2 6 [_, _, _] [_, _] rfl ?_
  refine W1.putF hx (host := "") (Or.inl (B.h 24 rfl)) Via.refl F1 E1 (Or.inr ⟨(B.h 20 rfl), rfl, hnm⟩) (B.h 5 rfl) (ty := (.array .byte)) (by decide +kernel) rfl rfl g1 (Or.inl (mI 0 rfl)) (Or.inl (mI 0 rfl)) rfl rfl (D 6 rfl) (fun T2 h2 W2 w2 => ?_)
  have K2 := Keep.of_wr w2
  have k3 := F2.other w2 (Or.inr (slot_ne (Or.inr (B.h 21 rfl)) (Or.inr (B.h 20 rfl)) (by decide +kernel) (t := .byte) (t' := (.array .byte)) (by decide +kernel) (by decide +kernel)))
  have k4 := F1.same w2
  have k5 := (E1.keep K2)
  refine W2.pv hx D 9 2 11 [_, _, _] [_, _] rfl ?_
  refine W2.putF hx (host := "") (Or.inl (B.h 25 rfl)) Via.refl k3 k5 (Or.inr ⟨(B.h 21 rfl), rfl, hnm⟩) (B.h 5 rfl) (ty := .byte) (by decide +kernel) hn3 hf3 g1 (Or.inl (mI 0 rfl)) (Or.inl (mI 0 rfl)) rfl rfl (D 11 rfl) (fun T6 h6 W6 w6 => ?_)
  have K6 := Keep.of_wr w6
  have k7 := k4.other w6 (Or.inr (slot_ne (Or.inr (B.h 20 rfl)) (Or.inr (B.h 21 rfl)) (by decide +kernel) (t := (.array .byte)) (t' := .byte) (by decide +kernel) (by decide +kernel)))
  have k8 := k3.same w6
  show Go p e below _ (T6.setTop (mkF m 14 #[vr x1, vr x2, vi z3] []))
  exact W6.retV hx hEL hs hlk (by decide +kernel) (by decide +kernel) hret (D 14 rfl) (fun S hS => ⟨rfl, k7, k8⟩)
set_option maxRecDepth 65536 in
set_option maxHeartbeats 40000000 in
theorem rm27 (B : EV l Z a0 zc fm) (q1 : Int32) (h0 : Heap) {n0 : Nat} (O0 : Old Z n0 h0) (cq1 : ¬ q1 < 0 ∧ ¬ (255 : Int32) < q1) :
    Met l Z EL0 n0 (⟨"java/lang/String", "valueOf", "(C)Ljava/lang/String;"⟩ : MethodName) jdk_42_method_139_code 1 (some (.object "java/lang/String")) [] (rO 2 2 5 27) #[(.int q1)] h0 [] [] (fun v h' S => ∃ r : Addr, v = some (.ref r) ∧ h0.size ≤ r ∧ Str Z h' r [q1]) := by
  obtain ⟨hw, hEL, SC, hzc, SF, rfm⟩ := id B
  refine Met.of (plainFor_of_name pn0) O0 ?_
  intro p e s m below meth c T0 hx hby hml hret hlk hnm hs W0
  have W0 : Wk p l e _ s m _ below meth c Z EL0 n0 [] "java/lang/String" [] T0 0 0 h0 := W0
  have D := @tk c _ _ hby Kq5
  refine Go.of (fun _ kk => castTop (ef24 m q1) kk) ?_
  refine W0.getS hx (host := "") (Or.inl (B.h 68 rfl)) Via.refl SC rfl (D 0 rfl) (fun T1 W1 => ?_)
  refine W1.pu hx D 3 [(0, false)] 1 7 [_] [_] rfl ⟨trivial, (XT.i0_eq_f hzc)⟩ ?_
  refine W1.kS hx hEL (B.h 248 rfl) (B.h 249 rfl) (B.h 228 rfl) (B.h 250 rfl) [(.int q1)] [] (rm24 B q1 h0 W1.old cq1) all0 0 (by decide +kernel) all0 hml (lenOf pd1 rfl) (D 7 rfl) ⟨rfl, rfl, rfl, rfl⟩ (fun T2 h2 v2 P2 Ws2 K2 q2 => ?_)
  have W2 := Ws2 [] all0
  obtain ⟨rfl, rfl⟩ := q2
  refine W2.pu hx D 10 [(0, false)] 0 13 [_] [] rfl ⟨trivial, (XT.i0_eq_f (by decide +kernel))⟩ ?_
  refine W2.newO hx (B.h 251 rfl) (B.h 5 rfl) (B.h 6 rfl) rfl (D 13 rfl) (by decide +kernel) (by decide +kernel) (fun T3 h3 b3 eb3 gb3 W3 K3 E3 D3 => ?_)
  have k4 : Fld Z h3 b3 "java/lang/String" "value" "[B" .null := D3 (Or.inr (B.h 20 rfl)) (ty := (.array .byte)) (by decide +kernel)
  have k5 : Fld Z h3 b3 "java/lang/String" "coder" "B" (.int 0) := D3 (Or.inr (B.h 21 rfl)) (ty := .byte) (by decide +kernel)
  refine W3.pv hx D 16 2 18 [_] [_, _, _] rfl ?_
  refine W3.kS hx hEL (B.h 252 rfl) (B.h 253 rfl) (B.h 228 rfl) (B.h 254 rfl) [(.int q1)] [(.ref b3), (.ref b3)] (rm25 B q1 h3 W3.old ) all0 2 (by decide +kernel) all0 hml (lenOf pd2 rfl) (D 18 rfl) ⟨rfl, rfl, rfl, rfl⟩ (fun T6 h6 v6 P6 Ws6 K6 q6 => ?_)
  have W6 := Ws6 [] all0
  obtain ⟨r6, kc6, rfl, lr6, A6⟩ := q6
  have gr6 : n0 ≤ r6 ∧ s.heap.size ≤ r6 := ⟨Nat.le_trans W3.n0le lr6, Nat.le_trans W3.s0le lr6⟩
  have k8 := (E3.keep K6)
  have k9 := (k4.keep K6 nin0)
  have k10 := (k5.keep K6 nin0)
  refine W6.pv hx D 21 1 22 [_] [.int 0, _, _, _] rfl ?_
  refine W6.kP hx hEL rfl (B.h 255 rfl) (B.h 256 rfl) (B.h 6 rfl) (B.h 257 rfl) (a := b3) [(.ref r6), (.int 0)] [(.ref b3)] (rm26 B b3 r6 (0 : Int32) h6 W6.old k8 k9 k10 gb3.1 rfl rfl) (allS (mI 0 rfl) all0) 1 (by decide +kernel) (allS ⟨gb3.1, (Or.inr gb3.2)⟩ all0) hml (lenOf pd3 rfl) (D 22 rfl) ⟨rfl, rfl, rfl, rfl⟩ (fun T7 h7 v7 P7 Ws7 K7 q7 => ?_)
  have W7 := Ws7 [] all0
  obtain ⟨rfl, Fv7, Fc7⟩ := q7
  have k11 := (k8.keep K7)
  have k12 := (A6.keep K7 (ninS (ne_of_born lr6 E3.lt (Nat.le_refl _)).symm nin0))
  show Go p e below _ (T7.setTop (mkF m 25 #[vi q1] [(.ref b3)]))
  exact W7.retA hx hEL hs hlk (by decide +kernel) (by decide +kernel) hret rfl rfl (D 25 rfl) (fun S hS => ⟨b3, rfl, hs ▸ gb3.2, ⟨r6, kc6, _, _, _, k11, Fv7, Fc7, k12, StrChars.Road.codOf (cs := [q1]) (n := 1) rfl (allSi cq1.2 all0i), up255 (allSi cq1 all0i), Nat.le_of_ble_eq_true rfl⟩⟩)
theorem ef2 (m : MethodId) (x0 : Addr) (x1 : Int32)  : entryFrame m #[(.ref x0), (.int x1)] 2 = mkF m 0 #[vr x0, vi x1] [] := by first | (simp [entryFrame, mkF, argsToLocals, Value.category]; done) | rfl | rfl
set_option maxRecDepth 65536 in
set_option maxHeartbeats 40000000 in
theorem rm2 (B : EV l Z a0 zc fm) (a1 : Addr) (h0 : Heap) {n0 : Nat} (O0 : Old Z n0 h0) (Eb : Exa Z h0 a1 "java/lang/StringBuilder") (Fvp : Fld Z h0 a1 "java/lang/AbstractStringBuilder" "value" "[B" .null) (Fcp : Fld Z h0 a1 "java/lang/AbstractStringBuilder" "coder" "B" (.int 0)) (Fnp : Fld Z h0 a1 "java/lang/AbstractStringBuilder" "count" "I" (.int 0)) (g1 : n0 ≤ a1) :
    Met l Z EL0 n0 (⟨"java/lang/AbstractStringBuilder", "<init>", "(I)V"⟩ : MethodName) jdk_68_method_2_code 2 none [] (rO 1 1 16 12) #[(.ref a1), (.int 16)] h0 [a1] [] (fun v h' S => ∃ (t : Addr) (kc : ClassId) (dl : List Int32) (rl : List Value), v = none ∧ h0.size ≤ t ∧ dl = [] ∧ dl.length + rl.length = 16 ∧ (∀ c ∈ dl, ¬ c < 0 ∧ ¬ (255 : Int32) < c) ∧ Fld Z h' a1 "java/lang/AbstractStringBuilder" "value" "[B" (.ref t) ∧ Fld Z h' a1 "java/lang/AbstractStringBuilder" "coder" "B" (.int 0) ∧ Fld Z h' a1 "java/lang/AbstractStringBuilder" "count" "I" (.int (Int32.ofNat (dl.length))) ∧ Arv Z h' t kc .byte (Int32.ofNat (16)) (List.map lv dl ++ rl) (.int 0) ∧ Exa Z h' t "[B" ∧ S t) := by
  obtain ⟨hw, hEL, SC, hzc, SF, rfm⟩ := id B
  refine Met.of (plainFor_of_name pn2) O0 ?_
  intro p e s m below meth c T0 hx hby hml hret hlk hnm hs W0
  have W0 : Wk p l e _ s m _ below meth c Z EL0 n0 [a1] "java/lang/AbstractStringBuilder" [] T0 0 0 h0 := W0
  have D := @tk c _ _ hby Kq6
  refine Go.of (fun _ kk => castTop (ef2 m a1 (16 : Int32)) kk) ?_
  refine W0.pv hx D 0 1 1 [_, _] [_] rfl ?_
  refine W0.initO hx (B.h 42 rfl) (B.h 16 rfl) (B.h 17 rfl) rfl (by rw [hml]; rfl) rfl (D 1 rfl) (by decide +kernel) (Wd := 0) (by show 2 * 0 + _ ≤ _; exact Nat.le_of_eq rfl) (by decide +kernel) (fun T1 W1 => ?_)
  refine W1.getS hx (host := "") (Or.inl (B.h 43 rfl)) Via.refl SC rfl (D 4 rfl) (fun T2 W2 => ?_)
  refine W2.pu hx D 7 [(0, false)] 2 12 [_, _] [.int 16, _] rfl ⟨trivial, (XT.i0_eq_f hzc)⟩ ?_
  refine W2.newPE hx (B.h 19 rfl) (ad := "[B") (by decide +kernel) rfl (D 12 rfl) rfl (by decide +kernel) (cap := 16) (by decide +kernel) (by decide +kernel) (by decide +kernel) (by decide +kernel) (fun T3 h3 b3 c3 eb3 gb3 W3 K3 A3 Ex3 => ?_)
  have V3 : Arv Z h3 b3 c3 .byte (16 : Int32) [(.int 0), (.int 0), (.int 0), (.int 0), (.int 0), (.int 0), (.int 0), (.int 0), (.int 0), (.int 0), (.int 0), (.int 0), (.int 0), (.int 0), (.int 0), (.int 0)] (.int 0) := A3
  have k4 := (Fvp.keep K3 nin0)
  have k5 := (Eb.keep K3)
  refine W3.putF hx (host := "") (Or.inl (B.h 44 rfl)) Via.refl k4 k5 (Or.inl (B.h 45 rfl)) (B.h 31 rfl) (ty := (.array .byte)) (by decide +kernel) rfl rfl g1 (Or.inl (mI 0 rfl)) (Or.inr ⟨by decide, by decide⟩) rfl rfl (D 14 rfl) (fun T6 h6 W6 w6 => ?_)
  have k7 := (Fcp.keep K3 nin0)
  have k8 := (Fnp.keep K3 nin0)
  have K6 := Keep.of_wr w6
  have k9 := k7.other w6 (Or.inr (slot_ne (Or.inl (B.h 47 rfl)) (Or.inl (B.h 45 rfl)) (by decide +kernel) (t := .byte) (t' := (.array .byte)) (by decide +kernel) (by decide +kernel)))
  have k10 := k8.other w6 (Or.inr (slot_ne (Or.inl (B.h 70 rfl)) (Or.inl (B.h 45 rfl)) (by decide +kernel) (t := .int) (t' := (.array .byte)) (by decide +kernel) (by decide +kernel)))
  have k11 := k4.same w6
  have k12 := (k5.keep K6)
  refine W6.pv hx D 17 2 19 [_, _] [.int 0, _] rfl ?_
  refine W6.putF hx (host := "") (Or.inl (B.h 46 rfl)) Via.refl k9 k12 (Or.inl (B.h 47 rfl)) (B.h 31 rfl) (ty := .byte) (by decide +kernel) rfl rfl g1 (Or.inl (mI 0 rfl)) (Or.inr ⟨by decide, by decide⟩) rfl rfl (D 19 rfl) (fun T13 h13 W13 w13 => ?_)
  have K13 := Keep.of_wr w13
  have k14 := k11.other w13 (Or.inr (slot_ne (Or.inl (B.h 45 rfl)) (Or.inl (B.h 47 rfl)) (by decide +kernel) (t := (.array .byte)) (t' := .byte) (by decide +kernel) (by decide +kernel)))
  have k15 := k10.other w13 (Or.inr (slot_ne (Or.inl (B.h 70 rfl)) (Or.inl (B.h 47 rfl)) (by decide +kernel) (t := .int) (t' := .byte) (by decide +kernel) (by decide +kernel)))
  have k16 := k9.same w13
  have k17 := ((V3.keep K6 (ninS (ne_of_born (Nat.le_of_eq eb3.symm) Eb.lt (Nat.le_refl _)).symm nin0)).keep K13 (ninS (ne_of_born (Nat.le_of_eq eb3.symm) Eb.lt (Nat.le_refl _)).symm nin0))
  have k18 := ((Ex3.keep K6).keep K13)
  refine W13.pv hx D 22 1 38 [_, _] [] rfl ?_
  exact W13.retV hx hEL hs hlk (by decide +kernel) (by decide +kernel) hret (D 38 rfl) (fun S hS => ⟨b3, c3, [], [(.int 0), (.int 0), (.int 0), (.int 0), (.int 0), (.int 0), (.int 0), (.int 0), (.int 0), (.int 0), (.int 0), (.int 0), (.int 0), (.int 0), (.int 0), (.int 0)], rfl, hs ▸ gb3.2, rfl, rfl, all0i, k14, k16, k15, k17, k18, hS _ (mI 0 rfl)⟩)
theorem ef3 (m : MethodId) (x0 : Addr)  : entryFrame m #[(.ref x0)] 1 = mkF m 0 #[vr x0] [] := by first | (simp [entryFrame, mkF, argsToLocals, Value.category]; done) | rfl | rfl
set_option maxRecDepth 65536 in
set_option maxHeartbeats 40000000 in
theorem rm3 (B : EV l Z a0 zc fm) (a1 : Addr) (h0 : Heap) {n0 : Nat} (O0 : Old Z n0 h0) (Eb : Exa Z h0 a1 "java/lang/StringBuilder") (Fvp : Fld Z h0 a1 "java/lang/AbstractStringBuilder" "value" "[B" .null) (Fcp : Fld Z h0 a1 "java/lang/AbstractStringBuilder" "coder" "B" (.int 0)) (Fnp : Fld Z h0 a1 "java/lang/AbstractStringBuilder" "count" "I" (.int 0)) (g1 : n0 ≤ a1) :
    Met l Z EL0 n0 (⟨"java/lang/StringBuilder", "<init>", "()V"⟩ : MethodName) jdk_67_method_1_code 1 none [] (rO 2 1 16 25) #[(.ref a1)] h0 [a1] [] (fun v h' S => ∃ (t : Addr) (kc : ClassId) (dl : List Int32) (rl : List Value), v = none ∧ h0.size ≤ t ∧ dl = [] ∧ dl.length + rl.length = 16 ∧ (∀ c ∈ dl, ¬ c < 0 ∧ ¬ (255 : Int32) < c) ∧ Fld Z h' a1 "java/lang/AbstractStringBuilder" "value" "[B" (.ref t) ∧ Fld Z h' a1 "java/lang/AbstractStringBuilder" "coder" "B" (.int 0) ∧ Fld Z h' a1 "java/lang/AbstractStringBuilder" "count" "I" (.int (Int32.ofNat (dl.length))) ∧ Arv Z h' t kc .byte (Int32.ofNat (16)) (List.map lv dl ++ rl) (.int 0) ∧ Exa Z h' t "[B" ∧ S t) := by
  obtain ⟨hw, hEL, SC, hzc, SF, rfm⟩ := id B
  refine Met.of (plainFor_of_name pn3) O0 ?_
  intro p e s m below meth c T0 hx hby hml hret hlk hnm hs W0
  have W0 : Wk p l e _ s m _ below meth c Z EL0 n0 [a1] "java/lang/StringBuilder" [] T0 0 0 h0 := W0
  have D := @tk c _ _ hby Kq7
  refine Go.of (fun _ kk => castTop (ef3 m a1) kk) ?_
  refine W0.pv hx D 0 2 3 [_] [.int 16, _] rfl ?_
  refine W0.kP hx hEL rfl (B.h 36 rfl) (B.h 37 rfl) (B.h 40 rfl) (B.h 41 rfl) (a := a1) [(.int 16)] [] (rm2 B a1 h0 W0.old Eb Fvp Fcp Fnp g1) all0 0 (by decide +kernel) (allS ⟨g1, (Or.inl (mI 0 rfl))⟩ all0) hml (lenOf pd4 rfl) (D 3 rfl) ⟨rfl, rfl, rfl, rfl⟩ (fun T1 h1 v1 P1 Ws1 K1 q1 => ?_)
  obtain ⟨t1, kt1, dl1, rl1, rfl, lt1, edl1, hrl1, hbl1, Fv1, Fc1, Fn1, A1, Et1, st1⟩ := q1
  have W1 := Ws1 [t1] (allS st1 all0)
  have gt1 : n0 ≤ t1 ∧ s.heap.size ≤ t1 := ⟨Nat.le_trans W0.n0le lt1, Nat.le_trans W0.s0le lt1⟩
  have eln1 : dl1.length = 0 := by rw [edl1]; rfl
  obtain ⟨cl1, ecl1⟩ : ∃ z, z = 16 := ⟨_, rfl⟩
  rw [← ecl1] at hrl1
  have hcl1 : cl1 ≤ 92 := by omega
  have A1 : Arv Z h1 t1 kt1 .byte (Int32.ofNat (cl1)) (List.map lv dl1 ++ rl1) (.int 0) := by rw [ecl1]; exact A1
  show Go p e below _ (T1.setTop (mkF m 6 #[vr a1] []))
  exact W1.retV hx hEL hs hlk (by decide +kernel) (by decide +kernel) hret (D 6 rfl) (fun S hS => ⟨t1, kt1, dl1, rl1, rfl, hs ▸ gt1.2, edl1, (ecl1 ▸ hrl1), hbl1, Fv1, Fc1, Fn1, (ecl1 ▸ A1), Et1, hS _ (mI 0 rfl)⟩)
set_option maxRecDepth 65536 in
set_option maxHeartbeats 40000000 in
theorem rm30 (B : EV l Z a0 zc fm) (x1 : Addr) (h0 : Heap) {n0 : Nat} (O0 : Old Z n0 h0) (Fxc : Fld Z h0 x1 "java/lang/String" "coder" "B" (.int 0)) :
    Met l Z EL0 n0 (⟨"java/lang/String", "coder", "()B"⟩ : MethodName) jdk_42_method_152_code 1 (some .byte) [] (rO 0 0 0 0) #[(.ref x1)] h0 [] [] (fun v h' S => v = some (.int 0) ∧ h0 = h') := by
  obtain ⟨hw, hEL, SC, hzc, SF, rfm⟩ := id B
  refine Met.of (plainFor_of_name pn0) O0 ?_
  intro p e s m below meth c T0 hx hby hml hret hlk hnm hs W0
  have W0 : Wk p l e _ s m _ below meth c Z EL0 n0 [] "java/lang/String" [] T0 0 0 h0 := W0
  have D := @tk c _ _ hby Kq8
  refine Go.of (fun _ kk => castTop (ef3 m x1) kk) ?_
  refine W0.getS hx (host := "") (Or.inl (B.h 68 rfl)) Via.refl SC rfl (D 0 rfl) (fun T1 W1 => ?_)
  refine W1.pu hx D 3 [(0, false)] 1 7 [_] [_] rfl ⟨trivial, (XT.i0_eq_f hzc)⟩ ?_
  refine W1.getF hx (host := "") (Or.inl (B.h 25 rfl)) Via.refl Fxc rfl rfl (D 7 rfl) (fun T2 W2 => ?_)
  refine W2.pv hx D 10 1 14 [_] [_] rfl ?_
  exact W2.retI hx hEL hs hlk (by decide +kernel) (by decide +kernel) hret (by simp) rfl (D 14 rfl) (fun S hS => ⟨rfl, rfl⟩)
set_option maxRecDepth 65536 in
set_option maxHeartbeats 40000000 in
theorem rm31 (B : EV l Z a0 zc fm) (x1 : Addr) (h0 : Heap) {n0 : Nat} (O0 : Old Z n0 h0) (F1 : Fld Z h0 x1 "java/lang/String" "coder" "B" (.int 0)) :
    Met l Z EL0 n0 (⟨"java/lang/String", "isLatin1", "()Z"⟩ : MethodName) jdk_42_method_154_code 1 (some .boolean) [] (rO 0 0 0 0) #[(.ref x1)] h0 [] [] (fun v h' S => v = some (.int 1) ∧ h0 = h') := by
  obtain ⟨hw, hEL, SC, hzc, SF, rfm⟩ := id B
  refine Met.of (plainFor_of_name pn0) O0 ?_
  intro p e s m below meth c T0 hx hby hml hret hlk hnm hs W0
  have W0 : Wk p l e _ s m _ below meth c Z EL0 n0 [] "java/lang/String" [] T0 0 0 h0 := W0
  have D := @tk c _ _ hby Kq9
  refine Go.of (fun _ kk => castTop (ef3 m x1) kk) ?_
  refine W0.getS hx (host := "") (Or.inl (B.h 68 rfl)) Via.refl SC rfl (D 0 rfl) (fun T1 W1 => ?_)
  refine W1.pu hx D 3 [(0, false)] 1 7 [_] [_] rfl ⟨trivial, (XT.i0_eq_f hzc)⟩ ?_
  refine W1.getF hx (host := "") (Or.inl (B.h 25 rfl)) Via.refl F1 rfl rfl (D 7 rfl) (fun T2 W2 => ?_)
  refine W2.pu hx D 10 [(0, false)] 2 18 [_] [.int 1] rfl ⟨trivial, (XT.i0_ne_f (by decide +kernel))⟩ ?_
  exact W2.retI hx hEL hs hlk (by decide +kernel) (by decide +kernel) hret (by simp) rfl (D 18 rfl) (fun S hS => ⟨rfl, rfl⟩)
set_option maxRecDepth 65536 in
set_option maxHeartbeats 40000000 in
theorem rm33 (B : EV l Z a0 zc fm) (a1 t : Addr) (h0 : Heap) {n0 : Nat} (O0 : Old Z n0 h0) (Fvp : Fld Z h0 a1 "java/lang/AbstractStringBuilder" "value" "[B" (.ref t)) :
    Met l Z EL0 n0 (⟨"java/lang/AbstractStringBuilder", "getValue", "()[B"⟩ : MethodName) jdk_68_method_64_code 1 (some (.array .byte)) [] (rO 0 0 0 0) #[(.ref a1)] h0 [] [] (fun v h' S => v = some (.ref t) ∧ h0 = h') := by
  obtain ⟨hw, hEL, SC, hzc, SF, rfm⟩ := id B
  refine Met.of (plainFor_of_name pn2) O0 ?_
  intro p e s m below meth c T0 hx hby hml hret hlk hnm hs W0
  have W0 : Wk p l e _ s m _ below meth c Z EL0 n0 [] "java/lang/AbstractStringBuilder" [] T0 0 0 h0 := W0
  have D := @tk c _ _ hby Kq10
  refine Go.of (fun _ kk => castTop (ef3 m a1) kk) ?_
  refine W0.pv hx D 0 1 1 [_] [_] rfl ?_
  refine W0.getF hx (host := "") (Or.inl (B.h 44 rfl)) Via.refl Fvp rfl rfl (D 1 rfl) (fun T1 W1 => ?_)
  show Go p e below _ (T1.setTop (mkF m 4 #[vr a1] [(.ref t)]))
  exact W1.retA hx hEL hs hlk (by decide +kernel) (by decide +kernel) hret rfl rfl (D 4 rfl) (fun S hS => ⟨rfl, rfl⟩)
set_option maxRecDepth 65536 in
set_option maxHeartbeats 40000000 in
theorem rm34 (B : EV l Z a0 zc fm) (a1 : Addr) (h0 : Heap) {n0 : Nat} (O0 : Old Z n0 h0) (Fcp : Fld Z h0 a1 "java/lang/AbstractStringBuilder" "coder" "B" (.int 0)) :
    Met l Z EL0 n0 (⟨"java/lang/AbstractStringBuilder", "isLatin1", "()Z"⟩ : MethodName) jdk_68_method_68_code 1 (some .boolean) [] (rO 0 0 0 0) #[(.ref a1)] h0 [] [] (fun v h' S => v = some (.int 1) ∧ h0 = h') := by
  obtain ⟨hw, hEL, SC, hzc, SF, rfm⟩ := id B
  refine Met.of (plainFor_of_name pn2) O0 ?_
  intro p e s m below meth c T0 hx hby hml hret hlk hnm hs W0
  have W0 : Wk p l e _ s m _ below meth c Z EL0 n0 [] "java/lang/AbstractStringBuilder" [] T0 0 0 h0 := W0
  have D := @tk c _ _ hby Kq11
  refine Go.of (fun _ kk => castTop (ef3 m a1) kk) ?_
  refine W0.getS hx (host := "") (Or.inl (B.h 43 rfl)) Via.refl SC rfl (D 0 rfl) (fun T1 W1 => ?_)
  refine W1.pu hx D 3 [(0, false)] 1 7 [_] [_] rfl ⟨trivial, (XT.i0_eq_f hzc)⟩ ?_
  refine W1.getF hx (host := "") (Or.inl (B.h 46 rfl)) Via.refl Fcp rfl rfl (D 7 rfl) (fun T2 W2 => ?_)
  refine W2.pu hx D 10 [(0, false)] 2 18 [_] [.int 1] rfl ⟨trivial, (XT.i0_ne_f (by decide +kernel))⟩ ?_
  exact W2.retI hx hEL hs hlk (by decide +kernel) (by decide +kernel) hret (by simp) rfl (D 18 rfl) (fun S hS => ⟨rfl, rfl⟩)
set_option maxRecDepth 65536 in
set_option maxHeartbeats 40000000 in
theorem rm35 (B : EV l Z a0 zc fm) (a1 : Addr) (x9 : Int32) (h0 : Heap) {n0 : Nat} (O0 : Old Z n0 h0) (Eb : Exa Z h0 a1 "java/lang/StringBuilder") (Fnp : Fld Z h0 a1 "java/lang/AbstractStringBuilder" "count" "I" (.int x9)) :
    Met l Z EL0 n0 (⟨"java/lang/AbstractStringBuilder", "length", "()I"⟩ : MethodName) jdk_68_method_6_code 1 (some .int) [] (rO 0 0 0 0) #[(.ref a1)] h0 [] [] (fun v h' S => v = some (.int x9) ∧ h0 = h') := by
  obtain ⟨hw, hEL, SC, hzc, SF, rfm⟩ := id B
  refine Met.of (plainFor_of_name pn2) O0 ?_
  intro p e s m below meth c T0 hx hby hml hret hlk hnm hs W0
  have W0 : Wk p l e _ s m _ below meth c Z EL0 n0 [] "java/lang/AbstractStringBuilder" [] T0 0 0 h0 := W0
  have D := @tk c _ _ hby Kq12
  refine Go.of (fun _ kk => castTop (ef3 m a1) kk) ?_
  refine W0.pv hx D 0 1 1 [_] [_] rfl ?_
  refine W0.getF hx (host := "") (Or.inl (B.h 69 rfl)) Via.refl Fnp rfl rfl (D 1 rfl) (fun T1 W1 => ?_)
  show Go p e below _ (T1.setTop (mkF m 4 #[vr a1] [(.int x9)]))
  exact W1.retI hx hEL hs hlk (by decide +kernel) (by decide +kernel) hret (by simp) rfl (D 4 rfl) (fun S hS => ⟨rfl, rfl⟩)
set_option maxRecDepth 65536 in
set_option maxHeartbeats 40000000 in
theorem rm36 (B : EV l Z a0 zc fm) (a1 : Addr) (x9 : Int32) (h0 : Heap) {n0 : Nat} (O0 : Old Z n0 h0) (Eb : Exa Z h0 a1 "java/lang/StringBuilder") (Fnp : Fld Z h0 a1 "java/lang/AbstractStringBuilder" "count" "I" (.int x9)) :
    Met l Z EL0 n0 (⟨"java/lang/StringBuilder", "length", "()I"⟩ : MethodName) jdk_67_method_93_code 1 (some .int) [] (rO 1 0 0 12) #[(.ref a1)] h0 [] [] (fun v h' S => v = some (.int x9) ∧ h0 = h') := by
  obtain ⟨hw, hEL, SC, hzc, SF, rfm⟩ := id B
  refine Met.of (plainFor_of_name pn3) O0 ?_
  intro p e s m below meth c T0 hx hby hml hret hlk hnm hs W0
  have W0 : Wk p l e _ s m _ below meth c Z EL0 n0 [] "java/lang/StringBuilder" [] T0 0 0 h0 := W0
  have D := @tk c _ _ hby Kq13
  refine Go.of (fun _ kk => castTop (ef3 m a1) kk) ?_
  refine W0.pv hx D 0 1 1 [_] [_] rfl ?_
  refine W0.callU hx hEL (B.h 181 rfl) (B.h 55 rfl) (B.h 74 rfl) rfl (by decide +kernel) (B.h 177 rfl) (B.h 40 rfl) (B.h 182 rfl) (by decide +kernel) Eb (a := a1) (argsL := []) (rest := []) (rm35 B a1 x9 h0 W0.old Eb Fnp) all0 (by decide +kernel) (Wd := 0) (by decide +kernel) (by decide +kernel) (by decide +kernel) all0 rfl (by rw [hml]; rfl) (lenOf pd5 rfl) rfl (by show 2 * 0 + _ ≤ _; exact Nat.le_of_eq rfl) (D 1 rfl) (fun T1 h1 v1 P1 Ws1 K1 q1 => ?_)
  have W1 := Ws1 [] all0
  obtain ⟨rfl, rfl⟩ := q1
  show Go p e below _ (T1.setTop (mkF m 4 #[vr a1] [(.int x9)]))
  exact W1.retI hx hEL hs hlk (by decide +kernel) (by decide +kernel) hret (by simp) rfl (D 4 rfl) (fun S hS => ⟨rfl, rfl⟩)
set_option maxRecDepth 65536 in
set_option maxHeartbeats 40000000 in
theorem rm38 (B : EV l Z a0 zc fm) (a1 x2 : Addr) (xs : List Int32) (h0 : Heap) {n0 : Nat} (O0 : Old Z n0 h0) (Eb : Exa Z h0 a1 "java/lang/StringBuilder") (Fcp : Fld Z h0 a1 "java/lang/AbstractStringBuilder" "coder" "B" (.int 0)) (Sx : Str Z h0 x2 xs) (hxs : ∀ c ∈ xs, ¬ c < 0 ∧ ¬ (255 : Int32) < c) :
    Met l Z EL0 n0 (⟨"java/lang/AbstractStringBuilder", "inflateIfNeededFor", "(Ljava/lang/String;)V"⟩ : MethodName) jdk_68_method_71_code 2 none [] (rO 1 0 0 13) #[(.ref a1), (.ref x2)] h0 [] [] (fun v h' S => v = none ∧ h0 = h') := by
  obtain ⟨hw, hEL, SC, hzc, SF, rfm⟩ := id B
  refine Met.of (plainFor_of_name pn2) O0 ?_
  intro p e s m below meth c T0 hx hby hml hret hlk hnm hs W0
  have W0 : Wk p l e _ s m _ below meth c Z EL0 n0 [] "java/lang/AbstractStringBuilder" [] T0 0 0 h0 := W0
  have D := @tk c _ _ hby Kq14
  refine Go.of (fun _ kk => castTop (ef21 m a1 x2) kk) ?_
  show Go p e below _ (T0.setTop (mkF m 0 #[vr a1, vr x2] []))
  obtain ⟨t1, kb1, E1, Fv1, Fc1, A1⟩ := Sx.open_ (snd255 hxs)
  have ln1 := Sx.len4
  have V1 : Arv Z h0 t1 kb1 .byte (Int32.ofNat (xs.length)) (List.map lv xs) (.int 0) := A1
  refine W0.getS hx (host := "") (Or.inl (B.h 43 rfl)) Via.refl SC rfl (D 0 rfl) (fun T2 W2 => ?_)
  refine W2.pu hx D 3 [(0, false)] 1 7 [_, _] [_] rfl ⟨trivial, (XT.i0_eq_f hzc)⟩ ?_
  refine W2.getF hx (host := "") (Or.inl (B.h 46 rfl)) Via.refl Fcp rfl rfl (D 7 rfl) (fun T3 W3 => ?_)
  refine W3.pv hx D 10 1 11 [_, _] [_, _] rfl ?_
  refine W3.kV hx hEL (B.h 86 rfl) (B.h 64 rfl) (B.h 66 rfl) (B.h 65 rfl) (B.h 6 rfl) (B.h 67 rfl) E1 [] [(.int 0)] (rm30 B x2 h0 W3.old Fc1) all0 1 (by decide +kernel) all0 hml (lenOf pd6 rfl) (D 11 rfl) ⟨rfl, rfl, rfl, rfl⟩ (fun T4 h4 v4 P4 Ws4 K4 q4 => ?_)
  have W4 := Ws4 [] all0
  obtain ⟨rfl, rfl⟩ := q4
  refine W4.pu hx D 14 [(0, true)] 0 21 [_, _] [] rfl ⟨trivial, (XT.ii_eq_t (by decide +kernel))⟩ ?_
  exact W4.retV hx hEL hs hlk (by decide +kernel) (by decide +kernel) hret (D 21 rfl) (fun S hS => ⟨rfl, rfl⟩)
theorem ef40 (m : MethodId) (x0 x1 : Int32)  : entryFrame m #[(.int x0), (.int x1)] 2 = mkF m 0 #[vi x0, vi x1] [] := by first | (simp [entryFrame, mkF, argsToLocals, Value.category]; done) | rfl | rfl
set_option maxRecDepth 65536 in
set_option maxHeartbeats 40000000 in
theorem rm40 (B : EV l Z a0 zc fm) (fa ta : Nat) (h0 : Heap) {n0 : Nat} (O0 : Old Z n0 h0) (hft : fa ≤ ta ∧ ta ≤ 4000) :
    Met l Z EL0 n0 (⟨"java/util/Arrays", "checkLength", "(II)V"⟩ : MethodName) jdk_65_method_131_code 2 none [] (rO 0 0 0 0) #[(.int (Int32.ofNat (fa))), (.int (Int32.ofNat (ta)))] h0 [] [] (fun v h' S => v = none ∧ h0 = h') := by
  obtain ⟨hw, hEL, SC, hzc, SF, rfm⟩ := id B
  refine Met.of (plainFor_of_name pn4) O0 ?_
  intro p e s m below meth c T0 hx hby hml hret hlk hnm hs W0
  have W0 : Wk p l e _ s m _ below meth c Z EL0 n0 [] "java/util/Arrays" [] T0 0 0 h0 := W0
  have D := @tk c _ _ hby Kq15
  refine Go.of (fun _ kk => castTop (ef40 m (Int32.ofNat (fa)) (Int32.ofNat (ta))) kk) ?_
  refine W0.pu hx D 0 [(2, true)] 0 37 [_, _] [] rfl ⟨trivial, (XT.ii_ge_t (nltN (a := ta) (b := fa) (by first | omega | (simp only [LN]; omega))))⟩ ?_
  exact W0.retV hx hEL hs hlk (by decide +kernel) (by decide +kernel) hret (D 37 rfl) (fun S hS => ⟨rfl, rfl⟩)
set_option maxRecDepth 65536 in
set_option maxHeartbeats 40000000 in
theorem rm41 (B : EV l Z a0 zc fm) (fa ta : Nat) (h0 : Heap) {n0 : Nat} (O0 : Old Z n0 h0) (hft : fa ≤ 4000 ∧ ta ≤ 4000) :
    Met l Z EL0 n0 (⟨"java/lang/Math", "min", "(II)I"⟩ : MethodName) jdk_29_method_69_code 2 (some .int) [] (rO 0 0 0 0) #[(.int (Int32.ofNat (fa))), (.int (Int32.ofNat (ta)))] h0 [] [] (fun v h' S => v = some (.int (Int32.ofNat (min fa ta))) ∧ h0 = h') := by
  obtain ⟨hw, hEL, SC, hzc, SF, rfm⟩ := id B
  refine Met.of (Jvm.Free.JP.mathPlain rfl (by decide +kernel)) O0 ?_
  intro p e s m below meth c T0 hx hby hml hret hlk hnm hs W0
  have W0 : Wk p l e _ s m _ below meth c Z EL0 n0 [] "java/lang/Math" [] T0 0 0 h0 := W0
  have D := @tk c _ _ hby Kq16
  refine Go.of (fun _ kk => castTop (ef40 m (Int32.ofNat (fa)) (Int32.ofNat (ta))) kk) ?_
  refine W0.pv hx D 0 2 2 [_, _] [_, _] rfl ?_
  by_cases c1 : ta < fa
  · refine W0.pu hx D 2 [(0, true)] 1 10 [_, _] [_] rfl ⟨trivial, (XT.ii_gt_t (ltN (a := ta) (b := fa) (by first | omega | (simp only [LN]; omega))))⟩ ?_
    exact W0.retI hx hEL hs hlk (by decide +kernel) (by decide +kernel) hret (by simp) rfl (D 10 rfl) (fun S hS => ⟨congrArg (fun z => some (Value.int (Int32.ofNat z))) (by omega), rfl⟩)
  · refine W0.pu hx D 2 [(0, false)] 2 10 [_, _] [_] rfl ⟨trivial, (XT.ii_gt_f (nltN (a := ta) (b := fa) (by first | omega | (simp only [LN]; omega))))⟩ ?_
    exact W0.retI hx hEL hs hlk (by decide +kernel) (by decide +kernel) hret (by simp) rfl (D 10 rfl) (fun S hS => ⟨congrArg (fun z => some (Value.int (Int32.ofNat z))) (by omega), rfl⟩)
set_option maxRecDepth 65536 in
set_option maxHeartbeats 40000000 in
theorem rm42 (B : EV l Z a0 zc fm) (fa ta : Nat) (h0 : Heap) {n0 : Nat} (O0 : Old Z n0 h0) (hft : fa ≤ 4000 ∧ ta ≤ 4000) :
    Met l Z EL0 n0 (⟨"java/lang/Math", "max", "(II)I"⟩ : MethodName) jdk_29_method_65_code 2 (some .int) [] (rO 0 0 0 0) #[(.int (Int32.ofNat (fa))), (.int (Int32.ofNat (ta)))] h0 [] [] (fun v h' S => v = some (.int (Int32.ofNat (max fa ta))) ∧ h0 = h') := by
  obtain ⟨hw, hEL, SC, hzc, SF, rfm⟩ := id B
  refine Met.of (Jvm.Free.JP.mathPlain rfl (by decide +kernel)) O0 ?_
  intro p e s m below meth c T0 hx hby hml hret hlk hnm hs W0
  have W0 : Wk p l e _ s m _ below meth c Z EL0 n0 [] "java/lang/Math" [] T0 0 0 h0 := W0
  have D := @tk c _ _ hby Kq17
  refine Go.of (fun _ kk => castTop (ef40 m (Int32.ofNat (fa)) (Int32.ofNat (ta))) kk) ?_
  refine W0.pv hx D 0 2 2 [_, _] [_, _] rfl ?_
  by_cases c1 : fa < ta
  · refine W0.pu hx D 2 [(0, true)] 1 10 [_, _] [_] rfl ⟨trivial, (XT.ii_lt_t (ltN (a := fa) (b := ta) (by first | omega | (simp only [LN]; omega))))⟩ ?_
    exact W0.retI hx hEL hs hlk (by decide +kernel) (by decide +kernel) hret (by simp) rfl (D 10 rfl) (fun S hS => ⟨congrArg (fun z => some (Value.int (Int32.ofNat z))) (by omega), rfl⟩)
  · refine W0.pu hx D 2 [(0, false)] 2 10 [_, _] [_] rfl ⟨trivial, (XT.ii_lt_f (nltN (a := fa) (b := ta) (by first | omega | (simp only [LN]; omega))))⟩ ?_
    exact W0.retI hx hEL hs hlk (by decide +kernel) (by decide +kernel) hret (by simp) rfl (D 10 rfl) (fun S hS => ⟨congrArg (fun z => some (Value.int (Int32.ofNat z))) (by omega), rfl⟩)
theorem ef43 (m : MethodId) (x0 x1 x2 : Int32)  : entryFrame m #[(.int x0), (.int x1), (.int x2)] 4 = mkF m 0 #[vi x0, vi x1, vi x2, U0] [] := by first | (simp [entryFrame, mkF, argsToLocals, Value.category]; done) | rfl | rfl
set_option maxRecDepth 65536 in
set_option maxHeartbeats 40000000 in
theorem rm43 (B : EV l Z a0 zc fm) (oa mg pg : Nat) (h0 : Heap) {n0 : Nat} (O0 : Old Z n0 h0) (hft : oa ≤ 1000 ∧ mg ≤ 1000 ∧ 1 ≤ pg ∧ pg ≤ 1000) :
    Met l Z EL0 n0 (⟨"jdk/internal/util/ArraysSupport", "newLength", "(III)I"⟩ : MethodName) jdk_48_method_27_code 4 (some .int) [] (rO 1 0 0 14) #[(.int (Int32.ofNat (oa))), (.int (Int32.ofNat (mg))), (.int (Int32.ofNat (pg)))] h0 [] [] (fun v h' S => v = some (.int (Int32.ofNat (oa + max mg pg))) ∧ h0 = h') := by
  obtain ⟨hw, hEL, SC, hzc, SF, rfm⟩ := id B
  refine Met.of (plainFor_of_name pn5) O0 ?_
  intro p e s m below meth c T0 hx hby hml hret hlk hnm hs W0
  have W0 : Wk p l e _ s m _ below meth c Z EL0 n0 [] "jdk/internal/util/ArraysSupport" [] T0 0 0 h0 := W0
  have D := @tk c _ _ hby Kq18
  refine Go.of (fun _ kk => castTop (ef43 m (Int32.ofNat (oa)) (Int32.ofNat (mg)) (Int32.ofNat (pg))) kk) ?_
  refine W0.pv hx D 0 3 3 [_, _, _, _] [_, _, _] rfl ?_
  refine W0.kS hx hEL (B.h 106 rfl) (B.h 107 rfl) (B.h 108 rfl) (B.h 109 rfl) [(.int (Int32.ofNat (mg))), (.int (Int32.ofNat (pg)))] [(.int (Int32.ofNat (oa)))] (rm42 B mg pg h0 W0.old (by first | omega | (simp only [LN]; omega))) all0 1 (by decide +kernel) all0 hml (lenOf pd7 rfl) (D 3 rfl) ⟨rfl, rfl, rfl, rfl⟩ (fun T1 h1 v1 P1 Ws1 K1 q1 => ?_)
  have W1 := Ws1 [] all0
  obtain ⟨rfl, rfl⟩ := q1
  have ea2 : ((Int32.ofNat (oa)) + (Int32.ofNat (max mg pg))) = (Int32.ofNat (oa + max mg pg)) := (addN (oa) (max mg pg)).trans (congrArg Int32.ofNat (by omega))
  refine W1.pv hx D 6 4 10 [_, _, _, vi (Int32.ofNat (oa + max mg pg))] [.int (Int32.ofNat (oa + max mg pg)), .int 0] (by rw [← ea2]; rfl) ?_
  refine W1.pu hx D 10 [(0, false)] 1 14 [_, _, _, _] [_] rfl ⟨trivial, (XT.ii_ge_f (ltN (a := 0) (b := oa + max mg pg) (by first | omega | (simp only [LN]; omega))))⟩ ?_
  refine W1.ldcI hx (B.h 110 rfl) rfl (D 14 rfl) ?_
  refine W1.pu hx D 16 [(0, false)] 1 20 [_, _, _, _] [_] rfl ⟨trivial, (XT.ii_gt_f (nltN (a := 2147483639) (b := oa + max mg pg) (by first | omega | (simp only [LN]; omega))))⟩ ?_
  exact W1.retI hx hEL hs hlk (by decide +kernel) (by decide +kernel) hret (by simp) rfl (D 20 rfl) (fun S hS => ⟨congrArg (fun z => some (Value.int (Int32.ofNat z))) (by omega), rfl⟩)
theorem ef44 (m : MethodId) (x0 : Addr) (x1 : Int32)  : entryFrame m #[(.ref x0), (.int x1)] 6 = mkF m 0 #[vr x0, vi x1, U0, U0, U0, U0] [] := by first | (simp [entryFrame, mkF, argsToLocals, Value.category]; done) | rfl | rfl
set_option maxRecDepth 65536 in
set_option maxHeartbeats 40000000 in
theorem rm44 (B : EV l Z a0 zc fm) (a1 t : Addr) (kc : ClassId) (ds : List Int32) (rs : List Value) (cp nn : Nat) (h0 : Heap) {n0 : Nat} (O0 : Old Z n0 h0) (Eb : Exa Z h0 a1 "java/lang/StringBuilder") (Fvp : Fld Z h0 a1 "java/lang/AbstractStringBuilder" "value" "[B" (.ref t)) (Fcp : Fld Z h0 a1 "java/lang/AbstractStringBuilder" "coder" "B" (.int 0)) (Ab : Arv Z h0 t kc .byte (Int32.ofNat (cp)) (List.map lv ds ++ rs) (.int 0)) (hnn : cp < nn ∧ nn ≤ 46) :
    Met l Z EL0 n0 (⟨"java/lang/AbstractStringBuilder", "newCapacity", "(I)I"⟩ : MethodName) jdk_68_method_10_code 6 (some .int) [] (rO 2 0 0 29) #[(.ref a1), (.int (Int32.ofNat (nn)))] h0 [] [] (fun v h' S => v = some (.int (Int32.ofNat (cp + max (nn - cp) (cp + 2)))) ∧ h0 = h') := by
  obtain ⟨hw, hEL, SC, hzc, SF, rfm⟩ := id B
  refine Met.of (plainFor_of_name pn2) O0 ?_
  intro p e s m below meth c T0 hx hby hml hret hlk hnm hs W0
  have W0 : Wk p l e _ s m _ below meth c Z EL0 n0 [] "java/lang/AbstractStringBuilder" [] T0 0 0 h0 := W0
  have D := @tk c _ _ hby Kq19
  refine Go.of (fun _ kk => castTop (ef44 m a1 (Int32.ofNat (nn))) kk) ?_
  refine W0.pv hx D 0 1 1 [_, _, _, _, _, _] [_] rfl ?_
  refine W0.getF hx (host := "") (Or.inl (B.h 44 rfl)) Via.refl Fvp rfl rfl (D 1 rfl) (fun T1 W1 => ?_)
  refine W1.alen hx Ab rfl rfl (D 4 rfl) ?_
  refine W1.pv hx D 5 3 8 [_, _, _, _, _, _] [_, _] rfl ?_
  refine W1.getF hx (host := "") (Or.inl (B.h 46 rfl)) Via.refl Fcp rfl rfl (D 8 rfl) (fun T2 W2 => ?_)
  refine gof T2 m 12 #[vr a1, vi (Int32.ofNat (nn)), vi (Int32.ofNat (cp)), U0, U0, U0] [(.int (Int32.ofNat (nn)))] (fun _ kk => XS.ishl W2.here hx rfl (D 11 rfl) rfl (by rw [shl0]; exact kk)) ?_
  have ea3 : ((Int32.ofNat (nn)) - (Int32.ofNat (cp))) = (Int32.ofNat (nn - cp)) := subN (a := nn) (b := cp) (by first | omega | (simp only [LN]; omega))
  refine W2.pv hx D 12 10 24 [_, _, _, _, vi (Int32.ofNat (nn - cp)), _] [_, .int 2, _, .int (Int32.ofNat (nn - cp)), _] (by rw [← ea3]; rfl) ?_
  refine W2.getF hx (host := "") (Or.inl (B.h 46 rfl)) Via.refl Fcp rfl rfl (D 24 rfl) (fun T4 W4 => ?_)
  have ea5 : ((Int32.ofNat (cp)) + (2 : Int32)) = (Int32.ofNat (cp + 2)) := (addN (cp) (2)).trans (congrArg Int32.ofNat (by omega))
  refine W4.pv hx D 27 2 29 [_, _, _, _, _, _] [.int (Int32.ofNat (cp + 2)), _, _] (by rw [← ea5]; rfl) ?_
  refine W4.kS hx hEL (B.h 102 rfl) (B.h 103 rfl) (B.h 104 rfl) (B.h 105 rfl) [(.int (Int32.ofNat (cp))), (.int (Int32.ofNat (nn - cp))), (.int (Int32.ofNat (cp + 2)))] [] (rm43 B cp (nn - cp) (cp + 2) h0 W4.old (by first | omega | (simp only [LN]; omega))) all0 0 (by decide +kernel) all0 hml (lenOf pd8 rfl) (D 29 rfl) ⟨rfl, rfl, rfl, rfl⟩ (fun T6 h6 v6 P6 Ws6 K6 q6 => ?_)
  have W6 := Ws6 [] all0
  obtain ⟨rfl, rfl⟩ := q6
  refine W6.pv hx D 32 2 36 [_, _, _, _, _, _] [_] rfl ?_
  refine W6.ldcI hx (B.h 111 rfl) rfl (D 36 rfl) ?_
  refine W6.pu hx D 38 [(0, true)] 2 54 [_, _, _, _, _, _] [_, _] rfl ⟨trivial, (XT.ii_ne_t (neN (a := cp + max (nn - cp) (cp + 2)) (b := 2147483647) (by first | omega | (simp only [LN]; omega))))⟩ ?_
  refine W6.getF hx (host := "") (Or.inl (B.h 46 rfl)) Via.refl Fcp rfl rfl (D 54 rfl) (fun T7 W7 => ?_)
  refine gof T7 m 58 #[vr a1, vi (Int32.ofNat (nn)), vi (Int32.ofNat (cp)), vi (Int32.ofNat (nn)), vi (Int32.ofNat (nn - cp)), vi (Int32.ofNat (cp + max (nn - cp) (cp + 2)))] [(.int (Int32.ofNat (cp + max (nn - cp) (cp + 2))))] (fun _ kk => XS.ishr W7.here hx rfl (D 57 rfl) rfl (by rw [shr0]; exact kk)) ?_
  exact W7.retI hx hEL hs hlk (by decide +kernel) (by decide +kernel) hret (by simp) rfl (D 58 rfl) (fun S hS => ⟨congrArg (fun z => some (Value.int (Int32.ofNat z))) (by omega), rfl⟩)
theorem ef45 (m : MethodId) (x0 : Addr) (x1 : Int32)  : entryFrame m #[(.ref x0), (.int x1)] 3 = mkF m 0 #[vr x0, vi x1, U0] [] := by first | (simp [entryFrame, mkF, argsToLocals, Value.category]; done) | rfl | rfl
set_option maxRecDepth 65536 in
set_option maxHeartbeats 40000000 in
theorem rm45 (B : EV l Z a0 zc fm) (t : Addr) (kc : ClassId) (vl : List Value) (zz nl : Nat) (h0 : Heap) {n0 : Nat} (O0 : Old Z n0 h0) (Ab : Arv Z h0 t kc .byte (Int32.ofNat (zz)) vl (.int 0)) (hzz : zz = vl.length ∧ zz < nl ∧ nl ≤ 92) :
    Met l Z EL0 n0 (⟨"java/util/Arrays", "copyOf", "([BI)[B"⟩ : MethodName) jdk_65_method_121_code 3 (some (.array .byte)) [] (rO 1 1 92 18) #[(.ref t), (.int (Int32.ofNat (nl)))] h0 [] [] (fun v h' S => ∃ (r : Addr) (kr : ClassId), v = some (.ref r) ∧ h0.size ≤ r ∧ Arv Z h' r kr .byte (Int32.ofNat (nl)) (vl ++ List.replicate (nl - zz) (Value.int 0)) (.int 0) ∧ Exa Z h' r "[B" ∧ S r) := by
  obtain ⟨hw, hEL, SC, hzc, SF, rfm⟩ := id B
  refine Met.of (plainFor_of_name pn4) O0 ?_
  intro p e s m below meth c T0 hx hby hml hret hlk hnm hs W0
  have W0 : Wk p l e _ s m _ below meth c Z EL0 n0 [] "java/util/Arrays" [] T0 0 0 h0 := W0
  have D := @tk c _ _ hby Kq20
  refine Go.of (fun _ kk => castTop (ef45 m t (Int32.ofNat (nl))) kk) ?_
  refine W0.pv hx D 0 2 2 [_, _, _] [_, _] rfl ?_
  refine W0.alen hx Ab rfl rfl (D 2 rfl) ?_
  refine W0.pu hx D 3 [(0, true)] 1 15 [_, _, _] [_] rfl ⟨trivial, (XT.ii_ne_t (neN (a := nl) (b := zz) (by first | omega | (simp only [LN]; omega))))⟩ ?_
  refine W0.newPE hx (B.h 19 rfl) (ad := "[B") (by decide +kernel) rfl (D 15 rfl) rfl (nltN (a := nl) (b := 0) (by omega)) (cap := 92) (clamp1 (a := nl) (by omega)) (by decide +kernel) (by decide +kernel) (by decide +kernel) (fun T1 h1 b1 c1 eb1 gb1 W1 K1 A1 Ex1 => ?_)
  have V1 : Arv Z h1 b1 c1 .byte (Int32.ofNat (nl)) [(.int 0), (.int 0), (.int 0), (.int 0), (.int 0), (.int 0), (.int 0), (.int 0), (.int 0), (.int 0), (.int 0), (.int 0), (.int 0), (.int 0), (.int 0), (.int 0), (.int 0), (.int 0), (.int 0), (.int 0), (.int 0), (.int 0), (.int 0), (.int 0), (.int 0), (.int 0), (.int 0), (.int 0), (.int 0), (.int 0), (.int 0), (.int 0), (.int 0), (.int 0), (.int 0), (.int 0), (.int 0), (.int 0), (.int 0), (.int 0), (.int 0), (.int 0), (.int 0), (.int 0), (.int 0), (.int 0), (.int 0), (.int 0), (.int 0), (.int 0), (.int 0), (.int 0), (.int 0), (.int 0), (.int 0), (.int 0), (.int 0), (.int 0), (.int 0), (.int 0), (.int 0), (.int 0), (.int 0), (.int 0), (.int 0), (.int 0), (.int 0), (.int 0), (.int 0), (.int 0), (.int 0), (.int 0), (.int 0), (.int 0), (.int 0), (.int 0), (.int 0), (.int 0), (.int 0), (.int 0), (.int 0), (.int 0), (.int 0), (.int 0), (.int 0), (.int 0), (.int 0), (.int 0), (.int 0), (.int 0), (.int 0), (.int 0)] (.int 0) := A1
  have k2 := (Ab.keep K1 nin0)
  refine W1.pv hx D 17 6 23 [_, _, _] [_, .int 0, _, .int 0, _] rfl ?_
  refine W1.alen hx k2 rfl rfl (D 23 rfl) ?_
  refine W1.pv hx D 24 1 25 [_, _, _] [_, _, _, _, _, _] rfl ?_
  refine W1.kS hx hEL (B.h 116 rfl) (B.h 117 rfl) (B.h 108 rfl) (B.h 118 rfl) [(.int (Int32.ofNat (zz))), (.int (Int32.ofNat (nl)))] [(.int 0), (.ref b1), (.int 0), (.ref t)] (rm41 B zz nl h1 W1.old (by first | omega | (simp only [LN]; omega))) all0 4 (by decide +kernel) all0 hml (lenOf pd7 rfl) (D 25 rfl) ⟨rfl, rfl, rfl, rfl⟩ (fun T3 h3 v3 P3 Ws3 K3 q3 => ?_)
  have W3 := Ws3 [] all0
  obtain ⟨rfl, rfl⟩ := q3
  refine W3.cp hx (B.h 119 rfl) (B.h 95 rfl) (B.h 93 rfl) (B.h 94 rfl) (us := ((vl.drop (0)).take (min zz nl))) (vs := vl) (vd := [(.int 0), (.int 0), (.int 0), (.int 0), (.int 0), (.int 0), (.int 0), (.int 0), (.int 0), (.int 0), (.int 0), (.int 0), (.int 0), (.int 0), (.int 0), (.int 0), (.int 0), (.int 0), (.int 0), (.int 0), (.int 0), (.int 0), (.int 0), (.int 0), (.int 0), (.int 0), (.int 0), (.int 0), (.int 0), (.int 0), (.int 0), (.int 0), (.int 0), (.int 0), (.int 0), (.int 0), (.int 0), (.int 0), (.int 0), (.int 0), (.int 0), (.int 0), (.int 0), (.int 0), (.int 0), (.int 0), (.int 0), (.int 0), (.int 0), (.int 0), (.int 0), (.int 0), (.int 0), (.int 0), (.int 0), (.int 0), (.int 0), (.int 0), (.int 0), (.int 0), (.int 0), (.int 0), (.int 0), (.int 0), (.int 0), (.int 0), (.int 0), (.int 0), (.int 0), (.int 0), (.int 0), (.int 0), (.int 0), (.int 0), (.int 0), (.int 0), (.int 0), (.int 0), (.int 0), (.int 0), (.int 0), (.int 0), (.int 0), (.int 0), (.int 0), (.int 0), (.int 0), (.int 0), (.int 0), (.int 0), (.int 0), (.int 0)]) k2 V1 rfl (nltN (a := 0) (b := 0) (by first | omega | (simp only [LN]; omega))) (nltN (a := 0) (b := 0) (by first | omega | (simp only [LN]; omega))) (nltN (a := min zz nl) (b := 0) (by first | omega | (simp only [LN]; omega))) (clamp3 (a := 0) (b := min zz nl) (c := zz) (by first | omega | (simp only [LN]; omega))) (clamp3 (a := 0) (b := min zz nl) (c := nl) (by first | omega | (simp only [LN]; omega))) (usV (s := 0) (k := min zz nl) (by first | omega | (simp only [LN]; omega))) (clamp2 (a := 0) (b := min zz nl) (by first | omega | (simp only [LN]; omega))) gb1.1 (Or.inr gb1.2) (mI 0 rfl) rfl (by rw [hml]; rfl) rfl (D 28 rfl) (by decide +kernel) (Wd := 0) (by show 2 * 0 + _ ≤ _; exact Nat.le_of_eq rfl) (by decide +kernel) (fun T4 h4 W4 K4 A4 => ?_)
  have V4 : Arv Z h4 b1 c1 .byte (Int32.ofNat (nl)) ([(.int 0), (.int 0), (.int 0), (.int 0), (.int 0), (.int 0), (.int 0), (.int 0), (.int 0), (.int 0), (.int 0), (.int 0), (.int 0), (.int 0), (.int 0), (.int 0), (.int 0), (.int 0), (.int 0), (.int 0), (.int 0), (.int 0), (.int 0), (.int 0), (.int 0), (.int 0), (.int 0), (.int 0), (.int 0), (.int 0), (.int 0), (.int 0), (.int 0), (.int 0), (.int 0), (.int 0), (.int 0), (.int 0), (.int 0), (.int 0), (.int 0), (.int 0), (.int 0), (.int 0), (.int 0), (.int 0), (.int 0), (.int 0), (.int 0), (.int 0), (.int 0), (.int 0), (.int 0), (.int 0), (.int 0), (.int 0), (.int 0), (.int 0), (.int 0), (.int 0), (.int 0), (.int 0), (.int 0), (.int 0), (.int 0), (.int 0), (.int 0), (.int 0), (.int 0), (.int 0), (.int 0), (.int 0), (.int 0), (.int 0), (.int 0), (.int 0), (.int 0), (.int 0), (.int 0), (.int 0), (.int 0), (.int 0), (.int 0), (.int 0), (.int 0), (.int 0), (.int 0), (.int 0), (.int 0), (.int 0), (.int 0), (.int 0)].take (0) ++ ((vl.drop (0)).take (min zz nl)) ++ [(.int 0), (.int 0), (.int 0), (.int 0), (.int 0), (.int 0), (.int 0), (.int 0), (.int 0), (.int 0), (.int 0), (.int 0), (.int 0), (.int 0), (.int 0), (.int 0), (.int 0), (.int 0), (.int 0), (.int 0), (.int 0), (.int 0), (.int 0), (.int 0), (.int 0), (.int 0), (.int 0), (.int 0), (.int 0), (.int 0), (.int 0), (.int 0), (.int 0), (.int 0), (.int 0), (.int 0), (.int 0), (.int 0), (.int 0), (.int 0), (.int 0), (.int 0), (.int 0), (.int 0), (.int 0), (.int 0), (.int 0), (.int 0), (.int 0), (.int 0), (.int 0), (.int 0), (.int 0), (.int 0), (.int 0), (.int 0), (.int 0), (.int 0), (.int 0), (.int 0), (.int 0), (.int 0), (.int 0), (.int 0), (.int 0), (.int 0), (.int 0), (.int 0), (.int 0), (.int 0), (.int 0), (.int 0), (.int 0), (.int 0), (.int 0), (.int 0), (.int 0), (.int 0), (.int 0), (.int 0), (.int 0), (.int 0), (.int 0), (.int 0), (.int 0), (.int 0), (.int 0), (.int 0), (.int 0), (.int 0), (.int 0), (.int 0)].drop (0 + (min zz nl))) (.int 0) := arvN (D := 0) (N := min zz nl) A4 (by first | omega | (simp only [LN]; omega)) (by first | omega | (simp only [LN]; omega))
  have k5 := (Ex1.keep K4)
  refine W4.pv hx D 31 1 32 [_, _, _] [_] rfl ?_
  exact W4.retA hx hEL hs hlk (by decide +kernel) (by decide +kernel) hret rfl rfl (D 32 rfl) (fun S hS => ⟨b1, c1, rfl, hs ▸ gb1.2, arvPadR (n := 92) (c := zz) (by have q := V4; rw [show min zz nl = zz from by omega] at q; exact q) hzz.1, k5, hS _ (mI 0 rfl)⟩)
set_option maxRecDepth 65536 in
set_option maxHeartbeats 40000000 in
theorem rm46 (B : EV l Z a0 zc fm) (a1 t : Addr) (kc : ClassId) (ds : List Int32) (rs : List Value) (cp nn : Nat) (h0 : Heap) {n0 : Nat} (O0 : Old Z n0 h0) (Eb : Exa Z h0 a1 "java/lang/StringBuilder") (Fvp : Fld Z h0 a1 "java/lang/AbstractStringBuilder" "value" "[B" (.ref t)) (Fcp : Fld Z h0 a1 "java/lang/AbstractStringBuilder" "coder" "B" (.int 0)) (Fnp : Fld Z h0 a1 "java/lang/AbstractStringBuilder" "count" "I" (.int (Int32.ofNat (ds.length)))) (Ab : Arv Z h0 t kc .byte (Int32.ofNat (cp)) (List.map lv ds ++ rs) (.int 0)) (Et : Exa Z h0 t "[B") (hsm : ds.length + rs.length = cp) (hcp : cp ≤ 92) (hds : ∀ c ∈ ds, ¬ c < 0 ∧ ¬ (255 : Int32) < c) (g1 : n0 ≤ a1) (g2 : n0 ≤ t) (nat : a1 ≠ t) (hnn : nn ≤ 46) :
    Met l Z EL0 n0 (⟨"java/lang/AbstractStringBuilder", "ensureCapacityInternal", "(I)V"⟩ : MethodName) jdk_68_method_9_code 3 none [] (rO 3 1 92 48) #[(.ref a1), (.int (Int32.ofNat (nn)))] h0 [a1] [t] (fun v h' S => ∃ (t' : Addr) (kt : ClassId) (rl : List Value) (cl : Nat), v = none ∧ (t' = t ∨ h0.size ≤ t') ∧ a1 ≠ t' ∧ n0 ≤ t' ∧ ds.length + rl.length = cl ∧ nn ≤ cl ∧ cl ≤ 92 ∧ Fld Z h' a1 "java/lang/AbstractStringBuilder" "value" "[B" (.ref t') ∧ Fld Z h' a1 "java/lang/AbstractStringBuilder" "coder" "B" (.int 0) ∧ Fld Z h' a1 "java/lang/AbstractStringBuilder" "count" "I" (.int (Int32.ofNat (ds.length))) ∧ Arv Z h' t' kt .byte (Int32.ofNat (cl)) (List.map lv ds ++ rl) (.int 0) ∧ Exa Z h' t' "[B" ∧ S t') := by
  obtain ⟨hw, hEL, SC, hzc, SF, rfm⟩ := id B
  refine Met.of (plainFor_of_name pn2) O0 ?_
  intro p e s m below meth c T0 hx hby hml hret hlk hnm hs W0
  have W0 : Wk p l e _ s m _ below meth c Z EL0 n0 [a1] "java/lang/AbstractStringBuilder" [t] T0 0 0 h0 := W0
  have D := @tk c _ _ hby Kq21
  refine Go.of (fun _ kk => castTop (ef45 m a1 (Int32.ofNat (nn))) kk) ?_
  refine W0.pv hx D 0 1 1 [_, _, _] [_] rfl ?_
  refine W0.getF hx (host := "") (Or.inl (B.h 44 rfl)) Via.refl Fvp rfl rfl (D 1 rfl) (fun T1 W1 => ?_)
  refine W1.alen hx Ab rfl rfl (D 4 rfl) ?_
  refine W1.pv hx D 5 1 6 [_, _, _] [_, _] rfl ?_
  refine W1.getF hx (host := "") (Or.inl (B.h 46 rfl)) Via.refl Fcp rfl rfl (D 6 rfl) (fun T2 W2 => ?_)
  refine gof T2 m 10 #[vr a1, vi (Int32.ofNat (nn)), U0] [(.int (Int32.ofNat (cp)))] (fun _ kk => XS.ishr W2.here hx rfl (D 9 rfl) rfl (by rw [shr0]; exact kk)) ?_
  refine W2.pv hx D 10 4 14 [_, _, _] [.int ((Int32.ofNat (nn)) - (Int32.ofNat (cp)))] rfl ?_
  by_cases c3 : cp < nn
  · refine W2.pu hx D 14 [(0, false)] 2 19 [_, _, _] [_, _] rfl ⟨trivial, (XT.i0_le_f (posN (a := nn) (b := cp) (by omega)))⟩ ?_
    refine W2.getF hx (host := "") (Or.inl (B.h 44 rfl)) Via.refl Fvp rfl rfl (D 19 rfl) (fun T4 W4 => ?_)
    refine W4.pv hx D 22 2 24 [_, _, _] [_, _, _, _] rfl ?_
    refine W4.callW hx hEL (B.h 97 rfl) (B.h 100 rfl) (B.h 98 rfl) (B.h 40 rfl) (B.h 101 rfl) (by decide +kernel) Eb (a := a1) (argsL := [(.int (Int32.ofNat (nn)))]) (rest := [(.ref t), (.ref a1)]) (rm44 B a1 t kc ds rs cp nn h0 W4.old Eb Fvp Fcp Ab (by first | omega | (simp only [LN]; omega))) all0 (by decide +kernel) (Wd := 2) (by decide +kernel) (by decide +kernel) (by decide +kernel) all0 rfl (by rw [hml]; rfl) (lenOf pd9 rfl) rfl (by show 2 * 0 + _ ≤ _; exact Nat.le_of_eq rfl) (D 24 rfl) (fun T5 h5 v5 P5 Ws5 K5 q5 => ?_)
    have W5 := Ws5 [] all0
    obtain ⟨rfl, rfl⟩ := q5
    refine W5.pv hx D 27 1 28 [_, _, _] [_, _, _, _] rfl ?_
    refine W5.getF hx (host := "") (Or.inl (B.h 46 rfl)) Via.refl Fcp rfl rfl (D 28 rfl) (fun T6 W6 => ?_)
    refine gof T6 m 32 #[vr a1, vi (Int32.ofNat (nn)), vi (Int32.ofNat (cp))] [(.int (Int32.ofNat (cp + max (nn - cp) (cp + 2)))), (.ref t), (.ref a1)] (fun _ kk => XS.ishl W6.here hx rfl (D 31 rfl) rfl (by rw [shl0]; exact kk)) ?_
    refine W6.kS hx hEL (B.h 112 rfl) (B.h 113 rfl) (B.h 114 rfl) (B.h 115 rfl) [(.ref t), (.int (Int32.ofNat (cp + max (nn - cp) (cp + 2))))] [(.ref a1)] (rm45 B t kc (List.map lv ds ++ rs) cp (cp + max (nn - cp) (cp + 2)) h0 W6.old Ab (by first | omega | (simp only [LN]; omega))) all0 1 (by decide +kernel) all0 hml (lenOf pd10 rfl) (D 32 rfl) ⟨rfl, rfl, rfl, rfl⟩ (fun T7 h7 v7 P7 Ws7 K7 q7 => ?_)
    obtain ⟨r7, kr7, rfl, lr7, A7, Ex7, sr7⟩ := q7
    have W7 := Ws7 [r7] (allS sr7 all0)
    have gr7 : n0 ≤ r7 ∧ s.heap.size ≤ r7 := ⟨Nat.le_trans W6.n0le lr7, Nat.le_trans W6.s0le lr7⟩
    have k8 := (Fvp.keep K7 nin0)
    have k9 := (Eb.keep K7)
    refine W7.putF hx (host := "") (Or.inl (B.h 44 rfl)) Via.refl k8 k9 (Or.inl (B.h 45 rfl)) (B.h 31 rfl) (ty := (.array .byte)) (by decide +kernel) rfl rfl g1 (Or.inl (mI 0 rfl)) (Or.inr ⟨by decide, by decide⟩) rfl rfl (D 35 rfl) (fun T10 h10 W10 w10 => ?_)
    have k11 := (Fcp.keep K7 nin0)
    have k12 := (Fnp.keep K7 nin0)
    have K10 := Keep.of_wr w10
    have k13 := k11.other w10 (Or.inr (slot_ne (Or.inl (B.h 47 rfl)) (Or.inl (B.h 45 rfl)) (by decide +kernel) (t := .byte) (t' := (.array .byte)) (by decide +kernel) (by decide +kernel)))
    have k14 := k12.other w10 (Or.inr (slot_ne (Or.inl (B.h 70 rfl)) (Or.inl (B.h 45 rfl)) (by decide +kernel) (t := .int) (t' := (.array .byte)) (by decide +kernel) (by decide +kernel)))
    have k15 := k8.same w10
    have k16 := (A7.keep K10 (ninS (ne_of_born lr7 Eb.lt (Nat.le_refl _)).symm nin0))
    have k17 := (Ex7.keep K10)
    show Go p e below _ (T10.setTop (mkF m 38 #[vr a1, vi (Int32.ofNat (nn)), vi (Int32.ofNat (cp))] []))
    exact W10.retV hx hEL hs hlk (by decide +kernel) (by decide +kernel) hret (D 38 rfl) (fun S hS => ⟨r7, kr7, (rs ++ List.replicate ((cp + max (nn - cp) (cp + 2)) - cp) (Value.int 0)), (cp + max (nn - cp) (cp + 2)), rfl, Or.inr (hs ▸ gr7.2), (ne_of_born lr7 Eb.lt (Nat.le_refl _)), gr7.1, (by first | omega | (simp only [LN]; omega)), (by omega), (by omega), k15, k13, k14, (by rw [← List.append_assoc]; exact k16), k17, hS _ (mI 0 rfl)⟩)
  · refine W2.pu hx D 14 [(0, true)] 0 38 [_, _, _] [] rfl ⟨trivial, (XT.i0_le_t (negNN (a := nn) (b := cp) (by omega)))⟩ ?_
    exact W2.retV hx hEL hs hlk (by decide +kernel) (by decide +kernel) hret (D 38 rfl) (fun S hS => ⟨t, kc, rs, cp, rfl, Or.inl rfl, nat, g2, hsm, (by omega), hcp, Fvp, Fcp, Fnp, Ab, Et, hS _ (mI 0 rfl)⟩)
theorem ef60 (m : MethodId) (x0 x1 : Addr) (x2 x3 : Int32)  : entryFrame m #[(.ref x0), (.ref x1), (.int x2), (.int x3)] 4 = mkF m 0 #[vr x0, vr x1, vi x2, vi x3] [] := by first | (simp [entryFrame, mkF, argsToLocals, Value.category]; done) | rfl | rfl
set_option maxRecDepth 65536 in
set_option maxHeartbeats 40000000 in
theorem rm60 (B : EV l Z a0 zc fm) (x2 : Addr) (xs : List Int32) (t : Addr) (kc : ClassId) (ds : List Int32) (rs : List Value) (cp : Nat) (h0 : Heap) {n0 : Nat} (O0 : Old Z n0 h0) (Ab : Arv Z h0 t kc .byte (Int32.ofNat (cp)) (List.map lv ds ++ rs) (.int 0)) (hsm : ds.length + rs.length = cp) (hcp : cp ≤ 92) (hfit : ds.length + xs.length ≤ cp) (g2 : n0 ≤ t) (Sx : Str Z h0 x2 xs) (hxs : ∀ c ∈ xs, ¬ c < 0 ∧ ¬ (255 : Int32) < c) :
    Met l Z EL0 n0 (⟨"java/lang/String", "getBytes", "([BIB)V"⟩ : MethodName) jdk_42_method_147_code 4 none [] (rO 1 0 0 18) #[(.ref x2), (.ref t), (.int (Int32.ofNat (ds.length))), (.int 0)] h0 [t] [t] (fun v h' S => v = none ∧ Arv Z h' t kc .byte (Int32.ofNat (cp)) (List.map lv (ds ++ xs) ++ rs.drop xs.length) (.int 0)) := by
  obtain ⟨hw, hEL, SC, hzc, SF, rfm⟩ := id B
  refine Met.of (plainFor_of_name pn0) O0 ?_
  intro p e s m below meth c T0 hx hby hml hret hlk hnm hs W0
  have W0 : Wk p l e _ s m _ below meth c Z EL0 n0 [t] "java/lang/String" [t] T0 0 0 h0 := W0
  have D := @tk c _ _ hby Kq22
  refine Go.of (fun _ kk => castTop (ef60 m x2 t (Int32.ofNat (ds.length)) (0 : Int32)) kk) ?_
  show Go p e below _ (T0.setTop (mkF m 0 #[vr x2, vr t, vi (Int32.ofNat (ds.length)), vi 0] []))
  obtain ⟨t1, kb1, E1, Fv1, Fc1, A1⟩ := Sx.open_ (snd255 hxs)
  have ln1 := Sx.len4
  have V1 : Arv Z h0 t1 kb1 .byte (Int32.ofNat (xs.length)) (List.map lv xs) (.int 0) := A1
  refine W0.pv hx D 0 1 1 [_, _, _, _] [_] rfl ?_
  refine W0.kV hx hEL (B.h 63 rfl) (B.h 64 rfl) (B.h 66 rfl) (B.h 65 rfl) (B.h 6 rfl) (B.h 67 rfl) E1 [] [] (rm30 B x2 h0 W0.old Fc1) all0 0 (by decide +kernel) all0 hml (lenOf pd6 rfl) (D 1 rfl) ⟨rfl, rfl, rfl, rfl⟩ (fun T2 h2 v2 P2 Ws2 K2 q2 => ?_)
  have W2 := Ws2 [] all0
  obtain ⟨rfl, rfl⟩ := q2
  refine W2.pu hx D 4 [(1, false)] 1 9 [_, _, _, _] [_] rfl ⟨trivial, (XT.ii_ne_f (by decide +kernel))⟩ ?_
  refine W2.getF hx (host := "") (Or.inl (B.h 24 rfl)) Via.refl Fv1 rfl rfl (D 9 rfl) (fun T3 W3 => ?_)
  refine W3.pv hx D 12 4 16 [_, _, _, _] [.int 0, _, _, .int 0, _] rfl ?_
  refine gof T3 m 17 #[vr x2, vr t, vi (Int32.ofNat (ds.length)), vi 0] [(.int (Int32.ofNat (ds.length))), (.ref t), (.int 0), (.ref t1)] (fun _ kk => XS.ishl W3.here hx rfl (D 16 rfl) rfl (by rw [shl0]; exact kk)) ?_
  refine W3.pv hx D 17 1 18 [_, _, _, _] [_, _, _, _, _] rfl ?_
  refine W3.getF hx (host := "") (Or.inl (B.h 24 rfl)) Via.refl Fv1 rfl rfl (D 18 rfl) (fun T4 W4 => ?_)
  refine W4.alen hx V1 rfl rfl (D 21 rfl) ?_
  refine W4.cp hx (B.h 92 rfl) (B.h 95 rfl) (B.h 93 rfl) (B.h 94 rfl) (us := (((List.map lv xs).drop (0)).take (xs.length))) (vs := (List.map lv xs)) (vd := (List.map lv ds ++ rs)) V1 Ab rfl (nltN (a := 0) (b := 0) (by first | omega | (simp only [LN]; omega))) (nltN (a := ds.length) (b := 0) (by first | omega | (simp only [LN]; omega))) (nltN (a := xs.length) (b := 0) (by first | omega | (simp only [LN]; omega))) (clamp3 (a := 0) (b := xs.length) (c := xs.length) (by first | omega | (simp only [LN]; omega))) (clamp3 (a := ds.length) (b := xs.length) (c := cp) (by first | omega | (simp only [LN]; omega))) (usV (s := 0) (k := xs.length) (by first | omega | (simp only [LN]; omega))) (clamp2 (a := ds.length) (b := xs.length) (by first | omega | (simp only [LN]; omega))) g2 (Or.inl (mI 0 rfl)) (mI 0 rfl) rfl (by rw [hml]; rfl) rfl (D 22 rfl) (by decide +kernel) (Wd := 0) (by show 2 * 0 + _ ≤ _; exact Nat.le_of_eq rfl) (by decide +kernel) (fun T5 h5 W5 K5 A5 => ?_)
  have V5 : Arv Z h5 t kc .byte (Int32.ofNat (cp)) ((List.map lv ds ++ rs).take (ds.length) ++ (((List.map lv xs).drop (0)).take (xs.length)) ++ (List.map lv ds ++ rs).drop (ds.length + (xs.length))) (.int 0) := arvN (D := ds.length) (N := xs.length) A5 (by first | omega | (simp only [LN]; omega)) (by first | omega | (simp only [LN]; omega))
  refine W5.pv hx D 25 1 43 [_, _, _, _] [] rfl ?_
  exact W5.retV hx hEL hs hlk (by decide +kernel) (by decide +kernel) hret (D 43 rfl) (fun S hS => ⟨rfl, (by rw [← sbAll ds xs rs]; exact V5)⟩)
theorem ef61 (m : MethodId) (x0 : Addr) (x1 : Int32) (x2 : Addr)  : entryFrame m #[(.ref x0), (.int x1), (.ref x2)] 3 = mkF m 0 #[vr x0, vi x1, vr x2] [] := by first | (simp [entryFrame, mkF, argsToLocals, Value.category]; done) | rfl | rfl
set_option maxRecDepth 65536 in
set_option maxHeartbeats 40000000 in
theorem rm61 (B : EV l Z a0 zc fm) (a1 t : Addr) (kc : ClassId) (ds : List Int32) (rs : List Value) (cp : Nat) (x2 : Addr) (xs : List Int32) (h0 : Heap) {n0 : Nat} (O0 : Old Z n0 h0) (Eb : Exa Z h0 a1 "java/lang/StringBuilder") (Fvp : Fld Z h0 a1 "java/lang/AbstractStringBuilder" "value" "[B" (.ref t)) (Fcp : Fld Z h0 a1 "java/lang/AbstractStringBuilder" "coder" "B" (.int 0)) (Ab : Arv Z h0 t kc .byte (Int32.ofNat (cp)) (List.map lv ds ++ rs) (.int 0)) (hsm : ds.length + rs.length = cp) (hcp : cp ≤ 92) (hds : ∀ c ∈ ds, ¬ c < 0 ∧ ¬ (255 : Int32) < c) (hfit : ds.length + xs.length ≤ cp) (g2 : n0 ≤ t) (Sx : Str Z h0 x2 xs) (hxs : ∀ c ∈ xs, ¬ c < 0 ∧ ¬ (255 : Int32) < c) :
    Met l Z EL0 n0 (⟨"java/lang/AbstractStringBuilder", "putStringAt", "(ILjava/lang/String;)V"⟩ : MethodName) jdk_68_method_73_code 3 none [] (rO 2 0 0 33) #[(.ref a1), (.int (Int32.ofNat (ds.length))), (.ref x2)] h0 [t] [t] (fun v h' S => v = none ∧ Arv Z h' t kc .byte (Int32.ofNat (cp)) (List.map lv (ds ++ xs) ++ rs.drop xs.length) (.int 0)) := by
  obtain ⟨hw, hEL, SC, hzc, SF, rfm⟩ := id B
  refine Met.of (plainFor_of_name pn2) O0 ?_
  intro p e s m below meth c T0 hx hby hml hret hlk hnm hs W0
  have W0 : Wk p l e _ s m _ below meth c Z EL0 n0 [t] "java/lang/AbstractStringBuilder" [t] T0 0 0 h0 := W0
  have D := @tk c _ _ hby Kq23
  refine Go.of (fun _ kk => castTop (ef61 m a1 (Int32.ofNat (ds.length)) x2) kk) ?_
  show Go p e below _ (T0.setTop (mkF m 0 #[vr a1, vi (Int32.ofNat (ds.length)), vr x2] []))
  obtain ⟨t1, kb1, E1, Fv1, Fc1, A1⟩ := Sx.open_ (snd255 hxs)
  have ln1 := Sx.len4
  have V1 : Arv Z h0 t1 kb1 .byte (Int32.ofNat (xs.length)) (List.map lv xs) (.int 0) := A1
  refine W0.pv hx D 0 2 2 [_, _, _] [_, _] rfl ?_
  refine W0.callW hx hEL (B.h 81 rfl) (B.h 84 rfl) (B.h 82 rfl) (B.h 40 rfl) (B.h 85 rfl) (by decide +kernel) Eb (a := a1) (argsL := [(.ref x2)]) (rest := []) (rm38 B a1 x2 xs h0 W0.old Eb Fcp Sx hxs) all0 (by decide +kernel) (Wd := 0) (by decide +kernel) (by decide +kernel) (by decide +kernel) all0 rfl (by rw [hml]; rfl) (lenOf pd11 rfl) rfl (by show 2 * 0 + _ ≤ _; exact Nat.le_of_eq rfl) (D 2 rfl) (fun T2 h2 v2 P2 Ws2 K2 q2 => ?_)
  have W2 := Ws2 [] all0
  obtain ⟨rfl, rfl⟩ := q2
  refine W2.pv hx D 5 2 7 [_, _, _] [_, _] rfl ?_
  refine W2.getF hx (host := "") (Or.inl (B.h 44 rfl)) Via.refl Fvp rfl rfl (D 7 rfl) (fun T3 W3 => ?_)
  refine W3.pv hx D 10 2 12 [_, _, _] [_, _, _, _] rfl ?_
  refine W3.getF hx (host := "") (Or.inl (B.h 46 rfl)) Via.refl Fcp rfl rfl (D 12 rfl) (fun T4 W4 => ?_)
  refine W4.kV hx hEL (B.h 87 rfl) (B.h 88 rfl) (B.h 90 rfl) (B.h 89 rfl) (B.h 6 rfl) (B.h 91 rfl) E1 [(.ref t), (.int (Int32.ofNat (ds.length))), (.int 0)] [] (rm60 B x2 xs t kc ds rs cp h0 W4.old Ab hsm hcp (by first | omega | (simp only [LN]; omega)) g2 Sx hxs) (allS (mI 0 rfl) all0) 0 (by decide +kernel) (allS ⟨g2, (Or.inl (mI 0 rfl))⟩ all0) hml (lenOf pd12 rfl) (D 15 rfl) ⟨rfl, rfl, rfl, rfl⟩ (fun T5 h5 v5 P5 Ws5 K5 q5 => ?_)
  have W5 := Ws5 [] all0
  obtain ⟨rfl, A5⟩ := q5
  show Go p e below _ (T5.setTop (mkF m 18 #[vr a1, vi (Int32.ofNat (ds.length)), vr x2] []))
  exact W5.retV hx hEL hs hlk (by decide +kernel) (by decide +kernel) hret (D 18 rfl) (fun S hS => ⟨rfl, A5⟩)
theorem ef62 (m : MethodId) (x0 x1 : Addr)  : entryFrame m #[(.ref x0), (.ref x1)] 3 = mkF m 0 #[vr x0, vr x1, U0] [] := by first | (simp [entryFrame, mkF, argsToLocals, Value.category]; done) | rfl | rfl
set_option maxRecDepth 65536 in
set_option maxHeartbeats 40000000 in
theorem rm62 (B : EV l Z a0 zc fm) (a1 t : Addr) (kc : ClassId) (ds : List Int32) (rs : List Value) (cp : Nat) (x2 : Addr) (xs : List Int32) (h0 : Heap) {n0 : Nat} (O0 : Old Z n0 h0) (Eb : Exa Z h0 a1 "java/lang/StringBuilder") (Fvp : Fld Z h0 a1 "java/lang/AbstractStringBuilder" "value" "[B" (.ref t)) (Fcp : Fld Z h0 a1 "java/lang/AbstractStringBuilder" "coder" "B" (.int 0)) (Fnp : Fld Z h0 a1 "java/lang/AbstractStringBuilder" "count" "I" (.int (Int32.ofNat (ds.length)))) (Ab : Arv Z h0 t kc .byte (Int32.ofNat (cp)) (List.map lv ds ++ rs) (.int 0)) (Et : Exa Z h0 t "[B") (hsm : ds.length + rs.length = cp) (hcp : cp ≤ 92) (hds : ∀ c ∈ ds, ¬ c < 0 ∧ ¬ (255 : Int32) < c) (g1 : n0 ≤ a1) (g2 : n0 ≤ t) (nat : a1 ≠ t) (hmx : ds.length + xs.length ≤ 46) (Sx : Str Z h0 x2 xs) (hxs : ∀ c ∈ xs, ¬ c < 0 ∧ ¬ (255 : Int32) < c) :
    Met l Z EL0 n0 (⟨"java/lang/AbstractStringBuilder", "append", "(Ljava/lang/String;)Ljava/lang/AbstractStringBuilder;"⟩ : MethodName) jdk_68_method_22_code 3 (some (.object "java/lang/AbstractStringBuilder")) [] (rO 4 1 92 62) #[(.ref a1), (.ref x2)] h0 [a1, t] [t] (fun v h' S => ∃ (t' : Addr) (kt : ClassId) (dl : List Int32) (rl : List Value) (cl : Nat), v = some (.ref a1) ∧ (t' = t ∨ h0.size ≤ t') ∧ a1 ≠ t' ∧ n0 ≤ t' ∧ dl = ds ++ xs ∧ dl.length + rl.length = cl ∧ cl ≤ 92 ∧ (∀ c ∈ dl, ¬ c < 0 ∧ ¬ (255 : Int32) < c) ∧ Fld Z h' a1 "java/lang/AbstractStringBuilder" "value" "[B" (.ref t') ∧ Fld Z h' a1 "java/lang/AbstractStringBuilder" "coder" "B" (.int 0) ∧ Fld Z h' a1 "java/lang/AbstractStringBuilder" "count" "I" (.int (Int32.ofNat (dl.length))) ∧ Arv Z h' t' kt .byte (Int32.ofNat (cl)) (List.map lv dl ++ rl) (.int 0) ∧ Exa Z h' t' "[B" ∧ S t') := by
  obtain ⟨hw, hEL, SC, hzc, SF, rfm⟩ := id B
  refine Met.of (plainFor_of_name pn2) O0 ?_
  intro p e s m below meth c T0 hx hby hml hret hlk hnm hs W0
  have W0 : Wk p l e _ s m _ below meth c Z EL0 n0 [a1, t] "java/lang/AbstractStringBuilder" [t] T0 0 0 h0 := W0
  have D := @tk c _ _ hby Kq24
  have hln := fun d hd => hw d (ln_in d hd)
  refine Go.of (fun _ kk => castTop (ef62 m a1 x2) kk) ?_
  show Go p e below _ (T0.setTop (mkF m 0 #[vr a1, vr x2, U0] []))
  obtain ⟨t1, kb1, E1, Fv1, Fc1, A1⟩ := Sx.open_ (snd255 hxs)
  have ln1 := Sx.len4
  have V1 : Arv Z h0 t1 kb1 .byte (Int32.ofNat (xs.length)) (List.map lv xs) (.int 0) := A1
  have nxa : x2 ≠ a1 := Exa.ne E1 Eb (by decide)
  have nta : a1 ≠ t1 := Exa.neArv Eb V1 (B.h 31 rfl)
  refine W0.pv hx D 0 3 10 [_, _, _] [_] rfl ?_
  refine W0.strLen hx hln (B.h 5 rfl) SC hzc Sx (B.h 58 rfl) (B.h 59 rfl) (B.h 61 rfl) (B.h 60 rfl) (by decide +kernel) (Wd := 0) (by decide +kernel) (by decide +kernel) (by decide +kernel) rfl (by rw [hml]; rfl) rfl (by show 2 * 0 + _ ≤ _; exact Nat.le_of_eq rfl) (D 10 rfl) (fun T2 W2 => ?_)
  show Go p e below _ (T2.setTop (mkF m 13 #[vr a1, vr x2, U0] [(.int (Int32.ofNat (xs.length)))]))
  refine W2.pv hx D 13 3 16 [_, _, _] [_, _] rfl ?_
  refine W2.getF hx (host := "") (Or.inl (B.h 69 rfl)) Via.refl Fnp rfl rfl (D 16 rfl) (fun T3 W3 => ?_)
  have ea4 : ((Int32.ofNat (ds.length)) + (Int32.ofNat (xs.length))) = (Int32.ofNat (ds.length + xs.length)) := (addN (ds.length) (xs.length)).trans (congrArg Int32.ofNat (by omega))
  refine W3.pv hx D 19 2 21 [_, _, _] [.int (Int32.ofNat (ds.length + xs.length)), _] (by rw [← ea4]; rfl) ?_
  refine W3.callW hx hEL (B.h 71 rfl) (B.h 74 rfl) (B.h 72 rfl) (B.h 40 rfl) (B.h 75 rfl) (by decide +kernel) Eb (a := a1) (argsL := [(.int (Int32.ofNat (ds.length + xs.length)))]) (rest := []) (rm46 B a1 t kc ds rs cp (ds.length + xs.length) h0 W3.old Eb Fvp Fcp Fnp Ab Et hsm hcp hds g1 g2 nat (by first | omega | (simp only [LN]; omega))) (allS (mI 0 rfl) all0) (by decide +kernel) (Wd := 0) (by decide +kernel) (by decide +kernel) (by decide +kernel) (allS ⟨g1, (Or.inl (mI 0 rfl))⟩ all0) rfl (by rw [hml]; rfl) (lenOf pd4 rfl) rfl (by show 2 * 0 + _ ≤ _; exact Nat.le_of_eq rfl) (D 21 rfl) (fun T5 h5 v5 P5 Ws5 K5 q5 => ?_)
  obtain ⟨t5, kt5, rl5, cl5, rfl, hor5, nat5, gn5, hrl5, hnc5, hcl5, Fv5, Fc5, Fn5, A5, Et5, st5⟩ := q5
  have W5 := Ws5 [t5] (allS st5 all0)
  have gw5 : t5 ∈ [a1, t] ∨ s.heap.size ≤ t5 := hor5.elim (fun q => by rw [q]; exact (Or.inl (mI 1 rfl))) (fun q => Or.inr (Nat.le_trans W3.s0le q))
  refine W5.pv hx D 24 2 26 [_, _, _] [_, _] rfl ?_
  refine W5.getF hx (host := "") (Or.inl (B.h 69 rfl)) Via.refl Fn5 rfl rfl (D 26 rfl) (fun T6 W6 => ?_)
  have k8 := (Eb.keep K5)
  have k10 := (E1.keep K5)
  have k11 := (Fv1.keep K5 (ninS nxa nin0))
  have k12 := (Fc1.keep K5 (ninS nxa nin0))
  have k13 := (V1.keep K5 (ninS (nta).symm nin0))
  have S9 : Str Z h5 x2 xs := ⟨t1, kb1, 0, _, _, k10, k11, k12, k13, Or.inl ⟨rfl, rfl, rfl, snd255 hxs⟩, up255 hxs, ln1⟩
  refine W6.pv hx D 29 1 30 [_, _, _] [_, _, _] rfl ?_
  refine W6.callW hx hEL (B.h 76 rfl) (B.h 79 rfl) (B.h 77 rfl) (B.h 40 rfl) (B.h 80 rfl) (by decide +kernel) k8 (a := a1) (argsL := [(.int (Int32.ofNat (ds.length))), (.ref x2)]) (rest := []) (rm61 B a1 t5 kt5 ds rl5 cl5 x2 xs h5 W6.old k8 Fv5 Fc5 A5 hrl5 hcl5 hds (by first | omega | (simp only [LN]; omega)) gn5 S9 hxs) (allS (mI 0 rfl) all0) (by decide +kernel) (Wd := 0) (by decide +kernel) (by decide +kernel) (by decide +kernel) (allS ⟨gn5, gw5⟩ all0) rfl (by rw [hml]; rfl) (lenOf pd13 rfl) rfl (by show 2 * 0 + _ ≤ _; exact Nat.le_of_eq rfl) (D 30 rfl) (fun T7 h7 v7 P7 Ws7 K7 q7 => ?_)
  have W7 := Ws7 [] all0
  obtain ⟨rfl, A7⟩ := q7
  have k14 := (Fn5.keep K7 (ninS nat5 nin0))
  refine W7.pv hx D 33 2 35 [_, _, _] [_, _] rfl ?_
  refine W7.getF hx (host := "") (Or.inl (B.h 69 rfl)) Via.refl k14 rfl rfl (D 35 rfl) (fun T15 W15 => ?_)
  have ea16 : ((Int32.ofNat (ds.length)) + (Int32.ofNat (xs.length))) = (Int32.ofNat (ds.length + xs.length)) := (addN (ds.length) (xs.length)).trans (congrArg Int32.ofNat (by omega))
  have k17 := (k8.keep K7)
  refine W15.pv hx D 38 2 40 [_, _, _] [.int (Int32.ofNat (ds.length + xs.length)), _] (by rw [← ea16]; rfl) ?_
  refine W15.putF hx (host := "") (Or.inl (B.h 69 rfl)) Via.refl k14 k17 (Or.inl (B.h 70 rfl)) (B.h 31 rfl) (ty := .int) (by decide +kernel) rfl rfl g1 (Or.inl (mI 0 rfl)) (Or.inr ⟨by decide, by decide⟩) rfl rfl (D 40 rfl) (fun T18 h18 W18 w18 => ?_)
  have k19 := (Fv5.keep K7 (ninS nat5 nin0))
  have k20 := (Fc5.keep K7 (ninS nat5 nin0))
  have K18 := Keep.of_wr w18
  have k21 := k19.other w18 (Or.inr (slot_ne (Or.inl (B.h 45 rfl)) (Or.inl (B.h 70 rfl)) (by decide +kernel) (t := (.array .byte)) (t' := .int) (by decide +kernel) (by decide +kernel)))
  have k22 := k20.other w18 (Or.inr (slot_ne (Or.inl (B.h 47 rfl)) (Or.inl (B.h 70 rfl)) (by decide +kernel) (t := .byte) (t' := .int) (by decide +kernel) (by decide +kernel)))
  have k23 := k14.same w18
  have k24 := (A7.keep K18 (ninS (nat5).symm nin0))
  have k25 := ((Et5.keep K7).keep K18)
  refine W18.pv hx D 43 1 44 [_, _, _] [_] rfl ?_
  exact W18.retA hx hEL hs hlk (by decide +kernel) (by decide +kernel) hret rfl rfl (D 44 rfl) (fun S hS => ⟨t5, kt5, ds ++ xs, rl5.drop xs.length, cl5, rfl, (hor5.imp id (fun q => Nat.le_trans (Nat.le_refl _) q)), nat5, gn5, rfl, (by first | omega | (simp only [LN]; omega)), hcl5, bApp hds hxs, k21, k22, (by rw [List.length_append]; exact k23), k24, k25, hS _ (mI 0 rfl)⟩)
set_option maxRecDepth 65536 in
set_option maxHeartbeats 40000000 in
theorem rm63 (B : EV l Z a0 zc fm) (a1 t : Addr) (kc : ClassId) (ds : List Int32) (rs : List Value) (cp : Nat) (x2 : Addr) (xs : List Int32) (h0 : Heap) {n0 : Nat} (O0 : Old Z n0 h0) (Eb : Exa Z h0 a1 "java/lang/StringBuilder") (Fvp : Fld Z h0 a1 "java/lang/AbstractStringBuilder" "value" "[B" (.ref t)) (Fcp : Fld Z h0 a1 "java/lang/AbstractStringBuilder" "coder" "B" (.int 0)) (Fnp : Fld Z h0 a1 "java/lang/AbstractStringBuilder" "count" "I" (.int (Int32.ofNat (ds.length)))) (Ab : Arv Z h0 t kc .byte (Int32.ofNat (cp)) (List.map lv ds ++ rs) (.int 0)) (Et : Exa Z h0 t "[B") (hsm : ds.length + rs.length = cp) (hcp : cp ≤ 92) (hds : ∀ c ∈ ds, ¬ c < 0 ∧ ¬ (255 : Int32) < c) (g1 : n0 ≤ a1) (g2 : n0 ≤ t) (nat : a1 ≠ t) (hmx : ds.length + xs.length ≤ 46) (Sx : Str Z h0 x2 xs) (hxs : ∀ c ∈ xs, ¬ c < 0 ∧ ¬ (255 : Int32) < c) :
    Met l Z EL0 n0 (⟨"java/lang/StringBuilder", "append", "(Ljava/lang/String;)Ljava/lang/StringBuilder;"⟩ : MethodName) jdk_67_method_7_code 2 (some (.object "java/lang/StringBuilder")) [] (rO 5 1 92 76) #[(.ref a1), (.ref x2)] h0 [a1, t] [t] (fun v h' S => ∃ (t' : Addr) (kt : ClassId) (dl : List Int32) (rl : List Value) (cl : Nat), v = some (.ref a1) ∧ (t' = t ∨ h0.size ≤ t') ∧ a1 ≠ t' ∧ n0 ≤ t' ∧ dl = ds ++ xs ∧ dl.length + rl.length = cl ∧ cl ≤ 92 ∧ (∀ c ∈ dl, ¬ c < 0 ∧ ¬ (255 : Int32) < c) ∧ Fld Z h' a1 "java/lang/AbstractStringBuilder" "value" "[B" (.ref t') ∧ Fld Z h' a1 "java/lang/AbstractStringBuilder" "coder" "B" (.int 0) ∧ Fld Z h' a1 "java/lang/AbstractStringBuilder" "count" "I" (.int (Int32.ofNat (dl.length))) ∧ Arv Z h' t' kt .byte (Int32.ofNat (cl)) (List.map lv dl ++ rl) (.int 0) ∧ Exa Z h' t' "[B" ∧ S t') := by
  obtain ⟨hw, hEL, SC, hzc, SF, rfm⟩ := id B
  refine Met.of (plainFor_of_name pn3) O0 ?_
  intro p e s m below meth c T0 hx hby hml hret hlk hnm hs W0
  have W0 : Wk p l e _ s m _ below meth c Z EL0 n0 [a1, t] "java/lang/StringBuilder" [t] T0 0 0 h0 := W0
  have D := @tk c _ _ hby Kq25
  refine Go.of (fun _ kk => castTop (ef21 m a1 x2) kk) ?_
  refine W0.pv hx D 0 2 2 [_, _] [_, _] rfl ?_
  refine W0.callU hx hEL (B.h 53 rfl) (B.h 55 rfl) (B.h 74 rfl) rfl (by decide +kernel) (B.h 54 rfl) (B.h 40 rfl) (B.h 57 rfl) (by decide +kernel) Eb (a := a1) (argsL := [(.ref x2)]) (rest := []) (rm62 B a1 t kc ds rs cp x2 xs h0 W0.old Eb Fvp Fcp Fnp Ab Et hsm hcp hds g1 g2 nat (by first | omega | (simp only [LN]; omega)) Sx hxs) (allS (mI 0 rfl) all0) (by decide +kernel) (Wd := 0) (by decide +kernel) (by decide +kernel) (by decide +kernel) (allS ⟨g1, (Or.inl (mI 0 rfl))⟩ (allS ⟨g2, (Or.inl (mI 1 rfl))⟩ all0)) rfl (by rw [hml]; rfl) (lenOf pd14 rfl) rfl (by show 2 * 0 + _ ≤ _; exact Nat.le_of_eq rfl) (D 2 rfl) (fun T1 h1 v1 P1 Ws1 K1 q1 => ?_)
  obtain ⟨t1, kt1, dl1, rl1, cl1, rfl, hor1, nat1, gn1, edl1, hrl1, hcl1, hbl1, Fv1, Fc1, Fn1, A1, Et1, st1⟩ := q1
  have W1 := Ws1 [t1] (allS st1 all0)
  have gw1 : t1 ∈ [a1, t] ∨ s.heap.size ≤ t1 := hor1.elim (fun q => by rw [q]; exact (Or.inl (mI 1 rfl))) (fun q => Or.inr (Nat.le_trans W0.s0le q))
  have eln1 : dl1.length = ds.length + xs.length := by rw [edl1]; simp only [List.length_append, List.length_cons, List.length_nil, dgl_len] <;> omega
  refine W1.pv hx D 5 2 7 [_, _] [_] rfl ?_
  exact W1.retA hx hEL hs hlk (by decide +kernel) (by decide +kernel) hret rfl rfl (D 7 rfl) (fun S hS => ⟨t1, kt1, dl1, rl1, cl1, rfl, (hor1.imp id (fun q => Nat.le_trans (Nat.le_refl _) q)), nat1, gn1, edl1, hrl1, hcl1, hbl1, Fv1, Fc1, Fn1, A1, Et1, hS _ (mI 0 rfl)⟩)
theorem ef70 (m : MethodId) (x0 : Addr) (x1 x2 : Int32)  : entryFrame m #[(.ref x0), (.int x1), (.int x2)] 5 = mkF m 0 #[vr x0, vi x1, vi x2, U0, U0] [] := by first | (simp [entryFrame, mkF, argsToLocals, Value.category]; done) | rfl | rfl
set_option maxRecDepth 65536 in
set_option maxHeartbeats 40000000 in
theorem rm70 (B : EV l Z a0 zc fm) (t : Addr) (kc : ClassId) (vl : List Value) (zz ea : Nat) (h0 : Heap) {n0 : Nat} (O0 : Old Z n0 h0) (Ab : Arv Z h0 t kc .byte (Int32.ofNat (zz)) vl (.int 0)) (hzz : zz = vl.length ∧ zz ≤ 92 ∧ ea ≤ zz) :
    Met l Z EL0 n0 (⟨"java/util/Arrays", "copyOfRangeByte", "([BII)[B"⟩ : MethodName) jdk_65_method_133_code 5 (some (.array .byte)) [] (rO 1 1 92 18) #[(.ref t), (.int 0), (.int (Int32.ofNat (ea)))] h0 [] [] (fun v h' S => ∃ (r : Addr) (kr : ClassId), v = some (.ref r) ∧ h0.size ≤ r ∧ Arv Z h' r kr .byte (Int32.ofNat (ea)) (vl.take ea) (.int 0)) := by
  obtain ⟨hw, hEL, SC, hzc, SF, rfm⟩ := id B
  refine Met.of (plainFor_of_name pn4) O0 ?_
  intro p e s m below meth c T0 hx hby hml hret hlk hnm hs W0
  have W0 : Wk p l e _ s m _ below meth c Z EL0 n0 [] "java/util/Arrays" [] T0 0 0 h0 := W0
  have D := @tk c _ _ hby Kq26
  refine Go.of (fun _ kk => castTop (ef70 m t (0 : Int32) (Int32.ofNat (ea))) kk) ?_
  refine W0.pv hx D 0 2 2 [_, _, _, _, _] [_, .int 0] rfl ?_
  refine W0.kS hx hEL (B.h 190 rfl) (B.h 191 rfl) (B.h 114 rfl) (B.h 192 rfl) [(.int 0), (.int (Int32.ofNat (ea)))] [] (rm40 B 0 ea h0 W0.old (by first | omega | (simp only [LN]; omega))) all0 0 (by decide +kernel) all0 hml (lenOf pd15 rfl) (D 2 rfl) ⟨rfl, rfl, rfl, rfl⟩ (fun T1 h1 v1 P1 Ws1 K1 q1 => ?_)
  have W1 := Ws1 [] all0
  obtain ⟨rfl, rfl⟩ := q1
  have ea2 : ((Int32.ofNat (ea)) - (0 : Int32)) = (Int32.ofNat (ea - 0)) := subN (a := ea) (b := 0) (by first | omega | (simp only [LN]; omega))
  refine W1.pv hx D 5 5 10 [_, _, _, vi (Int32.ofNat (ea - 0)), _] [.int (Int32.ofNat (ea - 0))] (by rw [← ea2]; rfl) ?_
  refine W1.newP hx (B.h 19 rfl) rfl (D 10 rfl) rfl (nltN (a := ea - 0) (b := 0) (by omega)) (cap := 92) (clamp1 (a := ea - 0) (by omega)) (by decide +kernel) (by decide +kernel) (by decide +kernel) (fun T3 h3 b3 c3 eb3 gb3 W3 K3 A3 => ?_)
  have V3 : Arv Z h3 b3 c3 .byte (Int32.ofNat (ea - 0)) [(.int 0), (.int 0), (.int 0), (.int 0), (.int 0), (.int 0), (.int 0), (.int 0), (.int 0), (.int 0), (.int 0), (.int 0), (.int 0), (.int 0), (.int 0), (.int 0), (.int 0), (.int 0), (.int 0), (.int 0), (.int 0), (.int 0), (.int 0), (.int 0), (.int 0), (.int 0), (.int 0), (.int 0), (.int 0), (.int 0), (.int 0), (.int 0), (.int 0), (.int 0), (.int 0), (.int 0), (.int 0), (.int 0), (.int 0), (.int 0), (.int 0), (.int 0), (.int 0), (.int 0), (.int 0), (.int 0), (.int 0), (.int 0), (.int 0), (.int 0), (.int 0), (.int 0), (.int 0), (.int 0), (.int 0), (.int 0), (.int 0), (.int 0), (.int 0), (.int 0), (.int 0), (.int 0), (.int 0), (.int 0), (.int 0), (.int 0), (.int 0), (.int 0), (.int 0), (.int 0), (.int 0), (.int 0), (.int 0), (.int 0), (.int 0), (.int 0), (.int 0), (.int 0), (.int 0), (.int 0), (.int 0), (.int 0), (.int 0), (.int 0), (.int 0), (.int 0), (.int 0), (.int 0), (.int 0), (.int 0), (.int 0), (.int 0)] (.int 0) := A3
  have k4 := (Ab.keep K3 nin0)
  refine W3.pv hx D 12 6 20 [_, _, _, _, _] [_, .int 0, _, .int 0, _] rfl ?_
  refine W3.alen hx k4 rfl rfl (D 20 rfl) ?_
  have ea5 : ((Int32.ofNat (zz)) - (0 : Int32)) = (Int32.ofNat (zz - 0)) := subN (a := zz) (b := 0) (by first | omega | (simp only [LN]; omega))
  refine W3.pv hx D 21 3 24 [_, _, _, _, _] [_, .int (Int32.ofNat (zz - 0)), _, _, _, _] (by rw [← ea5]; rfl) ?_
  refine W3.kS hx hEL (B.h 116 rfl) (B.h 117 rfl) (B.h 108 rfl) (B.h 118 rfl) [(.int (Int32.ofNat (zz - 0))), (.int (Int32.ofNat (ea - 0)))] [(.int 0), (.ref b3), (.int 0), (.ref t)] (rm41 B (zz - 0) (ea - 0) h3 W3.old (by first | omega | (simp only [LN]; omega))) all0 4 (by decide +kernel) all0 hml (lenOf pd7 rfl) (D 24 rfl) ⟨rfl, rfl, rfl, rfl⟩ (fun T6 h6 v6 P6 Ws6 K6 q6 => ?_)
  have W6 := Ws6 [] all0
  obtain ⟨rfl, rfl⟩ := q6
  refine W6.cp hx (B.h 119 rfl) (B.h 95 rfl) (B.h 93 rfl) (B.h 94 rfl) (us := ((vl.drop (0)).take (min (zz - 0) (ea - 0)))) (vs := vl) (vd := [(.int 0), (.int 0), (.int 0), (.int 0), (.int 0), (.int 0), (.int 0), (.int 0), (.int 0), (.int 0), (.int 0), (.int 0), (.int 0), (.int 0), (.int 0), (.int 0), (.int 0), (.int 0), (.int 0), (.int 0), (.int 0), (.int 0), (.int 0), (.int 0), (.int 0), (.int 0), (.int 0), (.int 0), (.int 0), (.int 0), (.int 0), (.int 0), (.int 0), (.int 0), (.int 0), (.int 0), (.int 0), (.int 0), (.int 0), (.int 0), (.int 0), (.int 0), (.int 0), (.int 0), (.int 0), (.int 0), (.int 0), (.int 0), (.int 0), (.int 0), (.int 0), (.int 0), (.int 0), (.int 0), (.int 0), (.int 0), (.int 0), (.int 0), (.int 0), (.int 0), (.int 0), (.int 0), (.int 0), (.int 0), (.int 0), (.int 0), (.int 0), (.int 0), (.int 0), (.int 0), (.int 0), (.int 0), (.int 0), (.int 0), (.int 0), (.int 0), (.int 0), (.int 0), (.int 0), (.int 0), (.int 0), (.int 0), (.int 0), (.int 0), (.int 0), (.int 0), (.int 0), (.int 0), (.int 0), (.int 0), (.int 0), (.int 0)]) k4 V3 rfl (nltN (a := 0) (b := 0) (by first | omega | (simp only [LN]; omega))) (nltN (a := 0) (b := 0) (by first | omega | (simp only [LN]; omega))) (nltN (a := min (zz - 0) (ea - 0)) (b := 0) (by first | omega | (simp only [LN]; omega))) (clamp3 (a := 0) (b := min (zz - 0) (ea - 0)) (c := zz) (by first | omega | (simp only [LN]; omega))) (clamp3 (a := 0) (b := min (zz - 0) (ea - 0)) (c := ea - 0) (by first | omega | (simp only [LN]; omega))) (usV (s := 0) (k := min (zz - 0) (ea - 0)) (by first | omega | (simp only [LN]; omega))) (clamp2 (a := 0) (b := min (zz - 0) (ea - 0)) (by first | omega | (simp only [LN]; omega))) gb3.1 (Or.inr gb3.2) (mI 0 rfl) rfl (by rw [hml]; rfl) rfl (D 27 rfl) (by decide +kernel) (Wd := 0) (by show 2 * 0 + _ ≤ _; exact Nat.le_of_eq rfl) (by decide +kernel) (fun T7 h7 W7 K7 A7 => ?_)
  have V7 : Arv Z h7 b3 c3 .byte (Int32.ofNat (ea - 0)) ([(.int 0), (.int 0), (.int 0), (.int 0), (.int 0), (.int 0), (.int 0), (.int 0), (.int 0), (.int 0), (.int 0), (.int 0), (.int 0), (.int 0), (.int 0), (.int 0), (.int 0), (.int 0), (.int 0), (.int 0), (.int 0), (.int 0), (.int 0), (.int 0), (.int 0), (.int 0), (.int 0), (.int 0), (.int 0), (.int 0), (.int 0), (.int 0), (.int 0), (.int 0), (.int 0), (.int 0), (.int 0), (.int 0), (.int 0), (.int 0), (.int 0), (.int 0), (.int 0), (.int 0), (.int 0), (.int 0), (.int 0), (.int 0), (.int 0), (.int 0), (.int 0), (.int 0), (.int 0), (.int 0), (.int 0), (.int 0), (.int 0), (.int 0), (.int 0), (.int 0), (.int 0), (.int 0), (.int 0), (.int 0), (.int 0), (.int 0), (.int 0), (.int 0), (.int 0), (.int 0), (.int 0), (.int 0), (.int 0), (.int 0), (.int 0), (.int 0), (.int 0), (.int 0), (.int 0), (.int 0), (.int 0), (.int 0), (.int 0), (.int 0), (.int 0), (.int 0), (.int 0), (.int 0), (.int 0), (.int 0), (.int 0), (.int 0)].take (0) ++ ((vl.drop (0)).take (min (zz - 0) (ea - 0))) ++ [(.int 0), (.int 0), (.int 0), (.int 0), (.int 0), (.int 0), (.int 0), (.int 0), (.int 0), (.int 0), (.int 0), (.int 0), (.int 0), (.int 0), (.int 0), (.int 0), (.int 0), (.int 0), (.int 0), (.int 0), (.int 0), (.int 0), (.int 0), (.int 0), (.int 0), (.int 0), (.int 0), (.int 0), (.int 0), (.int 0), (.int 0), (.int 0), (.int 0), (.int 0), (.int 0), (.int 0), (.int 0), (.int 0), (.int 0), (.int 0), (.int 0), (.int 0), (.int 0), (.int 0), (.int 0), (.int 0), (.int 0), (.int 0), (.int 0), (.int 0), (.int 0), (.int 0), (.int 0), (.int 0), (.int 0), (.int 0), (.int 0), (.int 0), (.int 0), (.int 0), (.int 0), (.int 0), (.int 0), (.int 0), (.int 0), (.int 0), (.int 0), (.int 0), (.int 0), (.int 0), (.int 0), (.int 0), (.int 0), (.int 0), (.int 0), (.int 0), (.int 0), (.int 0), (.int 0), (.int 0), (.int 0), (.int 0), (.int 0), (.int 0), (.int 0), (.int 0), (.int 0), (.int 0), (.int 0), (.int 0), (.int 0), (.int 0)].drop (0 + (min (zz - 0) (ea - 0)))) (.int 0) := arvN (D := 0) (N := min (zz - 0) (ea - 0)) A7 (by first | omega | (simp only [LN]; omega)) (by first | omega | (simp only [LN]; omega))
  refine W7.pv hx D 30 1 32 [_, _, _, _, _] [_] rfl ?_
  exact W7.retA hx hEL hs hlk (by decide +kernel) (by decide +kernel) hret rfl rfl (D 32 rfl) (fun S hS => ⟨b3, c3, rfl, hs ▸ gb3.2, (arvPad0 (n := 92) (by rw [show (vl.take ea).length = ea from (by first | omega | (simp only [LN]; omega))]; have q := V7; rw [show min (zz - 0) (ea - 0) = ea from by omega] at q; exact q))⟩)
theorem ef71 (m : MethodId) (x0 : Addr) (x1 x2 : Int32)  : entryFrame m #[(.ref x0), (.int x1), (.int x2)] 3 = mkF m 0 #[vr x0, vi x1, vi x2] [] := by first | (simp [entryFrame, mkF, argsToLocals, Value.category]; done) | rfl | rfl
set_option maxRecDepth 65536 in
set_option maxHeartbeats 40000000 in
theorem rm71 (B : EV l Z a0 zc fm) (t : Addr) (kc : ClassId) (vl : List Value) (zz ea : Nat) (h0 : Heap) {n0 : Nat} (O0 : Old Z n0 h0) (Ab : Arv Z h0 t kc .byte (Int32.ofNat (zz)) vl (.int 0)) (Et : Exa Z h0 t "[B") (hzz : zz = vl.length ∧ zz ≤ 92 ∧ ea ≤ zz) :
    Met l Z EL0 n0 (⟨"java/util/Arrays", "copyOfRange", "([BII)[B"⟩ : MethodName) jdk_65_method_132_code 3 (some (.array .byte)) [] (rO 2 1 92 34) #[(.ref t), (.int 0), (.int (Int32.ofNat (ea)))] h0 [] [] (fun v h' S => ∃ (r : Addr) (kr : ClassId), v = some (.ref r) ∧ h0.size ≤ r ∧ Arv Z h' r kr .byte (Int32.ofNat (ea)) (vl.take ea) (.int 0)) := by
  obtain ⟨hw, hEL, SC, hzc, SF, rfm⟩ := id B
  refine Met.of (plainFor_of_name pn4) O0 ?_
  intro p e s m below meth c T0 hx hby hml hret hlk hnm hs W0
  have W0 : Wk p l e _ s m _ below meth c Z EL0 n0 [] "java/util/Arrays" [] T0 0 0 h0 := W0
  have D := @tk c _ _ hby Kq27
  refine Go.of (fun _ kk => castTop (ef71 m t (0 : Int32) (Int32.ofNat (ea))) kk) ?_
  refine W0.pu hx D 0 [(1, false)] 2 6 [_, _, _] [_, _] rfl ⟨trivial, (XT.i0_ne_f (by decide +kernel))⟩ ?_
  refine W0.alen hx Ab rfl rfl (D 6 rfl) ?_
  show Go p e below _ (T0.setTop (mkF m 7 #[vr t, vi 0, vi (Int32.ofNat (ea))] [(.int (Int32.ofNat (zz))), (.int (Int32.ofNat (ea)))]))
  by_cases c1 : ea = zz
  · refine W0.pu hx D 7 [(0, true)] 1 18 [_, _, _] [_] rfl ⟨trivial, (XT.ii_eq_t (eqN (a := ea) (b := zz) (by first | omega | (simp only [LN]; omega))))⟩ ?_
    refine W0.cloneV hx (B.h 271 rfl) (B.h 272 rfl) (B.h 276 rfl) (B.h 274 rfl) (B.h 275 rfl) (B.h 277 rfl) Ab Et (fitArv Ab) rfl (by rw [hml]; rfl) rfl (D 18 rfl) (by decide +kernel) (Wd := 0) (cap := 92) (by show 2 * 0 + _ ≤ _; exact Nat.le_of_eq rfl) (by decide +kernel) (clamp1 (a := zz) (by omega)) (by decide +kernel) (by decide +kernel) (fun T2 h2 b2 eb2 gb2 W2 K2 A2 E2 => ?_)
    refine W2.castY hx (B.h 278 rfl) (Ins.self E2) rfl rfl (D 21 rfl) (fun T3 W3 => ?_)
    show Go p e below _ (T3.setTop (mkF m 24 #[vr t, vi 0, vi (Int32.ofNat (ea))] [(.ref b2)]))
    exact W3.retA hx hEL hs hlk (by decide +kernel) (by decide +kernel) hret rfl rfl (D 24 rfl) (fun S hS => ⟨b2, kc, rfl, hs ▸ gb2.2, (by rw [c1, List.take_of_length_le (Nat.le_of_eq hzz.1.symm)]; exact A2)⟩)
  · refine W0.pu hx D 7 [(0, false)] 3 13 [_, _, _] [_, .int 0, _] rfl ⟨trivial, (XT.ii_eq_f (neN (a := ea) (b := zz) (by first | omega | (simp only [LN]; omega))))⟩ ?_
    refine W0.kS hx hEL (B.h 187 rfl) (B.h 188 rfl) (B.h 114 rfl) (B.h 189 rfl) [(.ref t), (.int 0), (.int (Int32.ofNat (ea)))] [] (rm70 B t kc vl zz ea h0 W0.old Ab (by first | omega | (simp only [LN]; omega))) all0 0 (by decide +kernel) all0 hml (lenOf pd16 rfl) (D 13 rfl) ⟨rfl, rfl, rfl, rfl⟩ (fun T4 h4 v4 P4 Ws4 K4 q4 => ?_)
    have W4 := Ws4 [] all0
    obtain ⟨r4, kr4, rfl, lr4, A4⟩ := q4
    have gr4 : n0 ≤ r4 ∧ s.heap.size ≤ r4 := ⟨Nat.le_trans W0.n0le lr4, Nat.le_trans W0.s0le lr4⟩
    show Go p e below _ (T4.setTop (mkF m 16 #[vr t, vi 0, vi (Int32.ofNat (ea))] [(.ref r4)]))
    exact W4.retA hx hEL hs hlk (by decide +kernel) (by decide +kernel) hret rfl rfl (D 16 rfl) (fun S hS => ⟨r4, kr4, rfl, hs ▸ gr4.2, A4⟩)
theorem ef72 (m : MethodId) (x0 x1 : Addr)  : entryFrame m #[(.ref x0), (.ref x1), .null] 5 = mkF m 0 #[vr x0, vr x1, vN, U0, U0] [] := by first | (simp [entryFrame, mkF, argsToLocals, Value.category]; done) | rfl | rfl
set_option maxRecDepth 65536 in
set_option maxHeartbeats 40000000 in
theorem rm72 (B : EV l Z a0 zc fm) (x1 a1 t : Addr) (kc : ClassId) (ds : List Int32) (rs : List Value) (cp : Nat) (h0 : Heap) {n0 : Nat} (O0 : Old Z n0 h0) (Eb : Exa Z h0 a1 "java/lang/StringBuilder") (Fvp : Fld Z h0 a1 "java/lang/AbstractStringBuilder" "value" "[B" (.ref t)) (Fcp : Fld Z h0 a1 "java/lang/AbstractStringBuilder" "coder" "B" (.int 0)) (Fnp : Fld Z h0 a1 "java/lang/AbstractStringBuilder" "count" "I" (.int (Int32.ofNat (ds.length)))) (Ab : Arv Z h0 t kc .byte (Int32.ofNat (cp)) (List.map lv ds ++ rs) (.int 0)) (Et : Exa Z h0 t "[B") (hsm : ds.length + rs.length = cp) (hcp : cp ≤ 92) (hds : ∀ c ∈ ds, ¬ c < 0 ∧ ¬ (255 : Int32) < c) (Exx : Exa Z h0 x1 "java/lang/String") (Fxv : Fld Z h0 x1 "java/lang/String" "value" "[B" .null) (Fxc : Fld Z h0 x1 "java/lang/String" "coder" "B" (.int 0)) (gxx : n0 ≤ x1) (nx1 : x1 ≠ a1) (nx2 : x1 ≠ t) :
    Met l Z EL0 n0 (⟨"java/lang/String", "<init>", "(Ljava/lang/AbstractStringBuilder;Ljava/lang/Void;)V"⟩ : MethodName) jdk_42_method_150_code 5 none [] (rO 3 1 92 49) #[(.ref x1), (.ref a1), .null] h0 [x1] [x1] (fun v h' S => v = none ∧ Str Z h' x1 ds) := by
  obtain ⟨hw, hEL, SC, hzc, SF, rfm⟩ := id B
  refine Met.of (plainFor_of_name pn0) O0 ?_
  intro p e s m below meth c T0 hx hby hml hret hlk hnm hs W0
  have W0 : Wk p l e _ s m _ below meth c Z EL0 n0 [x1] "java/lang/String" [x1] T0 0 0 h0 := W0
  have D := @tk c _ _ hby Kq28
  refine Go.of (fun _ kk => castTop (ef72 m x1 a1) kk) ?_
  refine W0.pv hx D 0 1 1 [_, _, _, _, _] [_] rfl ?_
  refine W0.initO hx (B.h 15 rfl) (B.h 16 rfl) (B.h 17 rfl) rfl (by rw [hml]; rfl) rfl (D 1 rfl) (by decide +kernel) (Wd := 0) (by show 2 * 0 + _ ≤ _; exact Nat.le_of_eq rfl) (by decide +kernel) (fun T1 W1 => ?_)
  refine W1.pv hx D 4 1 5 [_, _, _, _, _] [_] rfl ?_
  refine W1.kV hx hEL (B.h 170 rfl) (B.h 171 rfl) (B.h 173 rfl) (B.h 172 rfl) (B.h 40 rfl) (B.h 174 rfl) Eb [] [] (rm33 B a1 t h0 W1.old Fvp) all0 0 (by decide +kernel) all0 hml (lenOf pd17 rfl) (D 5 rfl) ⟨rfl, rfl, rfl, rfl⟩ (fun T2 h2 v2 P2 Ws2 K2 q2 => ?_)
  have W2 := Ws2 [] all0
  obtain ⟨rfl, rfl⟩ := q2
  refine W2.pv hx D 8 2 10 [_, _, _, _, _] [_] rfl ?_
  refine W2.callL hx hEL (B.h 175 rfl) (B.h 176 rfl) (B.h 178 rfl) (B.h 179 rfl) (B.h 32 rfl) (B.h 180 rfl) (B.h 74 rfl) rfl (by decide +kernel) Eb (a := a1) (argsL := []) (rest := []) (rm36 B a1 (Int32.ofNat (ds.length)) h0 W2.old Eb Fnp) all0 (by decide +kernel) (Wd := 0) (by decide +kernel) (by decide +kernel) (by decide +kernel) all0 rfl (by rw [hml]; rfl) (lenOf pd5 rfl) rfl (by show 2 * 0 + _ ≤ _; exact Nat.le_of_eq rfl) (D 10 rfl) (fun T3 h3 v3 P3 Ws3 K3 q3 => ?_)
  have W3 := Ws3 [] all0
  obtain ⟨rfl, rfl⟩ := q3
  refine W3.pv hx D 13 2 16 [_, _, _, _, _] [_] rfl ?_
  refine W3.kV hx hEL (B.h 183 rfl) (B.h 147 rfl) (B.h 149 rfl) (B.h 148 rfl) (B.h 40 rfl) (B.h 150 rfl) Eb [] [] (rm34 B a1 h0 W3.old Fcp) all0 0 (by decide +kernel) all0 hml (lenOf pd18 rfl) (D 16 rfl) ⟨rfl, rfl, rfl, rfl⟩ (fun T4 h4 v4 P4 Ws4 K4 q4 => ?_)
  have W4 := Ws4 [] all0
  obtain ⟨rfl, rfl⟩ := q4
  refine W4.pu hx D 19 [(0, false)] 2 24 [_, _, _, _, _] [.int 0, _] rfl ⟨trivial, (XT.i0_eq_f (by decide +kernel))⟩ ?_
  refine W4.putF hx (host := "") (Or.inl (B.h 25 rfl)) Via.refl Fxc Exx (Or.inr ⟨(B.h 21 rfl), rfl, hnm⟩) (B.h 5 rfl) (ty := .byte) (by decide +kernel) rfl rfl gxx (Or.inl (mI 0 rfl)) (Or.inl (mI 0 rfl)) rfl rfl (D 24 rfl) (fun T5 h5 W5 w5 => ?_)
  have K5 := Keep.of_wr w5
  have k6 := Fxv.other w5 (Or.inr (slot_ne (Or.inr (B.h 20 rfl)) (Or.inr (B.h 21 rfl)) (by decide +kernel) (t := (.array .byte)) (t' := .byte) (by decide +kernel) (by decide +kernel)))
  have k7 := Fxc.same w5
  have k9 := (Ab.keep K5 (ninS (nx2).symm nin0))
  have k10 := (Et.keep K5)
  refine W5.pv hx D 27 4 32 [_, _, _, _, _] [_, .int 0, _, _] rfl ?_
  refine W5.kS hx hEL (B.h 184 rfl) (B.h 185 rfl) (B.h 114 rfl) (B.h 186 rfl) [(.ref t), (.int 0), (.int (Int32.ofNat (ds.length)))] [(.ref x1)] (rm71 B t kc (List.map lv ds ++ rs) cp ds.length h5 W5.old k9 k10 (by first | omega | (simp only [LN]; omega))) all0 1 (by decide +kernel) all0 hml (lenOf pd16 rfl) (D 32 rfl) ⟨rfl, rfl, rfl, rfl⟩ (fun T8 h8 v8 P8 Ws8 K8 q8 => ?_)
  have W8 := Ws8 [] all0
  obtain ⟨r8, kr8, rfl, lr8, A8⟩ := q8
  have gr8 : n0 ≤ r8 ∧ s.heap.size ≤ r8 := ⟨Nat.le_trans W5.n0le lr8, Nat.le_trans W5.s0le lr8⟩
  have k11 := (k6.keep K8 nin0)
  have k12 := ((Exx.keep K5).keep K8)
  refine W8.putF hx (host := "") (Or.inl (B.h 24 rfl)) Via.refl k11 k12 (Or.inr ⟨(B.h 20 rfl), rfl, hnm⟩) (B.h 5 rfl) (ty := (.array .byte)) (by decide +kernel) rfl rfl gxx (Or.inl (mI 0 rfl)) (Or.inl (mI 0 rfl)) rfl rfl (D 35 rfl) (fun T13 h13 W13 w13 => ?_)
  have k14 := (k7.keep K8 nin0)
  have K13 := Keep.of_wr w13
  have k15 := k14.other w13 (Or.inr (slot_ne (Or.inr (B.h 21 rfl)) (Or.inr (B.h 20 rfl)) (by decide +kernel) (t := .byte) (t' := (.array .byte)) (by decide +kernel) (by decide +kernel)))
  have k16 := k11.same w13
  have k17 := (k12.keep K13)
  have k18 := (A8.keep K13 (ninS (ne_of_born lr8 Exx.lt K5.1).symm nin0))
  refine W13.pv hx D 38 1 97 [_, _, _, _, _] [] rfl ?_
  exact W13.retV hx hEL hs hlk (by decide +kernel) (by decide +kernel) hret (D 97 rfl) (fun S hS => ⟨rfl, r8, kr8, 0, Int32.ofNat ds.length, List.map lv ds, k17, k16, k15, (by have q := k18; rw [tkD ds rs] at q; exact q), Or.inl ⟨rfl, rfl, rfl, snd255 hds⟩, up255 hds, by omega⟩)
set_option maxRecDepth 65536 in
set_option maxHeartbeats 40000000 in
theorem rm73 (B : EV l Z a0 zc fm) (x1 a1 t : Addr) (kc : ClassId) (ds : List Int32) (rs : List Value) (cp : Nat) (h0 : Heap) {n0 : Nat} (O0 : Old Z n0 h0) (Eb : Exa Z h0 a1 "java/lang/StringBuilder") (Fvp : Fld Z h0 a1 "java/lang/AbstractStringBuilder" "value" "[B" (.ref t)) (Fcp : Fld Z h0 a1 "java/lang/AbstractStringBuilder" "coder" "B" (.int 0)) (Fnp : Fld Z h0 a1 "java/lang/AbstractStringBuilder" "count" "I" (.int (Int32.ofNat (ds.length)))) (Ab : Arv Z h0 t kc .byte (Int32.ofNat (cp)) (List.map lv ds ++ rs) (.int 0)) (Et : Exa Z h0 t "[B") (hsm : ds.length + rs.length = cp) (hcp : cp ≤ 92) (hds : ∀ c ∈ ds, ¬ c < 0 ∧ ¬ (255 : Int32) < c) (Exx : Exa Z h0 x1 "java/lang/String") (Fxv : Fld Z h0 x1 "java/lang/String" "value" "[B" .null) (Fxc : Fld Z h0 x1 "java/lang/String" "coder" "B" (.int 0)) (gxx : n0 ≤ x1) (nx1 : x1 ≠ a1) (nx2 : x1 ≠ t) :
    Met l Z EL0 n0 (⟨"java/lang/String", "<init>", "(Ljava/lang/StringBuilder;)V"⟩ : MethodName) jdk_42_method_53_code 2 none [] (rO 4 1 92 65) #[(.ref x1), (.ref a1)] h0 [x1] [x1] (fun v h' S => v = none ∧ Str Z h' x1 ds) := by
  obtain ⟨hw, hEL, SC, hzc, SF, rfm⟩ := id B
  refine Met.of (plainFor_of_name pn0) O0 ?_
  intro p e s m below meth c T0 hx hby hml hret hlk hnm hs W0
  have W0 : Wk p l e _ s m _ below meth c Z EL0 n0 [x1] "java/lang/String" [x1] T0 0 0 h0 := W0
  have D := @tk c _ _ hby Kq29
  refine Go.of (fun _ kk => castTop (ef21 m x1 a1) kk) ?_
  refine W0.pv hx D 0 3 3 [_, _] [.null, _, _] rfl ?_
  refine W0.kP hx hEL rfl (B.h 167 rfl) (B.h 168 rfl) (B.h 6 rfl) (B.h 169 rfl) (a := x1) [(.ref a1), .null] [] (rm72 B x1 a1 t kc ds rs cp h0 W0.old Eb Fvp Fcp Fnp Ab Et hsm hcp hds Exx Fxv Fxc gxx nx1 nx2) (allS (mI 0 rfl) all0) 0 (by decide +kernel) (allS ⟨gxx, (Or.inl (mI 0 rfl))⟩ all0) hml (lenOf pd19 rfl) (D 3 rfl) ⟨rfl, rfl, rfl, rfl⟩ (fun T1 h1 v1 P1 Ws1 K1 q1 => ?_)
  have W1 := Ws1 [] all0
  obtain ⟨rfl, S1⟩ := q1
  show Go p e below _ (T1.setTop (mkF m 6 #[vr x1, vr a1] []))
  exact W1.retV hx hEL hs hlk (by decide +kernel) (by decide +kernel) hret (D 6 rfl) (fun S hS => ⟨rfl, S1⟩)
set_option maxRecDepth 65536 in
set_option maxHeartbeats 40000000 in
theorem rm74 (B : EV l Z a0 zc fm) (a1 t : Addr) (kc : ClassId) (ds : List Int32) (rs : List Value) (cp : Nat) (h0 : Heap) {n0 : Nat} (O0 : Old Z n0 h0) (Eb : Exa Z h0 a1 "java/lang/StringBuilder") (Fvp : Fld Z h0 a1 "java/lang/AbstractStringBuilder" "value" "[B" (.ref t)) (Fcp : Fld Z h0 a1 "java/lang/AbstractStringBuilder" "coder" "B" (.int 0)) (Fnp : Fld Z h0 a1 "java/lang/AbstractStringBuilder" "count" "I" (.int (Int32.ofNat (ds.length)))) (Ab : Arv Z h0 t kc .byte (Int32.ofNat (cp)) (List.map lv ds ++ rs) (.int 0)) (Et : Exa Z h0 t "[B") (hsm : ds.length + rs.length = cp) (hcp : cp ≤ 92) (hds : ∀ c ∈ ds, ¬ c < 0 ∧ ¬ (255 : Int32) < c) :
    Met l Z EL0 n0 (⟨"java/lang/StringBuilder", "toString", "()Ljava/lang/String;"⟩ : MethodName) jdk_67_method_42_code 1 (some (.object "java/lang/String")) [] (rO 5 2 96 79) #[(.ref a1)] h0 [] [] (fun v h' S => ∃ r : Addr, v = some (.ref r) ∧ h0.size ≤ r ∧ Str Z h' r ds) := by
  obtain ⟨hw, hEL, SC, hzc, SF, rfm⟩ := id B
  refine Met.of (plainFor_of_name pn3) O0 ?_
  intro p e s m below meth c T0 hx hby hml hret hlk hnm hs W0
  have W0 : Wk p l e _ s m _ below meth c Z EL0 n0 [] "java/lang/StringBuilder" [] T0 0 0 h0 := W0
  have D := @tk c _ _ hby Kq30
  refine Go.of (fun _ kk => castTop (ef3 m a1) kk) ?_
  refine W0.newO hx (B.h 163 rfl) (B.h 5 rfl) (B.h 6 rfl) rfl (D 0 rfl) (by decide +kernel) (by decide +kernel) (fun T1 h1 b1 eb1 gb1 W1 K1 E1 D1 => ?_)
  have k2 : Fld Z h1 b1 "java/lang/String" "value" "[B" .null := D1 (Or.inr (B.h 20 rfl)) (ty := (.array .byte)) (by decide +kernel)
  have k3 : Fld Z h1 b1 "java/lang/String" "coder" "B" (.int 0) := D1 (Or.inr (B.h 21 rfl)) (ty := .byte) (by decide +kernel)
  have k5 := (Eb.keep K1)
  have k6 := (Fvp.keep K1 nin0)
  have k7 := (Fcp.keep K1 nin0)
  have k8 := (Fnp.keep K1 nin0)
  have k9 := (Ab.keep K1 nin0)
  have k10 := (Et.keep K1)
  refine W1.pv hx D 3 2 5 [_] [_, _, _] rfl ?_
  refine W1.kP hx hEL rfl (B.h 164 rfl) (B.h 165 rfl) (B.h 6 rfl) (B.h 166 rfl) (a := b1) [(.ref a1)] [(.ref b1)] (rm73 B b1 a1 t kc ds rs cp h1 W1.old k5 k6 k7 k8 k9 k10 hsm hcp hds E1 k2 k3 gb1.1 (ne_of_born (Nat.le_of_eq eb1.symm) Eb.lt (Nat.le_refl _)).symm (ne_of_born (Nat.le_of_eq eb1.symm) Ab.lt (Nat.le_refl _)).symm) (allS (mI 0 rfl) all0) 1 (by decide +kernel) (allS ⟨gb1.1, (Or.inr gb1.2)⟩ all0) hml (lenOf pd20 rfl) (D 5 rfl) ⟨rfl, rfl, rfl, rfl⟩ (fun T4 h4 v4 P4 Ws4 K4 q4 => ?_)
  have W4 := Ws4 [] all0
  obtain ⟨rfl, S4⟩ := q4
  show Go p e below _ (T4.setTop (mkF m 8 #[vr a1] [(.ref b1)]))
  exact W4.retA hx hEL hs hlk (by decide +kernel) (by decide +kernel) hret rfl rfl (D 8 rfl) (fun S hS => ⟨b1, rfl, hs ▸ gb1.2, S4⟩)
theorem ef100 (m : MethodId) (x0 : Addr) (x1 : Int64)  : entryFrame m #[(.ref x0), (.long x1)] 7 = mkF m 0 #[vr x0, .val (.long x1), S0, U0, U0, U0, U0] [] := by first | (simp [entryFrame, mkF, argsToLocals, Value.category]; done) | rfl | rfl
set_option maxRecDepth 65536 in
set_option maxHeartbeats 40000000 in
theorem rm100 (B : EV l Z a0 zc fm) (ns : Addr) (tm : Int64) (h0 : Heap) {n0 : Nat} (O0 : Old Z n0 h0) (OT : Sta Z Z.heap "java/util/concurrent/TimeUnit" "NANOSECONDS" "Ljava/util/concurrent/TimeUnit;" (.ref ns)) (OTE : Exa Z Z.heap ns "java/util/concurrent/TimeUnit") (OTS : Fld Z Z.heap ns "java/util/concurrent/TimeUnit" "scale" "J" (.long 1)) (OTM : Fld Z Z.heap ns "java/util/concurrent/TimeUnit" "milliRatio" "I" (.int 1000000)) :
    Met l Z EL0 n0 (⟨"java/util/concurrent/TimeUnit", "toMillis", "(J)J"⟩ : MethodName) jdk_2799_method_9_code 7 (some .long) [] (rO 0 0 0 0) #[(.ref ns), (.long tm)] h0 [] [] (fun v h' S => v = some (.long (tm / (1000000 : Int64))) ∧ h0 = h') := by
  obtain ⟨hw, hEL, SC, hzc, SF, rfm⟩ := id B
  refine Met.of (plainFor_of_name pn6) O0 ?_
  intro p e s m below meth c T0 hx hby hml hret hlk hnm hs W0
  have W0 : Wk p l e _ s m _ below meth c Z EL0 n0 [] "java/util/concurrent/TimeUnit" [] T0 0 0 h0 := W0
  have D := @tk c _ _ hby Kq31
  refine Go.of (fun _ kk => castTop (ef100 m ns tm) kk) ?_
  have k1 := OTS.ext W0.old.2
  refine W0.pv hx D 0 1 1 [_, _, _, _, _, _, _] [_] rfl ?_
  refine W0.getF hx (host := "") (Or.inl (B.h 127 rfl)) Via.refl k1 rfl rfl (D 1 rfl) (fun T2 W2 => ?_)
  refine gof T2 m 5 #[vr ns, .val (.long tm), S0, U0, U0, U0, U0] [(.long 1), (.long 1)] (fun _ kk => XT.dup2L W2.here hx rfl (D 4 rfl) rfl kk) ?_
  refine W2.pv hx D 5 1 6 [_, _, _, .val (.long 1), S0, _, _] [_] rfl ?_
  refine W2.ldcJ hx (B.h 129 rfl) rfl (D 6 rfl) ?_
  refine W2.pu hx D 9 [(1, false)] 1 14 [_, _, _, _, _, _, _] [.long (1 : Int64)] rfl ⟨trivial, (XT.ll_gt_f (by decide +kernel))⟩ ?_
  refine W2.ldcJ hx (B.h 129 rfl) rfl (D 14 rfl) ?_
  have k3 := OTM.ext W2.old.2
  refine W2.pu hx D 17 [(1, true)] 2 27 [_, _, _, _, _, _, _] [_, _] rfl ⟨trivial, (XT.ll_ne_t (by decide +kernel))⟩ ?_
  refine W2.getF hx (host := "") (Or.inl (B.h 130 rfl)) Via.refl k3 rfl rfl (D 27 rfl) (fun T4 W4 => ?_)
  refine gof T4 m 31 #[vr ns, .val (.long tm), S0, .val (.long 1), S0, U0, U0] [(.long 1000000), (.long tm)] (fun _ kk => XS.i2l W4.here hx rfl (D 30 rfl) rfl (by rw [show ((1000000 : Int32)).toInt64 = (1000000 : Int64) from by decide +kernel]; exact kk)) ?_
  refine gof T4 m 32 #[vr ns, .val (.long tm), S0, .val (.long 1), S0, U0, U0] [(.long (tm / (1000000 : Int64)))] (fun _ kk => XS.ldiv W4.here hx rfl (D 31 rfl) rfl (by decide +kernel) kk) ?_
  exact W4.retL hx hEL hs hlk (by decide +kernel) (by decide +kernel) hret (D 32 rfl) (fun S hS => ⟨rfl, rfl⟩)
theorem ef101 (m : MethodId) (x0 : Int64)  : entryFrame m #[(.long x0)] 6 = mkF m 0 #[.val (.long x0), S0, U0, U0, U0, U0] [] := by first | (simp [entryFrame, mkF, argsToLocals, Value.category]; done) | rfl | rfl
set_option maxRecDepth 65536 in
set_option maxHeartbeats 40000000 in
theorem rm101 (B : EV l Z a0 zc fm) (uu nn : Nat) (h0 : Heap) {n0 : Nat} (O0 : Old Z n0 h0) (hN : ND uu nn) (hu : 0 ≤ uu ∧ uu ≤ 9223372036854 ∧ 1 ≤ nn ∧ nn ≤ 13) :
    Met l Z EL0 n0 (⟨"java/lang/Long", "stringSize", "(J)I"⟩ : MethodName) jdk_35_method_15_code 6 (some .int) [] (rO 0 0 0 0) #[(.long (posL (uu)))] h0 [] [] (fun v h' S => v = some (.int (Int32.ofNat (nn))) ∧ h0 = h') := by
  obtain ⟨hw, hEL, SC, hzc, SF, rfm⟩ := id B
  refine Met.of (plainFor_of_name pn7) O0 ?_
  intro p e s m below meth c T0 hx hby hml hret hlk hnm hs W0
  have W0 : Wk p l e _ s m _ below meth c Z EL0 n0 [] "java/lang/Long" [] T0 0 0 h0 := W0
  have D := @tk c _ _ hby Kq32
  refine Go.of (fun _ kk => castTop (ef101 m (posL (uu))) kk) ?_
  have ea1 : (-(posL (uu))) = (negL (uu)) := negPos (by omega)
  refine W0.pu hx D 0 [(5, false)] 3 11 [_, _, vi 0, _, _, _] [_] rfl ⟨trivial, (XT.ll_lt_f (nltLP (a := uu) (b := 0) (by omega)))⟩ ?_
  refine W0.pv hx D 11 2 13 [.val (.long (negL (uu))), _, _, _, _, _] [] (by rw [← ea1]; rfl) ?_
  refine W0.ldcJ hx (B.h 145 rfl) rfl (D 13 rfl) ?_
  refine W0.pu hx D 16 [(5, false)] 3 30 [_, _, _, .val (.long (-10 : Int64)), S0, vi 1] [.int (cmpL (negL (uu)) (-10 : Int64))] rfl ⟨trivial, (XT.ii_ge_f (by decide +kernel))⟩ ?_
  by_cases c2 : uu < 10
  · refine W0.pu hx D 30 [(0, false)] 3 37 [_, _, _, _, _, _] [.int 1] rfl ⟨trivial, (XT.ll_le_f (ltZ2 (a := uu) (b := 10) (by decide +kernel) (by omega)))⟩ ?_
    exact W0.retI hx hEL hs hlk (by decide +kernel) (by decide +kernel) hret (by simp) rfl (D 37 rfl) (fun S hS => ⟨congrArg (fun z => some (Value.int (Int32.ofNat z))) (show 1 = nn from by unfold ND at hN; omega), rfl⟩)
  · refine W0.pu hx D 30 [(0, true)] 0 38 [_, _, _, _, _, _] [] rfl ⟨trivial, (XT.ll_le_t (nltZ2 (a := uu) (b := 10) (by decide +kernel) (by omega)))⟩ ?_
    refine W0.ldcJ hx (B.h 268 rfl) rfl (D 38 rfl) ?_
    refine W0.pv hx D 41 1 42 [_, _, _, _, _, _] [.long (-10 : Int64), _] rfl ?_
    refine gof T0 m 43 #[.val (.long (negL (uu))), S0, vi 0, .val (.long (-10 : Int64)), S0, vi 1] [(.long (-100 : Int64))] (fun _ kk => XS.lmul W0.here hx rfl (D 42 rfl) rfl (by rw [show (10 : Int64) * (-10 : Int64) = (-100 : Int64) from by decide +kernel]; exact kk)) ?_
    refine W0.pu hx D 43 [(5, false)] 3 30 [_, _, _, .val (.long (-100 : Int64)), _, vi 2] [.int (cmpL (negL (uu)) (-100 : Int64))] rfl ⟨trivial, (XT.ii_ge_f (by decide +kernel))⟩ ?_
    by_cases c3 : uu < 100
    · refine W0.pu hx D 30 [(0, false)] 3 37 [_, _, _, _, _, _] [.int 2] rfl ⟨trivial, (XT.ll_le_f (ltZ2 (a := uu) (b := 100) (by decide +kernel) (by omega)))⟩ ?_
      exact W0.retI hx hEL hs hlk (by decide +kernel) (by decide +kernel) hret (by simp) rfl (D 37 rfl) (fun S hS => ⟨congrArg (fun z => some (Value.int (Int32.ofNat z))) (show 2 = nn from by unfold ND at hN; omega), rfl⟩)
    · refine W0.pu hx D 30 [(0, true)] 0 38 [_, _, _, _, _, _] [] rfl ⟨trivial, (XT.ll_le_t (nltZ2 (a := uu) (b := 100) (by decide +kernel) (by omega)))⟩ ?_
      refine W0.ldcJ hx (B.h 268 rfl) rfl (D 38 rfl) ?_
      refine W0.pv hx D 41 1 42 [_, _, _, _, _, _] [.long (-100 : Int64), _] rfl ?_
      refine gof T0 m 43 #[.val (.long (negL (uu))), S0, vi 0, .val (.long (-100 : Int64)), S0, vi 2] [(.long (-1000 : Int64))] (fun _ kk => XS.lmul W0.here hx rfl (D 42 rfl) rfl (by rw [show (10 : Int64) * (-100 : Int64) = (-1000 : Int64) from by decide +kernel]; exact kk)) ?_
      refine W0.pu hx D 43 [(5, false)] 3 30 [_, _, _, .val (.long (-1000 : Int64)), _, vi 3] [.int (cmpL (negL (uu)) (-1000 : Int64))] rfl ⟨trivial, (XT.ii_ge_f (by decide +kernel))⟩ ?_
      by_cases c4 : uu < 1000
      · refine W0.pu hx D 30 [(0, false)] 3 37 [_, _, _, _, _, _] [.int 3] rfl ⟨trivial, (XT.ll_le_f (ltZ2 (a := uu) (b := 1000) (by decide +kernel) (by omega)))⟩ ?_
        exact W0.retI hx hEL hs hlk (by decide +kernel) (by decide +kernel) hret (by simp) rfl (D 37 rfl) (fun S hS => ⟨congrArg (fun z => some (Value.int (Int32.ofNat z))) (show 3 = nn from by unfold ND at hN; omega), rfl⟩)
      · refine W0.pu hx D 30 [(0, true)] 0 38 [_, _, _, _, _, _] [] rfl ⟨trivial, (XT.ll_le_t (nltZ2 (a := uu) (b := 1000) (by decide +kernel) (by omega)))⟩ ?_
        refine W0.ldcJ hx (B.h 268 rfl) rfl (D 38 rfl) ?_
        refine W0.pv hx D 41 1 42 [_, _, _, _, _, _] [.long (-1000 : Int64), _] rfl ?_
        refine gof T0 m 43 #[.val (.long (negL (uu))), S0, vi 0, .val (.long (-1000 : Int64)), S0, vi 3] [(.long (-10000 : Int64))] (fun _ kk => XS.lmul W0.here hx rfl (D 42 rfl) rfl (by rw [show (10 : Int64) * (-1000 : Int64) = (-10000 : Int64) from by decide +kernel]; exact kk)) ?_
        refine W0.pu hx D 43 [(5, false)] 3 30 [_, _, _, .val (.long (-10000 : Int64)), _, vi 4] [.int (cmpL (negL (uu)) (-10000 : Int64))] rfl ⟨trivial, (XT.ii_ge_f (by decide +kernel))⟩ ?_
        by_cases c5 : uu < 10000
        · refine W0.pu hx D 30 [(0, false)] 3 37 [_, _, _, _, _, _] [.int 4] rfl ⟨trivial, (XT.ll_le_f (ltZ2 (a := uu) (b := 10000) (by decide +kernel) (by omega)))⟩ ?_
          exact W0.retI hx hEL hs hlk (by decide +kernel) (by decide +kernel) hret (by simp) rfl (D 37 rfl) (fun S hS => ⟨congrArg (fun z => some (Value.int (Int32.ofNat z))) (show 4 = nn from by unfold ND at hN; omega), rfl⟩)
        · refine W0.pu hx D 30 [(0, true)] 0 38 [_, _, _, _, _, _] [] rfl ⟨trivial, (XT.ll_le_t (nltZ2 (a := uu) (b := 10000) (by decide +kernel) (by omega)))⟩ ?_
          refine W0.ldcJ hx (B.h 268 rfl) rfl (D 38 rfl) ?_
          refine W0.pv hx D 41 1 42 [_, _, _, _, _, _] [.long (-10000 : Int64), _] rfl ?_
          refine gof T0 m 43 #[.val (.long (negL (uu))), S0, vi 0, .val (.long (-10000 : Int64)), S0, vi 4] [(.long (-100000 : Int64))] (fun _ kk => XS.lmul W0.here hx rfl (D 42 rfl) rfl (by rw [show (10 : Int64) * (-10000 : Int64) = (-100000 : Int64) from by decide +kernel]; exact kk)) ?_
          refine W0.pu hx D 43 [(5, false)] 3 30 [_, _, _, .val (.long (-100000 : Int64)), _, vi 5] [.int (cmpL (negL (uu)) (-100000 : Int64))] rfl ⟨trivial, (XT.ii_ge_f (by decide +kernel))⟩ ?_
          by_cases c6 : uu < 100000
          · refine W0.pu hx D 30 [(0, false)] 3 37 [_, _, _, _, _, _] [.int 5] rfl ⟨trivial, (XT.ll_le_f (ltZ2 (a := uu) (b := 100000) (by decide +kernel) (by omega)))⟩ ?_
            exact W0.retI hx hEL hs hlk (by decide +kernel) (by decide +kernel) hret (by simp) rfl (D 37 rfl) (fun S hS => ⟨congrArg (fun z => some (Value.int (Int32.ofNat z))) (show 5 = nn from by unfold ND at hN; omega), rfl⟩)
          · refine W0.pu hx D 30 [(0, true)] 0 38 [_, _, _, _, _, _] [] rfl ⟨trivial, (XT.ll_le_t (nltZ2 (a := uu) (b := 100000) (by decide +kernel) (by omega)))⟩ ?_
            refine W0.ldcJ hx (B.h 268 rfl) rfl (D 38 rfl) ?_
            refine W0.pv hx D 41 1 42 [_, _, _, _, _, _] [.long (-100000 : Int64), _] rfl ?_
            refine gof T0 m 43 #[.val (.long (negL (uu))), S0, vi 0, .val (.long (-100000 : Int64)), S0, vi 5] [(.long (-1000000 : Int64))] (fun _ kk => XS.lmul W0.here hx rfl (D 42 rfl) rfl (by rw [show (10 : Int64) * (-100000 : Int64) = (-1000000 : Int64) from by decide +kernel]; exact kk)) ?_
            refine W0.pu hx D 43 [(5, false)] 3 30 [_, _, _, .val (.long (-1000000 : Int64)), _, vi 6] [.int (cmpL (negL (uu)) (-1000000 : Int64))] rfl ⟨trivial, (XT.ii_ge_f (by decide +kernel))⟩ ?_
            by_cases c7 : uu < 1000000
            · refine W0.pu hx D 30 [(0, false)] 3 37 [_, _, _, _, _, _] [.int 6] rfl ⟨trivial, (XT.ll_le_f (ltZ2 (a := uu) (b := 1000000) (by decide +kernel) (by omega)))⟩ ?_
              exact W0.retI hx hEL hs hlk (by decide +kernel) (by decide +kernel) hret (by simp) rfl (D 37 rfl) (fun S hS => ⟨congrArg (fun z => some (Value.int (Int32.ofNat z))) (show 6 = nn from by unfold ND at hN; omega), rfl⟩)
            · refine W0.pu hx D 30 [(0, true)] 0 38 [_, _, _, _, _, _] [] rfl ⟨trivial, (XT.ll_le_t (nltZ2 (a := uu) (b := 1000000) (by decide +kernel) (by omega)))⟩ ?_
              refine W0.ldcJ hx (B.h 268 rfl) rfl (D 38 rfl) ?_
              refine W0.pv hx D 41 1 42 [_, _, _, _, _, _] [.long (-1000000 : Int64), _] rfl ?_
              refine gof T0 m 43 #[.val (.long (negL (uu))), S0, vi 0, .val (.long (-1000000 : Int64)), S0, vi 6] [(.long (-10000000 : Int64))] (fun _ kk => XS.lmul W0.here hx rfl (D 42 rfl) rfl (by rw [show (10 : Int64) * (-1000000 : Int64) = (-10000000 : Int64) from by decide +kernel]; exact kk)) ?_
              refine W0.pu hx D 43 [(5, false)] 3 30 [_, _, _, .val (.long (-10000000 : Int64)), _, vi 7] [.int (cmpL (negL (uu)) (-10000000 : Int64))] rfl ⟨trivial, (XT.ii_ge_f (by decide +kernel))⟩ ?_
              by_cases c8 : uu < 10000000
              · refine W0.pu hx D 30 [(0, false)] 3 37 [_, _, _, _, _, _] [.int 7] rfl ⟨trivial, (XT.ll_le_f (ltZ2 (a := uu) (b := 10000000) (by decide +kernel) (by omega)))⟩ ?_
                exact W0.retI hx hEL hs hlk (by decide +kernel) (by decide +kernel) hret (by simp) rfl (D 37 rfl) (fun S hS => ⟨congrArg (fun z => some (Value.int (Int32.ofNat z))) (show 7 = nn from by unfold ND at hN; omega), rfl⟩)
              · refine W0.pu hx D 30 [(0, true)] 0 38 [_, _, _, _, _, _] [] rfl ⟨trivial, (XT.ll_le_t (nltZ2 (a := uu) (b := 10000000) (by decide +kernel) (by omega)))⟩ ?_
                refine W0.ldcJ hx (B.h 268 rfl) rfl (D 38 rfl) ?_
                refine W0.pv hx D 41 1 42 [_, _, _, _, _, _] [.long (-10000000 : Int64), _] rfl ?_
                refine gof T0 m 43 #[.val (.long (negL (uu))), S0, vi 0, .val (.long (-10000000 : Int64)), S0, vi 7] [(.long (-100000000 : Int64))] (fun _ kk => XS.lmul W0.here hx rfl (D 42 rfl) rfl (by rw [show (10 : Int64) * (-10000000 : Int64) = (-100000000 : Int64) from by decide +kernel]; exact kk)) ?_
                refine W0.pu hx D 43 [(5, false)] 3 30 [_, _, _, .val (.long (-100000000 : Int64)), _, vi 8] [.int (cmpL (negL (uu)) (-100000000 : Int64))] rfl ⟨trivial, (XT.ii_ge_f (by decide +kernel))⟩ ?_
                by_cases c9 : uu < 100000000
                · refine W0.pu hx D 30 [(0, false)] 3 37 [_, _, _, _, _, _] [.int 8] rfl ⟨trivial, (XT.ll_le_f (ltZ2 (a := uu) (b := 100000000) (by decide +kernel) (by omega)))⟩ ?_
                  exact W0.retI hx hEL hs hlk (by decide +kernel) (by decide +kernel) hret (by simp) rfl (D 37 rfl) (fun S hS => ⟨congrArg (fun z => some (Value.int (Int32.ofNat z))) (show 8 = nn from by unfold ND at hN; omega), rfl⟩)
                · refine W0.pu hx D 30 [(0, true)] 0 38 [_, _, _, _, _, _] [] rfl ⟨trivial, (XT.ll_le_t (nltZ2 (a := uu) (b := 100000000) (by decide +kernel) (by omega)))⟩ ?_
                  refine W0.ldcJ hx (B.h 268 rfl) rfl (D 38 rfl) ?_
                  refine W0.pv hx D 41 1 42 [_, _, _, _, _, _] [.long (-100000000 : Int64), _] rfl ?_
                  refine gof T0 m 43 #[.val (.long (negL (uu))), S0, vi 0, .val (.long (-100000000 : Int64)), S0, vi 8] [(.long (-1000000000 : Int64))] (fun _ kk => XS.lmul W0.here hx rfl (D 42 rfl) rfl (by rw [show (10 : Int64) * (-100000000 : Int64) = (-1000000000 : Int64) from by decide +kernel]; exact kk)) ?_
                  refine W0.pu hx D 43 [(5, false)] 3 30 [_, _, _, .val (.long (-1000000000 : Int64)), _, vi 9] [.int (cmpL (negL (uu)) (-1000000000 : Int64))] rfl ⟨trivial, (XT.ii_ge_f (by decide +kernel))⟩ ?_
                  by_cases c10 : uu < 1000000000
                  · refine W0.pu hx D 30 [(0, false)] 3 37 [_, _, _, _, _, _] [.int 9] rfl ⟨trivial, (XT.ll_le_f (ltZ2 (a := uu) (b := 1000000000) (by decide +kernel) (by omega)))⟩ ?_
                    exact W0.retI hx hEL hs hlk (by decide +kernel) (by decide +kernel) hret (by simp) rfl (D 37 rfl) (fun S hS => ⟨congrArg (fun z => some (Value.int (Int32.ofNat z))) (show 9 = nn from by unfold ND at hN; omega), rfl⟩)
                  · refine W0.pu hx D 30 [(0, true)] 0 38 [_, _, _, _, _, _] [] rfl ⟨trivial, (XT.ll_le_t (nltZ2 (a := uu) (b := 1000000000) (by decide +kernel) (by omega)))⟩ ?_
                    refine W0.ldcJ hx (B.h 268 rfl) rfl (D 38 rfl) ?_
                    refine W0.pv hx D 41 1 42 [_, _, _, _, _, _] [.long (-1000000000 : Int64), _] rfl ?_
                    refine gof T0 m 43 #[.val (.long (negL (uu))), S0, vi 0, .val (.long (-1000000000 : Int64)), S0, vi 9] [(.long (-10000000000 : Int64))] (fun _ kk => XS.lmul W0.here hx rfl (D 42 rfl) rfl (by rw [show (10 : Int64) * (-1000000000 : Int64) = (-10000000000 : Int64) from by decide +kernel]; exact kk)) ?_
                    refine W0.pu hx D 43 [(5, false)] 3 30 [_, _, _, .val (.long (-10000000000 : Int64)), _, vi 10] [.int (cmpL (negL (uu)) (-10000000000 : Int64))] rfl ⟨trivial, (XT.ii_ge_f (by decide +kernel))⟩ ?_
                    by_cases c11 : uu < 10000000000
                    · refine W0.pu hx D 30 [(0, false)] 3 37 [_, _, _, _, _, _] [.int 10] rfl ⟨trivial, (XT.ll_le_f (ltZ2 (a := uu) (b := 10000000000) (by decide +kernel) (by omega)))⟩ ?_
                      exact W0.retI hx hEL hs hlk (by decide +kernel) (by decide +kernel) hret (by simp) rfl (D 37 rfl) (fun S hS => ⟨congrArg (fun z => some (Value.int (Int32.ofNat z))) (show 10 = nn from by unfold ND at hN; omega), rfl⟩)
                    · refine W0.pu hx D 30 [(0, true)] 0 38 [_, _, _, _, _, _] [] rfl ⟨trivial, (XT.ll_le_t (nltZ2 (a := uu) (b := 10000000000) (by decide +kernel) (by omega)))⟩ ?_
                      refine W0.ldcJ hx (B.h 268 rfl) rfl (D 38 rfl) ?_
                      refine W0.pv hx D 41 1 42 [_, _, _, _, _, _] [.long (-10000000000 : Int64), _] rfl ?_
                      refine gof T0 m 43 #[.val (.long (negL (uu))), S0, vi 0, .val (.long (-10000000000 : Int64)), S0, vi 10] [(.long (-100000000000 : Int64))] (fun _ kk => XS.lmul W0.here hx rfl (D 42 rfl) rfl (by rw [show (10 : Int64) * (-10000000000 : Int64) = (-100000000000 : Int64) from by decide +kernel]; exact kk)) ?_
                      refine W0.pu hx D 43 [(5, false)] 3 30 [_, _, _, .val (.long (-100000000000 : Int64)), _, vi 11] [.int (cmpL (negL (uu)) (-100000000000 : Int64))] rfl ⟨trivial, (XT.ii_ge_f (by decide +kernel))⟩ ?_
                      by_cases c12 : uu < 100000000000
                      · refine W0.pu hx D 30 [(0, false)] 3 37 [_, _, _, _, _, _] [.int 11] rfl ⟨trivial, (XT.ll_le_f (ltZ2 (a := uu) (b := 100000000000) (by decide +kernel) (by omega)))⟩ ?_
                        exact W0.retI hx hEL hs hlk (by decide +kernel) (by decide +kernel) hret (by simp) rfl (D 37 rfl) (fun S hS => ⟨congrArg (fun z => some (Value.int (Int32.ofNat z))) (show 11 = nn from by unfold ND at hN; omega), rfl⟩)
                      · refine W0.pu hx D 30 [(0, true)] 0 38 [_, _, _, _, _, _] [] rfl ⟨trivial, (XT.ll_le_t (nltZ2 (a := uu) (b := 100000000000) (by decide +kernel) (by omega)))⟩ ?_
                        refine W0.ldcJ hx (B.h 268 rfl) rfl (D 38 rfl) ?_
                        refine W0.pv hx D 41 1 42 [_, _, _, _, _, _] [.long (-100000000000 : Int64), _] rfl ?_
                        refine gof T0 m 43 #[.val (.long (negL (uu))), S0, vi 0, .val (.long (-100000000000 : Int64)), S0, vi 11] [(.long (-1000000000000 : Int64))] (fun _ kk => XS.lmul W0.here hx rfl (D 42 rfl) rfl (by rw [show (10 : Int64) * (-100000000000 : Int64) = (-1000000000000 : Int64) from by decide +kernel]; exact kk)) ?_
                        refine W0.pu hx D 43 [(5, false)] 3 30 [_, _, _, .val (.long (-1000000000000 : Int64)), _, vi 12] [.int (cmpL (negL (uu)) (-1000000000000 : Int64))] rfl ⟨trivial, (XT.ii_ge_f (by decide +kernel))⟩ ?_
                        by_cases c13 : uu < 1000000000000
                        · refine W0.pu hx D 30 [(0, false)] 3 37 [_, _, _, _, _, _] [.int 12] rfl ⟨trivial, (XT.ll_le_f (ltZ2 (a := uu) (b := 1000000000000) (by decide +kernel) (by omega)))⟩ ?_
                          exact W0.retI hx hEL hs hlk (by decide +kernel) (by decide +kernel) hret (by simp) rfl (D 37 rfl) (fun S hS => ⟨congrArg (fun z => some (Value.int (Int32.ofNat z))) (show 12 = nn from by unfold ND at hN; omega), rfl⟩)
                        · refine W0.pu hx D 30 [(0, true)] 0 38 [_, _, _, _, _, _] [] rfl ⟨trivial, (XT.ll_le_t (nltZ2 (a := uu) (b := 1000000000000) (by decide +kernel) (by omega)))⟩ ?_
                          refine W0.ldcJ hx (B.h 268 rfl) rfl (D 38 rfl) ?_
                          refine W0.pv hx D 41 1 42 [_, _, _, _, _, _] [.long (-1000000000000 : Int64), _] rfl ?_
                          refine gof T0 m 43 #[.val (.long (negL (uu))), S0, vi 0, .val (.long (-1000000000000 : Int64)), S0, vi 12] [(.long (-10000000000000 : Int64))] (fun _ kk => XS.lmul W0.here hx rfl (D 42 rfl) rfl (by rw [show (10 : Int64) * (-1000000000000 : Int64) = (-10000000000000 : Int64) from by decide +kernel]; exact kk)) ?_
                          refine W0.pu hx D 43 [(5, false), (3, false)] 3 37 [_, _, _, .val (.long (-10000000000000 : Int64)), _, vi 13] [.int 13] rfl ⟨⟨trivial, (XT.ii_ge_f (by decide +kernel))⟩, (XT.ll_le_f (ltZ2 (a := uu) (b := 10000000000000) (by decide +kernel) (by omega)))⟩ ?_
                          exact W0.retI hx hEL hs hlk (by decide +kernel) (by decide +kernel) hret (by simp) rfl (D 37 rfl) (fun S hS => ⟨congrArg (fun z => some (Value.int (Int32.ofNat z))) (show 13 = nn from by unfold ND at hN; omega), rfl⟩)
theorem ef103 (m : MethodId) (x0 : Int64) (x1 : Int32) (x2 : Addr)  : entryFrame m #[(.long x0), (.int x1), (.ref x2)] 11 = mkF m 0 #[.val (.long x0), S0, vi x1, vr x2, U0, U0, U0, U0, U0, U0, U0] [] := by first | (simp [entryFrame, mkF, argsToLocals, Value.category]; done) | rfl | rfl
set_option maxRecDepth 65536 in
set_option maxHeartbeats 40000000 in
theorem rm103 (B : EV l Z a0 zc fm) (t : Addr) (kc : ClassId) (ds : List Int32) (rs : List Value) (cp : Nat) (don dtn : Addr) (ko kt : ClassId) (u0 nw c0 : Nat) (h0 : Heap) {n0 : Nat} (O0 : Old Z n0 h0) (Ab : Arv Z h0 t kc .byte (Int32.ofNat (cp)) (List.map lv ds ++ rs) (.int 0)) (hsm : ds.length + rs.length = cp) (hcp : cp ≤ 92) (g2 : n0 ≤ t) (OSo : Sta Z Z.heap "java/lang/Integer" "DigitOnes" "[B" (.ref don)) (OSt : Sta Z Z.heap "java/lang/Integer" "DigitTens" "[B" (.ref dtn)) (OAo : Arv Z Z.heap don ko .byte (100 : Int32) onesL (.int 0)) (OAt : Arv Z Z.heap dtn kt .byte (100 : Int32) tensL (.int 0)) (hN : ND u0 nw) (hu : 0 ≤ u0 ∧ u0 ≤ 9223372036854 ∧ 1 ≤ nw ∧ nw ≤ 13) (hc0 : c0 = ds.length + (nw) ∧ c0 ≤ cp) :
    Met l Z EL0 n0 (⟨"java/lang/Long", "getChars", "(JI[B)I"⟩ : MethodName) jdk_35_method_14_code 11 (some .int) [] (rO 0 0 0 0) #[(.long (posL (u0))), (.int (Int32.ofNat (c0))), (.ref t)] h0 [t] [t] (fun v h' S => ∃ z : Int32, v = some (.int z) ∧ Arv Z h' t kc .byte (Int32.ofNat (cp)) (List.map lv (ds ++ (dgl u0 nw)) ++ rs.drop (nw)) (.int 0)) := by
  obtain ⟨hw, hEL, SC, hzc, SF, rfm⟩ := id B
  refine Met.of (plainFor_of_name pn7) O0 ?_
  intro p e s m below meth c T0 hx hby hml hret hlk hnm hs W0
  have W0 : Wk p l e _ s m _ below meth c Z EL0 n0 [t] "java/lang/Long" [t] T0 0 0 h0 := W0
  have D := @tk c _ _ hby Kq33
  refine Go.of (fun _ kk => castTop (ef103 m (posL (u0)) (Int32.ofNat (c0)) t) kk) ?_
  have hr0 : nw ≤ rs.length := by omega
  have lL0 : (List.map lv ds ++ rs).length = cp := by rw [List.length_append, List.length_map]; exact hsm
  have tlF1 : ∀ (Tt : State) (ht : Heap) (yl : Int64) (y2 : Int32) (y4 : Slot) (y5 : Slot) (y6 : Slot) (y9 : Slot) (uu : Nat) (nn : Nat) (cc : Nat) (as : List Value), Wk p l e (rO 0 0 0 0) s m #[(.long (posL (u0))), (.int (Int32.ofNat (c0))), (.ref t)] below meth c Z EL0 n0 [t] "java/lang/Long" [t] Tt 0 0 ht → Arv Z ht t kc .byte (Int32.ofNat (cp)) as (.int 0) → as.length = cp → cc = ds.length + (nn) ∧ cc ≤ cp → Dg (List.map lv ds ++ rs) c0 u0 nw uu nn cc as → uu ≤ 9 → Go p e below (Fend Z EL0 n0 s h0 [t] (fun v h' S => ∃ z : Int32, v = some (.int z) ∧ Arv Z h' t kc .byte (Int32.ofNat (cp)) (List.map lv (ds ++ (dgl u0 nw)) ++ rs.drop (nw)) (.int 0)) (rO 0 0 0 0)) (Tt.setTop (mkF m 143 #[.val (.long yl), S0, vi y2, vr t, y4, y5, y6, vi (Int32.ofNat (cc)), vi 0, y9, vi (negI (uu))] [])) := by
    intro Tt ht yl y2 y4 y5 y6 y9 uu nn cc as Wt At lL0 hcc hD hhi
    have hlo : 0 ≤ uu := Nat.zero_le _
    have hv : uu = uu / 1 := (Nat.div_one _).symm
    have hL : 1 ≤ cc := by have := nd_1 hD.1 hhi; omega
    have hL1 : 0 ≤ cc - 1 := decGe hL
    have hE1 : cc - 1 + 1 ≤ cp := decLe0 hcc.2 (Nat.le_trans (by decide) hL)
    have ea2 : ((Int32.ofNat (cc)) + (-1 : Int32)) = (Int32.ofNat (cc - 1)) := decN (Nat.le_trans (by decide) hL)
    refine Wt.pv hx D 143 3 149 [_, _, _, _, _, _, _, vi (Int32.ofNat (cc - 1)), _, _, _] [.int (Int32.ofNat (cc - 1)), _] (by rw [← ea2]; rfl) ?_
    refine Wt.getS hx (host := "") (Or.inl (B.h 155 rfl)) Via.refl OSo rfl (D 149 rfl) (fun T3 W3 => ?_)
    have ea4 : (-(negI (uu))) = (Int32.ofNat (uu)) := negNegI (ltHi hhi (by decide))
    have k5 := OAo.ext W3.old.2
    refine W3.pv hx D 152 2 155 [_, _, _, _, _, _, _, _, _, _, _] [.int (Int32.ofNat (uu)), _, _, _] (by rw [← ea4]; rfl) ?_
    refine W3.baload hx k5 ⟨nltN (a := uu) (b := 0) ⟨Nat.zero_le _, (ltHi hhi (by decide))⟩, ltN (a := uu) (b := 100) ⟨ltHi hhi (by decide), by decide⟩⟩ (v := (.int (dgc uu 0))) (onesAt (u := uu) (j := 0) (r := uu) (D := 1) (by decide) (on2 (Nat.le_trans hhi (by decide)) hv)) rfl rfl (D 155 rfl) ?_
    refine W3.stB hx (vs := as) At (stIdx hE1 hcp) (cc - 1) (stClamp hE1 hcp) (stLen hE1 lL0) g2 (Or.inl (mI 0 rfl)) (mI 0 rfl) rfl rfl (D 156 rfl) (fun T6 h6 W6 K6 A6 => ?_)
    obtain ⟨Lw6, eLw6⟩ : ∃ z, z = (as.set (cc - 1) (lv (dgc uu 0))) := ⟨_, rfl⟩
    have lLw6 : Lw6.length = cp := stSet lL0 eLw6
    have V6 : Arv Z h6 t kc .byte (Int32.ofNat (cp)) Lw6 (.int 0) := by rw [eLw6]; exact A6
    have qw := V6
    refine W6.pu hx D 157 [(2, true), (1, true)] 1 194 [_, _, _, _, _, _, _, _, _, _, _] [_] rfl ⟨⟨trivial, (XT.ii_ge_t (nltZI1 (a := uu) (b := 9) (by decide +kernel) ⟨Nat.le_trans hhi (by decide), by decide⟩))⟩, (XT.i0_eq_t (by decide +kernel))⟩ ?_
    rw [fi10 hD hc0.1 hr0 (Nat.le_trans (by decide) hL) hhi eLw6] at qw
    exact W6.retI hx hEL hs hlk (by decide +kernel) (by decide +kernel) hret (by simp) rfl (D 194 rfl) (fun S hS => ⟨_, rfl, qw⟩)
  have tlF2 : ∀ (Tt : State) (ht : Heap) (yl : Int64) (y2 : Int32) (y4 : Slot) (y5 : Slot) (y6 : Slot) (y9 : Slot) (uu : Nat) (nn : Nat) (cc : Nat) (as : List Value), Wk p l e (rO 0 0 0 0) s m #[(.long (posL (u0))), (.int (Int32.ofNat (c0))), (.ref t)] below meth c Z EL0 n0 [t] "java/lang/Long" [t] Tt 0 0 ht → Arv Z ht t kc .byte (Int32.ofNat (cp)) as (.int 0) → as.length = cp → cc = ds.length + (nn) ∧ cc ≤ cp → Dg (List.map lv ds ++ rs) c0 u0 nw uu nn cc as → 10 ≤ uu → uu ≤ 99 → Go p e below (Fend Z EL0 n0 s h0 [t] (fun v h' S => ∃ z : Int32, v = some (.int z) ∧ Arv Z h' t kc .byte (Int32.ofNat (cp)) (List.map lv (ds ++ (dgl u0 nw)) ++ rs.drop (nw)) (.int 0)) (rO 0 0 0 0)) (Tt.setTop (mkF m 143 #[.val (.long yl), S0, vi y2, vr t, y4, y5, y6, vi (Int32.ofNat (cc)), vi 0, y9, vi (negI (uu))] [])) := by
    intro Tt ht yl y2 y4 y5 y6 y9 uu nn cc as Wt At lL0 hcc hD hlo hhi
    have hv : uu = uu / 1 := (Nat.div_one _).symm
    have hL : 2 ≤ cc := by have := nd_2 hD.1 hlo hhi; omega
    have hL7 : 1 ≤ cc - 1 := decGe hL
    have hE7 : cc - 1 + 1 ≤ cp := decLe0 hcc.2 (Nat.le_trans (by decide) hL)
    have ea8 : ((Int32.ofNat (cc)) + (-1 : Int32)) = (Int32.ofNat (cc - 1)) := decN (Nat.le_trans (by decide) hL)
    refine Wt.pv hx D 143 3 149 [_, _, _, _, _, _, _, vi (Int32.ofNat (cc - 1)), _, _, _] [.int (Int32.ofNat (cc - 1)), _] (by rw [← ea8]; rfl) ?_
    refine Wt.getS hx (host := "") (Or.inl (B.h 155 rfl)) Via.refl OSo rfl (D 149 rfl) (fun T9 W9 => ?_)
    have ea10 : (-(negI (uu))) = (Int32.ofNat (uu)) := negNegI (ltHi hhi (by decide))
    have k11 := OAo.ext W9.old.2
    refine W9.pv hx D 152 2 155 [_, _, _, _, _, _, _, _, _, _, _] [.int (Int32.ofNat (uu)), _, _, _] (by rw [← ea10]; rfl) ?_
    refine W9.baload hx k11 ⟨nltN (a := uu) (b := 0) ⟨Nat.zero_le _, (ltHi hhi (by decide))⟩, ltN (a := uu) (b := 100) ⟨ltHi hhi (by decide), by decide⟩⟩ (v := (.int (dgc uu 0))) (onesAt (u := uu) (j := 0) (r := uu) (D := 1) (by decide) (on2 (Nat.le_trans hhi (by decide)) hv)) rfl rfl (D 155 rfl) ?_
    refine W9.stB hx (vs := as) At (stIdx hE7 hcp) (cc - 1) (stClamp hE7 hcp) (stLen hE7 lL0) g2 (Or.inl (mI 0 rfl)) (mI 0 rfl) rfl rfl (D 156 rfl) (fun T12 h12 W12 K12 A12 => ?_)
    obtain ⟨Lw12, eLw12⟩ : ∃ z, z = (as.set (cc - 1) (lv (dgc uu 0))) := ⟨_, rfl⟩
    have lLw12 : Lw12.length = cp := stSet lL0 eLw12
    have V12 : Arv Z h12 t kc .byte (Int32.ofNat (cp)) Lw12 (.int 0) := by rw [eLw12]; exact A12
    have hL13 : 0 ≤ cc - 1 - 1 := decGe hL7
    have hE13 : cc - 1 - 1 + 1 ≤ cp := decLe hE7
    have ea14 : ((Int32.ofNat (cc - 1)) + (-1 : Int32)) = (Int32.ofNat (cc - 1 - 1)) := decN (Nat.le_trans (by decide) hL7)
    refine W12.pu hx D 157 [(2, false)] 1 165 [_, _, _, _, _, _, _, _, _, _, _] [_] rfl ⟨trivial, (XT.ii_ge_f (ltZI1 (a := uu) (b := 9) (by decide +kernel) ⟨loLt hlo (by decide), (ltHi hhi (by decide))⟩))⟩ ?_
    refine W12.pv hx D 165 2 170 [_, _, _, _, _, _, _, vi (Int32.ofNat (cc - 1 - 1)), _, _, _] [.int (Int32.ofNat (cc - 1 - 1)), _] (by rw [← ea14]; rfl) ?_
    refine W12.getS hx (host := "") (Or.inl (B.h 269 rfl)) Via.refl OSt rfl (D 170 rfl) (fun T15 W15 => ?_)
    have ea16 : (-(negI (uu))) = (Int32.ofNat (uu)) := negNegI (ltHi hhi (by decide))
    have k17 := OAt.ext W15.old.2
    refine W15.pv hx D 173 2 176 [_, _, _, _, _, _, _, _, _, _, _] [.int (Int32.ofNat (uu)), _, _, _] (by rw [← ea16]; rfl) ?_
    refine W15.baload hx k17 ⟨nltN (a := uu) (b := 0) ⟨Nat.zero_le _, (ltHi hhi (by decide))⟩, ltN (a := uu) (b := 100) ⟨ltHi hhi (by decide), by decide⟩⟩ (v := (.int (dgc uu 1))) (tensAt (u := uu) (j := 1) (r := uu) (D := 10) (by decide) (tn2 (by decide) (Nat.le_trans hhi (by decide)) hv)) rfl rfl (D 176 rfl) ?_
    refine W15.stB hx (vs := Lw12) V12 (stIdx hE13 hcp) (cc - 1 - 1) (stClamp hE13 hcp) (stLen hE13 lLw12) g2 (Or.inl (mI 0 rfl)) (mI 0 rfl) rfl rfl (D 177 rfl) (fun T18 h18 W18 K18 A18 => ?_)
    obtain ⟨Lw18, eLw18⟩ : ∃ z, z = (Lw12.set (cc - 1 - 1) (lv (dgc uu 1))) := ⟨_, rfl⟩
    have lLw18 : Lw18.length = cp := stSet lLw12 eLw18
    have V18 : Arv Z h18 t kc .byte (Int32.ofNat (cp)) Lw18 (.int 0) := by rw [eLw18]; exact A18
    have qw := V18
    refine W18.pu hx D 178 [(1, true)] 1 194 [_, _, _, _, _, _, _, _, _, _, _] [_] rfl ⟨trivial, (XT.i0_eq_t (by decide +kernel))⟩ ?_
    rw [fi20 hD hc0.1 hr0 (Nat.le_trans (by decide) hL) hlo hhi eLw12 eLw18] at qw
    exact W18.retI hx hEL hs hlk (by decide +kernel) (by decide +kernel) hret (by simp) rfl (D 194 rfl) (fun S hS => ⟨_, rfl, qw⟩)
  have tlI : ∀ (nn : Nat) (Tt : State) (ht : Heap) (yl : Int64) (y2 : Int32) (y4 : Slot) (y5 : Slot) (y6 : Int32) (y9 : Int32) (uu : Nat) (cc : Nat) (as : List Value), Wk p l e (rO 0 0 0 0) s m #[(.long (posL (u0))), (.int (Int32.ofNat (c0))), (.ref t)] below meth c Z EL0 n0 [t] "java/lang/Long" [t] Tt 0 0 ht → Arv Z ht t kc .byte (Int32.ofNat (cp)) as (.int 0) → as.length = cp → cc = ds.length + (nn) ∧ cc ≤ cp → Dg (List.map lv ds ++ rs) c0 u0 nw uu nn cc as → uu ≤ 2147483647 → Go p e below (Fend Z EL0 n0 s h0 [t] (fun v h' S => ∃ z : Int32, v = some (.int z) ∧ Arv Z h' t kc .byte (Int32.ofNat (cp)) (List.map lv (ds ++ (dgl u0 nw)) ++ rs.drop (nw)) (.int 0)) (rO 0 0 0 0)) (Tt.setTop (mkF m 86 #[.val (.long yl), S0, vi y2, vr t, y4, y5, vi y6, vi (Int32.ofNat (cc)), vi 0, vi y9, vi (negI (uu))] [])) := by
    intro nn
    induction nn using Nat.strongRecOn
    rename_i nn ih
    intro Tt ht yl y2 y4 y5 y6 y9 uu cc as Wt At lL0 hcc hD hhi
    have hlo : 0 ≤ uu := Nat.zero_le _
    have hv : uu = uu / 1 := (Nat.div_one _).symm
    refine Wt.pv hx D 86 2 90 [_, _, _, _, _, _, _, _, _, _, _] [.int (-100 : Int32), _] rfl ?_
    by_cases c19 : uu < 100
    · have hhi20 : uu ≤ 99 := Nat.le_of_lt_succ c19
      refine Wt.pu hx D 90 [(0, true)] 0 143 [_, _, _, _, _, _, _, _, _, _, _] [] rfl ⟨trivial, (XT.ii_gt_t (ltZI2 (a := uu) (b := 100) (by decide +kernel) ⟨ltHi hhi20 (by decide), by decide⟩))⟩ ?_
      exact (Nat.lt_or_ge 9 uu).elim (fun q => tlF2 _ _ _ _ _ _ _ _ _ _ _ _ Wt At lL0 hcc hD q hhi20) (fun q => tlF1 _ _ _ _ _ _ _ _ _ _ _ _ Wt At lL0 hcc hD q)
    · have hlo21 : 100 ≤ uu := Nat.le_of_not_lt c19
      have hlo22 : 1 ≤ uu / 100 := Nat.div_le_div_right (c := 100) hlo21
      have hhi22 : uu / 100 ≤ 21474836 := Nat.div_le_div_right (c := 100) hhi
      have hv22 : uu / 100 = uu / 100 := dvS (by decide) hv
      have ea23 : ((negI (uu)) / (100 : Int32)) = (negI (uu / 100)) := divNegI (u := uu) (d := 100) ⟨(ltHi hhi (by decide)), by decide⟩
      refine Wt.pu hx D 90 [(0, false)] 2 97 [_, _, _, _, _, _, _, _, _, _, _] [.int 100, _] rfl ⟨trivial, (XT.ii_gt_f (nltZI2 (a := uu) (b := 100) (by decide +kernel) ⟨Nat.le_trans (by decide) hlo21, (ltHi hhi (by decide))⟩))⟩ ?_
      refine gof Tt m 98 #[.val (.long yl), S0, vi y2, vr t, y4, y5, vi y6, vi (Int32.ofNat (cc)), vi 0, vi y9, vi (negI (uu))] [(.int (negI (uu / 100)))] (fun _ kk => XS.idiv Wt.here hx rfl (D 97 rfl) rfl (by decide +kernel) (by rw [ea23]; exact kk)) ?_
      have ea24 : (((negI (uu / 100)) * (100 : Int32)) - (negI (uu))) = (Int32.ofNat (uu % 100)) := mulSubI (u := uu) (ltHi hhi (by decide))
      have hL : 3 ≤ cc := by have := nd_3 hD.1 (Nat.le_trans (by decide) hlo21); omega
      have hL25 : 2 ≤ cc - 1 := decGe hL
      have hE25 : cc - 1 + 1 ≤ cp := decLe0 hcc.2 (Nat.le_trans (by decide) hL)
      have ea26 : ((Int32.ofNat (cc)) + (-1 : Int32)) = (Int32.ofNat (cc - 1)) := decN (Nat.le_trans (by decide) hL)
      refine Wt.pv hx D 98 12 120 [_, _, _, _, _, _, vi (Int32.ofNat (uu % 100)), vi (Int32.ofNat (cc - 1)), _, _, _] [.int (Int32.ofNat (cc - 1)), _] (by rw [← ea26, ← ea24]; rfl) ?_
      refine Wt.getS hx (host := "") (Or.inl (B.h 155 rfl)) Via.refl OSo rfl (D 120 rfl) (fun T27 W27 => ?_)
      have k28 := OAo.ext W27.old.2
      refine W27.pv hx D 123 1 125 [_, _, _, _, _, _, _, _, _, _, _] [_, _, _, _] rfl ?_
      refine W27.baload hx k28 ⟨nltN (a := uu % 100) (b := 0) ⟨Nat.zero_le _, (Nat.lt_of_lt_of_le (m100 _) (by decide))⟩, ltN (a := uu % 100) (b := 100) ⟨m100 _, by decide⟩⟩ (v := (.int (dgc uu 0))) (onesAt (u := uu) (j := 0) (r := uu % 100) (D := 1) (by decide) (on1 hv)) rfl rfl (D 125 rfl) ?_
      refine W27.stB hx (vs := as) At (stIdx hE25 hcp) (cc - 1) (stClamp hE25 hcp) (stLen hE25 lL0) g2 (Or.inl (mI 0 rfl)) (mI 0 rfl) rfl rfl (D 126 rfl) (fun T29 h29 W29 K29 A29 => ?_)
      obtain ⟨Lw29, eLw29⟩ : ∃ z, z = (as.set (cc - 1) (lv (dgc uu 0))) := ⟨_, rfl⟩
      have lLw29 : Lw29.length = cp := stSet lL0 eLw29
      have V29 : Arv Z h29 t kc .byte (Int32.ofNat (cp)) Lw29 (.int 0) := by rw [eLw29]; exact A29
      have hL30 : 1 ≤ cc - 1 - 1 := decGe hL25
      have hE30 : cc - 1 - 1 + 1 ≤ cp := decLe hE25
      have ea31 : ((Int32.ofNat (cc - 1)) + (-1 : Int32)) = (Int32.ofNat (cc - 1 - 1)) := decN (Nat.le_trans (by decide) hL25)
      refine W29.pv hx D 127 3 133 [_, _, _, _, _, _, _, vi (Int32.ofNat (cc - 1 - 1)), _, _, _] [.int (Int32.ofNat (cc - 1 - 1)), _] (by rw [← ea31]; rfl) ?_
      refine W29.getS hx (host := "") (Or.inl (B.h 269 rfl)) Via.refl OSt rfl (D 133 rfl) (fun T32 W32 => ?_)
      have k33 := OAt.ext W32.old.2
      refine W32.pv hx D 136 1 138 [_, _, _, _, _, _, _, _, _, _, _] [_, _, _, _] rfl ?_
      refine W32.baload hx k33 ⟨nltN (a := uu % 100) (b := 0) ⟨Nat.zero_le _, (Nat.lt_of_lt_of_le (m100 _) (by decide))⟩, ltN (a := uu % 100) (b := 100) ⟨m100 _, by decide⟩⟩ (v := (.int (dgc uu 1))) (tensAt (u := uu) (j := 1) (r := uu % 100) (D := 10) (by decide) (tn1 (by decide) hv)) rfl rfl (D 138 rfl) ?_
      refine W32.stB hx (vs := Lw29) V29 (stIdx hE30 hcp) (cc - 1 - 1) (stClamp hE30 hcp) (stLen hE30 lLw29) g2 (Or.inl (mI 0 rfl)) (mI 0 rfl) rfl rfl (D 139 rfl) (fun T34 h34 W34 K34 A34 => ?_)
      obtain ⟨Lw34, eLw34⟩ : ∃ z, z = (Lw29.set (cc - 1 - 1) (lv (dgc uu 1))) := ⟨_, rfl⟩
      have lLw34 : Lw34.length = cp := stSet lLw29 eLw34
      have V34 : Arv Z h34 t kc .byte (Int32.ofNat (cp)) Lw34 (.int 0) := by rw [eLw34]; exact A34
      refine W34.pv hx D 140 1 86 [_, _, _, _, _, _, _, _, _, _, _] [] rfl ?_
      obtain ⟨nk, hk, dq⟩ := dgS hD (Nat.le_trans (by decide) hlo21) (Nat.le_trans (by decide) hL) eLw29 eLw34
      exact ih nk (by omega) _ _ _ _ _ _ _ _ _ _ _ W34 V34 lLw34 ⟨by omega, by omega⟩ dq (Nat.le_trans hhi22 (by decide))
  have tlE : ∀ (Tt : State) (ht : Heap) (yl : Int64) (y2 : Int32) (y4 : Slot) (y5 : Slot) (uu : Nat) (nn : Nat) (cc : Nat) (as : List Value), Wk p l e (rO 0 0 0 0) s m #[(.long (posL (u0))), (.int (Int32.ofNat (c0))), (.ref t)] below meth c Z EL0 n0 [t] "java/lang/Long" [t] Tt 0 0 ht → Arv Z ht t kc .byte (Int32.ofNat (cp)) as (.int 0) → as.length = cp → cc = ds.length + (nn) ∧ cc ≤ cp → Dg (List.map lv ds ++ rs) c0 u0 nw uu nn cc as → uu ≤ 2147483647 → Go p e below (Fend Z EL0 n0 s h0 [t] (fun v h' S => ∃ z : Int32, v = some (.int z) ∧ Arv Z h' t kc .byte (Int32.ofNat (cp)) (List.map lv (ds ++ (dgl u0 nw)) ++ rs.drop (nw)) (.int 0)) (rO 0 0 0 0)) (Tt.setTop (mkF m 86 #[.val (.long yl), S0, vi y2, vr t, y4, y5, U0, vi (Int32.ofNat (cc)), vi 0, U0, vi (negI (uu))] [])) := by
    intro Tt ht yl y2 y4 y5 uu nn cc as Wt At lL0 hcc hD hhi
    have hlo : 0 ≤ uu := Nat.zero_le _
    have hv : uu = uu / 1 := (Nat.div_one _).symm
    refine Wt.pv hx D 86 2 90 [_, _, _, _, _, _, _, _, _, _, _] [.int (-100 : Int32), _] rfl ?_
    by_cases c35 : uu < 100
    · have hhi36 : uu ≤ 99 := Nat.le_of_lt_succ c35
      refine Wt.pu hx D 90 [(0, true)] 0 143 [_, _, _, _, _, _, _, _, _, _, _] [] rfl ⟨trivial, (XT.ii_gt_t (ltZI2 (a := uu) (b := 100) (by decide +kernel) ⟨ltHi hhi36 (by decide), by decide⟩))⟩ ?_
      exact (Nat.lt_or_ge 9 uu).elim (fun q => tlF2 _ _ _ _ _ _ _ _ _ _ _ _ Wt At lL0 hcc hD q hhi36) (fun q => tlF1 _ _ _ _ _ _ _ _ _ _ _ _ Wt At lL0 hcc hD q)
    · have hlo37 : 100 ≤ uu := Nat.le_of_not_lt c35
      have hlo38 : 1 ≤ uu / 100 := Nat.div_le_div_right (c := 100) hlo37
      have hhi38 : uu / 100 ≤ 21474836 := Nat.div_le_div_right (c := 100) hhi
      have hv38 : uu / 100 = uu / 100 := dvS (by decide) hv
      have ea39 : ((negI (uu)) / (100 : Int32)) = (negI (uu / 100)) := divNegI (u := uu) (d := 100) ⟨(ltHi hhi (by decide)), by decide⟩
      refine Wt.pu hx D 90 [(0, false)] 2 97 [_, _, _, _, _, _, _, _, _, _, _] [.int 100, _] rfl ⟨trivial, (XT.ii_gt_f (nltZI2 (a := uu) (b := 100) (by decide +kernel) ⟨Nat.le_trans (by decide) hlo37, (ltHi hhi (by decide))⟩))⟩ ?_
      refine gof Tt m 98 #[.val (.long yl), S0, vi y2, vr t, y4, y5, U0, vi (Int32.ofNat (cc)), vi 0, U0, vi (negI (uu))] [(.int (negI (uu / 100)))] (fun _ kk => XS.idiv Wt.here hx rfl (D 97 rfl) rfl (by decide +kernel) (by rw [ea39]; exact kk)) ?_
      have ea40 : (((negI (uu / 100)) * (100 : Int32)) - (negI (uu))) = (Int32.ofNat (uu % 100)) := mulSubI (u := uu) (ltHi hhi (by decide))
      have hL : 3 ≤ cc := by have := nd_3 hD.1 (Nat.le_trans (by decide) hlo37); omega
      have hL41 : 2 ≤ cc - 1 := decGe hL
      have hE41 : cc - 1 + 1 ≤ cp := decLe0 hcc.2 (Nat.le_trans (by decide) hL)
      have ea42 : ((Int32.ofNat (cc)) + (-1 : Int32)) = (Int32.ofNat (cc - 1)) := decN (Nat.le_trans (by decide) hL)
      refine Wt.pv hx D 98 12 120 [_, _, _, _, _, _, vi (Int32.ofNat (uu % 100)), vi (Int32.ofNat (cc - 1)), _, _, _] [.int (Int32.ofNat (cc - 1)), _] (by rw [← ea42, ← ea40]; rfl) ?_
      refine Wt.getS hx (host := "") (Or.inl (B.h 155 rfl)) Via.refl OSo rfl (D 120 rfl) (fun T43 W43 => ?_)
      have k44 := OAo.ext W43.old.2
      refine W43.pv hx D 123 1 125 [_, _, _, _, _, _, _, _, _, _, _] [_, _, _, _] rfl ?_
      refine W43.baload hx k44 ⟨nltN (a := uu % 100) (b := 0) ⟨Nat.zero_le _, (Nat.lt_of_lt_of_le (m100 _) (by decide))⟩, ltN (a := uu % 100) (b := 100) ⟨m100 _, by decide⟩⟩ (v := (.int (dgc uu 0))) (onesAt (u := uu) (j := 0) (r := uu % 100) (D := 1) (by decide) (on1 hv)) rfl rfl (D 125 rfl) ?_
      refine W43.stB hx (vs := as) At (stIdx hE41 hcp) (cc - 1) (stClamp hE41 hcp) (stLen hE41 lL0) g2 (Or.inl (mI 0 rfl)) (mI 0 rfl) rfl rfl (D 126 rfl) (fun T45 h45 W45 K45 A45 => ?_)
      obtain ⟨Lw45, eLw45⟩ : ∃ z, z = (as.set (cc - 1) (lv (dgc uu 0))) := ⟨_, rfl⟩
      have lLw45 : Lw45.length = cp := stSet lL0 eLw45
      have V45 : Arv Z h45 t kc .byte (Int32.ofNat (cp)) Lw45 (.int 0) := by rw [eLw45]; exact A45
      have hL46 : 1 ≤ cc - 1 - 1 := decGe hL41
      have hE46 : cc - 1 - 1 + 1 ≤ cp := decLe hE41
      have ea47 : ((Int32.ofNat (cc - 1)) + (-1 : Int32)) = (Int32.ofNat (cc - 1 - 1)) := decN (Nat.le_trans (by decide) hL41)
      refine W45.pv hx D 127 3 133 [_, _, _, _, _, _, _, vi (Int32.ofNat (cc - 1 - 1)), _, _, _] [.int (Int32.ofNat (cc - 1 - 1)), _] (by rw [← ea47]; rfl) ?_
      refine W45.getS hx (host := "") (Or.inl (B.h 269 rfl)) Via.refl OSt rfl (D 133 rfl) (fun T48 W48 => ?_)
      have k49 := OAt.ext W48.old.2
      refine W48.pv hx D 136 1 138 [_, _, _, _, _, _, _, _, _, _, _] [_, _, _, _] rfl ?_
      refine W48.baload hx k49 ⟨nltN (a := uu % 100) (b := 0) ⟨Nat.zero_le _, (Nat.lt_of_lt_of_le (m100 _) (by decide))⟩, ltN (a := uu % 100) (b := 100) ⟨m100 _, by decide⟩⟩ (v := (.int (dgc uu 1))) (tensAt (u := uu) (j := 1) (r := uu % 100) (D := 10) (by decide) (tn1 (by decide) hv)) rfl rfl (D 138 rfl) ?_
      refine W48.stB hx (vs := Lw45) V45 (stIdx hE46 hcp) (cc - 1 - 1) (stClamp hE46 hcp) (stLen hE46 lLw45) g2 (Or.inl (mI 0 rfl)) (mI 0 rfl) rfl rfl (D 139 rfl) (fun T50 h50 W50 K50 A50 => ?_)
      obtain ⟨Lw50, eLw50⟩ : ∃ z, z = (Lw45.set (cc - 1 - 1) (lv (dgc uu 1))) := ⟨_, rfl⟩
      have lLw50 : Lw50.length = cp := stSet lLw45 eLw50
      have V50 : Arv Z h50 t kc .byte (Int32.ofNat (cp)) Lw50 (.int 0) := by rw [eLw50]; exact A50
      refine W50.pv hx D 140 1 86 [_, _, _, _, _, _, _, _, _, _, _] [] rfl ?_
      obtain ⟨nk, hk, dq⟩ := dgS hD (Nat.le_trans (by decide) hlo37) (Nat.le_trans (by decide) hL) eLw45 eLw50
      exact tlI nk _ _ _ _ _ _ _ _ _ _ _ W50 V50 lLw50 ⟨by omega, by omega⟩ dq (Nat.le_trans hhi38 (by decide))
  have tlG : ∀ (Tt : State) (ht : Heap) (yl : Int64) (y2 : Int32) (y4 : Slot) (y5 : Slot) (y6 : Int32) (uu : Nat) (nn : Nat) (cc : Nat) (as : List Value), Wk p l e (rO 0 0 0 0) s m #[(.long (posL (u0))), (.int (Int32.ofNat (c0))), (.ref t)] below meth c Z EL0 n0 [t] "java/lang/Long" [t] Tt 0 0 ht → Arv Z ht t kc .byte (Int32.ofNat (cp)) as (.int 0) → as.length = cp → cc = ds.length + (nn) ∧ cc ≤ cp → Dg (List.map lv ds ++ rs) c0 u0 nw uu nn cc as → uu ≤ 2147483647 → Go p e below (Fend Z EL0 n0 s h0 [t] (fun v h' S => ∃ z : Int32, v = some (.int z) ∧ Arv Z h' t kc .byte (Int32.ofNat (cp)) (List.map lv (ds ++ (dgl u0 nw)) ++ rs.drop (nw)) (.int 0)) (rO 0 0 0 0)) (Tt.setTop (mkF m 86 #[.val (.long yl), S0, vi y2, vr t, y4, y5, vi y6, vi (Int32.ofNat (cc)), vi 0, U0, vi (negI (uu))] [])) := by
    intro Tt ht yl y2 y4 y5 y6 uu nn cc as Wt At lL0 hcc hD hhi
    have hlo : 0 ≤ uu := Nat.zero_le _
    have hv : uu = uu / 1 := (Nat.div_one _).symm
    refine Wt.pv hx D 86 2 90 [_, _, _, _, _, _, _, _, _, _, _] [.int (-100 : Int32), _] rfl ?_
    by_cases c51 : uu < 100
    · have hhi52 : uu ≤ 99 := Nat.le_of_lt_succ c51
      refine Wt.pu hx D 90 [(0, true)] 0 143 [_, _, _, _, _, _, _, _, _, _, _] [] rfl ⟨trivial, (XT.ii_gt_t (ltZI2 (a := uu) (b := 100) (by decide +kernel) ⟨ltHi hhi52 (by decide), by decide⟩))⟩ ?_
      exact (Nat.lt_or_ge 9 uu).elim (fun q => tlF2 _ _ _ _ _ _ _ _ _ _ _ _ Wt At lL0 hcc hD q hhi52) (fun q => tlF1 _ _ _ _ _ _ _ _ _ _ _ _ Wt At lL0 hcc hD q)
    · have hlo53 : 100 ≤ uu := Nat.le_of_not_lt c51
      have hlo54 : 1 ≤ uu / 100 := Nat.div_le_div_right (c := 100) hlo53
      have hhi54 : uu / 100 ≤ 21474836 := Nat.div_le_div_right (c := 100) hhi
      have hv54 : uu / 100 = uu / 100 := dvS (by decide) hv
      have ea55 : ((negI (uu)) / (100 : Int32)) = (negI (uu / 100)) := divNegI (u := uu) (d := 100) ⟨(ltHi hhi (by decide)), by decide⟩
      refine Wt.pu hx D 90 [(0, false)] 2 97 [_, _, _, _, _, _, _, _, _, _, _] [.int 100, _] rfl ⟨trivial, (XT.ii_gt_f (nltZI2 (a := uu) (b := 100) (by decide +kernel) ⟨Nat.le_trans (by decide) hlo53, (ltHi hhi (by decide))⟩))⟩ ?_
      refine gof Tt m 98 #[.val (.long yl), S0, vi y2, vr t, y4, y5, vi y6, vi (Int32.ofNat (cc)), vi 0, U0, vi (negI (uu))] [(.int (negI (uu / 100)))] (fun _ kk => XS.idiv Wt.here hx rfl (D 97 rfl) rfl (by decide +kernel) (by rw [ea55]; exact kk)) ?_
      have ea56 : (((negI (uu / 100)) * (100 : Int32)) - (negI (uu))) = (Int32.ofNat (uu % 100)) := mulSubI (u := uu) (ltHi hhi (by decide))
      have hL : 3 ≤ cc := by have := nd_3 hD.1 (Nat.le_trans (by decide) hlo53); omega
      have hL57 : 2 ≤ cc - 1 := decGe hL
      have hE57 : cc - 1 + 1 ≤ cp := decLe0 hcc.2 (Nat.le_trans (by decide) hL)
      have ea58 : ((Int32.ofNat (cc)) + (-1 : Int32)) = (Int32.ofNat (cc - 1)) := decN (Nat.le_trans (by decide) hL)
      refine Wt.pv hx D 98 12 120 [_, _, _, _, _, _, vi (Int32.ofNat (uu % 100)), vi (Int32.ofNat (cc - 1)), _, _, _] [.int (Int32.ofNat (cc - 1)), _] (by rw [← ea58, ← ea56]; rfl) ?_
      refine Wt.getS hx (host := "") (Or.inl (B.h 155 rfl)) Via.refl OSo rfl (D 120 rfl) (fun T59 W59 => ?_)
      have k60 := OAo.ext W59.old.2
      refine W59.pv hx D 123 1 125 [_, _, _, _, _, _, _, _, _, _, _] [_, _, _, _] rfl ?_
      refine W59.baload hx k60 ⟨nltN (a := uu % 100) (b := 0) ⟨Nat.zero_le _, (Nat.lt_of_lt_of_le (m100 _) (by decide))⟩, ltN (a := uu % 100) (b := 100) ⟨m100 _, by decide⟩⟩ (v := (.int (dgc uu 0))) (onesAt (u := uu) (j := 0) (r := uu % 100) (D := 1) (by decide) (on1 hv)) rfl rfl (D 125 rfl) ?_
      refine W59.stB hx (vs := as) At (stIdx hE57 hcp) (cc - 1) (stClamp hE57 hcp) (stLen hE57 lL0) g2 (Or.inl (mI 0 rfl)) (mI 0 rfl) rfl rfl (D 126 rfl) (fun T61 h61 W61 K61 A61 => ?_)
      obtain ⟨Lw61, eLw61⟩ : ∃ z, z = (as.set (cc - 1) (lv (dgc uu 0))) := ⟨_, rfl⟩
      have lLw61 : Lw61.length = cp := stSet lL0 eLw61
      have V61 : Arv Z h61 t kc .byte (Int32.ofNat (cp)) Lw61 (.int 0) := by rw [eLw61]; exact A61
      have hL62 : 1 ≤ cc - 1 - 1 := decGe hL57
      have hE62 : cc - 1 - 1 + 1 ≤ cp := decLe hE57
      have ea63 : ((Int32.ofNat (cc - 1)) + (-1 : Int32)) = (Int32.ofNat (cc - 1 - 1)) := decN (Nat.le_trans (by decide) hL57)
      refine W61.pv hx D 127 3 133 [_, _, _, _, _, _, _, vi (Int32.ofNat (cc - 1 - 1)), _, _, _] [.int (Int32.ofNat (cc - 1 - 1)), _] (by rw [← ea63]; rfl) ?_
      refine W61.getS hx (host := "") (Or.inl (B.h 269 rfl)) Via.refl OSt rfl (D 133 rfl) (fun T64 W64 => ?_)
      have k65 := OAt.ext W64.old.2
      refine W64.pv hx D 136 1 138 [_, _, _, _, _, _, _, _, _, _, _] [_, _, _, _] rfl ?_
      refine W64.baload hx k65 ⟨nltN (a := uu % 100) (b := 0) ⟨Nat.zero_le _, (Nat.lt_of_lt_of_le (m100 _) (by decide))⟩, ltN (a := uu % 100) (b := 100) ⟨m100 _, by decide⟩⟩ (v := (.int (dgc uu 1))) (tensAt (u := uu) (j := 1) (r := uu % 100) (D := 10) (by decide) (tn1 (by decide) hv)) rfl rfl (D 138 rfl) ?_
      refine W64.stB hx (vs := Lw61) V61 (stIdx hE62 hcp) (cc - 1 - 1) (stClamp hE62 hcp) (stLen hE62 lLw61) g2 (Or.inl (mI 0 rfl)) (mI 0 rfl) rfl rfl (D 139 rfl) (fun T66 h66 W66 K66 A66 => ?_)
      obtain ⟨Lw66, eLw66⟩ : ∃ z, z = (Lw61.set (cc - 1 - 1) (lv (dgc uu 1))) := ⟨_, rfl⟩
      have lLw66 : Lw66.length = cp := stSet lLw61 eLw66
      have V66 : Arv Z h66 t kc .byte (Int32.ofNat (cp)) Lw66 (.int 0) := by rw [eLw66]; exact A66
      refine W66.pv hx D 140 1 86 [_, _, _, _, _, _, _, _, _, _, _] [] rfl ?_
      obtain ⟨nk, hk, dq⟩ := dgS hD (Nat.le_trans (by decide) hlo53) (Nat.le_trans (by decide) hL) eLw61 eLw66
      exact tlI nk _ _ _ _ _ _ _ _ _ _ _ W66 V66 lLw66 ⟨by omega, by omega⟩ dq (Nat.le_trans hhi54 (by decide))
  have tlL : ∀ (nn : Nat) (Tt : State) (ht : Heap) (y2 : Int32) (y4 : Int64) (y6 : Int32) (uu : Nat) (cc : Nat) (as : List Value), Wk p l e (rO 0 0 0 0) s m #[(.long (posL (u0))), (.int (Int32.ofNat (c0))), (.ref t)] below meth c Z EL0 n0 [t] "java/lang/Long" [t] Tt 0 0 ht → Arv Z ht t kc .byte (Int32.ofNat (cp)) as (.int 0) → as.length = cp → cc = ds.length + (nn) ∧ cc ≤ cp → Dg (List.map lv ds ++ rs) c0 u0 nw uu nn cc as → uu ≤ 9223372036854 → Go p e below (Fend Z EL0 n0 s h0 [t] (fun v h' S => ∃ z : Int32, v = some (.int z) ∧ Arv Z h' t kc .byte (Int32.ofNat (cp)) (List.map lv (ds ++ (dgl u0 nw)) ++ rs.drop (nw)) (.int 0)) (rO 0 0 0 0)) (Tt.setTop (mkF m 24 #[.val (.long (negL (uu))), S0, vi y2, vr t, .val (.long y4), S0, vi y6, vi (Int32.ofNat (cc)), vi 0, U0, U0] [])) := by
    intro nn
    induction nn using Nat.strongRecOn
    rename_i nn ih
    intro Tt ht y2 y4 y6 uu cc as Wt At lL0 hcc hD hhi
    have hlo : 0 ≤ uu := Nat.zero_le _
    have hv : uu = uu / 1 := (Nat.div_one _).symm
    refine Wt.pv hx D 24 1 25 [_, _, _, _, _, _, _, _, _, _, _] [_] rfl ?_
    refine Wt.ldcJ hx (B.h 154 rfl) rfl (D 25 rfl) ?_
    refine Wt.pv hx D 28 1 29 [_, _, _, _, _, _, _, _, _, _, _] [.int (cmpL (negL (uu)) (-2147483648 : Int64))] rfl ?_
    by_cases c67 : uu < 2147483648
    · have hhi68 : uu ≤ 2147483647 := Nat.le_of_lt_succ c67
      have ea69 : ((negL (uu)).toInt32) = (negI (uu)) := l2iNeg (ltHi hhi68 (by decide))
      refine Wt.pu hx D 29 [(0, true)] 1 83 [_, _, _, _, _, _, _, _, _, _, _] [_] rfl ⟨trivial, (XT.ll_gt_t (ltZ2 (a := uu) (b := 2147483648) (by decide +kernel) ⟨ltHi hhi68 (by decide), by decide⟩))⟩ ?_
      refine Wt.pv hx D 83 2 86 [_, _, _, _, _, _, _, _, _, _, vi (negI (uu))] [] (by rw [← ea69]; rfl) ?_
      exact tlG _ _ _ _ _ _ _ _ _ _ _ Wt At lL0 hcc hD hhi68
    · have hlo70 : 2147483648 ≤ uu := Nat.le_of_not_lt c67
      refine Wt.pu hx D 29 [(0, false)] 1 33 [_, _, _, _, _, _, _, _, _, _, _] [_] rfl ⟨trivial, (XT.ll_gt_f (nltZ2 (a := uu) (b := 2147483648) (by decide +kernel) ⟨Nat.le_trans (by decide) hlo70, (ltHi hhi (by decide))⟩))⟩ ?_
      refine Wt.ldcJ hx (B.h 280 rfl) rfl (D 33 rfl) ?_
      have hlo71 : 21474836 ≤ uu / 100 := Nat.div_le_div_right (c := 100) hlo70
      have hhi71 : uu / 100 ≤ 92233720368 := Nat.div_le_div_right (c := 100) hhi
      have hv71 : uu / 100 = uu / 100 := dvS (by decide) hv
      have ea72 : ((negL (uu)) / (100 : Int64)) = (negL (uu / 100)) := divNeg (u := uu) (d := 100) ⟨(ltHi hhi (by decide)), by decide⟩
      refine gof Tt m 37 #[.val (.long (negL (uu))), S0, vi y2, vr t, .val (.long y4), S0, vi y6, vi (Int32.ofNat (cc)), vi 0, U0, U0] [(.long (negL (uu / 100)))] (fun _ kk => XS.ldiv Wt.here hx rfl (D 36 rfl) rfl (by decide +kernel) (by rw [ea72]; exact kk)) ?_
      refine Wt.pv hx D 37 2 41 [_, _, _, _, _, _, _, _, _, _, _] [_] rfl ?_
      refine Wt.ldcJ hx (B.h 280 rfl) rfl (D 41 rfl) ?_
      have ea73 : (((negL (uu / 100)) * (100 : Int64)) - (negL (uu))) = (posL (uu % 100)) := mulSub (u := uu) (ltHi hhi (by decide))
      have ea74 : ((posL (uu % 100)).toInt32) = (Int32.ofNat (uu % 100)) := l2iPos (Nat.lt_of_lt_of_le (m100 _) (by decide))
      have hL : 3 ≤ cc := by have := nd_3 hD.1 (Nat.le_trans (by decide) hlo70); omega
      have hL75 : 2 ≤ cc - 1 := decGe hL
      have hE75 : cc - 1 + 1 ≤ cp := decLe0 hcc.2 (Nat.le_trans (by decide) hL)
      have ea76 : ((Int32.ofNat (cc)) + (-1 : Int32)) = (Int32.ofNat (cc - 1)) := decN (Nat.le_trans (by decide) hL)
      refine Wt.pv hx D 44 10 59 [_, _, _, _, _, _, vi (Int32.ofNat (uu % 100)), vi (Int32.ofNat (cc - 1)), _, _, _] [.int (Int32.ofNat (cc - 1)), _] (by rw [← ea76, ← ea74, ← ea73]; rfl) ?_
      refine Wt.getS hx (host := "") (Or.inl (B.h 155 rfl)) Via.refl OSo rfl (D 59 rfl) (fun T77 W77 => ?_)
      have k78 := OAo.ext W77.old.2
      refine W77.pv hx D 62 1 64 [_, _, _, _, _, _, _, _, _, _, _] [_, _, _, _] rfl ?_
      refine W77.baload hx k78 ⟨nltN (a := uu % 100) (b := 0) ⟨Nat.zero_le _, (Nat.lt_of_lt_of_le (m100 _) (by decide))⟩, ltN (a := uu % 100) (b := 100) ⟨m100 _, by decide⟩⟩ (v := (.int (dgc uu 0))) (onesAt (u := uu) (j := 0) (r := uu % 100) (D := 1) (by decide) (on1 hv)) rfl rfl (D 64 rfl) ?_
      refine W77.stB hx (vs := as) At (stIdx hE75 hcp) (cc - 1) (stClamp hE75 hcp) (stLen hE75 lL0) g2 (Or.inl (mI 0 rfl)) (mI 0 rfl) rfl rfl (D 65 rfl) (fun T79 h79 W79 K79 A79 => ?_)
      obtain ⟨Lw79, eLw79⟩ : ∃ z, z = (as.set (cc - 1) (lv (dgc uu 0))) := ⟨_, rfl⟩
      have lLw79 : Lw79.length = cp := stSet lL0 eLw79
      have V79 : Arv Z h79 t kc .byte (Int32.ofNat (cp)) Lw79 (.int 0) := by rw [eLw79]; exact A79
      have hL80 : 1 ≤ cc - 1 - 1 := decGe hL75
      have hE80 : cc - 1 - 1 + 1 ≤ cp := decLe hE75
      have ea81 : ((Int32.ofNat (cc - 1)) + (-1 : Int32)) = (Int32.ofNat (cc - 1 - 1)) := decN (Nat.le_trans (by decide) hL75)
      refine W79.pv hx D 66 3 72 [_, _, _, _, _, _, _, vi (Int32.ofNat (cc - 1 - 1)), _, _, _] [.int (Int32.ofNat (cc - 1 - 1)), _] (by rw [← ea81]; rfl) ?_
      refine W79.getS hx (host := "") (Or.inl (B.h 269 rfl)) Via.refl OSt rfl (D 72 rfl) (fun T82 W82 => ?_)
      have k83 := OAt.ext W82.old.2
      refine W82.pv hx D 75 1 77 [_, _, _, _, _, _, _, _, _, _, _] [_, _, _, _] rfl ?_
      refine W82.baload hx k83 ⟨nltN (a := uu % 100) (b := 0) ⟨Nat.zero_le _, (Nat.lt_of_lt_of_le (m100 _) (by decide))⟩, ltN (a := uu % 100) (b := 100) ⟨m100 _, by decide⟩⟩ (v := (.int (dgc uu 1))) (tensAt (u := uu) (j := 1) (r := uu % 100) (D := 10) (by decide) (tn1 (by decide) hv)) rfl rfl (D 77 rfl) ?_
      refine W82.stB hx (vs := Lw79) V79 (stIdx hE80 hcp) (cc - 1 - 1) (stClamp hE80 hcp) (stLen hE80 lLw79) g2 (Or.inl (mI 0 rfl)) (mI 0 rfl) rfl rfl (D 78 rfl) (fun T84 h84 W84 K84 A84 => ?_)
      obtain ⟨Lw84, eLw84⟩ : ∃ z, z = (Lw79.set (cc - 1 - 1) (lv (dgc uu 1))) := ⟨_, rfl⟩
      have lLw84 : Lw84.length = cp := stSet lLw79 eLw84
      have V84 : Arv Z h84 t kc .byte (Int32.ofNat (cp)) Lw84 (.int 0) := by rw [eLw84]; exact A84
      refine W84.pv hx D 79 1 24 [_, _, _, _, _, _, _, _, _, _, _] [] rfl ?_
      obtain ⟨nk, hk, dq⟩ := dgS hD (Nat.le_trans (by decide) hlo70) (Nat.le_trans (by decide) hL) eLw79 eLw84
      exact ih nk (by omega) _ _ _ _ _ _ _ _ W84 V84 lLw84 ⟨by omega, by omega⟩ dq (Nat.le_trans hhi71 (by decide))
  have tlM : ∀ (Tt : State) (ht : Heap) (y2 : Int32) (uu : Nat) (nn : Nat) (cc : Nat) (as : List Value), Wk p l e (rO 0 0 0 0) s m #[(.long (posL (u0))), (.int (Int32.ofNat (c0))), (.ref t)] below meth c Z EL0 n0 [t] "java/lang/Long" [t] Tt 0 0 ht → Arv Z ht t kc .byte (Int32.ofNat (cp)) as (.int 0) → as.length = cp → cc = ds.length + (nn) ∧ cc ≤ cp → Dg (List.map lv ds ++ rs) c0 u0 nw uu nn cc as → uu ≤ 9223372036854 → Go p e below (Fend Z EL0 n0 s h0 [t] (fun v h' S => ∃ z : Int32, v = some (.int z) ∧ Arv Z h' t kc .byte (Int32.ofNat (cp)) (List.map lv (ds ++ (dgl u0 nw)) ++ rs.drop (nw)) (.int 0)) (rO 0 0 0 0)) (Tt.setTop (mkF m 24 #[.val (.long (negL (uu))), S0, vi y2, vr t, U0, U0, U0, vi (Int32.ofNat (cc)), vi 0, U0, U0] [])) := by
    intro Tt ht y2 uu nn cc as Wt At lL0 hcc hD hhi
    have hlo : 0 ≤ uu := Nat.zero_le _
    have hv : uu = uu / 1 := (Nat.div_one _).symm
    refine Wt.pv hx D 24 1 25 [_, _, _, _, _, _, _, _, _, _, _] [_] rfl ?_
    refine Wt.ldcJ hx (B.h 154 rfl) rfl (D 25 rfl) ?_
    refine Wt.pv hx D 28 1 29 [_, _, _, _, _, _, _, _, _, _, _] [.int (cmpL (negL (uu)) (-2147483648 : Int64))] rfl ?_
    by_cases c85 : uu < 2147483648
    · have hhi86 : uu ≤ 2147483647 := Nat.le_of_lt_succ c85
      have ea87 : ((negL (uu)).toInt32) = (negI (uu)) := l2iNeg (ltHi hhi86 (by decide))
      refine Wt.pu hx D 29 [(0, true)] 1 83 [_, _, _, _, _, _, _, _, _, _, _] [_] rfl ⟨trivial, (XT.ll_gt_t (ltZ2 (a := uu) (b := 2147483648) (by decide +kernel) ⟨ltHi hhi86 (by decide), by decide⟩))⟩ ?_
      refine Wt.pv hx D 83 2 86 [_, _, _, _, _, _, _, _, _, _, vi (negI (uu))] [] (by rw [← ea87]; rfl) ?_
      exact tlE _ _ _ _ _ _ _ _ _ _ Wt At lL0 hcc hD hhi86
    · have hlo88 : 2147483648 ≤ uu := Nat.le_of_not_lt c85
      refine Wt.pu hx D 29 [(0, false)] 1 33 [_, _, _, _, _, _, _, _, _, _, _] [_] rfl ⟨trivial, (XT.ll_gt_f (nltZ2 (a := uu) (b := 2147483648) (by decide +kernel) ⟨Nat.le_trans (by decide) hlo88, (ltHi hhi (by decide))⟩))⟩ ?_
      refine Wt.ldcJ hx (B.h 280 rfl) rfl (D 33 rfl) ?_
      have hlo89 : 21474836 ≤ uu / 100 := Nat.div_le_div_right (c := 100) hlo88
      have hhi89 : uu / 100 ≤ 92233720368 := Nat.div_le_div_right (c := 100) hhi
      have hv89 : uu / 100 = uu / 100 := dvS (by decide) hv
      have ea90 : ((negL (uu)) / (100 : Int64)) = (negL (uu / 100)) := divNeg (u := uu) (d := 100) ⟨(ltHi hhi (by decide)), by decide⟩
      refine gof Tt m 37 #[.val (.long (negL (uu))), S0, vi y2, vr t, U0, U0, U0, vi (Int32.ofNat (cc)), vi 0, U0, U0] [(.long (negL (uu / 100)))] (fun _ kk => XS.ldiv Wt.here hx rfl (D 36 rfl) rfl (by decide +kernel) (by rw [ea90]; exact kk)) ?_
      refine Wt.pv hx D 37 2 41 [_, _, _, _, _, S0, _, _, _, _, _] [_] rfl ?_
      refine Wt.ldcJ hx (B.h 280 rfl) rfl (D 41 rfl) ?_
      have ea91 : (((negL (uu / 100)) * (100 : Int64)) - (negL (uu))) = (posL (uu % 100)) := mulSub (u := uu) (ltHi hhi (by decide))
      have ea92 : ((posL (uu % 100)).toInt32) = (Int32.ofNat (uu % 100)) := l2iPos (Nat.lt_of_lt_of_le (m100 _) (by decide))
      have hL : 3 ≤ cc := by have := nd_3 hD.1 (Nat.le_trans (by decide) hlo88); omega
      have hL93 : 2 ≤ cc - 1 := decGe hL
      have hE93 : cc - 1 + 1 ≤ cp := decLe0 hcc.2 (Nat.le_trans (by decide) hL)
      have ea94 : ((Int32.ofNat (cc)) + (-1 : Int32)) = (Int32.ofNat (cc - 1)) := decN (Nat.le_trans (by decide) hL)
      refine Wt.pv hx D 44 10 59 [_, _, _, _, _, _, vi (Int32.ofNat (uu % 100)), vi (Int32.ofNat (cc - 1)), _, _, _] [.int (Int32.ofNat (cc - 1)), _] (by rw [← ea94, ← ea92, ← ea91]; rfl) ?_
      refine Wt.getS hx (host := "") (Or.inl (B.h 155 rfl)) Via.refl OSo rfl (D 59 rfl) (fun T95 W95 => ?_)
      have k96 := OAo.ext W95.old.2
      refine W95.pv hx D 62 1 64 [_, _, _, _, _, _, _, _, _, _, _] [_, _, _, _] rfl ?_
      refine W95.baload hx k96 ⟨nltN (a := uu % 100) (b := 0) ⟨Nat.zero_le _, (Nat.lt_of_lt_of_le (m100 _) (by decide))⟩, ltN (a := uu % 100) (b := 100) ⟨m100 _, by decide⟩⟩ (v := (.int (dgc uu 0))) (onesAt (u := uu) (j := 0) (r := uu % 100) (D := 1) (by decide) (on1 hv)) rfl rfl (D 64 rfl) ?_
      refine W95.stB hx (vs := as) At (stIdx hE93 hcp) (cc - 1) (stClamp hE93 hcp) (stLen hE93 lL0) g2 (Or.inl (mI 0 rfl)) (mI 0 rfl) rfl rfl (D 65 rfl) (fun T97 h97 W97 K97 A97 => ?_)
      obtain ⟨Lw97, eLw97⟩ : ∃ z, z = (as.set (cc - 1) (lv (dgc uu 0))) := ⟨_, rfl⟩
      have lLw97 : Lw97.length = cp := stSet lL0 eLw97
      have V97 : Arv Z h97 t kc .byte (Int32.ofNat (cp)) Lw97 (.int 0) := by rw [eLw97]; exact A97
      have hL98 : 1 ≤ cc - 1 - 1 := decGe hL93
      have hE98 : cc - 1 - 1 + 1 ≤ cp := decLe hE93
      have ea99 : ((Int32.ofNat (cc - 1)) + (-1 : Int32)) = (Int32.ofNat (cc - 1 - 1)) := decN (Nat.le_trans (by decide) hL93)
      refine W97.pv hx D 66 3 72 [_, _, _, _, _, _, _, vi (Int32.ofNat (cc - 1 - 1)), _, _, _] [.int (Int32.ofNat (cc - 1 - 1)), _] (by rw [← ea99]; rfl) ?_
      refine W97.getS hx (host := "") (Or.inl (B.h 269 rfl)) Via.refl OSt rfl (D 72 rfl) (fun T100 W100 => ?_)
      have k101 := OAt.ext W100.old.2
      refine W100.pv hx D 75 1 77 [_, _, _, _, _, _, _, _, _, _, _] [_, _, _, _] rfl ?_
      refine W100.baload hx k101 ⟨nltN (a := uu % 100) (b := 0) ⟨Nat.zero_le _, (Nat.lt_of_lt_of_le (m100 _) (by decide))⟩, ltN (a := uu % 100) (b := 100) ⟨m100 _, by decide⟩⟩ (v := (.int (dgc uu 1))) (tensAt (u := uu) (j := 1) (r := uu % 100) (D := 10) (by decide) (tn1 (by decide) hv)) rfl rfl (D 77 rfl) ?_
      refine W100.stB hx (vs := Lw97) V97 (stIdx hE98 hcp) (cc - 1 - 1) (stClamp hE98 hcp) (stLen hE98 lLw97) g2 (Or.inl (mI 0 rfl)) (mI 0 rfl) rfl rfl (D 78 rfl) (fun T102 h102 W102 K102 A102 => ?_)
      obtain ⟨Lw102, eLw102⟩ : ∃ z, z = (Lw97.set (cc - 1 - 1) (lv (dgc uu 1))) := ⟨_, rfl⟩
      have lLw102 : Lw102.length = cp := stSet lLw97 eLw102
      have V102 : Arv Z h102 t kc .byte (Int32.ofNat (cp)) Lw102 (.int 0) := by rw [eLw102]; exact A102
      refine W102.pv hx D 79 1 24 [_, _, _, _, _, _, _, _, _, _, _] [] rfl ?_
      obtain ⟨nk, hk, dq⟩ := dgS hD (Nat.le_trans (by decide) hlo88) (Nat.le_trans (by decide) hL) eLw97 eLw102
      exact tlL nk _ _ _ _ _ _ _ _ W102 V102 lLw102 ⟨by omega, by omega⟩ dq (Nat.le_trans hhi89 (by decide))
  have hlo : 0 ≤ u0 := hu.1
  have hhi : u0 ≤ 9223372036854 := hu.2.1
  have ea103 : (-(posL (u0))) = (negL (u0)) := negPos (ltHi hhi (by decide))
  refine W0.pu hx D 0 [(5, true), (3, false)] 1 22 [_, _, _, _, _, _, _, _, vi 0, _, _] [_] rfl ⟨⟨trivial, (XT.ll_ge_t (nltLP (a := u0) (b := 0) ⟨Nat.le_trans (by decide) hlo, (ltHi hhi (by decide))⟩))⟩, (XT.i0_ne_f (by decide +kernel))⟩ ?_
  refine W0.pv hx D 22 2 24 [.val (.long (negL (u0))), _, _, _, _, _, _, _, _, _, _] [] (by rw [← ea103]; rfl) ?_
  exact tlM _ _ _ _ _ _ _ W0 Ab lL0 hc0 ⟨hN, [], List.append_nil _, rfl, rfl⟩ hhi
theorem ef105 (m : MethodId) (x0 : Addr) (x1 : Int64)  : entryFrame m #[(.ref x0), (.long x1)] 5 = mkF m 0 #[vr x0, .val (.long x1), S0, U0, U0] [] := by first | (simp [entryFrame, mkF, argsToLocals, Value.category]; done) | rfl | rfl
set_option maxRecDepth 65536 in
set_option maxHeartbeats 40000000 in
theorem rm105 (B : EV l Z a0 zc fm) (a1 t : Addr) (kc : ClassId) (ds : List Int32) (rs : List Value) (cp : Nat) (don dtn : Addr) (ko kt : ClassId) (uu nn : Nat) (h0 : Heap) {n0 : Nat} (O0 : Old Z n0 h0) (Eb : Exa Z h0 a1 "java/lang/StringBuilder") (Fvp : Fld Z h0 a1 "java/lang/AbstractStringBuilder" "value" "[B" (.ref t)) (Fcp : Fld Z h0 a1 "java/lang/AbstractStringBuilder" "coder" "B" (.int 0)) (Fnp : Fld Z h0 a1 "java/lang/AbstractStringBuilder" "count" "I" (.int (Int32.ofNat (ds.length)))) (Ab : Arv Z h0 t kc .byte (Int32.ofNat (cp)) (List.map lv ds ++ rs) (.int 0)) (Et : Exa Z h0 t "[B") (hsm : ds.length + rs.length = cp) (hcp : cp ≤ 92) (hds : ∀ c ∈ ds, ¬ c < 0 ∧ ¬ (255 : Int32) < c) (g1 : n0 ≤ a1) (g2 : n0 ≤ t) (nat : a1 ≠ t) (OSo : Sta Z Z.heap "java/lang/Integer" "DigitOnes" "[B" (.ref don)) (OSt : Sta Z Z.heap "java/lang/Integer" "DigitTens" "[B" (.ref dtn)) (OAo : Arv Z Z.heap don ko .byte (100 : Int32) onesL (.int 0)) (OAt : Arv Z Z.heap dtn kt .byte (100 : Int32) tensL (.int 0)) (hN : ND uu nn) (hu : 0 ≤ uu ∧ uu ≤ 9223372036854 ∧ 1 ≤ nn ∧ nn ≤ 13) (hmx : ds.length + (nn) ≤ 46) :
    Met l Z EL0 n0 (⟨"java/lang/AbstractStringBuilder", "append", "(J)Ljava/lang/AbstractStringBuilder;"⟩ : MethodName) jdk_68_method_33_code 5 (some (.object "java/lang/AbstractStringBuilder")) [] (rO 4 1 92 62) #[(.ref a1), (.long (posL (uu)))] h0 [a1, t] [t] (fun v h' S => ∃ (t' : Addr) (kt : ClassId) (dl : List Int32) (rl : List Value) (cl : Nat), v = some (.ref a1) ∧ (t' = t ∨ h0.size ≤ t') ∧ a1 ≠ t' ∧ n0 ≤ t' ∧ dl = ds ++ (dgl uu nn) ∧ dl.length + rl.length = cl ∧ cl ≤ 92 ∧ (∀ c ∈ dl, ¬ c < 0 ∧ ¬ (255 : Int32) < c) ∧ Fld Z h' a1 "java/lang/AbstractStringBuilder" "value" "[B" (.ref t') ∧ Fld Z h' a1 "java/lang/AbstractStringBuilder" "coder" "B" (.int 0) ∧ Fld Z h' a1 "java/lang/AbstractStringBuilder" "count" "I" (.int (Int32.ofNat (dl.length))) ∧ Arv Z h' t' kt .byte (Int32.ofNat (cl)) (List.map lv dl ++ rl) (.int 0) ∧ Exa Z h' t' "[B" ∧ S t') := by
  obtain ⟨hw, hEL, SC, hzc, SF, rfm⟩ := id B
  refine Met.of (plainFor_of_name pn2) O0 ?_
  intro p e s m below meth c T0 hx hby hml hret hlk hnm hs W0
  have W0 : Wk p l e _ s m _ below meth c Z EL0 n0 [a1, t] "java/lang/AbstractStringBuilder" [t] T0 0 0 h0 := W0
  have D := @tk c _ _ hby Kq34
  refine Go.of (fun _ kk => castTop (ef105 m a1 (posL (uu))) kk) ?_
  refine W0.pv hx D 0 1 1 [_, _, _, _, _] [_] rfl ?_
  refine W0.getF hx (host := "") (Or.inl (B.h 69 rfl)) Via.refl Fnp rfl rfl (D 1 rfl) (fun T1 W1 => ?_)
  refine W1.pv hx D 4 3 7 [_, _, _, _, _] [_, _] rfl ?_
  refine W1.kS hx hEL (B.h 141 rfl) (B.h 142 rfl) (B.h 143 rfl) (B.h 144 rfl) [(.long (posL (uu)))] [(.int (Int32.ofNat (ds.length)))] (rm101 B uu nn h0 W1.old hN hu) all0 1 (by decide +kernel) all0 hml (lenOf pd21 rfl) (D 7 rfl) ⟨rfl, rfl, rfl, rfl⟩ (fun T2 h2 v2 P2 Ws2 K2 q2 => ?_)
  have W2 := Ws2 [] all0
  obtain ⟨rfl, rfl⟩ := q2
  have ea3 : ((Int32.ofNat (ds.length)) + (Int32.ofNat (nn))) = (Int32.ofNat (ds.length + nn)) := (addN (ds.length) (nn)).trans (congrArg Int32.ofNat (by omega))
  refine W2.pv hx D 10 4 16 [_, _, _, _, vi (Int32.ofNat (ds.length + nn))] [.int (Int32.ofNat (ds.length + nn)), _] (by rw [← ea3]; rfl) ?_
  refine W2.callW hx hEL (B.h 71 rfl) (B.h 74 rfl) (B.h 72 rfl) (B.h 40 rfl) (B.h 75 rfl) (by decide +kernel) Eb (a := a1) (argsL := [(.int (Int32.ofNat (ds.length + nn)))]) (rest := []) (rm46 B a1 t kc ds rs cp (ds.length + nn) h0 W2.old Eb Fvp Fcp Fnp Ab Et hsm hcp hds g1 g2 nat (by first | omega | (simp only [LN]; omega))) (allS (mI 0 rfl) all0) (by decide +kernel) (Wd := 0) (by decide +kernel) (by decide +kernel) (by decide +kernel) (allS ⟨g1, (Or.inl (mI 0 rfl))⟩ all0) rfl (by rw [hml]; rfl) (lenOf pd4 rfl) rfl (by show 2 * 0 + _ ≤ _; exact Nat.le_of_eq rfl) (D 16 rfl) (fun T4 h4 v4 P4 Ws4 K4 q4 => ?_)
  obtain ⟨t4, kt4, rl4, cl4, rfl, hor4, nat4, gn4, hrl4, hnc4, hcl4, Fv4, Fc4, Fn4, A4, Et4, st4⟩ := q4
  have W4 := Ws4 [t4] (allS st4 all0)
  have gw4 : t4 ∈ [a1, t] ∨ s.heap.size ≤ t4 := hor4.elim (fun q => by rw [q]; exact (Or.inl (mI 1 rfl))) (fun q => Or.inr (Nat.le_trans W2.s0le q))
  have k6 := (Eb.keep K4)
  refine W4.pv hx D 19 1 20 [_, _, _, _, _] [_] rfl ?_
  refine W4.kV hx hEL (B.h 146 rfl) (B.h 147 rfl) (B.h 149 rfl) (B.h 148 rfl) (B.h 40 rfl) (B.h 150 rfl) k6 [] [] (rm34 B a1 h4 W4.old Fc4) all0 0 (by decide +kernel) all0 hml (lenOf pd18 rfl) (D 20 rfl) ⟨rfl, rfl, rfl, rfl⟩ (fun T5 h5 v5 P5 Ws5 K5 q5 => ?_)
  have W5 := Ws5 [] all0
  obtain ⟨rfl, rfl⟩ := q5
  refine W5.pu hx D 23 [(0, false)] 3 30 [_, _, _, _, _] [_, _, _] rfl ⟨trivial, (XT.i0_eq_f (by decide +kernel))⟩ ?_
  refine W5.getF hx (host := "") (Or.inl (B.h 44 rfl)) Via.refl Fv4 rfl rfl (D 30 rfl) (fun T7 W7 => ?_)
  refine W7.kS hx hEL (B.h 151 rfl) (B.h 152 rfl) (B.h 143 rfl) (B.h 153 rfl) [(.long (posL (uu))), (.int (Int32.ofNat (ds.length + nn))), (.ref t4)] [] (rm103 B t4 kt4 ds rl4 cl4 don dtn ko kt uu nn (ds.length + nn) h4 W7.old A4 hrl4 hcl4 gn4 OSo OSt OAo OAt hN hu (by first | omega | (simp only [LN]; omega))) (allS (mI 0 rfl) all0) 0 (by decide +kernel) (allS ⟨gn4, gw4⟩ all0) hml (lenOf pd22 rfl) (D 33 rfl) ⟨rfl, rfl, rfl, rfl⟩ (fun T8 h8 v8 P8 Ws8 K8 q8 => ?_)
  have W8 := Ws8 [] all0
  obtain ⟨zg8, rfl, A8⟩ := q8
  have k9 := (Fn4.keep K8 (ninS nat4 nin0))
  have k10 := (k6.keep K8)
  refine W8.pv hx D 36 4 55 [_, _, _, _, _] [_, _] rfl ?_
  refine W8.putF hx (host := "") (Or.inl (B.h 69 rfl)) Via.refl k9 k10 (Or.inl (B.h 70 rfl)) (B.h 31 rfl) (ty := .int) (by decide +kernel) rfl rfl g1 (Or.inl (mI 0 rfl)) (Or.inr ⟨by decide, by decide⟩) rfl rfl (D 55 rfl) (fun T11 h11 W11 w11 => ?_)
  have k12 := (Fv4.keep K8 (ninS nat4 nin0))
  have k13 := (Fc4.keep K8 (ninS nat4 nin0))
  have K11 := Keep.of_wr w11
  have k14 := k12.other w11 (Or.inr (slot_ne (Or.inl (B.h 45 rfl)) (Or.inl (B.h 70 rfl)) (by decide +kernel) (t := (.array .byte)) (t' := .int) (by decide +kernel) (by decide +kernel)))
  have k15 := k13.other w11 (Or.inr (slot_ne (Or.inl (B.h 47 rfl)) (Or.inl (B.h 70 rfl)) (by decide +kernel) (t := .byte) (t' := .int) (by decide +kernel) (by decide +kernel)))
  have k16 := k9.same w11
  have k17 := (A8.keep K11 (ninS (nat4).symm nin0))
  have k18 := ((Et4.keep K8).keep K11)
  refine W11.pv hx D 58 1 59 [_, _, _, _, _] [_] rfl ?_
  exact W11.retA hx hEL hs hlk (by decide +kernel) (by decide +kernel) hret rfl rfl (D 59 rfl) (fun S hS => ⟨t4, kt4, ds ++ (dgl uu nn), rl4.drop (nn), cl4, rfl, (hor4.imp id (fun q => Nat.le_trans (Nat.le_refl _) q)), nat4, gn4, rfl, (by rw [(show (ds ++ (dgl uu nn)).length = ds.length + (nn) from by simp only [List.length_append, List.length_cons, dgl_len]), List.length_drop]; omega), hcl4, (bApp hds (dgl_b uu nn)), k14, k15, (by rw [(show (ds ++ (dgl uu nn)).length = ds.length + (nn) from by simp only [List.length_append, List.length_cons, dgl_len])]; exact k16), k17, k18, hS _ (mI 0 rfl)⟩)
theorem ef106 (m : MethodId) (x0 : Addr) (x1 : Int64)  : entryFrame m #[(.ref x0), (.long x1)] 3 = mkF m 0 #[vr x0, .val (.long x1), S0] [] := by first | (simp [entryFrame, mkF, argsToLocals, Value.category]; done) | rfl | rfl
set_option maxRecDepth 65536 in
set_option maxHeartbeats 40000000 in
theorem rm106 (B : EV l Z a0 zc fm) (a1 t : Addr) (kc : ClassId) (ds : List Int32) (rs : List Value) (cp : Nat) (don dtn : Addr) (ko kt : ClassId) (uu nn : Nat) (h0 : Heap) {n0 : Nat} (O0 : Old Z n0 h0) (Eb : Exa Z h0 a1 "java/lang/StringBuilder") (Fvp : Fld Z h0 a1 "java/lang/AbstractStringBuilder" "value" "[B" (.ref t)) (Fcp : Fld Z h0 a1 "java/lang/AbstractStringBuilder" "coder" "B" (.int 0)) (Fnp : Fld Z h0 a1 "java/lang/AbstractStringBuilder" "count" "I" (.int (Int32.ofNat (ds.length)))) (Ab : Arv Z h0 t kc .byte (Int32.ofNat (cp)) (List.map lv ds ++ rs) (.int 0)) (Et : Exa Z h0 t "[B") (hsm : ds.length + rs.length = cp) (hcp : cp ≤ 92) (hds : ∀ c ∈ ds, ¬ c < 0 ∧ ¬ (255 : Int32) < c) (g1 : n0 ≤ a1) (g2 : n0 ≤ t) (nat : a1 ≠ t) (OSo : Sta Z Z.heap "java/lang/Integer" "DigitOnes" "[B" (.ref don)) (OSt : Sta Z Z.heap "java/lang/Integer" "DigitTens" "[B" (.ref dtn)) (OAo : Arv Z Z.heap don ko .byte (100 : Int32) onesL (.int 0)) (OAt : Arv Z Z.heap dtn kt .byte (100 : Int32) tensL (.int 0)) (hN : ND uu nn) (hu : 0 ≤ uu ∧ uu ≤ 9223372036854 ∧ 1 ≤ nn ∧ nn ≤ 13) (hmx : ds.length + (nn) ≤ 46) :
    Met l Z EL0 n0 (⟨"java/lang/StringBuilder", "append", "(J)Ljava/lang/StringBuilder;"⟩ : MethodName) jdk_67_method_16_code 3 (some (.object "java/lang/StringBuilder")) [] (rO 5 1 92 78) #[(.ref a1), (.long (posL (uu)))] h0 [a1, t] [t] (fun v h' S => ∃ (t' : Addr) (kt : ClassId) (dl : List Int32) (rl : List Value) (cl : Nat), v = some (.ref a1) ∧ (t' = t ∨ h0.size ≤ t') ∧ a1 ≠ t' ∧ n0 ≤ t' ∧ dl = ds ++ (dgl uu nn) ∧ dl.length + rl.length = cl ∧ cl ≤ 92 ∧ (∀ c ∈ dl, ¬ c < 0 ∧ ¬ (255 : Int32) < c) ∧ Fld Z h' a1 "java/lang/AbstractStringBuilder" "value" "[B" (.ref t') ∧ Fld Z h' a1 "java/lang/AbstractStringBuilder" "coder" "B" (.int 0) ∧ Fld Z h' a1 "java/lang/AbstractStringBuilder" "count" "I" (.int (Int32.ofNat (dl.length))) ∧ Arv Z h' t' kt .byte (Int32.ofNat (cl)) (List.map lv dl ++ rl) (.int 0) ∧ Exa Z h' t' "[B" ∧ S t') := by
  obtain ⟨hw, hEL, SC, hzc, SF, rfm⟩ := id B
  refine Met.of (plainFor_of_name pn3) O0 ?_
  intro p e s m below meth c T0 hx hby hml hret hlk hnm hs W0
  have W0 : Wk p l e _ s m _ below meth c Z EL0 n0 [a1, t] "java/lang/StringBuilder" [t] T0 0 0 h0 := W0
  have D := @tk c _ _ hby Kq35
  refine Go.of (fun _ kk => castTop (ef106 m a1 (posL (uu))) kk) ?_
  refine W0.pv hx D 0 2 2 [_, _, _] [_, _] rfl ?_
  refine W0.callU hx hEL (B.h 137 rfl) (B.h 55 rfl) (B.h 74 rfl) rfl (by decide +kernel) (B.h 138 rfl) (B.h 40 rfl) (B.h 140 rfl) (by decide +kernel) Eb (a := a1) (argsL := [(.long (posL (uu)))]) (rest := []) (rm105 B a1 t kc ds rs cp don dtn ko kt uu nn h0 W0.old Eb Fvp Fcp Fnp Ab Et hsm hcp hds g1 g2 nat OSo OSt OAo OAt hN hu (by first | omega | (simp only [LN]; omega))) (allS (mI 0 rfl) all0) (by decide +kernel) (Wd := 0) (by decide +kernel) (by decide +kernel) (by decide +kernel) (allS ⟨g1, (Or.inl (mI 0 rfl))⟩ (allS ⟨g2, (Or.inl (mI 1 rfl))⟩ all0)) rfl (by rw [hml]; rfl) (lenOf pd23 rfl) rfl (by show 2 * 0 + _ ≤ _; exact Nat.le_of_eq rfl) (D 2 rfl) (fun T1 h1 v1 P1 Ws1 K1 q1 => ?_)
  obtain ⟨t1, kt1, dl1, rl1, cl1, rfl, hor1, nat1, gn1, edl1, hrl1, hcl1, hbl1, Fv1, Fc1, Fn1, A1, Et1, st1⟩ := q1
  have W1 := Ws1 [t1] (allS st1 all0)
  have gw1 : t1 ∈ [a1, t] ∨ s.heap.size ≤ t1 := hor1.elim (fun q => by rw [q]; exact (Or.inl (mI 1 rfl))) (fun q => Or.inr (Nat.le_trans W0.s0le q))
  have eln1 : dl1.length = ds.length + (nn) := by rw [edl1]; simp only [List.length_append, List.length_cons, List.length_nil, dgl_len] <;> omega
  refine W1.pv hx D 5 2 7 [_, _, _] [_] rfl ?_
  exact W1.retA hx hEL hs hlk (by decide +kernel) (by decide +kernel) hret rfl rfl (D 7 rfl) (fun S hS => ⟨t1, kt1, dl1, rl1, cl1, rfl, (hor1.imp id (fun q => Nat.le_trans (Nat.le_refl _) q)), nat1, gn1, edl1, hrl1, hcl1, hbl1, Fv1, Fc1, Fn1, A1, Et1, hS _ (mI 0 rfl)⟩)
set_option maxRecDepth 65536 in
set_option maxHeartbeats 40000000 in
theorem rm102 (B : EV l Z a0 zc fm) (uu nn : Nat) (h0 : Heap) {n0 : Nat} (O0 : Old Z n0 h0) (hN : ND uu nn) (hu : 1 ≤ uu ∧ uu ≤ 9223372036854 ∧ 1 ≤ nn ∧ nn ≤ 13) :
    Met l Z EL0 n0 (⟨"java/lang/Long", "stringSize", "(J)I"⟩ : MethodName) jdk_35_method_15_code 6 (some .int) [] (rO 0 0 0 0) #[(.long (negL (uu)))] h0 [] [] (fun v h' S => v = some (.int (Int32.ofNat (nn + 1))) ∧ h0 = h') := by
  obtain ⟨hw, hEL, SC, hzc, SF, rfm⟩ := id B
  refine Met.of (plainFor_of_name pn7) O0 ?_
  intro p e s m below meth c T0 hx hby hml hret hlk hnm hs W0
  have W0 : Wk p l e _ s m _ below meth c Z EL0 n0 [] "java/lang/Long" [] T0 0 0 h0 := W0
  have D := @tk c _ _ hby Kq32
  refine Go.of (fun _ kk => castTop (ef101 m (negL (uu))) kk) ?_
  refine W0.pu hx D 0 [(5, true)] 0 13 [_, _, vi 1, _, _, _] [] rfl ⟨trivial, (XT.ll_lt_t (ltZ1 (a := uu) (b := 0) (by decide +kernel) (by omega)))⟩ ?_
  refine W0.ldcJ hx (B.h 145 rfl) rfl (D 13 rfl) ?_
  refine W0.pu hx D 16 [(5, false)] 3 30 [_, _, _, .val (.long (-10 : Int64)), S0, vi 1] [.int (cmpL (negL (uu)) (-10 : Int64))] rfl ⟨trivial, (XT.ii_ge_f (by decide +kernel))⟩ ?_
  by_cases c1 : uu < 10
  · refine W0.pu hx D 30 [(0, false)] 3 37 [_, _, _, _, _, _] [.int 2] rfl ⟨trivial, (XT.ll_le_f (ltZ2 (a := uu) (b := 10) (by decide +kernel) (by omega)))⟩ ?_
    exact W0.retI hx hEL hs hlk (by decide +kernel) (by decide +kernel) hret (by simp) rfl (D 37 rfl) (fun S hS => ⟨congrArg (fun z => some (Value.int (Int32.ofNat z))) (show 2 = nn + 1 from by unfold ND at hN; omega), rfl⟩)
  · refine W0.pu hx D 30 [(0, true)] 0 38 [_, _, _, _, _, _] [] rfl ⟨trivial, (XT.ll_le_t (nltZ2 (a := uu) (b := 10) (by decide +kernel) (by omega)))⟩ ?_
    refine W0.ldcJ hx (B.h 268 rfl) rfl (D 38 rfl) ?_
    refine W0.pv hx D 41 1 42 [_, _, _, _, _, _] [.long (-10 : Int64), _] rfl ?_
    refine gof T0 m 43 #[.val (.long (negL (uu))), S0, vi 1, .val (.long (-10 : Int64)), S0, vi 1] [(.long (-100 : Int64))] (fun _ kk => XS.lmul W0.here hx rfl (D 42 rfl) rfl (by rw [show (10 : Int64) * (-10 : Int64) = (-100 : Int64) from by decide +kernel]; exact kk)) ?_
    refine W0.pu hx D 43 [(5, false)] 3 30 [_, _, _, .val (.long (-100 : Int64)), _, vi 2] [.int (cmpL (negL (uu)) (-100 : Int64))] rfl ⟨trivial, (XT.ii_ge_f (by decide +kernel))⟩ ?_
    by_cases c2 : uu < 100
    · refine W0.pu hx D 30 [(0, false)] 3 37 [_, _, _, _, _, _] [.int 3] rfl ⟨trivial, (XT.ll_le_f (ltZ2 (a := uu) (b := 100) (by decide +kernel) (by omega)))⟩ ?_
      exact W0.retI hx hEL hs hlk (by decide +kernel) (by decide +kernel) hret (by simp) rfl (D 37 rfl) (fun S hS => ⟨congrArg (fun z => some (Value.int (Int32.ofNat z))) (show 3 = nn + 1 from by unfold ND at hN; omega), rfl⟩)
    · refine W0.pu hx D 30 [(0, true)] 0 38 [_, _, _, _, _, _] [] rfl ⟨trivial, (XT.ll_le_t (nltZ2 (a := uu) (b := 100) (by decide +kernel) (by omega)))⟩ ?_
      refine W0.ldcJ hx (B.h 268 rfl) rfl (D 38 rfl) ?_
      refine W0.pv hx D 41 1 42 [_, _, _, _, _, _] [.long (-100 : Int64), _] rfl ?_
      refine gof T0 m 43 #[.val (.long (negL (uu))), S0, vi 1, .val (.long (-100 : Int64)), S0, vi 2] [(.long (-1000 : Int64))] (fun _ kk => XS.lmul W0.here hx rfl (D 42 rfl) rfl (by rw [show (10 : Int64) * (-100 : Int64) = (-1000 : Int64) from by decide +kernel]; exact kk)) ?_
      refine W0.pu hx D 43 [(5, false)] 3 30 [_, _, _, .val (.long (-1000 : Int64)), _, vi 3] [.int (cmpL (negL (uu)) (-1000 : Int64))] rfl ⟨trivial, (XT.ii_ge_f (by decide +kernel))⟩ ?_
      by_cases c3 : uu < 1000
      · refine W0.pu hx D 30 [(0, false)] 3 37 [_, _, _, _, _, _] [.int 4] rfl ⟨trivial, (XT.ll_le_f (ltZ2 (a := uu) (b := 1000) (by decide +kernel) (by omega)))⟩ ?_
        exact W0.retI hx hEL hs hlk (by decide +kernel) (by decide +kernel) hret (by simp) rfl (D 37 rfl) (fun S hS => ⟨congrArg (fun z => some (Value.int (Int32.ofNat z))) (show 4 = nn + 1 from by unfold ND at hN; omega), rfl⟩)
      · refine W0.pu hx D 30 [(0, true)] 0 38 [_, _, _, _, _, _] [] rfl ⟨trivial, (XT.ll_le_t (nltZ2 (a := uu) (b := 1000) (by decide +kernel) (by omega)))⟩ ?_
        refine W0.ldcJ hx (B.h 268 rfl) rfl (D 38 rfl) ?_
        refine W0.pv hx D 41 1 42 [_, _, _, _, _, _] [.long (-1000 : Int64), _] rfl ?_
        refine gof T0 m 43 #[.val (.long (negL (uu))), S0, vi 1, .val (.long (-1000 : Int64)), S0, vi 3] [(.long (-10000 : Int64))] (fun _ kk => XS.lmul W0.here hx rfl (D 42 rfl) rfl (by rw [show (10 : Int64) * (-1000 : Int64) = (-10000 : Int64) from by decide +kernel]; exact kk)) ?_
        refine W0.pu hx D 43 [(5, false)] 3 30 [_, _, _, .val (.long (-10000 : Int64)), _, vi 4] [.int (cmpL (negL (uu)) (-10000 : Int64))] rfl ⟨trivial, (XT.ii_ge_f (by decide +kernel))⟩ ?_
        by_cases c4 : uu < 10000
        · refine W0.pu hx D 30 [(0, false)] 3 37 [_, _, _, _, _, _] [.int 5] rfl ⟨trivial, (XT.ll_le_f (ltZ2 (a := uu) (b := 10000) (by decide +kernel) (by omega)))⟩ ?_
          exact W0.retI hx hEL hs hlk (by decide +kernel) (by decide +kernel) hret (by simp) rfl (D 37 rfl) (fun S hS => ⟨congrArg (fun z => some (Value.int (Int32.ofNat z))) (show 5 = nn + 1 from by unfold ND at hN; omega), rfl⟩)
        · refine W0.pu hx D 30 [(0, true)] 0 38 [_, _, _, _, _, _] [] rfl ⟨trivial, (XT.ll_le_t (nltZ2 (a := uu) (b := 10000) (by decide +kernel) (by omega)))⟩ ?_
          refine W0.ldcJ hx (B.h 268 rfl) rfl (D 38 rfl) ?_
          refine W0.pv hx D 41 1 42 [_, _, _, _, _, _] [.long (-10000 : Int64), _] rfl ?_
          refine gof T0 m 43 #[.val (.long (negL (uu))), S0, vi 1, .val (.long (-10000 : Int64)), S0, vi 4] [(.long (-100000 : Int64))] (fun _ kk => XS.lmul W0.here hx rfl (D 42 rfl) rfl (by rw [show (10 : Int64) * (-10000 : Int64) = (-100000 : Int64) from by decide +kernel]; exact kk)) ?_
          refine W0.pu hx D 43 [(5, false)] 3 30 [_, _, _, .val (.long (-100000 : Int64)), _, vi 5] [.int (cmpL (negL (uu)) (-100000 : Int64))] rfl ⟨trivial, (XT.ii_ge_f (by decide +kernel))⟩ ?_
          by_cases c5 : uu < 100000
          · refine W0.pu hx D 30 [(0, false)] 3 37 [_, _, _, _, _, _] [.int 6] rfl ⟨trivial, (XT.ll_le_f (ltZ2 (a := uu) (b := 100000) (by decide +kernel) (by omega)))⟩ ?_
            exact W0.retI hx hEL hs hlk (by decide +kernel) (by decide +kernel) hret (by simp) rfl (D 37 rfl) (fun S hS => ⟨congrArg (fun z => some (Value.int (Int32.ofNat z))) (show 6 = nn + 1 from by unfold ND at hN; omega), rfl⟩)
          · refine W0.pu hx D 30 [(0, true)] 0 38 [_, _, _, _, _, _] [] rfl ⟨trivial, (XT.ll_le_t (nltZ2 (a := uu) (b := 100000) (by decide +kernel) (by omega)))⟩ ?_
            refine W0.ldcJ hx (B.h 268 rfl) rfl (D 38 rfl) ?_
            refine W0.pv hx D 41 1 42 [_, _, _, _, _, _] [.long (-100000 : Int64), _] rfl ?_
            refine gof T0 m 43 #[.val (.long (negL (uu))), S0, vi 1, .val (.long (-100000 : Int64)), S0, vi 5] [(.long (-1000000 : Int64))] (fun _ kk => XS.lmul W0.here hx rfl (D 42 rfl) rfl (by rw [show (10 : Int64) * (-100000 : Int64) = (-1000000 : Int64) from by decide +kernel]; exact kk)) ?_
            refine W0.pu hx D 43 [(5, false)] 3 30 [_, _, _, .val (.long (-1000000 : Int64)), _, vi 6] [.int (cmpL (negL (uu)) (-1000000 : Int64))] rfl ⟨trivial, (XT.ii_ge_f (by decide +kernel))⟩ ?_
            by_cases c6 : uu < 1000000
            · refine W0.pu hx D 30 [(0, false)] 3 37 [_, _, _, _, _, _] [.int 7] rfl ⟨trivial, (XT.ll_le_f (ltZ2 (a := uu) (b := 1000000) (by decide +kernel) (by omega)))⟩ ?_
              exact W0.retI hx hEL hs hlk (by decide +kernel) (by decide +kernel) hret (by simp) rfl (D 37 rfl) (fun S hS => ⟨congrArg (fun z => some (Value.int (Int32.ofNat z))) (show 7 = nn + 1 from by unfold ND at hN; omega), rfl⟩)
            · refine W0.pu hx D 30 [(0, true)] 0 38 [_, _, _, _, _, _] [] rfl ⟨trivial, (XT.ll_le_t (nltZ2 (a := uu) (b := 1000000) (by decide +kernel) (by omega)))⟩ ?_
              refine W0.ldcJ hx (B.h 268 rfl) rfl (D 38 rfl) ?_
              refine W0.pv hx D 41 1 42 [_, _, _, _, _, _] [.long (-1000000 : Int64), _] rfl ?_
              refine gof T0 m 43 #[.val (.long (negL (uu))), S0, vi 1, .val (.long (-1000000 : Int64)), S0, vi 6] [(.long (-10000000 : Int64))] (fun _ kk => XS.lmul W0.here hx rfl (D 42 rfl) rfl (by rw [show (10 : Int64) * (-1000000 : Int64) = (-10000000 : Int64) from by decide +kernel]; exact kk)) ?_
              refine W0.pu hx D 43 [(5, false)] 3 30 [_, _, _, .val (.long (-10000000 : Int64)), _, vi 7] [.int (cmpL (negL (uu)) (-10000000 : Int64))] rfl ⟨trivial, (XT.ii_ge_f (by decide +kernel))⟩ ?_
              by_cases c7 : uu < 10000000
              · refine W0.pu hx D 30 [(0, false)] 3 37 [_, _, _, _, _, _] [.int 8] rfl ⟨trivial, (XT.ll_le_f (ltZ2 (a := uu) (b := 10000000) (by decide +kernel) (by omega)))⟩ ?_
                exact W0.retI hx hEL hs hlk (by decide +kernel) (by decide +kernel) hret (by simp) rfl (D 37 rfl) (fun S hS => ⟨congrArg (fun z => some (Value.int (Int32.ofNat z))) (show 8 = nn + 1 from by unfold ND at hN; omega), rfl⟩)
              · refine W0.pu hx D 30 [(0, true)] 0 38 [_, _, _, _, _, _] [] rfl ⟨trivial, (XT.ll_le_t (nltZ2 (a := uu) (b := 10000000) (by decide +kernel) (by omega)))⟩ ?_
                refine W0.ldcJ hx (B.h 268 rfl) rfl (D 38 rfl) ?_
                refine W0.pv hx D 41 1 42 [_, _, _, _, _, _] [.long (-10000000 : Int64), _] rfl ?_
                refine gof T0 m 43 #[.val (.long (negL (uu))), S0, vi 1, .val (.long (-10000000 : Int64)), S0, vi 7] [(.long (-100000000 : Int64))] (fun _ kk => XS.lmul W0.here hx rfl (D 42 rfl) rfl (by rw [show (10 : Int64) * (-10000000 : Int64) = (-100000000 : Int64) from by decide +kernel]; exact kk)) ?_
                refine W0.pu hx D 43 [(5, false)] 3 30 [_, _, _, .val (.long (-100000000 : Int64)), _, vi 8] [.int (cmpL (negL (uu)) (-100000000 : Int64))] rfl ⟨trivial, (XT.ii_ge_f (by decide +kernel))⟩ ?_
                by_cases c8 : uu < 100000000
                · refine W0.pu hx D 30 [(0, false)] 3 37 [_, _, _, _, _, _] [.int 9] rfl ⟨trivial, (XT.ll_le_f (ltZ2 (a := uu) (b := 100000000) (by decide +kernel) (by omega)))⟩ ?_
                  exact W0.retI hx hEL hs hlk (by decide +kernel) (by decide +kernel) hret (by simp) rfl (D 37 rfl) (fun S hS => ⟨congrArg (fun z => some (Value.int (Int32.ofNat z))) (show 9 = nn + 1 from by unfold ND at hN; omega), rfl⟩)
                · refine W0.pu hx D 30 [(0, true)] 0 38 [_, _, _, _, _, _] [] rfl ⟨trivial, (XT.ll_le_t (nltZ2 (a := uu) (b := 100000000) (by decide +kernel) (by omega)))⟩ ?_
                  refine W0.ldcJ hx (B.h 268 rfl) rfl (D 38 rfl) ?_
                  refine W0.pv hx D 41 1 42 [_, _, _, _, _, _] [.long (-100000000 : Int64), _] rfl ?_
                  refine gof T0 m 43 #[.val (.long (negL (uu))), S0, vi 1, .val (.long (-100000000 : Int64)), S0, vi 8] [(.long (-1000000000 : Int64))] (fun _ kk => XS.lmul W0.here hx rfl (D 42 rfl) rfl (by rw [show (10 : Int64) * (-100000000 : Int64) = (-1000000000 : Int64) from by decide +kernel]; exact kk)) ?_
                  refine W0.pu hx D 43 [(5, false)] 3 30 [_, _, _, .val (.long (-1000000000 : Int64)), _, vi 9] [.int (cmpL (negL (uu)) (-1000000000 : Int64))] rfl ⟨trivial, (XT.ii_ge_f (by decide +kernel))⟩ ?_
                  by_cases c9 : uu < 1000000000
                  · refine W0.pu hx D 30 [(0, false)] 3 37 [_, _, _, _, _, _] [.int 10] rfl ⟨trivial, (XT.ll_le_f (ltZ2 (a := uu) (b := 1000000000) (by decide +kernel) (by omega)))⟩ ?_
                    exact W0.retI hx hEL hs hlk (by decide +kernel) (by decide +kernel) hret (by simp) rfl (D 37 rfl) (fun S hS => ⟨congrArg (fun z => some (Value.int (Int32.ofNat z))) (show 10 = nn + 1 from by unfold ND at hN; omega), rfl⟩)
                  · refine W0.pu hx D 30 [(0, true)] 0 38 [_, _, _, _, _, _] [] rfl ⟨trivial, (XT.ll_le_t (nltZ2 (a := uu) (b := 1000000000) (by decide +kernel) (by omega)))⟩ ?_
                    refine W0.ldcJ hx (B.h 268 rfl) rfl (D 38 rfl) ?_
                    refine W0.pv hx D 41 1 42 [_, _, _, _, _, _] [.long (-1000000000 : Int64), _] rfl ?_
                    refine gof T0 m 43 #[.val (.long (negL (uu))), S0, vi 1, .val (.long (-1000000000 : Int64)), S0, vi 9] [(.long (-10000000000 : Int64))] (fun _ kk => XS.lmul W0.here hx rfl (D 42 rfl) rfl (by rw [show (10 : Int64) * (-1000000000 : Int64) = (-10000000000 : Int64) from by decide +kernel]; exact kk)) ?_
                    refine W0.pu hx D 43 [(5, false)] 3 30 [_, _, _, .val (.long (-10000000000 : Int64)), _, vi 10] [.int (cmpL (negL (uu)) (-10000000000 : Int64))] rfl ⟨trivial, (XT.ii_ge_f (by decide +kernel))⟩ ?_
                    by_cases c10 : uu < 10000000000
                    · refine W0.pu hx D 30 [(0, false)] 3 37 [_, _, _, _, _, _] [.int 11] rfl ⟨trivial, (XT.ll_le_f (ltZ2 (a := uu) (b := 10000000000) (by decide +kernel) (by omega)))⟩ ?_
                      exact W0.retI hx hEL hs hlk (by decide +kernel) (by decide +kernel) hret (by simp) rfl (D 37 rfl) (fun S hS => ⟨congrArg (fun z => some (Value.int (Int32.ofNat z))) (show 11 = nn + 1 from by unfold ND at hN; omega), rfl⟩)
                    · refine W0.pu hx D 30 [(0, true)] 0 38 [_, _, _, _, _, _] [] rfl ⟨trivial, (XT.ll_le_t (nltZ2 (a := uu) (b := 10000000000) (by decide +kernel) (by omega)))⟩ ?_
                      refine W0.ldcJ hx (B.h 268 rfl) rfl (D 38 rfl) ?_
                      refine W0.pv hx D 41 1 42 [_, _, _, _, _, _] [.long (-10000000000 : Int64), _] rfl ?_
                      refine gof T0 m 43 #[.val (.long (negL (uu))), S0, vi 1, .val (.long (-10000000000 : Int64)), S0, vi 10] [(.long (-100000000000 : Int64))] (fun _ kk => XS.lmul W0.here hx rfl (D 42 rfl) rfl (by rw [show (10 : Int64) * (-10000000000 : Int64) = (-100000000000 : Int64) from by decide +kernel]; exact kk)) ?_
                      refine W0.pu hx D 43 [(5, false)] 3 30 [_, _, _, .val (.long (-100000000000 : Int64)), _, vi 11] [.int (cmpL (negL (uu)) (-100000000000 : Int64))] rfl ⟨trivial, (XT.ii_ge_f (by decide +kernel))⟩ ?_
                      by_cases c11 : uu < 100000000000
                      · refine W0.pu hx D 30 [(0, false)] 3 37 [_, _, _, _, _, _] [.int 12] rfl ⟨trivial, (XT.ll_le_f (ltZ2 (a := uu) (b := 100000000000) (by decide +kernel) (by omega)))⟩ ?_
                        exact W0.retI hx hEL hs hlk (by decide +kernel) (by decide +kernel) hret (by simp) rfl (D 37 rfl) (fun S hS => ⟨congrArg (fun z => some (Value.int (Int32.ofNat z))) (show 12 = nn + 1 from by unfold ND at hN; omega), rfl⟩)
                      · refine W0.pu hx D 30 [(0, true)] 0 38 [_, _, _, _, _, _] [] rfl ⟨trivial, (XT.ll_le_t (nltZ2 (a := uu) (b := 100000000000) (by decide +kernel) (by omega)))⟩ ?_
                        refine W0.ldcJ hx (B.h 268 rfl) rfl (D 38 rfl) ?_
                        refine W0.pv hx D 41 1 42 [_, _, _, _, _, _] [.long (-100000000000 : Int64), _] rfl ?_
                        refine gof T0 m 43 #[.val (.long (negL (uu))), S0, vi 1, .val (.long (-100000000000 : Int64)), S0, vi 11] [(.long (-1000000000000 : Int64))] (fun _ kk => XS.lmul W0.here hx rfl (D 42 rfl) rfl (by rw [show (10 : Int64) * (-100000000000 : Int64) = (-1000000000000 : Int64) from by decide +kernel]; exact kk)) ?_
                        refine W0.pu hx D 43 [(5, false)] 3 30 [_, _, _, .val (.long (-1000000000000 : Int64)), _, vi 12] [.int (cmpL (negL (uu)) (-1000000000000 : Int64))] rfl ⟨trivial, (XT.ii_ge_f (by decide +kernel))⟩ ?_
                        by_cases c12 : uu < 1000000000000
                        · refine W0.pu hx D 30 [(0, false)] 3 37 [_, _, _, _, _, _] [.int 13] rfl ⟨trivial, (XT.ll_le_f (ltZ2 (a := uu) (b := 1000000000000) (by decide +kernel) (by omega)))⟩ ?_
                          exact W0.retI hx hEL hs hlk (by decide +kernel) (by decide +kernel) hret (by simp) rfl (D 37 rfl) (fun S hS => ⟨congrArg (fun z => some (Value.int (Int32.ofNat z))) (show 13 = nn + 1 from by unfold ND at hN; omega), rfl⟩)
                        · refine W0.pu hx D 30 [(0, true)] 0 38 [_, _, _, _, _, _] [] rfl ⟨trivial, (XT.ll_le_t (nltZ2 (a := uu) (b := 1000000000000) (by decide +kernel) (by omega)))⟩ ?_
                          refine W0.ldcJ hx (B.h 268 rfl) rfl (D 38 rfl) ?_
                          refine W0.pv hx D 41 1 42 [_, _, _, _, _, _] [.long (-1000000000000 : Int64), _] rfl ?_
                          refine gof T0 m 43 #[.val (.long (negL (uu))), S0, vi 1, .val (.long (-1000000000000 : Int64)), S0, vi 12] [(.long (-10000000000000 : Int64))] (fun _ kk => XS.lmul W0.here hx rfl (D 42 rfl) rfl (by rw [show (10 : Int64) * (-1000000000000 : Int64) = (-10000000000000 : Int64) from by decide +kernel]; exact kk)) ?_
                          refine W0.pu hx D 43 [(5, false), (3, false)] 3 37 [_, _, _, .val (.long (-10000000000000 : Int64)), _, vi 13] [.int 14] rfl ⟨⟨trivial, (XT.ii_ge_f (by decide +kernel))⟩, (XT.ll_le_f (ltZ2 (a := uu) (b := 10000000000000) (by decide +kernel) (by omega)))⟩ ?_
                          exact W0.retI hx hEL hs hlk (by decide +kernel) (by decide +kernel) hret (by simp) rfl (D 37 rfl) (fun S hS => ⟨congrArg (fun z => some (Value.int (Int32.ofNat z))) (show 14 = nn + 1 from by unfold ND at hN; omega), rfl⟩)
set_option maxRecDepth 65536 in
set_option maxHeartbeats 40000000 in
theorem rm104 (B : EV l Z a0 zc fm) (t : Addr) (kc : ClassId) (ds : List Int32) (rs : List Value) (cp : Nat) (don dtn : Addr) (ko kt : ClassId) (u0 nw c0 : Nat) (h0 : Heap) {n0 : Nat} (O0 : Old Z n0 h0) (Ab : Arv Z h0 t kc .byte (Int32.ofNat (cp)) (List.map lv ds ++ rs) (.int 0)) (hsm : ds.length + rs.length = cp) (hcp : cp ≤ 92) (g2 : n0 ≤ t) (OSo : Sta Z Z.heap "java/lang/Integer" "DigitOnes" "[B" (.ref don)) (OSt : Sta Z Z.heap "java/lang/Integer" "DigitTens" "[B" (.ref dtn)) (OAo : Arv Z Z.heap don ko .byte (100 : Int32) onesL (.int 0)) (OAt : Arv Z Z.heap dtn kt .byte (100 : Int32) tensL (.int 0)) (hN : ND u0 nw) (hu : 1 ≤ u0 ∧ u0 ≤ 9223372036854 ∧ 1 ≤ nw ∧ nw ≤ 13) (hc0 : c0 = ds.length + (nw + 1) ∧ c0 ≤ cp) :
    Met l Z EL0 n0 (⟨"java/lang/Long", "getChars", "(JI[B)I"⟩ : MethodName) jdk_35_method_14_code 11 (some .int) [] (rO 0 0 0 0) #[(.long (negL (u0))), (.int (Int32.ofNat (c0))), (.ref t)] h0 [t] [t] (fun v h' S => ∃ z : Int32, v = some (.int z) ∧ Arv Z h' t kc .byte (Int32.ofNat (cp)) (List.map lv (ds ++ ((45 : Int32) :: dgl u0 nw)) ++ rs.drop (nw + 1)) (.int 0)) := by
  obtain ⟨hw, hEL, SC, hzc, SF, rfm⟩ := id B
  refine Met.of (plainFor_of_name pn7) O0 ?_
  intro p e s m below meth c T0 hx hby hml hret hlk hnm hs W0
  have W0 : Wk p l e _ s m _ below meth c Z EL0 n0 [t] "java/lang/Long" [t] T0 0 0 h0 := W0
  have D := @tk c _ _ hby Kq33
  refine Go.of (fun _ kk => castTop (ef103 m (negL (u0)) (Int32.ofNat (c0)) t) kk) ?_
  have hr0 : nw + 1 ≤ rs.length := by omega
  have lL0 : (List.map lv ds ++ rs).length = cp := by rw [List.length_append, List.length_map]; exact hsm
  have tlF1 : ∀ (Tt : State) (ht : Heap) (yl : Int64) (y2 : Int32) (y4 : Slot) (y5 : Slot) (y6 : Slot) (y9 : Slot) (uu : Nat) (nn : Nat) (cc : Nat) (as : List Value), Wk p l e (rO 0 0 0 0) s m #[(.long (negL (u0))), (.int (Int32.ofNat (c0))), (.ref t)] below meth c Z EL0 n0 [t] "java/lang/Long" [t] Tt 0 0 ht → Arv Z ht t kc .byte (Int32.ofNat (cp)) as (.int 0) → as.length = cp → cc = ds.length + (nn + 1) ∧ cc ≤ cp → Dg (List.map lv ds ++ rs) c0 u0 nw uu nn cc as → uu ≤ 9 → Go p e below (Fend Z EL0 n0 s h0 [t] (fun v h' S => ∃ z : Int32, v = some (.int z) ∧ Arv Z h' t kc .byte (Int32.ofNat (cp)) (List.map lv (ds ++ ((45 : Int32) :: dgl u0 nw)) ++ rs.drop (nw + 1)) (.int 0)) (rO 0 0 0 0)) (Tt.setTop (mkF m 143 #[.val (.long yl), S0, vi y2, vr t, y4, y5, y6, vi (Int32.ofNat (cc)), vi 1, y9, vi (negI (uu))] [])) := by
    intro Tt ht yl y2 y4 y5 y6 y9 uu nn cc as Wt At lL0 hcc hD hhi
    have hlo : 0 ≤ uu := Nat.zero_le _
    have hv : uu = uu / 1 := (Nat.div_one _).symm
    have hL : 2 ≤ cc := by have := nd_1 hD.1 hhi; omega
    have hL1 : 1 ≤ cc - 1 := decGe hL
    have hE1 : cc - 1 + 1 ≤ cp := decLe0 hcc.2 (Nat.le_trans (by decide) hL)
    have ea2 : ((Int32.ofNat (cc)) + (-1 : Int32)) = (Int32.ofNat (cc - 1)) := decN (Nat.le_trans (by decide) hL)
    refine Wt.pv hx D 143 3 149 [_, _, _, _, _, _, _, vi (Int32.ofNat (cc - 1)), _, _, _] [.int (Int32.ofNat (cc - 1)), _] (by rw [← ea2]; rfl) ?_
    refine Wt.getS hx (host := "") (Or.inl (B.h 155 rfl)) Via.refl OSo rfl (D 149 rfl) (fun T3 W3 => ?_)
    have ea4 : (-(negI (uu))) = (Int32.ofNat (uu)) := negNegI (ltHi hhi (by decide))
    have k5 := OAo.ext W3.old.2
    refine W3.pv hx D 152 2 155 [_, _, _, _, _, _, _, _, _, _, _] [.int (Int32.ofNat (uu)), _, _, _] (by rw [← ea4]; rfl) ?_
    refine W3.baload hx k5 ⟨nltN (a := uu) (b := 0) ⟨Nat.zero_le _, (ltHi hhi (by decide))⟩, ltN (a := uu) (b := 100) ⟨ltHi hhi (by decide), by decide⟩⟩ (v := (.int (dgc uu 0))) (onesAt (u := uu) (j := 0) (r := uu) (D := 1) (by decide) (on2 (Nat.le_trans hhi (by decide)) hv)) rfl rfl (D 155 rfl) ?_
    refine W3.stB hx (vs := as) At (stIdx hE1 hcp) (cc - 1) (stClamp hE1 hcp) (stLen hE1 lL0) g2 (Or.inl (mI 0 rfl)) (mI 0 rfl) rfl rfl (D 156 rfl) (fun T6 h6 W6 K6 A6 => ?_)
    obtain ⟨Lw6, eLw6⟩ : ∃ z, z = (as.set (cc - 1) (lv (dgc uu 0))) := ⟨_, rfl⟩
    have lLw6 : Lw6.length = cp := stSet lL0 eLw6
    have V6 : Arv Z h6 t kc .byte (Int32.ofNat (cp)) Lw6 (.int 0) := by rw [eLw6]; exact A6
    have hL7 : 0 ≤ cc - 1 - 1 := decGe hL1
    have hE7 : cc - 1 - 1 + 1 ≤ cp := decLe hE1
    have ea8 : ((Int32.ofNat (cc - 1)) + (-1 : Int32)) = (Int32.ofNat (cc - 1 - 1)) := decN (Nat.le_trans (by decide) hL1)
    refine W6.pu hx D 157 [(2, true), (1, false)] 1 184 [_, _, _, _, _, _, _, _, _, _, _] [_] rfl ⟨⟨trivial, (XT.ii_ge_t (nltZI1 (a := uu) (b := 9) (by decide +kernel) ⟨Nat.le_trans hhi (by decide), by decide⟩))⟩, (XT.i0_eq_f (by decide +kernel))⟩ ?_
    refine W6.pv hx D 184 3 191 [_, _, _, _, _, _, _, vi (Int32.ofNat (cc - 1 - 1)), _, _, _] [.int 45, .int (Int32.ofNat (cc - 1 - 1)), _] (by rw [← ea8]; rfl) ?_
    refine W6.stB hx (vs := Lw6) V6 (stIdx hE7 hcp) (cc - 1 - 1) (stClamp hE7 hcp) (stLen hE7 lLw6) g2 (Or.inl (mI 0 rfl)) (mI 0 rfl) rfl rfl (D 191 rfl) (fun T9 h9 W9 K9 A9 => ?_)
    obtain ⟨Lw9, eLw9⟩ : ∃ z, z = (Lw6.set (cc - 1 - 1) (lv (45 : Int32))) := ⟨_, rfl⟩
    have lLw9 : Lw9.length = cp := stSet lLw6 eLw9
    have V9 : Arv Z h9 t kc .byte (Int32.ofNat (cp)) Lw9 (.int 0) := by rw [eLw9]; exact A9
    have qw := V9
    refine W9.pv hx D 192 1 194 [_, _, _, _, _, _, _, _, _, _, _] [_] rfl ?_
    rw [fi11 hD hc0.1 hr0 (Nat.le_trans (by decide) hL) hhi eLw6 eLw9] at qw
    exact W9.retI hx hEL hs hlk (by decide +kernel) (by decide +kernel) hret (by simp) rfl (D 194 rfl) (fun S hS => ⟨_, rfl, qw⟩)
  have tlF2 : ∀ (Tt : State) (ht : Heap) (yl : Int64) (y2 : Int32) (y4 : Slot) (y5 : Slot) (y6 : Slot) (y9 : Slot) (uu : Nat) (nn : Nat) (cc : Nat) (as : List Value), Wk p l e (rO 0 0 0 0) s m #[(.long (negL (u0))), (.int (Int32.ofNat (c0))), (.ref t)] below meth c Z EL0 n0 [t] "java/lang/Long" [t] Tt 0 0 ht → Arv Z ht t kc .byte (Int32.ofNat (cp)) as (.int 0) → as.length = cp → cc = ds.length + (nn + 1) ∧ cc ≤ cp → Dg (List.map lv ds ++ rs) c0 u0 nw uu nn cc as → 10 ≤ uu → uu ≤ 99 → Go p e below (Fend Z EL0 n0 s h0 [t] (fun v h' S => ∃ z : Int32, v = some (.int z) ∧ Arv Z h' t kc .byte (Int32.ofNat (cp)) (List.map lv (ds ++ ((45 : Int32) :: dgl u0 nw)) ++ rs.drop (nw + 1)) (.int 0)) (rO 0 0 0 0)) (Tt.setTop (mkF m 143 #[.val (.long yl), S0, vi y2, vr t, y4, y5, y6, vi (Int32.ofNat (cc)), vi 1, y9, vi (negI (uu))] [])) := by
    intro Tt ht yl y2 y4 y5 y6 y9 uu nn cc as Wt At lL0 hcc hD hlo hhi
    have hv : uu = uu / 1 := (Nat.div_one _).symm
    have hL : 3 ≤ cc := by have := nd_2 hD.1 hlo hhi; omega
    have hL10 : 2 ≤ cc - 1 := decGe hL
    have hE10 : cc - 1 + 1 ≤ cp := decLe0 hcc.2 (Nat.le_trans (by decide) hL)
    have ea11 : ((Int32.ofNat (cc)) + (-1 : Int32)) = (Int32.ofNat (cc - 1)) := decN (Nat.le_trans (by decide) hL)
    refine Wt.pv hx D 143 3 149 [_, _, _, _, _, _, _, vi (Int32.ofNat (cc - 1)), _, _, _] [.int (Int32.ofNat (cc - 1)), _] (by rw [← ea11]; rfl) ?_
    refine Wt.getS hx (host := "") (Or.inl (B.h 155 rfl)) Via.refl OSo rfl (D 149 rfl) (fun T12 W12 => ?_)
    have ea13 : (-(negI (uu))) = (Int32.ofNat (uu)) := negNegI (ltHi hhi (by decide))
    have k14 := OAo.ext W12.old.2
    refine W12.pv hx D 152 2 155 [_, _, _, _, _, _, _, _, _, _, _] [.int (Int32.ofNat (uu)), _, _, _] (by rw [← ea13]; rfl) ?_
    refine W12.baload hx k14 ⟨nltN (a := uu) (b := 0) ⟨Nat.zero_le _, (ltHi hhi (by decide))⟩, ltN (a := uu) (b := 100) ⟨ltHi hhi (by decide), by decide⟩⟩ (v := (.int (dgc uu 0))) (onesAt (u := uu) (j := 0) (r := uu) (D := 1) (by decide) (on2 (Nat.le_trans hhi (by decide)) hv)) rfl rfl (D 155 rfl) ?_
    refine W12.stB hx (vs := as) At (stIdx hE10 hcp) (cc - 1) (stClamp hE10 hcp) (stLen hE10 lL0) g2 (Or.inl (mI 0 rfl)) (mI 0 rfl) rfl rfl (D 156 rfl) (fun T15 h15 W15 K15 A15 => ?_)
    obtain ⟨Lw15, eLw15⟩ : ∃ z, z = (as.set (cc - 1) (lv (dgc uu 0))) := ⟨_, rfl⟩
    have lLw15 : Lw15.length = cp := stSet lL0 eLw15
    have V15 : Arv Z h15 t kc .byte (Int32.ofNat (cp)) Lw15 (.int 0) := by rw [eLw15]; exact A15
    have hL16 : 1 ≤ cc - 1 - 1 := decGe hL10
    have hE16 : cc - 1 - 1 + 1 ≤ cp := decLe hE10
    have ea17 : ((Int32.ofNat (cc - 1)) + (-1 : Int32)) = (Int32.ofNat (cc - 1 - 1)) := decN (Nat.le_trans (by decide) hL10)
    refine W15.pu hx D 157 [(2, false)] 1 165 [_, _, _, _, _, _, _, _, _, _, _] [_] rfl ⟨trivial, (XT.ii_ge_f (ltZI1 (a := uu) (b := 9) (by decide +kernel) ⟨loLt hlo (by decide), (ltHi hhi (by decide))⟩))⟩ ?_
    refine W15.pv hx D 165 2 170 [_, _, _, _, _, _, _, vi (Int32.ofNat (cc - 1 - 1)), _, _, _] [.int (Int32.ofNat (cc - 1 - 1)), _] (by rw [← ea17]; rfl) ?_
    refine W15.getS hx (host := "") (Or.inl (B.h 269 rfl)) Via.refl OSt rfl (D 170 rfl) (fun T18 W18 => ?_)
    have ea19 : (-(negI (uu))) = (Int32.ofNat (uu)) := negNegI (ltHi hhi (by decide))
    have k20 := OAt.ext W18.old.2
    refine W18.pv hx D 173 2 176 [_, _, _, _, _, _, _, _, _, _, _] [.int (Int32.ofNat (uu)), _, _, _] (by rw [← ea19]; rfl) ?_
    refine W18.baload hx k20 ⟨nltN (a := uu) (b := 0) ⟨Nat.zero_le _, (ltHi hhi (by decide))⟩, ltN (a := uu) (b := 100) ⟨ltHi hhi (by decide), by decide⟩⟩ (v := (.int (dgc uu 1))) (tensAt (u := uu) (j := 1) (r := uu) (D := 10) (by decide) (tn2 (by decide) (Nat.le_trans hhi (by decide)) hv)) rfl rfl (D 176 rfl) ?_
    refine W18.stB hx (vs := Lw15) V15 (stIdx hE16 hcp) (cc - 1 - 1) (stClamp hE16 hcp) (stLen hE16 lLw15) g2 (Or.inl (mI 0 rfl)) (mI 0 rfl) rfl rfl (D 177 rfl) (fun T21 h21 W21 K21 A21 => ?_)
    obtain ⟨Lw21, eLw21⟩ : ∃ z, z = (Lw15.set (cc - 1 - 1) (lv (dgc uu 1))) := ⟨_, rfl⟩
    have lLw21 : Lw21.length = cp := stSet lLw15 eLw21
    have V21 : Arv Z h21 t kc .byte (Int32.ofNat (cp)) Lw21 (.int 0) := by rw [eLw21]; exact A21
    have hL22 : 0 ≤ cc - 1 - 1 - 1 := decGe hL16
    have hE22 : cc - 1 - 1 - 1 + 1 ≤ cp := decLe hE16
    have ea23 : ((Int32.ofNat (cc - 1 - 1)) + (-1 : Int32)) = (Int32.ofNat (cc - 1 - 1 - 1)) := decN (Nat.le_trans (by decide) hL16)
    refine W21.pu hx D 178 [(1, false)] 1 184 [_, _, _, _, _, _, _, _, _, _, _] [_] rfl ⟨trivial, (XT.i0_eq_f (by decide +kernel))⟩ ?_
    refine W21.pv hx D 184 3 191 [_, _, _, _, _, _, _, vi (Int32.ofNat (cc - 1 - 1 - 1)), _, _, _] [.int 45, .int (Int32.ofNat (cc - 1 - 1 - 1)), _] (by rw [← ea23]; rfl) ?_
    refine W21.stB hx (vs := Lw21) V21 (stIdx hE22 hcp) (cc - 1 - 1 - 1) (stClamp hE22 hcp) (stLen hE22 lLw21) g2 (Or.inl (mI 0 rfl)) (mI 0 rfl) rfl rfl (D 191 rfl) (fun T24 h24 W24 K24 A24 => ?_)
    obtain ⟨Lw24, eLw24⟩ : ∃ z, z = (Lw21.set (cc - 1 - 1 - 1) (lv (45 : Int32))) := ⟨_, rfl⟩
    have lLw24 : Lw24.length = cp := stSet lLw21 eLw24
    have V24 : Arv Z h24 t kc .byte (Int32.ofNat (cp)) Lw24 (.int 0) := by rw [eLw24]; exact A24
    have qw := V24
    refine W24.pv hx D 192 1 194 [_, _, _, _, _, _, _, _, _, _, _] [_] rfl ?_
    rw [fi21 hD hc0.1 hr0 (Nat.le_trans (by decide) hL) hlo hhi eLw15 eLw21 eLw24] at qw
    exact W24.retI hx hEL hs hlk (by decide +kernel) (by decide +kernel) hret (by simp) rfl (D 194 rfl) (fun S hS => ⟨_, rfl, qw⟩)
  have tlI : ∀ (nn : Nat) (Tt : State) (ht : Heap) (yl : Int64) (y2 : Int32) (y4 : Slot) (y5 : Slot) (y6 : Int32) (y9 : Int32) (uu : Nat) (cc : Nat) (as : List Value), Wk p l e (rO 0 0 0 0) s m #[(.long (negL (u0))), (.int (Int32.ofNat (c0))), (.ref t)] below meth c Z EL0 n0 [t] "java/lang/Long" [t] Tt 0 0 ht → Arv Z ht t kc .byte (Int32.ofNat (cp)) as (.int 0) → as.length = cp → cc = ds.length + (nn + 1) ∧ cc ≤ cp → Dg (List.map lv ds ++ rs) c0 u0 nw uu nn cc as → uu ≤ 2147483647 → Go p e below (Fend Z EL0 n0 s h0 [t] (fun v h' S => ∃ z : Int32, v = some (.int z) ∧ Arv Z h' t kc .byte (Int32.ofNat (cp)) (List.map lv (ds ++ ((45 : Int32) :: dgl u0 nw)) ++ rs.drop (nw + 1)) (.int 0)) (rO 0 0 0 0)) (Tt.setTop (mkF m 86 #[.val (.long yl), S0, vi y2, vr t, y4, y5, vi y6, vi (Int32.ofNat (cc)), vi 1, vi y9, vi (negI (uu))] [])) := by
    intro nn
    induction nn using Nat.strongRecOn
    rename_i nn ih
    intro Tt ht yl y2 y4 y5 y6 y9 uu cc as Wt At lL0 hcc hD hhi
    have hlo : 0 ≤ uu := Nat.zero_le _
    have hv : uu = uu / 1 := (Nat.div_one _).symm
    refine Wt.pv hx D 86 2 90 [_, _, _, _, _, _, _, _, _, _, _] [.int (-100 : Int32), _] rfl ?_
    by_cases c25 : uu < 100
    · have hhi26 : uu ≤ 99 := Nat.le_of_lt_succ c25
      refine Wt.pu hx D 90 [(0, true)] 0 143 [_, _, _, _, _, _, _, _, _, _, _] [] rfl ⟨trivial, (XT.ii_gt_t (ltZI2 (a := uu) (b := 100) (by decide +kernel) ⟨ltHi hhi26 (by decide), by decide⟩))⟩ ?_
      exact (Nat.lt_or_ge 9 uu).elim (fun q => tlF2 _ _ _ _ _ _ _ _ _ _ _ _ Wt At lL0 hcc hD q hhi26) (fun q => tlF1 _ _ _ _ _ _ _ _ _ _ _ _ Wt At lL0 hcc hD q)
    · have hlo27 : 100 ≤ uu := Nat.le_of_not_lt c25
      have hlo28 : 1 ≤ uu / 100 := Nat.div_le_div_right (c := 100) hlo27
      have hhi28 : uu / 100 ≤ 21474836 := Nat.div_le_div_right (c := 100) hhi
      have hv28 : uu / 100 = uu / 100 := dvS (by decide) hv
      have ea29 : ((negI (uu)) / (100 : Int32)) = (negI (uu / 100)) := divNegI (u := uu) (d := 100) ⟨(ltHi hhi (by decide)), by decide⟩
      refine Wt.pu hx D 90 [(0, false)] 2 97 [_, _, _, _, _, _, _, _, _, _, _] [.int 100, _] rfl ⟨trivial, (XT.ii_gt_f (nltZI2 (a := uu) (b := 100) (by decide +kernel) ⟨Nat.le_trans (by decide) hlo27, (ltHi hhi (by decide))⟩))⟩ ?_
      refine gof Tt m 98 #[.val (.long yl), S0, vi y2, vr t, y4, y5, vi y6, vi (Int32.ofNat (cc)), vi 1, vi y9, vi (negI (uu))] [(.int (negI (uu / 100)))] (fun _ kk => XS.idiv Wt.here hx rfl (D 97 rfl) rfl (by decide +kernel) (by rw [ea29]; exact kk)) ?_
      have ea30 : (((negI (uu / 100)) * (100 : Int32)) - (negI (uu))) = (Int32.ofNat (uu % 100)) := mulSubI (u := uu) (ltHi hhi (by decide))
      have hL : 4 ≤ cc := by have := nd_3 hD.1 (Nat.le_trans (by decide) hlo27); omega
      have hL31 : 3 ≤ cc - 1 := decGe hL
      have hE31 : cc - 1 + 1 ≤ cp := decLe0 hcc.2 (Nat.le_trans (by decide) hL)
      have ea32 : ((Int32.ofNat (cc)) + (-1 : Int32)) = (Int32.ofNat (cc - 1)) := decN (Nat.le_trans (by decide) hL)
      refine Wt.pv hx D 98 12 120 [_, _, _, _, _, _, vi (Int32.ofNat (uu % 100)), vi (Int32.ofNat (cc - 1)), _, _, _] [.int (Int32.ofNat (cc - 1)), _] (by rw [← ea32, ← ea30]; rfl) ?_
      refine Wt.getS hx (host := "") (Or.inl (B.h 155 rfl)) Via.refl OSo rfl (D 120 rfl) (fun T33 W33 => ?_)
      have k34 := OAo.ext W33.old.2
      refine W33.pv hx D 123 1 125 [_, _, _, _, _, _, _, _, _, _, _] [_, _, _, _] rfl ?_
      refine W33.baload hx k34 ⟨nltN (a := uu % 100) (b := 0) ⟨Nat.zero_le _, (Nat.lt_of_lt_of_le (m100 _) (by decide))⟩, ltN (a := uu % 100) (b := 100) ⟨m100 _, by decide⟩⟩ (v := (.int (dgc uu 0))) (onesAt (u := uu) (j := 0) (r := uu % 100) (D := 1) (by decide) (on1 hv)) rfl rfl (D 125 rfl) ?_
      refine W33.stB hx (vs := as) At (stIdx hE31 hcp) (cc - 1) (stClamp hE31 hcp) (stLen hE31 lL0) g2 (Or.inl (mI 0 rfl)) (mI 0 rfl) rfl rfl (D 126 rfl) (fun T35 h35 W35 K35 A35 => ?_)
      obtain ⟨Lw35, eLw35⟩ : ∃ z, z = (as.set (cc - 1) (lv (dgc uu 0))) := ⟨_, rfl⟩
      have lLw35 : Lw35.length = cp := stSet lL0 eLw35
      have V35 : Arv Z h35 t kc .byte (Int32.ofNat (cp)) Lw35 (.int 0) := by rw [eLw35]; exact A35
      have hL36 : 2 ≤ cc - 1 - 1 := decGe hL31
      have hE36 : cc - 1 - 1 + 1 ≤ cp := decLe hE31
      have ea37 : ((Int32.ofNat (cc - 1)) + (-1 : Int32)) = (Int32.ofNat (cc - 1 - 1)) := decN (Nat.le_trans (by decide) hL31)
      refine W35.pv hx D 127 3 133 [_, _, _, _, _, _, _, vi (Int32.ofNat (cc - 1 - 1)), _, _, _] [.int (Int32.ofNat (cc - 1 - 1)), _] (by rw [← ea37]; rfl) ?_
      refine W35.getS hx (host := "") (Or.inl (B.h 269 rfl)) Via.refl OSt rfl (D 133 rfl) (fun T38 W38 => ?_)
      have k39 := OAt.ext W38.old.2
      refine W38.pv hx D 136 1 138 [_, _, _, _, _, _, _, _, _, _, _] [_, _, _, _] rfl ?_
      refine W38.baload hx k39 ⟨nltN (a := uu % 100) (b := 0) ⟨Nat.zero_le _, (Nat.lt_of_lt_of_le (m100 _) (by decide))⟩, ltN (a := uu % 100) (b := 100) ⟨m100 _, by decide⟩⟩ (v := (.int (dgc uu 1))) (tensAt (u := uu) (j := 1) (r := uu % 100) (D := 10) (by decide) (tn1 (by decide) hv)) rfl rfl (D 138 rfl) ?_
      refine W38.stB hx (vs := Lw35) V35 (stIdx hE36 hcp) (cc - 1 - 1) (stClamp hE36 hcp) (stLen hE36 lLw35) g2 (Or.inl (mI 0 rfl)) (mI 0 rfl) rfl rfl (D 139 rfl) (fun T40 h40 W40 K40 A40 => ?_)
      obtain ⟨Lw40, eLw40⟩ : ∃ z, z = (Lw35.set (cc - 1 - 1) (lv (dgc uu 1))) := ⟨_, rfl⟩
      have lLw40 : Lw40.length = cp := stSet lLw35 eLw40
      have V40 : Arv Z h40 t kc .byte (Int32.ofNat (cp)) Lw40 (.int 0) := by rw [eLw40]; exact A40
      refine W40.pv hx D 140 1 86 [_, _, _, _, _, _, _, _, _, _, _] [] rfl ?_
      obtain ⟨nk, hk, dq⟩ := dgS hD (Nat.le_trans (by decide) hlo27) (Nat.le_trans (by decide) hL) eLw35 eLw40
      exact ih nk (by omega) _ _ _ _ _ _ _ _ _ _ _ W40 V40 lLw40 ⟨by omega, by omega⟩ dq (Nat.le_trans hhi28 (by decide))
  have tlE : ∀ (Tt : State) (ht : Heap) (yl : Int64) (y2 : Int32) (y4 : Slot) (y5 : Slot) (uu : Nat) (nn : Nat) (cc : Nat) (as : List Value), Wk p l e (rO 0 0 0 0) s m #[(.long (negL (u0))), (.int (Int32.ofNat (c0))), (.ref t)] below meth c Z EL0 n0 [t] "java/lang/Long" [t] Tt 0 0 ht → Arv Z ht t kc .byte (Int32.ofNat (cp)) as (.int 0) → as.length = cp → cc = ds.length + (nn + 1) ∧ cc ≤ cp → Dg (List.map lv ds ++ rs) c0 u0 nw uu nn cc as → uu ≤ 2147483647 → Go p e below (Fend Z EL0 n0 s h0 [t] (fun v h' S => ∃ z : Int32, v = some (.int z) ∧ Arv Z h' t kc .byte (Int32.ofNat (cp)) (List.map lv (ds ++ ((45 : Int32) :: dgl u0 nw)) ++ rs.drop (nw + 1)) (.int 0)) (rO 0 0 0 0)) (Tt.setTop (mkF m 86 #[.val (.long yl), S0, vi y2, vr t, y4, y5, U0, vi (Int32.ofNat (cc)), vi 1, U0, vi (negI (uu))] [])) := by
    intro Tt ht yl y2 y4 y5 uu nn cc as Wt At lL0 hcc hD hhi
    have hlo : 0 ≤ uu := Nat.zero_le _
    have hv : uu = uu / 1 := (Nat.div_one _).symm
    refine Wt.pv hx D 86 2 90 [_, _, _, _, _, _, _, _, _, _, _] [.int (-100 : Int32), _] rfl ?_
    by_cases c41 : uu < 100
    · have hhi42 : uu ≤ 99 := Nat.le_of_lt_succ c41
      refine Wt.pu hx D 90 [(0, true)] 0 143 [_, _, _, _, _, _, _, _, _, _, _] [] rfl ⟨trivial, (XT.ii_gt_t (ltZI2 (a := uu) (b := 100) (by decide +kernel) ⟨ltHi hhi42 (by decide), by decide⟩))⟩ ?_
      exact (Nat.lt_or_ge 9 uu).elim (fun q => tlF2 _ _ _ _ _ _ _ _ _ _ _ _ Wt At lL0 hcc hD q hhi42) (fun q => tlF1 _ _ _ _ _ _ _ _ _ _ _ _ Wt At lL0 hcc hD q)
    · have hlo43 : 100 ≤ uu := Nat.le_of_not_lt c41
      have hlo44 : 1 ≤ uu / 100 := Nat.div_le_div_right (c := 100) hlo43
      have hhi44 : uu / 100 ≤ 21474836 := Nat.div_le_div_right (c := 100) hhi
      have hv44 : uu / 100 = uu / 100 := dvS (by decide) hv
      have ea45 : ((negI (uu)) / (100 : Int32)) = (negI (uu / 100)) := divNegI (u := uu) (d := 100) ⟨(ltHi hhi (by decide)), by decide⟩
      refine Wt.pu hx D 90 [(0, false)] 2 97 [_, _, _, _, _, _, _, _, _, _, _] [.int 100, _] rfl ⟨trivial, (XT.ii_gt_f (nltZI2 (a := uu) (b := 100) (by decide +kernel) ⟨Nat.le_trans (by decide) hlo43, (ltHi hhi (by decide))⟩))⟩ ?_
      refine gof Tt m 98 #[.val (.long yl), S0, vi y2, vr t, y4, y5, U0, vi (Int32.ofNat (cc)), vi 1, U0, vi (negI (uu))] [(.int (negI (uu / 100)))] (fun _ kk => XS.idiv Wt.here hx rfl (D 97 rfl) rfl (by decide +kernel) (by rw [ea45]; exact kk)) ?_
      have ea46 : (((negI (uu / 100)) * (100 : Int32)) - (negI (uu))) = (Int32.ofNat (uu % 100)) := mulSubI (u := uu) (ltHi hhi (by decide))
      have hL : 4 ≤ cc := by have := nd_3 hD.1 (Nat.le_trans (by decide) hlo43); omega
      have hL47 : 3 ≤ cc - 1 := decGe hL
      have hE47 : cc - 1 + 1 ≤ cp := decLe0 hcc.2 (Nat.le_trans (by decide) hL)
      have ea48 : ((Int32.ofNat (cc)) + (-1 : Int32)) = (Int32.ofNat (cc - 1)) := decN (Nat.le_trans (by decide) hL)
      refine Wt.pv hx D 98 12 120 [_, _, _, _, _, _, vi (Int32.ofNat (uu % 100)), vi (Int32.ofNat (cc - 1)), _, _, _] [.int (Int32.ofNat (cc - 1)), _] (by rw [← ea48, ← ea46]; rfl) ?_
      refine Wt.getS hx (host := "") (Or.inl (B.h 155 rfl)) Via.refl OSo rfl (D 120 rfl) (fun T49 W49 => ?_)
      have k50 := OAo.ext W49.old.2
      refine W49.pv hx D 123 1 125 [_, _, _, _, _, _, _, _, _, _, _] [_, _, _, _] rfl ?_
      refine W49.baload hx k50 ⟨nltN (a := uu % 100) (b := 0) ⟨Nat.zero_le _, (Nat.lt_of_lt_of_le (m100 _) (by decide))⟩, ltN (a := uu % 100) (b := 100) ⟨m100 _, by decide⟩⟩ (v := (.int (dgc uu 0))) (onesAt (u := uu) (j := 0) (r := uu % 100) (D := 1) (by decide) (on1 hv)) rfl rfl (D 125 rfl) ?_
      refine W49.stB hx (vs := as) At (stIdx hE47 hcp) (cc - 1) (stClamp hE47 hcp) (stLen hE47 lL0) g2 (Or.inl (mI 0 rfl)) (mI 0 rfl) rfl rfl (D 126 rfl) (fun T51 h51 W51 K51 A51 => ?_)
      obtain ⟨Lw51, eLw51⟩ : ∃ z, z = (as.set (cc - 1) (lv (dgc uu 0))) := ⟨_, rfl⟩
      have lLw51 : Lw51.length = cp := stSet lL0 eLw51
      have V51 : Arv Z h51 t kc .byte (Int32.ofNat (cp)) Lw51 (.int 0) := by rw [eLw51]; exact A51
      have hL52 : 2 ≤ cc - 1 - 1 := decGe hL47
      have hE52 : cc - 1 - 1 + 1 ≤ cp := decLe hE47
      have ea53 : ((Int32.ofNat (cc - 1)) + (-1 : Int32)) = (Int32.ofNat (cc - 1 - 1)) := decN (Nat.le_trans (by decide) hL47)
      refine W51.pv hx D 127 3 133 [_, _, _, _, _, _, _, vi (Int32.ofNat (cc - 1 - 1)), _, _, _] [.int (Int32.ofNat (cc - 1 - 1)), _] (by rw [← ea53]; rfl) ?_
      refine W51.getS hx (host := "") (Or.inl (B.h 269 rfl)) Via.refl OSt rfl (D 133 rfl) (fun T54 W54 => ?_)
      have k55 := OAt.ext W54.old.2
      refine W54.pv hx D 136 1 138 [_, _, _, _, _, _, _, _, _, _, _] [_, _, _, _] rfl ?_
      refine W54.baload hx k55 ⟨nltN (a := uu % 100) (b := 0) ⟨Nat.zero_le _, (Nat.lt_of_lt_of_le (m100 _) (by decide))⟩, ltN (a := uu % 100) (b := 100) ⟨m100 _, by decide⟩⟩ (v := (.int (dgc uu 1))) (tensAt (u := uu) (j := 1) (r := uu % 100) (D := 10) (by decide) (tn1 (by decide) hv)) rfl rfl (D 138 rfl) ?_
      refine W54.stB hx (vs := Lw51) V51 (stIdx hE52 hcp) (cc - 1 - 1) (stClamp hE52 hcp) (stLen hE52 lLw51) g2 (Or.inl (mI 0 rfl)) (mI 0 rfl) rfl rfl (D 139 rfl) (fun T56 h56 W56 K56 A56 => ?_)
      obtain ⟨Lw56, eLw56⟩ : ∃ z, z = (Lw51.set (cc - 1 - 1) (lv (dgc uu 1))) := ⟨_, rfl⟩
      have lLw56 : Lw56.length = cp := stSet lLw51 eLw56
      have V56 : Arv Z h56 t kc .byte (Int32.ofNat (cp)) Lw56 (.int 0) := by rw [eLw56]; exact A56
      refine W56.pv hx D 140 1 86 [_, _, _, _, _, _, _, _, _, _, _] [] rfl ?_
      obtain ⟨nk, hk, dq⟩ := dgS hD (Nat.le_trans (by decide) hlo43) (Nat.le_trans (by decide) hL) eLw51 eLw56
      exact tlI nk _ _ _ _ _ _ _ _ _ _ _ W56 V56 lLw56 ⟨by omega, by omega⟩ dq (Nat.le_trans hhi44 (by decide))
  have tlG : ∀ (Tt : State) (ht : Heap) (yl : Int64) (y2 : Int32) (y4 : Slot) (y5 : Slot) (y6 : Int32) (uu : Nat) (nn : Nat) (cc : Nat) (as : List Value), Wk p l e (rO 0 0 0 0) s m #[(.long (negL (u0))), (.int (Int32.ofNat (c0))), (.ref t)] below meth c Z EL0 n0 [t] "java/lang/Long" [t] Tt 0 0 ht → Arv Z ht t kc .byte (Int32.ofNat (cp)) as (.int 0) → as.length = cp → cc = ds.length + (nn + 1) ∧ cc ≤ cp → Dg (List.map lv ds ++ rs) c0 u0 nw uu nn cc as → uu ≤ 2147483647 → Go p e below (Fend Z EL0 n0 s h0 [t] (fun v h' S => ∃ z : Int32, v = some (.int z) ∧ Arv Z h' t kc .byte (Int32.ofNat (cp)) (List.map lv (ds ++ ((45 : Int32) :: dgl u0 nw)) ++ rs.drop (nw + 1)) (.int 0)) (rO 0 0 0 0)) (Tt.setTop (mkF m 86 #[.val (.long yl), S0, vi y2, vr t, y4, y5, vi y6, vi (Int32.ofNat (cc)), vi 1, U0, vi (negI (uu))] [])) := by
    intro Tt ht yl y2 y4 y5 y6 uu nn cc as Wt At lL0 hcc hD hhi
    have hlo : 0 ≤ uu := Nat.zero_le _
    have hv : uu = uu / 1 := (Nat.div_one _).symm
    refine Wt.pv hx D 86 2 90 [_, _, _, _, _, _, _, _, _, _, _] [.int (-100 : Int32), _] rfl ?_
    by_cases c57 : uu < 100
    · have hhi58 : uu ≤ 99 := Nat.le_of_lt_succ c57
      refine Wt.pu hx D 90 [(0, true)] 0 143 [_, _, _, _, _, _, _, _, _, _, _] [] rfl ⟨trivial, (XT.ii_gt_t (ltZI2 (a := uu) (b := 100) (by decide +kernel) ⟨ltHi hhi58 (by decide), by decide⟩))⟩ ?_
      exact (Nat.lt_or_ge 9 uu).elim (fun q => tlF2 _ _ _ _ _ _ _ _ _ _ _ _ Wt At lL0 hcc hD q hhi58) (fun q => tlF1 _ _ _ _ _ _ _ _ _ _ _ _ Wt At lL0 hcc hD q)
    · have hlo59 : 100 ≤ uu := Nat.le_of_not_lt c57
      have hlo60 : 1 ≤ uu / 100 := Nat.div_le_div_right (c := 100) hlo59
      have hhi60 : uu / 100 ≤ 21474836 := Nat.div_le_div_right (c := 100) hhi
      have hv60 : uu / 100 = uu / 100 := dvS (by decide) hv
      have ea61 : ((negI (uu)) / (100 : Int32)) = (negI (uu / 100)) := divNegI (u := uu) (d := 100) ⟨(ltHi hhi (by decide)), by decide⟩
      refine Wt.pu hx D 90 [(0, false)] 2 97 [_, _, _, _, _, _, _, _, _, _, _] [.int 100, _] rfl ⟨trivial, (XT.ii_gt_f (nltZI2 (a := uu) (b := 100) (by decide +kernel) ⟨Nat.le_trans (by decide) hlo59, (ltHi hhi (by decide))⟩))⟩ ?_
      refine gof Tt m 98 #[.val (.long yl), S0, vi y2, vr t, y4, y5, vi y6, vi (Int32.ofNat (cc)), vi 1, U0, vi (negI (uu))] [(.int (negI (uu / 100)))] (fun _ kk => XS.idiv Wt.here hx rfl (D 97 rfl) rfl (by decide +kernel) (by rw [ea61]; exact kk)) ?_
      have ea62 : (((negI (uu / 100)) * (100 : Int32)) - (negI (uu))) = (Int32.ofNat (uu % 100)) := mulSubI (u := uu) (ltHi hhi (by decide))
      have hL : 4 ≤ cc := by have := nd_3 hD.1 (Nat.le_trans (by decide) hlo59); omega
      have hL63 : 3 ≤ cc - 1 := decGe hL
      have hE63 : cc - 1 + 1 ≤ cp := decLe0 hcc.2 (Nat.le_trans (by decide) hL)
      have ea64 : ((Int32.ofNat (cc)) + (-1 : Int32)) = (Int32.ofNat (cc - 1)) := decN (Nat.le_trans (by decide) hL)
      refine Wt.pv hx D 98 12 120 [_, _, _, _, _, _, vi (Int32.ofNat (uu % 100)), vi (Int32.ofNat (cc - 1)), _, _, _] [.int (Int32.ofNat (cc - 1)), _] (by rw [← ea64, ← ea62]; rfl) ?_
      refine Wt.getS hx (host := "") (Or.inl (B.h 155 rfl)) Via.refl OSo rfl (D 120 rfl) (fun T65 W65 => ?_)
      have k66 := OAo.ext W65.old.2
      refine W65.pv hx D 123 1 125 [_, _, _, _, _, _, _, _, _, _, _] [_, _, _, _] rfl ?_
      refine W65.baload hx k66 ⟨nltN (a := uu % 100) (b := 0) ⟨Nat.zero_le _, (Nat.lt_of_lt_of_le (m100 _) (by decide))⟩, ltN (a := uu % 100) (b := 100) ⟨m100 _, by decide⟩⟩ (v := (.int (dgc uu 0))) (onesAt (u := uu) (j := 0) (r := uu % 100) (D := 1) (by decide) (on1 hv)) rfl rfl (D 125 rfl) ?_
      refine W65.stB hx (vs := as) At (stIdx hE63 hcp) (cc - 1) (stClamp hE63 hcp) (stLen hE63 lL0) g2 (Or.inl (mI 0 rfl)) (mI 0 rfl) rfl rfl (D 126 rfl) (fun T67 h67 W67 K67 A67 => ?_)
      obtain ⟨Lw67, eLw67⟩ : ∃ z, z = (as.set (cc - 1) (lv (dgc uu 0))) := ⟨_, rfl⟩
      have lLw67 : Lw67.length = cp := stSet lL0 eLw67
      have V67 : Arv Z h67 t kc .byte (Int32.ofNat (cp)) Lw67 (.int 0) := by rw [eLw67]; exact A67
      have hL68 : 2 ≤ cc - 1 - 1 := decGe hL63
      have hE68 : cc - 1 - 1 + 1 ≤ cp := decLe hE63
      have ea69 : ((Int32.ofNat (cc - 1)) + (-1 : Int32)) = (Int32.ofNat (cc - 1 - 1)) := decN (Nat.le_trans (by decide) hL63)
      refine W67.pv hx D 127 3 133 [_, _, _, _, _, _, _, vi (Int32.ofNat (cc - 1 - 1)), _, _, _] [.int (Int32.ofNat (cc - 1 - 1)), _] (by rw [← ea69]; rfl) ?_
      refine W67.getS hx (host := "") (Or.inl (B.h 269 rfl)) Via.refl OSt rfl (D 133 rfl) (fun T70 W70 => ?_)
      have k71 := OAt.ext W70.old.2
      refine W70.pv hx D 136 1 138 [_, _, _, _, _, _, _, _, _, _, _] [_, _, _, _] rfl ?_
      refine W70.baload hx k71 ⟨nltN (a := uu % 100) (b := 0) ⟨Nat.zero_le _, (Nat.lt_of_lt_of_le (m100 _) (by decide))⟩, ltN (a := uu % 100) (b := 100) ⟨m100 _, by decide⟩⟩ (v := (.int (dgc uu 1))) (tensAt (u := uu) (j := 1) (r := uu % 100) (D := 10) (by decide) (tn1 (by decide) hv)) rfl rfl (D 138 rfl) ?_
      refine W70.stB hx (vs := Lw67) V67 (stIdx hE68 hcp) (cc - 1 - 1) (stClamp hE68 hcp) (stLen hE68 lLw67) g2 (Or.inl (mI 0 rfl)) (mI 0 rfl) rfl rfl (D 139 rfl) (fun T72 h72 W72 K72 A72 => ?_)
      obtain ⟨Lw72, eLw72⟩ : ∃ z, z = (Lw67.set (cc - 1 - 1) (lv (dgc uu 1))) := ⟨_, rfl⟩
      have lLw72 : Lw72.length = cp := stSet lLw67 eLw72
      have V72 : Arv Z h72 t kc .byte (Int32.ofNat (cp)) Lw72 (.int 0) := by rw [eLw72]; exact A72
      refine W72.pv hx D 140 1 86 [_, _, _, _, _, _, _, _, _, _, _] [] rfl ?_
      obtain ⟨nk, hk, dq⟩ := dgS hD (Nat.le_trans (by decide) hlo59) (Nat.le_trans (by decide) hL) eLw67 eLw72
      exact tlI nk _ _ _ _ _ _ _ _ _ _ _ W72 V72 lLw72 ⟨by omega, by omega⟩ dq (Nat.le_trans hhi60 (by decide))
  have tlL : ∀ (nn : Nat) (Tt : State) (ht : Heap) (y2 : Int32) (y4 : Int64) (y6 : Int32) (uu : Nat) (cc : Nat) (as : List Value), Wk p l e (rO 0 0 0 0) s m #[(.long (negL (u0))), (.int (Int32.ofNat (c0))), (.ref t)] below meth c Z EL0 n0 [t] "java/lang/Long" [t] Tt 0 0 ht → Arv Z ht t kc .byte (Int32.ofNat (cp)) as (.int 0) → as.length = cp → cc = ds.length + (nn + 1) ∧ cc ≤ cp → Dg (List.map lv ds ++ rs) c0 u0 nw uu nn cc as → uu ≤ 9223372036854 → Go p e below (Fend Z EL0 n0 s h0 [t] (fun v h' S => ∃ z : Int32, v = some (.int z) ∧ Arv Z h' t kc .byte (Int32.ofNat (cp)) (List.map lv (ds ++ ((45 : Int32) :: dgl u0 nw)) ++ rs.drop (nw + 1)) (.int 0)) (rO 0 0 0 0)) (Tt.setTop (mkF m 24 #[.val (.long (negL (uu))), S0, vi y2, vr t, .val (.long y4), S0, vi y6, vi (Int32.ofNat (cc)), vi 1, U0, U0] [])) := by
    intro nn
    induction nn using Nat.strongRecOn
    rename_i nn ih
    intro Tt ht y2 y4 y6 uu cc as Wt At lL0 hcc hD hhi
    have hlo : 0 ≤ uu := Nat.zero_le _
    have hv : uu = uu / 1 := (Nat.div_one _).symm
    refine Wt.pv hx D 24 1 25 [_, _, _, _, _, _, _, _, _, _, _] [_] rfl ?_
    refine Wt.ldcJ hx (B.h 154 rfl) rfl (D 25 rfl) ?_
    refine Wt.pv hx D 28 1 29 [_, _, _, _, _, _, _, _, _, _, _] [.int (cmpL (negL (uu)) (-2147483648 : Int64))] rfl ?_
    by_cases c73 : uu < 2147483648
    · have hhi74 : uu ≤ 2147483647 := Nat.le_of_lt_succ c73
      have ea75 : ((negL (uu)).toInt32) = (negI (uu)) := l2iNeg (ltHi hhi74 (by decide))
      refine Wt.pu hx D 29 [(0, true)] 1 83 [_, _, _, _, _, _, _, _, _, _, _] [_] rfl ⟨trivial, (XT.ll_gt_t (ltZ2 (a := uu) (b := 2147483648) (by decide +kernel) ⟨ltHi hhi74 (by decide), by decide⟩))⟩ ?_
      refine Wt.pv hx D 83 2 86 [_, _, _, _, _, _, _, _, _, _, vi (negI (uu))] [] (by rw [← ea75]; rfl) ?_
      exact tlG _ _ _ _ _ _ _ _ _ _ _ Wt At lL0 hcc hD hhi74
    · have hlo76 : 2147483648 ≤ uu := Nat.le_of_not_lt c73
      refine Wt.pu hx D 29 [(0, false)] 1 33 [_, _, _, _, _, _, _, _, _, _, _] [_] rfl ⟨trivial, (XT.ll_gt_f (nltZ2 (a := uu) (b := 2147483648) (by decide +kernel) ⟨Nat.le_trans (by decide) hlo76, (ltHi hhi (by decide))⟩))⟩ ?_
      refine Wt.ldcJ hx (B.h 280 rfl) rfl (D 33 rfl) ?_
      have hlo77 : 21474836 ≤ uu / 100 := Nat.div_le_div_right (c := 100) hlo76
      have hhi77 : uu / 100 ≤ 92233720368 := Nat.div_le_div_right (c := 100) hhi
      have hv77 : uu / 100 = uu / 100 := dvS (by decide) hv
      have ea78 : ((negL (uu)) / (100 : Int64)) = (negL (uu / 100)) := divNeg (u := uu) (d := 100) ⟨(ltHi hhi (by decide)), by decide⟩
      refine gof Tt m 37 #[.val (.long (negL (uu))), S0, vi y2, vr t, .val (.long y4), S0, vi y6, vi (Int32.ofNat (cc)), vi 1, U0, U0] [(.long (negL (uu / 100)))] (fun _ kk => XS.ldiv Wt.here hx rfl (D 36 rfl) rfl (by decide +kernel) (by rw [ea78]; exact kk)) ?_
      refine Wt.pv hx D 37 2 41 [_, _, _, _, _, _, _, _, _, _, _] [_] rfl ?_
      refine Wt.ldcJ hx (B.h 280 rfl) rfl (D 41 rfl) ?_
      have ea79 : (((negL (uu / 100)) * (100 : Int64)) - (negL (uu))) = (posL (uu % 100)) := mulSub (u := uu) (ltHi hhi (by decide))
      have ea80 : ((posL (uu % 100)).toInt32) = (Int32.ofNat (uu % 100)) := l2iPos (Nat.lt_of_lt_of_le (m100 _) (by decide))
      have hL : 4 ≤ cc := by have := nd_3 hD.1 (Nat.le_trans (by decide) hlo76); omega
      have hL81 : 3 ≤ cc - 1 := decGe hL
      have hE81 : cc - 1 + 1 ≤ cp := decLe0 hcc.2 (Nat.le_trans (by decide) hL)
      have ea82 : ((Int32.ofNat (cc)) + (-1 : Int32)) = (Int32.ofNat (cc - 1)) := decN (Nat.le_trans (by decide) hL)
      refine Wt.pv hx D 44 10 59 [_, _, _, _, _, _, vi (Int32.ofNat (uu % 100)), vi (Int32.ofNat (cc - 1)), _, _, _] [.int (Int32.ofNat (cc - 1)), _] (by rw [← ea82, ← ea80, ← ea79]; rfl) ?_
      refine Wt.getS hx (host := "") (Or.inl (B.h 155 rfl)) Via.refl OSo rfl (D 59 rfl) (fun T83 W83 => ?_)
      have k84 := OAo.ext W83.old.2
      refine W83.pv hx D 62 1 64 [_, _, _, _, _, _, _, _, _, _, _] [_, _, _, _] rfl ?_
      refine W83.baload hx k84 ⟨nltN (a := uu % 100) (b := 0) ⟨Nat.zero_le _, (Nat.lt_of_lt_of_le (m100 _) (by decide))⟩, ltN (a := uu % 100) (b := 100) ⟨m100 _, by decide⟩⟩ (v := (.int (dgc uu 0))) (onesAt (u := uu) (j := 0) (r := uu % 100) (D := 1) (by decide) (on1 hv)) rfl rfl (D 64 rfl) ?_
      refine W83.stB hx (vs := as) At (stIdx hE81 hcp) (cc - 1) (stClamp hE81 hcp) (stLen hE81 lL0) g2 (Or.inl (mI 0 rfl)) (mI 0 rfl) rfl rfl (D 65 rfl) (fun T85 h85 W85 K85 A85 => ?_)
      obtain ⟨Lw85, eLw85⟩ : ∃ z, z = (as.set (cc - 1) (lv (dgc uu 0))) := ⟨_, rfl⟩
      have lLw85 : Lw85.length = cp := stSet lL0 eLw85
      have V85 : Arv Z h85 t kc .byte (Int32.ofNat (cp)) Lw85 (.int 0) := by rw [eLw85]; exact A85
      have hL86 : 2 ≤ cc - 1 - 1 := decGe hL81
      have hE86 : cc - 1 - 1 + 1 ≤ cp := decLe hE81
      have ea87 : ((Int32.ofNat (cc - 1)) + (-1 : Int32)) = (Int32.ofNat (cc - 1 - 1)) := decN (Nat.le_trans (by decide) hL81)
      refine W85.pv hx D 66 3 72 [_, _, _, _, _, _, _, vi (Int32.ofNat (cc - 1 - 1)), _, _, _] [.int (Int32.ofNat (cc - 1 - 1)), _] (by rw [← ea87]; rfl) ?_
      refine W85.getS hx (host := "") (Or.inl (B.h 269 rfl)) Via.refl OSt rfl (D 72 rfl) (fun T88 W88 => ?_)
      have k89 := OAt.ext W88.old.2
      refine W88.pv hx D 75 1 77 [_, _, _, _, _, _, _, _, _, _, _] [_, _, _, _] rfl ?_
      refine W88.baload hx k89 ⟨nltN (a := uu % 100) (b := 0) ⟨Nat.zero_le _, (Nat.lt_of_lt_of_le (m100 _) (by decide))⟩, ltN (a := uu % 100) (b := 100) ⟨m100 _, by decide⟩⟩ (v := (.int (dgc uu 1))) (tensAt (u := uu) (j := 1) (r := uu % 100) (D := 10) (by decide) (tn1 (by decide) hv)) rfl rfl (D 77 rfl) ?_
      refine W88.stB hx (vs := Lw85) V85 (stIdx hE86 hcp) (cc - 1 - 1) (stClamp hE86 hcp) (stLen hE86 lLw85) g2 (Or.inl (mI 0 rfl)) (mI 0 rfl) rfl rfl (D 78 rfl) (fun T90 h90 W90 K90 A90 => ?_)
      obtain ⟨Lw90, eLw90⟩ : ∃ z, z = (Lw85.set (cc - 1 - 1) (lv (dgc uu 1))) := ⟨_, rfl⟩
      have lLw90 : Lw90.length = cp := stSet lLw85 eLw90
      have V90 : Arv Z h90 t kc .byte (Int32.ofNat (cp)) Lw90 (.int 0) := by rw [eLw90]; exact A90
      refine W90.pv hx D 79 1 24 [_, _, _, _, _, _, _, _, _, _, _] [] rfl ?_
      obtain ⟨nk, hk, dq⟩ := dgS hD (Nat.le_trans (by decide) hlo76) (Nat.le_trans (by decide) hL) eLw85 eLw90
      exact ih nk (by omega) _ _ _ _ _ _ _ _ W90 V90 lLw90 ⟨by omega, by omega⟩ dq (Nat.le_trans hhi77 (by decide))
  have tlM : ∀ (Tt : State) (ht : Heap) (y2 : Int32) (uu : Nat) (nn : Nat) (cc : Nat) (as : List Value), Wk p l e (rO 0 0 0 0) s m #[(.long (negL (u0))), (.int (Int32.ofNat (c0))), (.ref t)] below meth c Z EL0 n0 [t] "java/lang/Long" [t] Tt 0 0 ht → Arv Z ht t kc .byte (Int32.ofNat (cp)) as (.int 0) → as.length = cp → cc = ds.length + (nn + 1) ∧ cc ≤ cp → Dg (List.map lv ds ++ rs) c0 u0 nw uu nn cc as → uu ≤ 9223372036854 → Go p e below (Fend Z EL0 n0 s h0 [t] (fun v h' S => ∃ z : Int32, v = some (.int z) ∧ Arv Z h' t kc .byte (Int32.ofNat (cp)) (List.map lv (ds ++ ((45 : Int32) :: dgl u0 nw)) ++ rs.drop (nw + 1)) (.int 0)) (rO 0 0 0 0)) (Tt.setTop (mkF m 24 #[.val (.long (negL (uu))), S0, vi y2, vr t, U0, U0, U0, vi (Int32.ofNat (cc)), vi 1, U0, U0] [])) := by
    intro Tt ht y2 uu nn cc as Wt At lL0 hcc hD hhi
    have hlo : 0 ≤ uu := Nat.zero_le _
    have hv : uu = uu / 1 := (Nat.div_one _).symm
    refine Wt.pv hx D 24 1 25 [_, _, _, _, _, _, _, _, _, _, _] [_] rfl ?_
    refine Wt.ldcJ hx (B.h 154 rfl) rfl (D 25 rfl) ?_
    refine Wt.pv hx D 28 1 29 [_, _, _, _, _, _, _, _, _, _, _] [.int (cmpL (negL (uu)) (-2147483648 : Int64))] rfl ?_
    by_cases c91 : uu < 2147483648
    · have hhi92 : uu ≤ 2147483647 := Nat.le_of_lt_succ c91
      have ea93 : ((negL (uu)).toInt32) = (negI (uu)) := l2iNeg (ltHi hhi92 (by decide))
      refine Wt.pu hx D 29 [(0, true)] 1 83 [_, _, _, _, _, _, _, _, _, _, _] [_] rfl ⟨trivial, (XT.ll_gt_t (ltZ2 (a := uu) (b := 2147483648) (by decide +kernel) ⟨ltHi hhi92 (by decide), by decide⟩))⟩ ?_
      refine Wt.pv hx D 83 2 86 [_, _, _, _, _, _, _, _, _, _, vi (negI (uu))] [] (by rw [← ea93]; rfl) ?_
      exact tlE _ _ _ _ _ _ _ _ _ _ Wt At lL0 hcc hD hhi92
    · have hlo94 : 2147483648 ≤ uu := Nat.le_of_not_lt c91
      refine Wt.pu hx D 29 [(0, false)] 1 33 [_, _, _, _, _, _, _, _, _, _, _] [_] rfl ⟨trivial, (XT.ll_gt_f (nltZ2 (a := uu) (b := 2147483648) (by decide +kernel) ⟨Nat.le_trans (by decide) hlo94, (ltHi hhi (by decide))⟩))⟩ ?_
      refine Wt.ldcJ hx (B.h 280 rfl) rfl (D 33 rfl) ?_
      have hlo95 : 21474836 ≤ uu / 100 := Nat.div_le_div_right (c := 100) hlo94
      have hhi95 : uu / 100 ≤ 92233720368 := Nat.div_le_div_right (c := 100) hhi
      have hv95 : uu / 100 = uu / 100 := dvS (by decide) hv
      have ea96 : ((negL (uu)) / (100 : Int64)) = (negL (uu / 100)) := divNeg (u := uu) (d := 100) ⟨(ltHi hhi (by decide)), by decide⟩
      refine gof Tt m 37 #[.val (.long (negL (uu))), S0, vi y2, vr t, U0, U0, U0, vi (Int32.ofNat (cc)), vi 1, U0, U0] [(.long (negL (uu / 100)))] (fun _ kk => XS.ldiv Wt.here hx rfl (D 36 rfl) rfl (by decide +kernel) (by rw [ea96]; exact kk)) ?_
      refine Wt.pv hx D 37 2 41 [_, _, _, _, _, S0, _, _, _, _, _] [_] rfl ?_
      refine Wt.ldcJ hx (B.h 280 rfl) rfl (D 41 rfl) ?_
      have ea97 : (((negL (uu / 100)) * (100 : Int64)) - (negL (uu))) = (posL (uu % 100)) := mulSub (u := uu) (ltHi hhi (by decide))
      have ea98 : ((posL (uu % 100)).toInt32) = (Int32.ofNat (uu % 100)) := l2iPos (Nat.lt_of_lt_of_le (m100 _) (by decide))
      have hL : 4 ≤ cc := by have := nd_3 hD.1 (Nat.le_trans (by decide) hlo94); omega
      have hL99 : 3 ≤ cc - 1 := decGe hL
      have hE99 : cc - 1 + 1 ≤ cp := decLe0 hcc.2 (Nat.le_trans (by decide) hL)
      have ea100 : ((Int32.ofNat (cc)) + (-1 : Int32)) = (Int32.ofNat (cc - 1)) := decN (Nat.le_trans (by decide) hL)
      refine Wt.pv hx D 44 10 59 [_, _, _, _, _, _, vi (Int32.ofNat (uu % 100)), vi (Int32.ofNat (cc - 1)), _, _, _] [.int (Int32.ofNat (cc - 1)), _] (by rw [← ea100, ← ea98, ← ea97]; rfl) ?_
      refine Wt.getS hx (host := "") (Or.inl (B.h 155 rfl)) Via.refl OSo rfl (D 59 rfl) (fun T101 W101 => ?_)
      have k102 := OAo.ext W101.old.2
      refine W101.pv hx D 62 1 64 [_, _, _, _, _, _, _, _, _, _, _] [_, _, _, _] rfl ?_
      refine W101.baload hx k102 ⟨nltN (a := uu % 100) (b := 0) ⟨Nat.zero_le _, (Nat.lt_of_lt_of_le (m100 _) (by decide))⟩, ltN (a := uu % 100) (b := 100) ⟨m100 _, by decide⟩⟩ (v := (.int (dgc uu 0))) (onesAt (u := uu) (j := 0) (r := uu % 100) (D := 1) (by decide) (on1 hv)) rfl rfl (D 64 rfl) ?_
      refine W101.stB hx (vs := as) At (stIdx hE99 hcp) (cc - 1) (stClamp hE99 hcp) (stLen hE99 lL0) g2 (Or.inl (mI 0 rfl)) (mI 0 rfl) rfl rfl (D 65 rfl) (fun T103 h103 W103 K103 A103 => ?_)
      obtain ⟨Lw103, eLw103⟩ : ∃ z, z = (as.set (cc - 1) (lv (dgc uu 0))) := ⟨_, rfl⟩
      have lLw103 : Lw103.length = cp := stSet lL0 eLw103
      have V103 : Arv Z h103 t kc .byte (Int32.ofNat (cp)) Lw103 (.int 0) := by rw [eLw103]; exact A103
      have hL104 : 2 ≤ cc - 1 - 1 := decGe hL99
      have hE104 : cc - 1 - 1 + 1 ≤ cp := decLe hE99
      have ea105 : ((Int32.ofNat (cc - 1)) + (-1 : Int32)) = (Int32.ofNat (cc - 1 - 1)) := decN (Nat.le_trans (by decide) hL99)
      refine W103.pv hx D 66 3 72 [_, _, _, _, _, _, _, vi (Int32.ofNat (cc - 1 - 1)), _, _, _] [.int (Int32.ofNat (cc - 1 - 1)), _] (by rw [← ea105]; rfl) ?_
      refine W103.getS hx (host := "") (Or.inl (B.h 269 rfl)) Via.refl OSt rfl (D 72 rfl) (fun T106 W106 => ?_)
      have k107 := OAt.ext W106.old.2
      refine W106.pv hx D 75 1 77 [_, _, _, _, _, _, _, _, _, _, _] [_, _, _, _] rfl ?_
      refine W106.baload hx k107 ⟨nltN (a := uu % 100) (b := 0) ⟨Nat.zero_le _, (Nat.lt_of_lt_of_le (m100 _) (by decide))⟩, ltN (a := uu % 100) (b := 100) ⟨m100 _, by decide⟩⟩ (v := (.int (dgc uu 1))) (tensAt (u := uu) (j := 1) (r := uu % 100) (D := 10) (by decide) (tn1 (by decide) hv)) rfl rfl (D 77 rfl) ?_
      refine W106.stB hx (vs := Lw103) V103 (stIdx hE104 hcp) (cc - 1 - 1) (stClamp hE104 hcp) (stLen hE104 lLw103) g2 (Or.inl (mI 0 rfl)) (mI 0 rfl) rfl rfl (D 78 rfl) (fun T108 h108 W108 K108 A108 => ?_)
      obtain ⟨Lw108, eLw108⟩ : ∃ z, z = (Lw103.set (cc - 1 - 1) (lv (dgc uu 1))) := ⟨_, rfl⟩
      have lLw108 : Lw108.length = cp := stSet lLw103 eLw108
      have V108 : Arv Z h108 t kc .byte (Int32.ofNat (cp)) Lw108 (.int 0) := by rw [eLw108]; exact A108
      refine W108.pv hx D 79 1 24 [_, _, _, _, _, _, _, _, _, _, _] [] rfl ?_
      obtain ⟨nk, hk, dq⟩ := dgS hD (Nat.le_trans (by decide) hlo94) (Nat.le_trans (by decide) hL) eLw103 eLw108
      exact tlL nk _ _ _ _ _ _ _ _ W108 V108 lLw108 ⟨by omega, by omega⟩ dq (Nat.le_trans hhi95 (by decide))
  have hlo : 1 ≤ u0 := hu.1
  have hhi : u0 ≤ 9223372036854 := hu.2.1
  refine W0.pu hx D 0 [(5, false), (4, true)] 0 24 [_, _, _, _, _, _, _, _, vi 1, _, _] [] rfl ⟨⟨trivial, (XT.ll_ge_f (ltZ1 (a := u0) (b := 0) (by decide +kernel) ⟨loLt hlo (by decide), (ltHi hhi (by decide))⟩))⟩, (XT.i0_ne_t (by decide +kernel))⟩ ?_
  exact tlM _ _ _ _ _ _ _ W0 Ab lL0 hc0 ⟨hN, [], List.append_nil _, rfl, rfl⟩ hhi
set_option maxRecDepth 65536 in
set_option maxHeartbeats 40000000 in
theorem rm107 (B : EV l Z a0 zc fm) (a1 t : Addr) (kc : ClassId) (ds : List Int32) (rs : List Value) (cp : Nat) (don dtn : Addr) (ko kt : ClassId) (uu nn : Nat) (h0 : Heap) {n0 : Nat} (O0 : Old Z n0 h0) (Eb : Exa Z h0 a1 "java/lang/StringBuilder") (Fvp : Fld Z h0 a1 "java/lang/AbstractStringBuilder" "value" "[B" (.ref t)) (Fcp : Fld Z h0 a1 "java/lang/AbstractStringBuilder" "coder" "B" (.int 0)) (Fnp : Fld Z h0 a1 "java/lang/AbstractStringBuilder" "count" "I" (.int (Int32.ofNat (ds.length)))) (Ab : Arv Z h0 t kc .byte (Int32.ofNat (cp)) (List.map lv ds ++ rs) (.int 0)) (Et : Exa Z h0 t "[B") (hsm : ds.length + rs.length = cp) (hcp : cp ≤ 92) (hds : ∀ c ∈ ds, ¬ c < 0 ∧ ¬ (255 : Int32) < c) (g1 : n0 ≤ a1) (g2 : n0 ≤ t) (nat : a1 ≠ t) (OSo : Sta Z Z.heap "java/lang/Integer" "DigitOnes" "[B" (.ref don)) (OSt : Sta Z Z.heap "java/lang/Integer" "DigitTens" "[B" (.ref dtn)) (OAo : Arv Z Z.heap don ko .byte (100 : Int32) onesL (.int 0)) (OAt : Arv Z Z.heap dtn kt .byte (100 : Int32) tensL (.int 0)) (hN : ND uu nn) (hu : 1 ≤ uu ∧ uu ≤ 9223372036854 ∧ 1 ≤ nn ∧ nn ≤ 13) (hmx : ds.length + (nn + 1) ≤ 46) :
    Met l Z EL0 n0 (⟨"java/lang/AbstractStringBuilder", "append", "(J)Ljava/lang/AbstractStringBuilder;"⟩ : MethodName) jdk_68_method_33_code 5 (some (.object "java/lang/AbstractStringBuilder")) [] (rO 4 1 92 62) #[(.ref a1), (.long (negL (uu)))] h0 [a1, t] [t] (fun v h' S => ∃ (t' : Addr) (kt : ClassId) (dl : List Int32) (rl : List Value) (cl : Nat), v = some (.ref a1) ∧ (t' = t ∨ h0.size ≤ t') ∧ a1 ≠ t' ∧ n0 ≤ t' ∧ dl = ds ++ ((45 : Int32) :: dgl uu nn) ∧ dl.length + rl.length = cl ∧ cl ≤ 92 ∧ (∀ c ∈ dl, ¬ c < 0 ∧ ¬ (255 : Int32) < c) ∧ Fld Z h' a1 "java/lang/AbstractStringBuilder" "value" "[B" (.ref t') ∧ Fld Z h' a1 "java/lang/AbstractStringBuilder" "coder" "B" (.int 0) ∧ Fld Z h' a1 "java/lang/AbstractStringBuilder" "count" "I" (.int (Int32.ofNat (dl.length))) ∧ Arv Z h' t' kt .byte (Int32.ofNat (cl)) (List.map lv dl ++ rl) (.int 0) ∧ Exa Z h' t' "[B" ∧ S t') := by
  obtain ⟨hw, hEL, SC, hzc, SF, rfm⟩ := id B
  refine Met.of (plainFor_of_name pn2) O0 ?_
  intro p e s m below meth c T0 hx hby hml hret hlk hnm hs W0
  have W0 : Wk p l e _ s m _ below meth c Z EL0 n0 [a1, t] "java/lang/AbstractStringBuilder" [t] T0 0 0 h0 := W0
  have D := @tk c _ _ hby Kq34
  refine Go.of (fun _ kk => castTop (ef105 m a1 (negL (uu))) kk) ?_
  refine W0.pv hx D 0 1 1 [_, _, _, _, _] [_] rfl ?_
  refine W0.getF hx (host := "") (Or.inl (B.h 69 rfl)) Via.refl Fnp rfl rfl (D 1 rfl) (fun T1 W1 => ?_)
  refine W1.pv hx D 4 3 7 [_, _, _, _, _] [_, _] rfl ?_
  refine W1.kS hx hEL (B.h 141 rfl) (B.h 142 rfl) (B.h 143 rfl) (B.h 144 rfl) [(.long (negL (uu)))] [(.int (Int32.ofNat (ds.length)))] (rm102 B uu nn h0 W1.old hN hu) all0 1 (by decide +kernel) all0 hml (lenOf pd21 rfl) (D 7 rfl) ⟨rfl, rfl, rfl, rfl⟩ (fun T2 h2 v2 P2 Ws2 K2 q2 => ?_)
  have W2 := Ws2 [] all0
  obtain ⟨rfl, rfl⟩ := q2
  have ea3 : ((Int32.ofNat (ds.length)) + (Int32.ofNat (nn + 1))) = (Int32.ofNat (ds.length + nn + 1)) := (addN (ds.length) (nn + 1)).trans (congrArg Int32.ofNat (by omega))
  refine W2.pv hx D 10 4 16 [_, _, _, _, vi (Int32.ofNat (ds.length + nn + 1))] [.int (Int32.ofNat (ds.length + nn + 1)), _] (by rw [← ea3]; rfl) ?_
  refine W2.callW hx hEL (B.h 71 rfl) (B.h 74 rfl) (B.h 72 rfl) (B.h 40 rfl) (B.h 75 rfl) (by decide +kernel) Eb (a := a1) (argsL := [(.int (Int32.ofNat (ds.length + nn + 1)))]) (rest := []) (rm46 B a1 t kc ds rs cp (ds.length + nn + 1) h0 W2.old Eb Fvp Fcp Fnp Ab Et hsm hcp hds g1 g2 nat (by first | omega | (simp only [LN]; omega))) (allS (mI 0 rfl) all0) (by decide +kernel) (Wd := 0) (by decide +kernel) (by decide +kernel) (by decide +kernel) (allS ⟨g1, (Or.inl (mI 0 rfl))⟩ all0) rfl (by rw [hml]; rfl) (lenOf pd4 rfl) rfl (by show 2 * 0 + _ ≤ _; exact Nat.le_of_eq rfl) (D 16 rfl) (fun T4 h4 v4 P4 Ws4 K4 q4 => ?_)
  obtain ⟨t4, kt4, rl4, cl4, rfl, hor4, nat4, gn4, hrl4, hnc4, hcl4, Fv4, Fc4, Fn4, A4, Et4, st4⟩ := q4
  have W4 := Ws4 [t4] (allS st4 all0)
  have gw4 : t4 ∈ [a1, t] ∨ s.heap.size ≤ t4 := hor4.elim (fun q => by rw [q]; exact (Or.inl (mI 1 rfl))) (fun q => Or.inr (Nat.le_trans W2.s0le q))
  have k6 := (Eb.keep K4)
  refine W4.pv hx D 19 1 20 [_, _, _, _, _] [_] rfl ?_
  refine W4.kV hx hEL (B.h 146 rfl) (B.h 147 rfl) (B.h 149 rfl) (B.h 148 rfl) (B.h 40 rfl) (B.h 150 rfl) k6 [] [] (rm34 B a1 h4 W4.old Fc4) all0 0 (by decide +kernel) all0 hml (lenOf pd18 rfl) (D 20 rfl) ⟨rfl, rfl, rfl, rfl⟩ (fun T5 h5 v5 P5 Ws5 K5 q5 => ?_)
  have W5 := Ws5 [] all0
  obtain ⟨rfl, rfl⟩ := q5
  refine W5.pu hx D 23 [(0, false)] 3 30 [_, _, _, _, _] [_, _, _] rfl ⟨trivial, (XT.i0_eq_f (by decide +kernel))⟩ ?_
  refine W5.getF hx (host := "") (Or.inl (B.h 44 rfl)) Via.refl Fv4 rfl rfl (D 30 rfl) (fun T7 W7 => ?_)
  refine W7.kS hx hEL (B.h 151 rfl) (B.h 152 rfl) (B.h 143 rfl) (B.h 153 rfl) [(.long (negL (uu))), (.int (Int32.ofNat (ds.length + nn + 1))), (.ref t4)] [] (rm104 B t4 kt4 ds rl4 cl4 don dtn ko kt uu nn (ds.length + nn + 1) h4 W7.old A4 hrl4 hcl4 gn4 OSo OSt OAo OAt hN hu (by first | omega | (simp only [LN]; omega))) (allS (mI 0 rfl) all0) 0 (by decide +kernel) (allS ⟨gn4, gw4⟩ all0) hml (lenOf pd22 rfl) (D 33 rfl) ⟨rfl, rfl, rfl, rfl⟩ (fun T8 h8 v8 P8 Ws8 K8 q8 => ?_)
  have W8 := Ws8 [] all0
  obtain ⟨zg8, rfl, A8⟩ := q8
  have k9 := (Fn4.keep K8 (ninS nat4 nin0))
  have k10 := (k6.keep K8)
  refine W8.pv hx D 36 4 55 [_, _, _, _, _] [_, _] rfl ?_
  refine W8.putF hx (host := "") (Or.inl (B.h 69 rfl)) Via.refl k9 k10 (Or.inl (B.h 70 rfl)) (B.h 31 rfl) (ty := .int) (by decide +kernel) rfl rfl g1 (Or.inl (mI 0 rfl)) (Or.inr ⟨by decide, by decide⟩) rfl rfl (D 55 rfl) (fun T11 h11 W11 w11 => ?_)
  have k12 := (Fv4.keep K8 (ninS nat4 nin0))
  have k13 := (Fc4.keep K8 (ninS nat4 nin0))
  have K11 := Keep.of_wr w11
  have k14 := k12.other w11 (Or.inr (slot_ne (Or.inl (B.h 45 rfl)) (Or.inl (B.h 70 rfl)) (by decide +kernel) (t := (.array .byte)) (t' := .int) (by decide +kernel) (by decide +kernel)))
  have k15 := k13.other w11 (Or.inr (slot_ne (Or.inl (B.h 47 rfl)) (Or.inl (B.h 70 rfl)) (by decide +kernel) (t := .byte) (t' := .int) (by decide +kernel) (by decide +kernel)))
  have k16 := k9.same w11
  have k17 := (A8.keep K11 (ninS (nat4).symm nin0))
  have k18 := ((Et4.keep K8).keep K11)
  refine W11.pv hx D 58 1 59 [_, _, _, _, _] [_] rfl ?_
  exact W11.retA hx hEL hs hlk (by decide +kernel) (by decide +kernel) hret rfl rfl (D 59 rfl) (fun S hS => ⟨t4, kt4, ds ++ ((45 : Int32) :: dgl uu nn), rl4.drop (nn + 1), cl4, rfl, (hor4.imp id (fun q => Nat.le_trans (Nat.le_refl _) q)), nat4, gn4, rfl, (by rw [(show (ds ++ ((45 : Int32) :: dgl uu nn)).length = ds.length + (nn + 1) from by simp only [List.length_append, List.length_cons, dgl_len]), List.length_drop]; omega), hcl4, (bApp hds (allSi ⟨by decide, by decide⟩ (dgl_b uu nn))), k14, k15, (by rw [(show (ds ++ ((45 : Int32) :: dgl uu nn)).length = ds.length + (nn + 1) from by simp only [List.length_append, List.length_cons, dgl_len])]; exact k16), k17, k18, hS _ (mI 0 rfl)⟩)
set_option maxRecDepth 65536 in
set_option maxHeartbeats 40000000 in
theorem rm108 (B : EV l Z a0 zc fm) (a1 t : Addr) (kc : ClassId) (ds : List Int32) (rs : List Value) (cp : Nat) (don dtn : Addr) (ko kt : ClassId) (uu nn : Nat) (h0 : Heap) {n0 : Nat} (O0 : Old Z n0 h0) (Eb : Exa Z h0 a1 "java/lang/StringBuilder") (Fvp : Fld Z h0 a1 "java/lang/AbstractStringBuilder" "value" "[B" (.ref t)) (Fcp : Fld Z h0 a1 "java/lang/AbstractStringBuilder" "coder" "B" (.int 0)) (Fnp : Fld Z h0 a1 "java/lang/AbstractStringBuilder" "count" "I" (.int (Int32.ofNat (ds.length)))) (Ab : Arv Z h0 t kc .byte (Int32.ofNat (cp)) (List.map lv ds ++ rs) (.int 0)) (Et : Exa Z h0 t "[B") (hsm : ds.length + rs.length = cp) (hcp : cp ≤ 92) (hds : ∀ c ∈ ds, ¬ c < 0 ∧ ¬ (255 : Int32) < c) (g1 : n0 ≤ a1) (g2 : n0 ≤ t) (nat : a1 ≠ t) (OSo : Sta Z Z.heap "java/lang/Integer" "DigitOnes" "[B" (.ref don)) (OSt : Sta Z Z.heap "java/lang/Integer" "DigitTens" "[B" (.ref dtn)) (OAo : Arv Z Z.heap don ko .byte (100 : Int32) onesL (.int 0)) (OAt : Arv Z Z.heap dtn kt .byte (100 : Int32) tensL (.int 0)) (hN : ND uu nn) (hu : 1 ≤ uu ∧ uu ≤ 9223372036854 ∧ 1 ≤ nn ∧ nn ≤ 13) (hmx : ds.length + (nn + 1) ≤ 46) :
    Met l Z EL0 n0 (⟨"java/lang/StringBuilder", "append", "(J)Ljava/lang/StringBuilder;"⟩ : MethodName) jdk_67_method_16_code 3 (some (.object "java/lang/StringBuilder")) [] (rO 5 1 92 78) #[(.ref a1), (.long (negL (uu)))] h0 [a1, t] [t] (fun v h' S => ∃ (t' : Addr) (kt : ClassId) (dl : List Int32) (rl : List Value) (cl : Nat), v = some (.ref a1) ∧ (t' = t ∨ h0.size ≤ t') ∧ a1 ≠ t' ∧ n0 ≤ t' ∧ dl = ds ++ ((45 : Int32) :: dgl uu nn) ∧ dl.length + rl.length = cl ∧ cl ≤ 92 ∧ (∀ c ∈ dl, ¬ c < 0 ∧ ¬ (255 : Int32) < c) ∧ Fld Z h' a1 "java/lang/AbstractStringBuilder" "value" "[B" (.ref t') ∧ Fld Z h' a1 "java/lang/AbstractStringBuilder" "coder" "B" (.int 0) ∧ Fld Z h' a1 "java/lang/AbstractStringBuilder" "count" "I" (.int (Int32.ofNat (dl.length))) ∧ Arv Z h' t' kt .byte (Int32.ofNat (cl)) (List.map lv dl ++ rl) (.int 0) ∧ Exa Z h' t' "[B" ∧ S t') := by
  obtain ⟨hw, hEL, SC, hzc, SF, rfm⟩ := id B
  refine Met.of (plainFor_of_name pn3) O0 ?_
  intro p e s m below meth c T0 hx hby hml hret hlk hnm hs W0
  have W0 : Wk p l e _ s m _ below meth c Z EL0 n0 [a1, t] "java/lang/StringBuilder" [t] T0 0 0 h0 := W0
  have D := @tk c _ _ hby Kq35
  refine Go.of (fun _ kk => castTop (ef106 m a1 (negL (uu))) kk) ?_
  refine W0.pv hx D 0 2 2 [_, _, _] [_, _] rfl ?_
  refine W0.callU hx hEL (B.h 137 rfl) (B.h 55 rfl) (B.h 74 rfl) rfl (by decide +kernel) (B.h 138 rfl) (B.h 40 rfl) (B.h 140 rfl) (by decide +kernel) Eb (a := a1) (argsL := [(.long (negL (uu)))]) (rest := []) (rm107 B a1 t kc ds rs cp don dtn ko kt uu nn h0 W0.old Eb Fvp Fcp Fnp Ab Et hsm hcp hds g1 g2 nat OSo OSt OAo OAt hN hu (by first | omega | (simp only [LN]; omega))) (allS (mI 0 rfl) all0) (by decide +kernel) (Wd := 0) (by decide +kernel) (by decide +kernel) (by decide +kernel) (allS ⟨g1, (Or.inl (mI 0 rfl))⟩ (allS ⟨g2, (Or.inl (mI 1 rfl))⟩ all0)) rfl (by rw [hml]; rfl) (lenOf pd23 rfl) rfl (by show 2 * 0 + _ ≤ _; exact Nat.le_of_eq rfl) (D 2 rfl) (fun T1 h1 v1 P1 Ws1 K1 q1 => ?_)
  obtain ⟨t1, kt1, dl1, rl1, cl1, rfl, hor1, nat1, gn1, edl1, hrl1, hcl1, hbl1, Fv1, Fc1, Fn1, A1, Et1, st1⟩ := q1
  have W1 := Ws1 [t1] (allS st1 all0)
  have gw1 : t1 ∈ [a1, t] ∨ s.heap.size ≤ t1 := hor1.elim (fun q => by rw [q]; exact (Or.inl (mI 1 rfl))) (fun q => Or.inr (Nat.le_trans W0.s0le q))
  have eln1 : dl1.length = ds.length + (nn + 1) := by rw [edl1]; simp only [List.length_append, List.length_cons, List.length_nil, dgl_len] <;> omega
  refine W1.pv hx D 5 2 7 [_, _, _] [_] rfl ?_
  exact W1.retA hx hEL hs hlk (by decide +kernel) (by decide +kernel) hret rfl rfl (D 7 rfl) (fun S hS => ⟨t1, kt1, dl1, rl1, cl1, rfl, (hor1.imp id (fun q => Nat.le_trans (Nat.le_refl _) q)), nat1, gn1, edl1, hrl1, hcl1, hbl1, Fv1, Fc1, Fn1, A1, Et1, hS _ (mI 0 rfl)⟩)
theorem ef110 (m : MethodId) (x0 x1 x2 : Int32)  : entryFrame m #[(.int x0), (.int x1), (.int x2)] 3 = mkF m 0 #[vi x0, vi x1, vi x2] [] := by first | (simp [entryFrame, mkF, argsToLocals, Value.category]; done) | rfl | rfl
set_option maxRecDepth 65536 in
set_option maxHeartbeats 40000000 in
theorem rm110 (B : EV l Z a0 zc fm) (pa pb : Int32) (la : Nat) (h0 : Heap) {n0 : Nat} (O0 : Old Z n0 h0) (hla : la ≤ 2) (cpa : ¬ pa < 0 ∧ ¬ (255 : Int32) < pa) (cpb : ¬ pb < 0 ∧ ¬ (255 : Int32) < pb) :
    Met l Z EL0 n0 (⟨"com/example/sem1/sem1/store/StoreFailuresUnansweredPinLaw", "pick", "(ICC)Ljava/lang/String;"⟩ : MethodName) method_3_code 3 (some (.object "java/lang/String")) [] (rO 4 6 12 66) #[(.int (Int32.ofNat (la))), (.int pa), (.int pb)] h0 [] [] (fun v h' S => ∃ r : Addr, v = some (.ref r) ∧ h0.size ≤ r ∧ Str Z h' r (List.take la [pa, pb])) := by
  obtain ⟨hw, hEL, SC, hzc, SF, rfm⟩ := id B
  refine Met.of (plainFor_of_name pn8) O0 ?_
  intro p e s m below meth c T0 hx hby hml hret hlk hnm hs W0
  have W0 : Wk p l e _ s m _ below meth c Z EL0 n0 [] "com/example/sem1/sem1/store/StoreFailuresUnansweredPinLaw" [] T0 0 0 h0 := W0
  have D := @tk c _ _ hby Kq36
  have hws := fun d hd => hw d (ws_in d hd)
  refine Go.of (fun _ kk => castTop (ef110 m (Int32.ofNat (la)) pa pb) kk) ?_
  refine W0.pv hx D 0 1 1 [_, _, _] [_] rfl ?_
  by_cases c1 : la = 0
  · refine W0.pu hx D 1 [(0, false)] 0 4 [_, _, _] [] rfl ⟨trivial, (XT.i0_ne_f (eqN (a := la) (b := 0) (by first | omega | (simp only [LN]; omega))))⟩ ?_
    refine W0.newO hx (B.h 4 rfl) (B.h 5 rfl) (B.h 6 rfl) rfl (D 4 rfl) (by decide +kernel) (by decide +kernel) (fun T2 h2 b2 eb2 gb2 W2 K2 E2 D2 => ?_)
    have k3 : Fld Z h2 b2 "java/lang/String" "value" "[B" .null := D2 (Or.inr (B.h 20 rfl)) (ty := (.array .byte)) (by decide +kernel)
    have k4 : Fld Z h2 b2 "java/lang/String" "coder" "B" (.int 0) := D2 (Or.inr (B.h 21 rfl)) (ty := .byte) (by decide +kernel)
    refine W2.pv hx D 7 2 9 [_, _, _] [.int 0, _, _] rfl ?_
    refine W2.newP hx (B.h 7 rfl) rfl (D 9 rfl) rfl (by decide +kernel) (cap := 0) (by decide +kernel) (by decide +kernel) (by decide +kernel) (by decide +kernel) (fun T5 h5 b5 c5 eb5 gb5 W5 K5 A5 => ?_)
    have V5 : Arv Z h5 b5 c5 .char (0 : Int32) [] (.int 0) := A5
    have k7 := (E2.keep K5)
    have k8 := (k3.keep K5 nin0)
    have k9 := (k4.keep K5 nin0)
    refine W5.kP hx hEL rfl (B.h 8 rfl) (B.h 9 rfl) (B.h 6 rfl) (B.h 10 rfl) (a := b2) [(.ref b5)] [(.ref b2)] (rm21 B b2 b5 c5 h5 W5.old k7 k8 k9 gb2.1 V5) (allS (mI 1 rfl) all0) 1 (by decide +kernel) (allS ⟨gb2.1, (Or.inr gb2.2)⟩ all0) hml (lenOf pd24 rfl) (D 11 rfl) ⟨rfl, rfl, rfl, rfl⟩ (fun T10 h10 v10 P10 Ws10 K10 q10 => ?_)
    have W10 := Ws10 [] all0
    obtain ⟨rfl, S10⟩ := q10
    show Go p e below _ (T10.setTop (mkF m 14 #[vi (Int32.ofNat (la)), vi pa, vi pb] [(.ref b2)]))
    exact W10.retA hx hEL hs hlk (by decide +kernel) (by decide +kernel) hret rfl rfl (D 14 rfl) (fun S hS => ⟨b2, rfl, hs ▸ gb2.2, (by have q : la = 0 := (by omega); rw [q]; exact S10)⟩)
  · refine W0.pu hx D 1 [(0, true)] 2 17 [_, _, _] [.int 1, _] rfl ⟨trivial, (XT.i0_ne_t (neN (a := la) (b := 0) (by first | omega | (simp only [LN]; omega))))⟩ ?_
    by_cases c11 : la = 1
    · refine W0.pu hx D 17 [(0, false)] 1 21 [_, _, _] [_] rfl ⟨trivial, (XT.ii_ne_f (eqN (a := la) (b := 1) (by first | omega | (simp only [LN]; omega))))⟩ ?_
      refine W0.kS hx hEL (B.h 245 rfl) (B.h 246 rfl) (B.h 6 rfl) (B.h 247 rfl) [(.int pa)] [] (rm27 B pa h0 W0.old cpa) all0 0 (by decide +kernel) all0 hml (lenOf pd25 rfl) (D 21 rfl) ⟨rfl, rfl, rfl, rfl⟩ (fun T12 h12 v12 P12 Ws12 K12 q12 => ?_)
      have W12 := Ws12 [] all0
      obtain ⟨r12, rfl, lr12, S12⟩ := q12
      have gr12 : n0 ≤ r12 ∧ s.heap.size ≤ r12 := ⟨Nat.le_trans W0.n0le lr12, Nat.le_trans W0.s0le lr12⟩
      have E12 := S12.exa
      show Go p e below _ (T12.setTop (mkF m 24 #[vi (Int32.ofNat (la)), vi pa, vi pb] [(.ref r12)]))
      exact W12.retA hx hEL hs hlk (by decide +kernel) (by decide +kernel) hret rfl rfl (D 24 rfl) (fun S hS => ⟨r12, rfl, hs ▸ gr12.2, (by have q : la = 1 := (by omega); rw [q]; exact S12)⟩)
    · refine W0.pu hx D 17 [(0, true)] 0 25 [_, _, _] [] rfl ⟨trivial, (XT.ii_ne_t (neN (a := la) (b := 1) (by first | omega | (simp only [LN]; omega))))⟩ ?_
      refine W0.newO hx (B.h 4 rfl) (B.h 5 rfl) (B.h 6 rfl) rfl (D 25 rfl) (by decide +kernel) (by decide +kernel) (fun T13 h13 b13 eb13 gb13 W13 K13 E13 D13 => ?_)
      have k14 : Fld Z h13 b13 "java/lang/String" "value" "[B" .null := D13 (Or.inr (B.h 20 rfl)) (ty := (.array .byte)) (by decide +kernel)
      have k15 : Fld Z h13 b13 "java/lang/String" "coder" "B" (.int 0) := D13 (Or.inr (B.h 21 rfl)) (ty := .byte) (by decide +kernel)
      refine W13.pv hx D 28 2 30 [_, _, _] [.int 2, _, _] rfl ?_
      refine W13.newP hx (B.h 7 rfl) rfl (D 30 rfl) rfl (by decide +kernel) (cap := 2) (by decide +kernel) (by decide +kernel) (by decide +kernel) (by decide +kernel) (fun T16 h16 b16 c16 eb16 gb16 W16 K16 A16 => ?_)
      have V16 : Arv Z h16 b16 c16 .char (2 : Int32) [(.int 0), (.int 0)] (.int 0) := A16
      refine W16.pv hx D 32 3 35 [_, _, _] [_, .int 0, _, _, _, _] rfl ?_
      refine W16.stC hx V16 ⟨by decide, by decide⟩ 0 rfl (Nat.le_of_ble_eq_true rfl) gb16.1 (Or.inr gb16.2) rfl rfl (D 35 rfl) (fun T17 h17 W17 K17 A17 => ?_)
      have V17 : Arv Z h17 b16 c16 .char (2 : Int32) [(.int pa), (.int 0)] (.int 0) := (by rw [(nar_char cpa)] at A17; exact A17)
      refine W17.pv hx D 36 3 39 [_, _, _] [_, .int 1, _, _, _, _] rfl ?_
      refine W17.stC hx V17 ⟨by decide, by decide⟩ 1 rfl (Nat.le_of_ble_eq_true rfl) gb16.1 (Or.inr gb16.2) rfl rfl (D 39 rfl) (fun T18 h18 W18 K18 A18 => ?_)
      have V18 : Arv Z h18 b16 c16 .char (2 : Int32) [(.int pa), (.int pb)] (.int 0) := (by rw [(nar_char cpb)] at A18; exact A18)
      have k20 := (((E13.keep K16).keep K17).keep K18)
      have k21 := (((k14.keep K16 nin0).keep K17 (ninS (ne_of_born (Nat.le_of_eq eb16.symm) E13.lt (Nat.le_refl _)) nin0)).keep K18 (ninS (ne_of_born (Nat.le_of_eq eb16.symm) E13.lt (Nat.le_refl _)) nin0))
      have k22 := (((k15.keep K16 nin0).keep K17 (ninS (ne_of_born (Nat.le_of_eq eb16.symm) E13.lt (Nat.le_refl _)) nin0)).keep K18 (ninS (ne_of_born (Nat.le_of_eq eb16.symm) E13.lt (Nat.le_refl _)) nin0))
      refine W18.newStr hx hws (B.h 5 rfl) SC hzc (B.h 8 rfl) (B.h 9 rfl) (B.h 10 rfl) k20 k21 k22 (cs := [pa, pb]) (n := 2) V18 rfl rfl (by decide +kernel) (by decide +kernel) (allSi cpa (allSi cpb all0i)) gb13.1 (Or.inr gb13.2) (mI 1 rfl) (by decide +kernel) (Wd := 1) (by decide +kernel) (by decide +kernel) (by decide +kernel) rfl (by rw [hml]; rfl) rfl (by show 2 * 0 + _ ≤ _; exact Nat.le_of_eq rfl) (D 40 rfl) (fun T19 h19 W19 K19 S19 => ?_)
      show Go p e below _ (T19.setTop (mkF m 43 #[vi (Int32.ofNat (la)), vi pa, vi pb] [(.ref b13)]))
      exact W19.retA hx hEL hs hlk (by decide +kernel) (by decide +kernel) hret rfl rfl (D 43 rfl) (fun S hS => ⟨b13, rfl, hs ▸ gb13.2, (by have q : la = 2 := (by omega); rw [q]; exact S19)⟩)
theorem ef111 (m : MethodId) (x0 : Addr) (x1 : Int64)  : entryFrame m #[(.ref x0), (.long x1), .null] 5 = mkF m 0 #[vr x0, .val (.long x1), S0, vN, U0] [] := by first | (simp [entryFrame, mkF, argsToLocals, Value.category]; done) | rfl | rfl
set_option maxRecDepth 65536 in
set_option maxHeartbeats 40000000 in
theorem rm111 (B : EV l Z a0 zc fm) (x1 : Addr) (tm : Int64) (xs : List Int32) (ns don dtn : Addr) (ko kt : ClassId) (uu nn : Nat) (h0 : Heap) {n0 : Nat} (O0 : Old Z n0 h0) (Sx : Str Z h0 x1 xs) (hxs : ∀ c ∈ xs, ¬ c < 0 ∧ ¬ (255 : Int32) < c) (OT : Sta Z Z.heap "java/util/concurrent/TimeUnit" "NANOSECONDS" "Ljava/util/concurrent/TimeUnit;" (.ref ns)) (OTE : Exa Z Z.heap ns "java/util/concurrent/TimeUnit") (OTS : Fld Z Z.heap ns "java/util/concurrent/TimeUnit" "scale" "J" (.long 1)) (OTM : Fld Z Z.heap ns "java/util/concurrent/TimeUnit" "milliRatio" "I" (.int 1000000)) (OSo : Sta Z Z.heap "java/lang/Integer" "DigitOnes" "[B" (.ref don)) (OSt : Sta Z Z.heap "java/lang/Integer" "DigitTens" "[B" (.ref dtn)) (OAo : Arv Z Z.heap don ko .byte (100 : Int32) onesL (.int 0)) (OAt : Arv Z Z.heap dtn kt .byte (100 : Int32) tensL (.int 0)) (hN : ND uu nn) (hu : 0 ≤ uu ∧ uu ≤ 9223372036854 ∧ 1 ≤ nn ∧ nn ≤ 13) (hm : (tm / (1000000 : Int64)) = (posL (uu))) (hxy : xs.length ≤ 2) :
    Met l Z EL0 n0 (⟨"com/example/sem1/sem1/store/StoreFailures", "unanswered", "(Ljava/lang/String;JLjava/lang/String;)Ljava/lang/String;"⟩ : MethodName) prog_22_method_3_code 5 (some (.object "java/lang/String")) [] (rO 6 12 596 92) #[(.ref x1), (.long tm), .null] h0 [] [] (fun v h' S => ∃ r : Addr, v = some (.ref r) ∧ h0.size ≤ r ∧ Str Z h' r (((xs ++ [(32 : Int32), 100, 105, 100, 32, 110, 111, 116, 32, 97, 110, 115, 119, 101, 114, 32, 119, 105, 116, 104, 105, 110, 32]) ++ (dgl uu nn)) ++ [(32 : Int32), 109, 115])) := by
  obtain ⟨hw, hEL, SC, hzc, SF, rfm⟩ := id B
  refine Met.of (plainFor_of_name pn9) O0 ?_
  intro p e s m below meth c T0 hx hby hml hret hlk hnm hs W0
  have W0 : Wk p l e _ s m _ below meth c Z EL0 n0 [] "com/example/sem1/sem1/store/StoreFailures" [] T0 0 0 h0 := W0
  have D := @tk c _ _ hby Kq37
  have hSA := fun d hd => hw d (sa_in d hd)
  refine Go.of (fun _ kk => castTop (ef111 m x1 tm) kk) ?_
  refine W0.newO hx (B.h 30 rfl) (B.h 31 rfl) (B.h 32 rfl) rfl (D 0 rfl) (by decide +kernel) (by decide +kernel) (fun T1 h1 b1 eb1 gb1 W1 K1 E1 D1 => ?_)
  have k2 : Fld Z h1 b1 "java/lang/AbstractStringBuilder" "value" "[B" .null := D1 (Or.inl (B.h 45 rfl)) (ty := (.array .byte)) (by decide +kernel)
  have k3 : Fld Z h1 b1 "java/lang/AbstractStringBuilder" "coder" "B" (.int 0) := D1 (Or.inl (B.h 47 rfl)) (ty := .byte) (by decide +kernel)
  have k4 : Fld Z h1 b1 "java/lang/AbstractStringBuilder" "count" "I" (.int 0) := D1 (Or.inl (B.h 70 rfl)) (ty := .int) (by decide +kernel)
  refine W1.pv hx D 3 1 4 [_, _, _, _, _] [_, _] rfl ?_
  refine W1.kP hx hEL rfl (B.h 33 rfl) (B.h 34 rfl) (B.h 32 rfl) (B.h 35 rfl) (a := b1) [] [(.ref b1)] (rm3 B b1 h1 W1.old E1 k2 k3 k4 gb1.1) all0 1 (by decide +kernel) (allS ⟨gb1.1, (Or.inr gb1.2)⟩ all0) hml (lenOf pd26 rfl) (D 4 rfl) ⟨rfl, rfl, rfl, rfl⟩ (fun T5 h5 v5 P5 Ws5 K5 q5 => ?_)
  obtain ⟨t5, kt5, dl5, rl5, rfl, lt5, edl5, hrl5, hbl5, Fv5, Fc5, Fn5, A5, Et5, st5⟩ := q5
  have W5 := Ws5 [t5] (allS st5 all0)
  have gt5 : n0 ≤ t5 ∧ s.heap.size ≤ t5 := ⟨Nat.le_trans W1.n0le lt5, Nat.le_trans W1.s0le lt5⟩
  have eln5 : dl5.length = 0 := by rw [edl5]; rfl
  obtain ⟨cl5, ecl5⟩ : ∃ z, z = 16 := ⟨_, rfl⟩
  rw [← ecl5] at hrl5
  have hcl5 : cl5 ≤ 92 := by omega
  have A5 : Arv Z h5 t5 kt5 .byte (Int32.ofNat (cl5)) (List.map lv dl5 ++ rl5) (.int 0) := by rw [ecl5]; exact A5
  have k7 := (E1.keep K5)
  refine W5.pv hx D 7 1 8 [_, _, _, _, _] [_, _] rfl ?_
  obtain ⟨t8, kb8, cd8, N8, vs8, E8, V8, C8, A8, R8⟩ := id Sx
  have S8 : Str Z h5 x1 xs := ⟨t8, kb8, cd8, N8, vs8, ((E8.keep K1).keep K5), ((V8.keep K1 nin0).keep K5 (ninS (ne_of_born (Nat.le_of_eq eb1.symm) Sx.exa.lt (Nat.le_refl _)) nin0)), ((C8.keep K1 nin0).keep K5 (ninS (ne_of_born (Nat.le_of_eq eb1.symm) Sx.exa.lt (Nat.le_refl _)) nin0)), ((A8.keep K1 nin0).keep K5 (ninS (ne_of_born (Nat.le_of_eq eb1.symm) A8.lt (Nat.le_refl _)) nin0)), R8⟩
  refine W5.kV hx hEL (B.h 48 rfl) (B.h 49 rfl) (B.h 51 rfl) (B.h 50 rfl) (B.h 32 rfl) (B.h 52 rfl) k7 [(.ref x1)] [] (rm63 B b1 t5 kt5 dl5 rl5 cl5 x1 xs h5 W5.old k7 Fv5 Fc5 Fn5 A5 Et5 hrl5 hcl5 hbl5 gb1.1 gt5.1 (ne_of_born lt5 E1.lt (Nat.le_refl _)) (by first | omega | (simp only [LN]; omega)) S8 hxs) (allS (mI 0 rfl) all0) 0 (by decide +kernel) (allS ⟨gb1.1, (Or.inr gb1.2)⟩ (allS ⟨gt5.1, (Or.inr gt5.2)⟩ all0)) hml (lenOf pd27 rfl) (D 8 rfl) ⟨rfl, rfl, rfl, rfl⟩ (fun T6 h6 v6 P6 Ws6 K6 q6 => ?_)
  obtain ⟨t6, kt6, dl6, rl6, cl6, rfl, hor6, nat6, gn6, edl6, hrl6, hcl6, hbl6, Fv6, Fc6, Fn6, A6, Et6, st6⟩ := q6
  have W6 := Ws6 [t6] (allS st6 all0)
  have gw6 : t6 ∈ [] ∨ s.heap.size ≤ t6 := hor6.elim (fun q => by rw [q]; exact (Or.inr gt5.2)) (fun q => Or.inr (Nat.le_trans W5.s0le q))
  have eln6 : dl6.length = dl5.length + xs.length := by rw [edl6]; simp only [List.length_append, List.length_cons, List.length_nil, dgl_len] <;> omega
  refine W6.ldcC hx hEL (by decide +kernel) (B.h 96 rfl) hSA [(.int 32), (.int 100), (.int 105), (.int 100), (.int 32), (.int 110), (.int 111), (.int 116), (.int 32), (.int 97), (.int 110), (.int 115), (.int 119), (.int 101), (.int 114), (.int 32), (.int 119), (.int 105), (.int 116), (.int 104), (.int 105), (.int 110), (.int 32)] (23 : Int32) (by decide +kernel) (by decide +kernel) (by decide +kernel) rfl (D 11 rfl) (n := 92) (by decide +kernel) (by decide +kernel) (by decide +kernel) (by decide +kernel) (fun T9 h9 b9 t9 kb9 W9 K9 E9 Fv9 Fc9 A9 N9 => ?_)
  have S9 : Str Z h9 b9 [(32 : Int32), 100, 105, 100, 32, 110, 111, 116, 32, 97, 110, 115, 119, 101, 114, 32, 119, 105, 116, 104, 105, 110, 32] := ⟨t9, kb9, 0, (23 : Int32), _, E9, Fv9, Fc9, A9, Or.inl ⟨rfl, by decide +kernel, by decide +kernel, by decide +kernel⟩, by decide +kernel, by decide⟩
  have k11 := ((k7.keep K6).keep K9)
  have k12 := (Fv6.keep K9 nin0)
  have k13 := (Fc6.keep K9 nin0)
  have k14 := (Fn6.keep K9 nin0)
  have k15 := (A6.keep K9 nin0)
  have k16 := (Et6.keep K9)
  refine W9.kV hx hEL (B.h 48 rfl) (B.h 49 rfl) (B.h 51 rfl) (B.h 50 rfl) (B.h 32 rfl) (B.h 52 rfl) k11 [(.ref b9)] [] (rm63 B b1 t6 kt6 dl6 rl6 cl6 b9 [(32 : Int32), 100, 105, 100, 32, 110, 111, 116, 32, 97, 110, 115, 119, 101, 114, 32, 119, 105, 116, 104, 105, 110, 32] h9 W9.old k11 k12 k13 k14 k15 k16 hrl6 hcl6 hbl6 gb1.1 gn6 nat6 (by first | omega | (simp only [LN]; omega)) S9 (lat8 (by decide +kernel))) (allS (mI 0 rfl) all0) 0 (by decide +kernel) (allS ⟨gb1.1, (Or.inr gb1.2)⟩ (allS ⟨gn6, gw6⟩ all0)) hml (lenOf pd27 rfl) (D 13 rfl) ⟨rfl, rfl, rfl, rfl⟩ (fun T10 h10 v10 P10 Ws10 K10 q10 => ?_)
  obtain ⟨t10, kt10, dl10, rl10, cl10, rfl, hor10, nat10, gn10, edl10, hrl10, hcl10, hbl10, Fv10, Fc10, Fn10, A10, Et10, st10⟩ := q10
  have W10 := Ws10 [t10] (allS st10 all0)
  have gw10 : t10 ∈ [] ∨ s.heap.size ≤ t10 := hor10.elim (fun q => by rw [q]; exact gw6) (fun q => Or.inr (Nat.le_trans W9.s0le q))
  have eln10 : dl10.length = dl6.length + 23 := by rw [edl10]; simp only [List.length_append, List.length_cons, List.length_nil, dgl_len] <;> omega
  refine W10.getS hx (host := "") (Or.inl (B.h 120 rfl)) Via.refl OT rfl (D 16 rfl) (fun T17 W17 => ?_)
  have k19 := OTE.ext W17.old.2
  refine W17.pv hx D 19 1 20 [_, _, _, _, _] [_, _, _] rfl ?_
  refine W17.kV hx hEL (B.h 122 rfl) (B.h 123 rfl) (B.h 125 rfl) (B.h 124 rfl) (B.h 121 rfl) (B.h 126 rfl) k19 [(.long tm)] [(.ref b1)] (rm100 B ns tm h10 W17.old OT OTE OTS OTM) all0 1 (by decide +kernel) all0 hml (lenOf pd28 rfl) (D 20 rfl) ⟨rfl, rfl, rfl, rfl⟩ (fun T18 h18 v18 P18 Ws18 K18 q18 => ?_)
  have W18 := Ws18 [] all0
  obtain ⟨rfl, rfl⟩ := q18
  show Go p e below _ (T18.setTop (mkF m 23 #[vr x1, .val (.long tm), S0, vN, U0] [(.long (tm / (1000000 : Int64))), (.ref b1)]))
  rw [hm]
  have k21 := (k11.keep K10)
  refine W18.kV hx hEL (B.h 132 rfl) (B.h 133 rfl) (B.h 135 rfl) (B.h 134 rfl) (B.h 32 rfl) (B.h 136 rfl) k21 [(.long (posL (uu)))] [] (rm106 B b1 t10 kt10 dl10 rl10 cl10 don dtn ko kt uu nn h10 W18.old k21 Fv10 Fc10 Fn10 A10 Et10 hrl10 hcl10 hbl10 gb1.1 gn10 nat10 OSo OSt OAo OAt hN hu (by first | omega | (simp only [LN]; omega))) (allS (mI 0 rfl) all0) 0 (by decide +kernel) (allS ⟨gb1.1, (Or.inr gb1.2)⟩ (allS ⟨gn10, gw10⟩ all0)) hml (lenOf pd29 rfl) (D 23 rfl) ⟨rfl, rfl, rfl, rfl⟩ (fun T20 h20 v20 P20 Ws20 K20 q20 => ?_)
  obtain ⟨t20, kt20, dl20, rl20, cl20, rfl, hor20, nat20, gn20, edl20, hrl20, hcl20, hbl20, Fv20, Fc20, Fn20, A20, Et20, st20⟩ := q20
  have W20 := Ws20 [t20] (allS st20 all0)
  have gw20 : t20 ∈ [] ∨ s.heap.size ≤ t20 := hor20.elim (fun q => by rw [q]; exact gw10) (fun q => Or.inr (Nat.le_trans W18.s0le q))
  have eln20 : dl20.length = dl10.length + (nn) := by rw [edl20]; simp only [List.length_append, List.length_cons, List.length_nil, dgl_len] <;> omega
  refine W20.ldcC hx hEL (by decide +kernel) (B.h 157 rfl) hSA [(.int 32), (.int 109), (.int 115)] (3 : Int32) (by decide +kernel) (by decide +kernel) (by decide +kernel) rfl (D 26 rfl) (n := 12) (by decide +kernel) (by decide +kernel) (by decide +kernel) (by decide +kernel) (fun T22 h22 b22 t22 kb22 W22 K22 E22 Fv22 Fc22 A22 N22 => ?_)
  have S22 : Str Z h22 b22 [(32 : Int32), 109, 115] := ⟨t22, kb22, 0, (3 : Int32), _, E22, Fv22, Fc22, A22, Or.inl ⟨rfl, by decide +kernel, by decide +kernel, by decide +kernel⟩, by decide +kernel, by decide⟩
  have k24 := ((k21.keep K20).keep K22)
  have k25 := (Fv20.keep K22 nin0)
  have k26 := (Fc20.keep K22 nin0)
  have k27 := (Fn20.keep K22 nin0)
  have k28 := (A20.keep K22 nin0)
  have k29 := (Et20.keep K22)
  refine W22.kV hx hEL (B.h 48 rfl) (B.h 49 rfl) (B.h 51 rfl) (B.h 50 rfl) (B.h 32 rfl) (B.h 52 rfl) k24 [(.ref b22)] [] (rm63 B b1 t20 kt20 dl20 rl20 cl20 b22 [(32 : Int32), 109, 115] h22 W22.old k24 k25 k26 k27 k28 k29 hrl20 hcl20 hbl20 gb1.1 gn20 nat20 (by first | omega | (simp only [LN]; omega)) S22 (lat8 (by decide +kernel))) (allS (mI 0 rfl) all0) 0 (by decide +kernel) (allS ⟨gb1.1, (Or.inr gb1.2)⟩ (allS ⟨gn20, gw20⟩ all0)) hml (lenOf pd27 rfl) (D 28 rfl) ⟨rfl, rfl, rfl, rfl⟩ (fun T23 h23 v23 P23 Ws23 K23 q23 => ?_)
  obtain ⟨t23, kt23, dl23, rl23, cl23, rfl, hor23, nat23, gn23, edl23, hrl23, hcl23, hbl23, Fv23, Fc23, Fn23, A23, Et23, st23⟩ := q23
  have W23 := Ws23 [t23] (allS st23 all0)
  have gw23 : t23 ∈ [] ∨ s.heap.size ≤ t23 := hor23.elim (fun q => by rw [q]; exact gw20) (fun q => Or.inr (Nat.le_trans W22.s0le q))
  have eln23 : dl23.length = dl20.length + 3 := by rw [edl23]; simp only [List.length_append, List.length_cons, List.length_nil, dgl_len] <;> omega
  have k31 := (k24.keep K23)
  refine W23.kV hx hEL (B.h 158 rfl) (B.h 159 rfl) (B.h 161 rfl) (B.h 160 rfl) (B.h 32 rfl) (B.h 162 rfl) k31 [] [] (rm74 B b1 t23 kt23 dl23 rl23 cl23 h23 W23.old k31 Fv23 Fc23 Fn23 A23 Et23 hrl23 hcl23 hbl23) all0 0 (by decide +kernel) all0 hml (lenOf pd30 rfl) (D 31 rfl) ⟨rfl, rfl, rfl, rfl⟩ (fun T30 h30 v30 P30 Ws30 K30 q30 => ?_)
  have W30 := Ws30 [] all0
  obtain ⟨r30, rfl, lr30, S30⟩ := q30
  have gr30 : n0 ≤ r30 ∧ s.heap.size ≤ r30 := ⟨Nat.le_trans W23.n0le lr30, Nat.le_trans W23.s0le lr30⟩
  have E30 := S30.exa
  refine W30.pv hx D 34 5 69 [_, _, _, _, _] [_] rfl ?_
  exact W30.retA hx hEL hs hlk (by decide +kernel) (by decide +kernel) hret rfl rfl (D 69 rfl) (fun S hS => ⟨r30, rfl, hs ▸ gr30.2, (by have q := S30; rw [edl23, edl20, edl10, edl6, edl5] at q; simpa only [List.nil_append] using q)⟩)
theorem ef112 (m : MethodId) (x0 : Addr) (x1 : Int64) (x2 : Addr)  : entryFrame m #[(.ref x0), (.long x1), (.ref x2)] 5 = mkF m 0 #[vr x0, .val (.long x1), S0, vr x2, U0] [] := by first | (simp [entryFrame, mkF, argsToLocals, Value.category]; done) | rfl | rfl
set_option maxRecDepth 65536 in
set_option maxHeartbeats 40000000 in
theorem rm112 (B : EV l Z a0 zc fm) (x1 : Addr) (tm : Int64) (xs : List Int32) (x3 : Addr) (ys : List Int32) (ns don dtn : Addr) (ko kt : ClassId) (uu nn : Nat) (h0 : Heap) {n0 : Nat} (O0 : Old Z n0 h0) (Sx : Str Z h0 x1 xs) (hxs : ∀ c ∈ xs, ¬ c < 0 ∧ ¬ (255 : Int32) < c) (Sy : Str Z h0 x3 ys) (hys : ∀ c ∈ ys, ¬ c < 0 ∧ ¬ (255 : Int32) < c) (OT : Sta Z Z.heap "java/util/concurrent/TimeUnit" "NANOSECONDS" "Ljava/util/concurrent/TimeUnit;" (.ref ns)) (OTE : Exa Z Z.heap ns "java/util/concurrent/TimeUnit") (OTS : Fld Z Z.heap ns "java/util/concurrent/TimeUnit" "scale" "J" (.long 1)) (OTM : Fld Z Z.heap ns "java/util/concurrent/TimeUnit" "milliRatio" "I" (.int 1000000)) (OSo : Sta Z Z.heap "java/lang/Integer" "DigitOnes" "[B" (.ref don)) (OSt : Sta Z Z.heap "java/lang/Integer" "DigitTens" "[B" (.ref dtn)) (OAo : Arv Z Z.heap don ko .byte (100 : Int32) onesL (.int 0)) (OAt : Arv Z Z.heap dtn kt .byte (100 : Int32) tensL (.int 0)) (hN : ND uu nn) (hu : 0 ≤ uu ∧ uu ≤ 9223372036854 ∧ 1 ≤ nn ∧ nn ≤ 13) (hm : (tm / (1000000 : Int64)) = (posL (uu))) (hxy : xs.length ≤ 2 ∧ ys.length ≤ 2) :
    Met l Z EL0 n0 (⟨"com/example/sem1/sem1/store/StoreFailures", "unanswered", "(Ljava/lang/String;JLjava/lang/String;)Ljava/lang/String;"⟩ : MethodName) prog_22_method_3_code 5 (some (.object "java/lang/String")) [] (rO 6 21 1000 92) #[(.ref x1), (.long tm), (.ref x3)] h0 [] [] (fun v h' S => ∃ r : Addr, v = some (.ref r) ∧ h0.size ≤ r ∧ Str Z h' r (((((xs ++ [(32 : Int32), 100, 105, 100, 32, 110, 111, 116, 32, 97, 110, 115, 119, 101, 114, 32, 119, 105, 116, 104, 105, 110, 32]) ++ (dgl uu nn)) ++ [(32 : Int32), 109, 115]) ++ [(59 : Int32), 32]) ++ ys)) := by
  obtain ⟨hw, hEL, SC, hzc, SF, rfm⟩ := id B
  refine Met.of (plainFor_of_name pn9) O0 ?_
  intro p e s m below meth c T0 hx hby hml hret hlk hnm hs W0
  have W0 : Wk p l e _ s m _ below meth c Z EL0 n0 [] "com/example/sem1/sem1/store/StoreFailures" [] T0 0 0 h0 := W0
  have D := @tk c _ _ hby Kq37
  have hSA := fun d hd => hw d (sa_in d hd)
  refine Go.of (fun _ kk => castTop (ef112 m x1 tm x3) kk) ?_
  show Go p e below _ (T0.setTop (mkF m 0 #[vr x1, .val (.long tm), S0, vr x3, U0] []))
  obtain ⟨t1, kb1, E1, Fv1, Fc1, A1⟩ := Sy.open_ (snd255 hys)
  have ln1 := Sy.len4
  have V1 : Arv Z h0 t1 kb1 .byte (Int32.ofNat (ys.length)) (List.map lv ys) (.int 0) := A1
  refine W0.newO hx (B.h 30 rfl) (B.h 31 rfl) (B.h 32 rfl) rfl (D 0 rfl) (by decide +kernel) (by decide +kernel) (fun T2 h2 b2 eb2 gb2 W2 K2 E2 D2 => ?_)
  have k3 : Fld Z h2 b2 "java/lang/AbstractStringBuilder" "value" "[B" .null := D2 (Or.inl (B.h 45 rfl)) (ty := (.array .byte)) (by decide +kernel)
  have k4 : Fld Z h2 b2 "java/lang/AbstractStringBuilder" "coder" "B" (.int 0) := D2 (Or.inl (B.h 47 rfl)) (ty := .byte) (by decide +kernel)
  have k5 : Fld Z h2 b2 "java/lang/AbstractStringBuilder" "count" "I" (.int 0) := D2 (Or.inl (B.h 70 rfl)) (ty := .int) (by decide +kernel)
  refine W2.pv hx D 3 1 4 [_, _, _, _, _] [_, _] rfl ?_
  refine W2.kP hx hEL rfl (B.h 33 rfl) (B.h 34 rfl) (B.h 32 rfl) (B.h 35 rfl) (a := b2) [] [(.ref b2)] (rm3 B b2 h2 W2.old E2 k3 k4 k5 gb2.1) all0 1 (by decide +kernel) (allS ⟨gb2.1, (Or.inr gb2.2)⟩ all0) hml (lenOf pd26 rfl) (D 4 rfl) ⟨rfl, rfl, rfl, rfl⟩ (fun T6 h6 v6 P6 Ws6 K6 q6 => ?_)
  obtain ⟨t6, kt6, dl6, rl6, rfl, lt6, edl6, hrl6, hbl6, Fv6, Fc6, Fn6, A6, Et6, st6⟩ := q6
  have W6 := Ws6 [t6] (allS st6 all0)
  have gt6 : n0 ≤ t6 ∧ s.heap.size ≤ t6 := ⟨Nat.le_trans W2.n0le lt6, Nat.le_trans W2.s0le lt6⟩
  have eln6 : dl6.length = 0 := by rw [edl6]; rfl
  obtain ⟨cl6, ecl6⟩ : ∃ z, z = 16 := ⟨_, rfl⟩
  rw [← ecl6] at hrl6
  have hcl6 : cl6 ≤ 92 := by omega
  have A6 : Arv Z h6 t6 kt6 .byte (Int32.ofNat (cl6)) (List.map lv dl6 ++ rl6) (.int 0) := by rw [ecl6]; exact A6
  have k8 := (E2.keep K6)
  refine W6.pv hx D 7 1 8 [_, _, _, _, _] [_, _] rfl ?_
  obtain ⟨t9, kb9, cd9, N9, vs9, E9, V9, C9, A9, R9⟩ := id Sx
  have S9 : Str Z h6 x1 xs := ⟨t9, kb9, cd9, N9, vs9, ((E9.keep K2).keep K6), ((V9.keep K2 nin0).keep K6 (ninS (ne_of_born (Nat.le_of_eq eb2.symm) Sx.exa.lt (Nat.le_refl _)) nin0)), ((C9.keep K2 nin0).keep K6 (ninS (ne_of_born (Nat.le_of_eq eb2.symm) Sx.exa.lt (Nat.le_refl _)) nin0)), ((A9.keep K2 nin0).keep K6 (ninS (ne_of_born (Nat.le_of_eq eb2.symm) A9.lt (Nat.le_refl _)) nin0)), R9⟩
  refine W6.kV hx hEL (B.h 48 rfl) (B.h 49 rfl) (B.h 51 rfl) (B.h 50 rfl) (B.h 32 rfl) (B.h 52 rfl) k8 [(.ref x1)] [] (rm63 B b2 t6 kt6 dl6 rl6 cl6 x1 xs h6 W6.old k8 Fv6 Fc6 Fn6 A6 Et6 hrl6 hcl6 hbl6 gb2.1 gt6.1 (ne_of_born lt6 E2.lt (Nat.le_refl _)) (by first | omega | (simp only [LN]; omega)) S9 hxs) (allS (mI 0 rfl) all0) 0 (by decide +kernel) (allS ⟨gb2.1, (Or.inr gb2.2)⟩ (allS ⟨gt6.1, (Or.inr gt6.2)⟩ all0)) hml (lenOf pd27 rfl) (D 8 rfl) ⟨rfl, rfl, rfl, rfl⟩ (fun T7 h7 v7 P7 Ws7 K7 q7 => ?_)
  obtain ⟨t7, kt7, dl7, rl7, cl7, rfl, hor7, nat7, gn7, edl7, hrl7, hcl7, hbl7, Fv7, Fc7, Fn7, A7, Et7, st7⟩ := q7
  have W7 := Ws7 [t7] (allS st7 all0)
  have gw7 : t7 ∈ [] ∨ s.heap.size ≤ t7 := hor7.elim (fun q => by rw [q]; exact (Or.inr gt6.2)) (fun q => Or.inr (Nat.le_trans W6.s0le q))
  have eln7 : dl7.length = dl6.length + xs.length := by rw [edl7]; simp only [List.length_append, List.length_cons, List.length_nil, dgl_len] <;> omega
  refine W7.ldcC hx hEL (by decide +kernel) (B.h 96 rfl) hSA [(.int 32), (.int 100), (.int 105), (.int 100), (.int 32), (.int 110), (.int 111), (.int 116), (.int 32), (.int 97), (.int 110), (.int 115), (.int 119), (.int 101), (.int 114), (.int 32), (.int 119), (.int 105), (.int 116), (.int 104), (.int 105), (.int 110), (.int 32)] (23 : Int32) (by decide +kernel) (by decide +kernel) (by decide +kernel) rfl (D 11 rfl) (n := 92) (by decide +kernel) (by decide +kernel) (by decide +kernel) (by decide +kernel) (fun T10 h10 b10 t10 kb10 W10 K10 E10 Fv10 Fc10 A10 N10 => ?_)
  have S10 : Str Z h10 b10 [(32 : Int32), 100, 105, 100, 32, 110, 111, 116, 32, 97, 110, 115, 119, 101, 114, 32, 119, 105, 116, 104, 105, 110, 32] := ⟨t10, kb10, 0, (23 : Int32), _, E10, Fv10, Fc10, A10, Or.inl ⟨rfl, by decide +kernel, by decide +kernel, by decide +kernel⟩, by decide +kernel, by decide⟩
  have k12 := ((k8.keep K7).keep K10)
  have k13 := (Fv7.keep K10 nin0)
  have k14 := (Fc7.keep K10 nin0)
  have k15 := (Fn7.keep K10 nin0)
  have k16 := (A7.keep K10 nin0)
  have k17 := (Et7.keep K10)
  refine W10.kV hx hEL (B.h 48 rfl) (B.h 49 rfl) (B.h 51 rfl) (B.h 50 rfl) (B.h 32 rfl) (B.h 52 rfl) k12 [(.ref b10)] [] (rm63 B b2 t7 kt7 dl7 rl7 cl7 b10 [(32 : Int32), 100, 105, 100, 32, 110, 111, 116, 32, 97, 110, 115, 119, 101, 114, 32, 119, 105, 116, 104, 105, 110, 32] h10 W10.old k12 k13 k14 k15 k16 k17 hrl7 hcl7 hbl7 gb2.1 gn7 nat7 (by first | omega | (simp only [LN]; omega)) S10 (lat8 (by decide +kernel))) (allS (mI 0 rfl) all0) 0 (by decide +kernel) (allS ⟨gb2.1, (Or.inr gb2.2)⟩ (allS ⟨gn7, gw7⟩ all0)) hml (lenOf pd27 rfl) (D 13 rfl) ⟨rfl, rfl, rfl, rfl⟩ (fun T11 h11 v11 P11 Ws11 K11 q11 => ?_)
  obtain ⟨t11, kt11, dl11, rl11, cl11, rfl, hor11, nat11, gn11, edl11, hrl11, hcl11, hbl11, Fv11, Fc11, Fn11, A11, Et11, st11⟩ := q11
  have W11 := Ws11 [t11] (allS st11 all0)
  have gw11 : t11 ∈ [] ∨ s.heap.size ≤ t11 := hor11.elim (fun q => by rw [q]; exact gw7) (fun q => Or.inr (Nat.le_trans W10.s0le q))
  have eln11 : dl11.length = dl7.length + 23 := by rw [edl11]; simp only [List.length_append, List.length_cons, List.length_nil, dgl_len] <;> omega
  refine W11.getS hx (host := "") (Or.inl (B.h 120 rfl)) Via.refl OT rfl (D 16 rfl) (fun T18 W18 => ?_)
  have k20 := OTE.ext W18.old.2
  refine W18.pv hx D 19 1 20 [_, _, _, _, _] [_, _, _] rfl ?_
  refine W18.kV hx hEL (B.h 122 rfl) (B.h 123 rfl) (B.h 125 rfl) (B.h 124 rfl) (B.h 121 rfl) (B.h 126 rfl) k20 [(.long tm)] [(.ref b2)] (rm100 B ns tm h11 W18.old OT OTE OTS OTM) all0 1 (by decide +kernel) all0 hml (lenOf pd28 rfl) (D 20 rfl) ⟨rfl, rfl, rfl, rfl⟩ (fun T19 h19 v19 P19 Ws19 K19 q19 => ?_)
  have W19 := Ws19 [] all0
  obtain ⟨rfl, rfl⟩ := q19
  show Go p e below _ (T19.setTop (mkF m 23 #[vr x1, .val (.long tm), S0, vr x3, U0] [(.long (tm / (1000000 : Int64))), (.ref b2)]))
  rw [hm]
  have k22 := (k12.keep K11)
  refine W19.kV hx hEL (B.h 132 rfl) (B.h 133 rfl) (B.h 135 rfl) (B.h 134 rfl) (B.h 32 rfl) (B.h 136 rfl) k22 [(.long (posL (uu)))] [] (rm106 B b2 t11 kt11 dl11 rl11 cl11 don dtn ko kt uu nn h11 W19.old k22 Fv11 Fc11 Fn11 A11 Et11 hrl11 hcl11 hbl11 gb2.1 gn11 nat11 OSo OSt OAo OAt hN hu (by first | omega | (simp only [LN]; omega))) (allS (mI 0 rfl) all0) 0 (by decide +kernel) (allS ⟨gb2.1, (Or.inr gb2.2)⟩ (allS ⟨gn11, gw11⟩ all0)) hml (lenOf pd29 rfl) (D 23 rfl) ⟨rfl, rfl, rfl, rfl⟩ (fun T21 h21 v21 P21 Ws21 K21 q21 => ?_)
  obtain ⟨t21, kt21, dl21, rl21, cl21, rfl, hor21, nat21, gn21, edl21, hrl21, hcl21, hbl21, Fv21, Fc21, Fn21, A21, Et21, st21⟩ := q21
  have W21 := Ws21 [t21] (allS st21 all0)
  have gw21 : t21 ∈ [] ∨ s.heap.size ≤ t21 := hor21.elim (fun q => by rw [q]; exact gw11) (fun q => Or.inr (Nat.le_trans W19.s0le q))
  have eln21 : dl21.length = dl11.length + (nn) := by rw [edl21]; simp only [List.length_append, List.length_cons, List.length_nil, dgl_len] <;> omega
  refine W21.ldcC hx hEL (by decide +kernel) (B.h 157 rfl) hSA [(.int 32), (.int 109), (.int 115)] (3 : Int32) (by decide +kernel) (by decide +kernel) (by decide +kernel) rfl (D 26 rfl) (n := 12) (by decide +kernel) (by decide +kernel) (by decide +kernel) (by decide +kernel) (fun T23 h23 b23 t23 kb23 W23 K23 E23 Fv23 Fc23 A23 N23 => ?_)
  have S23 : Str Z h23 b23 [(32 : Int32), 109, 115] := ⟨t23, kb23, 0, (3 : Int32), _, E23, Fv23, Fc23, A23, Or.inl ⟨rfl, by decide +kernel, by decide +kernel, by decide +kernel⟩, by decide +kernel, by decide⟩
  have k25 := ((k22.keep K21).keep K23)
  have k26 := (Fv21.keep K23 nin0)
  have k27 := (Fc21.keep K23 nin0)
  have k28 := (Fn21.keep K23 nin0)
  have k29 := (A21.keep K23 nin0)
  have k30 := (Et21.keep K23)
  refine W23.kV hx hEL (B.h 48 rfl) (B.h 49 rfl) (B.h 51 rfl) (B.h 50 rfl) (B.h 32 rfl) (B.h 52 rfl) k25 [(.ref b23)] [] (rm63 B b2 t21 kt21 dl21 rl21 cl21 b23 [(32 : Int32), 109, 115] h23 W23.old k25 k26 k27 k28 k29 k30 hrl21 hcl21 hbl21 gb2.1 gn21 nat21 (by first | omega | (simp only [LN]; omega)) S23 (lat8 (by decide +kernel))) (allS (mI 0 rfl) all0) 0 (by decide +kernel) (allS ⟨gb2.1, (Or.inr gb2.2)⟩ (allS ⟨gn21, gw21⟩ all0)) hml (lenOf pd27 rfl) (D 28 rfl) ⟨rfl, rfl, rfl, rfl⟩ (fun T24 h24 v24 P24 Ws24 K24 q24 => ?_)
  obtain ⟨t24, kt24, dl24, rl24, cl24, rfl, hor24, nat24, gn24, edl24, hrl24, hcl24, hbl24, Fv24, Fc24, Fn24, A24, Et24, st24⟩ := q24
  have W24 := Ws24 [t24] (allS st24 all0)
  have gw24 : t24 ∈ [] ∨ s.heap.size ≤ t24 := hor24.elim (fun q => by rw [q]; exact gw21) (fun q => Or.inr (Nat.le_trans W23.s0le q))
  have eln24 : dl24.length = dl21.length + 3 := by rw [edl24]; simp only [List.length_append, List.length_cons, List.length_nil, dgl_len] <;> omega
  have k32 := (k25.keep K24)
  refine W24.kV hx hEL (B.h 158 rfl) (B.h 159 rfl) (B.h 161 rfl) (B.h 160 rfl) (B.h 32 rfl) (B.h 162 rfl) k32 [] [] (rm74 B b2 t24 kt24 dl24 rl24 cl24 h24 W24.old k32 Fv24 Fc24 Fn24 A24 Et24 hrl24 hcl24 hbl24) all0 0 (by decide +kernel) all0 hml (lenOf pd30 rfl) (D 31 rfl) ⟨rfl, rfl, rfl, rfl⟩ (fun T31 h31 v31 P31 Ws31 K31 q31 => ?_)
  have W31 := Ws31 [] all0
  obtain ⟨r31, rfl, lr31, S31⟩ := q31
  have gr31 : n0 ≤ r31 ∧ s.heap.size ≤ r31 := ⟨Nat.le_trans W24.n0le lr31, Nat.le_trans W24.s0le lr31⟩
  have E31 := S31.exa
  refine W31.pv hx D 34 3 45 [_, _, _, _, _] [] rfl ?_
  refine W31.newO hx (B.h 30 rfl) (B.h 31 rfl) (B.h 32 rfl) rfl (D 45 rfl) (by decide +kernel) (by decide +kernel) (fun T33 h33 b33 eb33 gb33 W33 K33 E33 D33 => ?_)
  have k34 : Fld Z h33 b33 "java/lang/AbstractStringBuilder" "value" "[B" .null := D33 (Or.inl (B.h 45 rfl)) (ty := (.array .byte)) (by decide +kernel)
  have k35 : Fld Z h33 b33 "java/lang/AbstractStringBuilder" "coder" "B" (.int 0) := D33 (Or.inl (B.h 47 rfl)) (ty := .byte) (by decide +kernel)
  have k36 : Fld Z h33 b33 "java/lang/AbstractStringBuilder" "count" "I" (.int 0) := D33 (Or.inl (B.h 70 rfl)) (ty := .int) (by decide +kernel)
  refine W33.pv hx D 48 1 49 [_, _, _, _, _] [_, _] rfl ?_
  refine W33.kP hx hEL rfl (B.h 33 rfl) (B.h 34 rfl) (B.h 32 rfl) (B.h 35 rfl) (a := b33) [] [(.ref b33)] (rm3 B b33 h33 W33.old E33 k34 k35 k36 gb33.1) all0 1 (by decide +kernel) (allS ⟨gb33.1, (Or.inr gb33.2)⟩ all0) hml (lenOf pd26 rfl) (D 49 rfl) ⟨rfl, rfl, rfl, rfl⟩ (fun T37 h37 v37 P37 Ws37 K37 q37 => ?_)
  obtain ⟨t37, kt37, dl37, rl37, rfl, lt37, edl37, hrl37, hbl37, Fv37, Fc37, Fn37, A37, Et37, st37⟩ := q37
  have W37 := Ws37 [t37] (allS st37 all0)
  have gt37 : n0 ≤ t37 ∧ s.heap.size ≤ t37 := ⟨Nat.le_trans W33.n0le lt37, Nat.le_trans W33.s0le lt37⟩
  have eln37 : dl37.length = 0 := by rw [edl37]; rfl
  obtain ⟨cl37, ecl37⟩ : ∃ z, z = 16 := ⟨_, rfl⟩
  rw [← ecl37] at hrl37
  have hcl37 : cl37 ≤ 92 := by omega
  have A37 : Arv Z h37 t37 kt37 .byte (Int32.ofNat (cl37)) (List.map lv dl37 ++ rl37) (.int 0) := by rw [ecl37]; exact A37
  have k39 := (E33.keep K37)
  refine W37.pv hx D 52 1 54 [_, _, _, _, _] [_, _] rfl ?_
  obtain ⟨t40, kb40, cd40, N40, vs40, E40, V40, C40, A40, R40⟩ := id S31
  have S40 : Str Z h37 r31 dl24 := ⟨t40, kb40, cd40, N40, vs40, ((E40.keep K33).keep K37), ((V40.keep K33 nin0).keep K37 (ninS (ne_of_born (Nat.le_of_eq eb33.symm) E31.lt (Nat.le_refl _)) nin0)), ((C40.keep K33 nin0).keep K37 (ninS (ne_of_born (Nat.le_of_eq eb33.symm) E31.lt (Nat.le_refl _)) nin0)), ((A40.keep K33 nin0).keep K37 (ninS (ne_of_born (Nat.le_of_eq eb33.symm) A40.lt (Nat.le_refl _)) nin0)), R40⟩
  refine W37.kV hx hEL (B.h 48 rfl) (B.h 49 rfl) (B.h 51 rfl) (B.h 50 rfl) (B.h 32 rfl) (B.h 52 rfl) k39 [(.ref r31)] [] (rm63 B b33 t37 kt37 dl37 rl37 cl37 r31 dl24 h37 W37.old k39 Fv37 Fc37 Fn37 A37 Et37 hrl37 hcl37 hbl37 gb33.1 gt37.1 (ne_of_born lt37 E33.lt (Nat.le_refl _)) (by first | omega | (simp only [LN]; omega)) S40 hbl24) (allS (mI 0 rfl) all0) 0 (by decide +kernel) (allS ⟨gb33.1, (Or.inr gb33.2)⟩ (allS ⟨gt37.1, (Or.inr gt37.2)⟩ all0)) hml (lenOf pd27 rfl) (D 54 rfl) ⟨rfl, rfl, rfl, rfl⟩ (fun T38 h38 v38 P38 Ws38 K38 q38 => ?_)
  obtain ⟨t38, kt38, dl38, rl38, cl38, rfl, hor38, nat38, gn38, edl38, hrl38, hcl38, hbl38, Fv38, Fc38, Fn38, A38, Et38, st38⟩ := q38
  have W38 := Ws38 [t38] (allS st38 all0)
  have gw38 : t38 ∈ [] ∨ s.heap.size ≤ t38 := hor38.elim (fun q => by rw [q]; exact (Or.inr gt37.2)) (fun q => Or.inr (Nat.le_trans W37.s0le q))
  have eln38 : dl38.length = dl37.length + dl24.length := by rw [edl38]; simp only [List.length_append, List.length_cons, List.length_nil, dgl_len] <;> omega
  refine W38.ldcC hx hEL (by decide +kernel) (B.h 270 rfl) hSA [(.int 59), (.int 32)] (2 : Int32) (by decide +kernel) (by decide +kernel) (by decide +kernel) rfl (D 57 rfl) (n := 8) (by decide +kernel) (by decide +kernel) (by decide +kernel) (by decide +kernel) (fun T41 h41 b41 t41 kb41 W41 K41 E41 Fv41 Fc41 A41 N41 => ?_)
  have S41 : Str Z h41 b41 [(59 : Int32), 32] := ⟨t41, kb41, 0, (2 : Int32), _, E41, Fv41, Fc41, A41, Or.inl ⟨rfl, by decide +kernel, by decide +kernel, by decide +kernel⟩, by decide +kernel, by decide⟩
  have k43 := ((k39.keep K38).keep K41)
  have k44 := (Fv38.keep K41 nin0)
  have k45 := (Fc38.keep K41 nin0)
  have k46 := (Fn38.keep K41 nin0)
  have k47 := (A38.keep K41 nin0)
  have k48 := (Et38.keep K41)
  refine W41.kV hx hEL (B.h 48 rfl) (B.h 49 rfl) (B.h 51 rfl) (B.h 50 rfl) (B.h 32 rfl) (B.h 52 rfl) k43 [(.ref b41)] [] (rm63 B b33 t38 kt38 dl38 rl38 cl38 b41 [(59 : Int32), 32] h41 W41.old k43 k44 k45 k46 k47 k48 hrl38 hcl38 hbl38 gb33.1 gn38 nat38 (by first | omega | (simp only [LN]; omega)) S41 (lat8 (by decide +kernel))) (allS (mI 0 rfl) all0) 0 (by decide +kernel) (allS ⟨gb33.1, (Or.inr gb33.2)⟩ (allS ⟨gn38, gw38⟩ all0)) hml (lenOf pd27 rfl) (D 59 rfl) ⟨rfl, rfl, rfl, rfl⟩ (fun T42 h42 v42 P42 Ws42 K42 q42 => ?_)
  obtain ⟨t42, kt42, dl42, rl42, cl42, rfl, hor42, nat42, gn42, edl42, hrl42, hcl42, hbl42, Fv42, Fc42, Fn42, A42, Et42, st42⟩ := q42
  have W42 := Ws42 [t42] (allS st42 all0)
  have gw42 : t42 ∈ [] ∨ s.heap.size ≤ t42 := hor42.elim (fun q => by rw [q]; exact gw38) (fun q => Or.inr (Nat.le_trans W41.s0le q))
  have eln42 : dl42.length = dl38.length + 2 := by rw [edl42]; simp only [List.length_append, List.length_cons, List.length_nil, dgl_len] <;> omega
  have k50 := (k43.keep K42)
  have k52 := ((((((((((((((E1.keep K2).keep K6).keep K7).keep K10).keep K11).keep K21).keep K23).keep K24).keep K31).keep K33).keep K37).keep K38).keep K41).keep K42)
  have k53 := ((((((((((((((Fv1.keep K2 nin0).keep K6 (ninS (ne_of_born (Nat.le_of_eq eb2.symm) Sy.exa.lt (Nat.le_refl _)) nin0)).keep K7 (ninS (ne_of_born (Nat.le_of_eq eb2.symm) Sy.exa.lt (Nat.le_refl _)) (ninS (ne_of_born lt6 Sy.exa.lt K2.1) nin0))).keep K10 nin0).keep K11 (ninS (ne_of_born (Nat.le_of_eq eb2.symm) Sy.exa.lt (Nat.le_refl _)) (ninS (neOr hor7 (ne_of_born lt6 Sy.exa.lt K2.1) (Nat.lt_of_lt_of_le Sy.exa.lt (Nat.le_trans K2.1 K6.1))) nin0))).keep K21 (ninS (ne_of_born (Nat.le_of_eq eb2.symm) Sy.exa.lt (Nat.le_refl _)) (ninS (neOr hor11 (neOr hor7 (ne_of_born lt6 Sy.exa.lt K2.1) (Nat.lt_of_lt_of_le Sy.exa.lt (Nat.le_trans K2.1 K6.1))) (Nat.lt_of_lt_of_le Sy.exa.lt (Nat.le_trans (Nat.le_trans (Nat.le_trans K2.1 K6.1) K7.1) K10.1))) nin0))).keep K23 nin0).keep K24 (ninS (ne_of_born (Nat.le_of_eq eb2.symm) Sy.exa.lt (Nat.le_refl _)) (ninS (neOr hor21 (neOr hor11 (neOr hor7 (ne_of_born lt6 Sy.exa.lt K2.1) (Nat.lt_of_lt_of_le Sy.exa.lt (Nat.le_trans K2.1 K6.1))) (Nat.lt_of_lt_of_le Sy.exa.lt (Nat.le_trans (Nat.le_trans (Nat.le_trans K2.1 K6.1) K7.1) K10.1))) (Nat.lt_of_lt_of_le Sy.exa.lt (Nat.le_trans (Nat.le_trans (Nat.le_trans (Nat.le_trans K2.1 K6.1) K7.1) K10.1) K11.1))) nin0))).keep K31 nin0).keep K33 nin0).keep K37 (ninS (ne_of_born (Nat.le_of_eq eb33.symm) Sy.exa.lt (Nat.le_trans (Nat.le_trans (Nat.le_trans (Nat.le_trans (Nat.le_trans (Nat.le_trans (Nat.le_trans (Nat.le_trans K2.1 K6.1) K7.1) K10.1) K11.1) K21.1) K23.1) K24.1) K31.1)) nin0)).keep K38 (ninS (ne_of_born (Nat.le_of_eq eb33.symm) Sy.exa.lt (Nat.le_trans (Nat.le_trans (Nat.le_trans (Nat.le_trans (Nat.le_trans (Nat.le_trans (Nat.le_trans (Nat.le_trans K2.1 K6.1) K7.1) K10.1) K11.1) K21.1) K23.1) K24.1) K31.1)) (ninS (ne_of_born lt37 Sy.exa.lt (Nat.le_trans (Nat.le_trans (Nat.le_trans (Nat.le_trans (Nat.le_trans (Nat.le_trans (Nat.le_trans (Nat.le_trans (Nat.le_trans K2.1 K6.1) K7.1) K10.1) K11.1) K21.1) K23.1) K24.1) K31.1) K33.1)) nin0))).keep K41 nin0).keep K42 (ninS (ne_of_born (Nat.le_of_eq eb33.symm) Sy.exa.lt (Nat.le_trans (Nat.le_trans (Nat.le_trans (Nat.le_trans (Nat.le_trans (Nat.le_trans (Nat.le_trans (Nat.le_trans K2.1 K6.1) K7.1) K10.1) K11.1) K21.1) K23.1) K24.1) K31.1)) (ninS (neOr hor38 (ne_of_born lt37 Sy.exa.lt (Nat.le_trans (Nat.le_trans (Nat.le_trans (Nat.le_trans (Nat.le_trans (Nat.le_trans (Nat.le_trans (Nat.le_trans (Nat.le_trans K2.1 K6.1) K7.1) K10.1) K11.1) K21.1) K23.1) K24.1) K31.1) K33.1)) (Nat.lt_of_lt_of_le Sy.exa.lt (Nat.le_trans (Nat.le_trans (Nat.le_trans (Nat.le_trans (Nat.le_trans (Nat.le_trans (Nat.le_trans (Nat.le_trans (Nat.le_trans (Nat.le_trans K2.1 K6.1) K7.1) K10.1) K11.1) K21.1) K23.1) K24.1) K31.1) K33.1) K37.1))) nin0)))
  have k54 := ((((((((((((((Fc1.keep K2 nin0).keep K6 (ninS (ne_of_born (Nat.le_of_eq eb2.symm) Sy.exa.lt (Nat.le_refl _)) nin0)).keep K7 (ninS (ne_of_born (Nat.le_of_eq eb2.symm) Sy.exa.lt (Nat.le_refl _)) (ninS (ne_of_born lt6 Sy.exa.lt K2.1) nin0))).keep K10 nin0).keep K11 (ninS (ne_of_born (Nat.le_of_eq eb2.symm) Sy.exa.lt (Nat.le_refl _)) (ninS (neOr hor7 (ne_of_born lt6 Sy.exa.lt K2.1) (Nat.lt_of_lt_of_le Sy.exa.lt (Nat.le_trans K2.1 K6.1))) nin0))).keep K21 (ninS (ne_of_born (Nat.le_of_eq eb2.symm) Sy.exa.lt (Nat.le_refl _)) (ninS (neOr hor11 (neOr hor7 (ne_of_born lt6 Sy.exa.lt K2.1) (Nat.lt_of_lt_of_le Sy.exa.lt (Nat.le_trans K2.1 K6.1))) (Nat.lt_of_lt_of_le Sy.exa.lt (Nat.le_trans (Nat.le_trans (Nat.le_trans K2.1 K6.1) K7.1) K10.1))) nin0))).keep K23 nin0).keep K24 (ninS (ne_of_born (Nat.le_of_eq eb2.symm) Sy.exa.lt (Nat.le_refl _)) (ninS (neOr hor21 (neOr hor11 (neOr hor7 (ne_of_born lt6 Sy.exa.lt K2.1) (Nat.lt_of_lt_of_le Sy.exa.lt (Nat.le_trans K2.1 K6.1))) (Nat.lt_of_lt_of_le Sy.exa.lt (Nat.le_trans (Nat.le_trans (Nat.le_trans K2.1 K6.1) K7.1) K10.1))) (Nat.lt_of_lt_of_le Sy.exa.lt (Nat.le_trans (Nat.le_trans (Nat.le_trans (Nat.le_trans K2.1 K6.1) K7.1) K10.1) K11.1))) nin0))).keep K31 nin0).keep K33 nin0).keep K37 (ninS (ne_of_born (Nat.le_of_eq eb33.symm) Sy.exa.lt (Nat.le_trans (Nat.le_trans (Nat.le_trans (Nat.le_trans (Nat.le_trans (Nat.le_trans (Nat.le_trans (Nat.le_trans K2.1 K6.1) K7.1) K10.1) K11.1) K21.1) K23.1) K24.1) K31.1)) nin0)).keep K38 (ninS (ne_of_born (Nat.le_of_eq eb33.symm) Sy.exa.lt (Nat.le_trans (Nat.le_trans (Nat.le_trans (Nat.le_trans (Nat.le_trans (Nat.le_trans (Nat.le_trans (Nat.le_trans K2.1 K6.1) K7.1) K10.1) K11.1) K21.1) K23.1) K24.1) K31.1)) (ninS (ne_of_born lt37 Sy.exa.lt (Nat.le_trans (Nat.le_trans (Nat.le_trans (Nat.le_trans (Nat.le_trans (Nat.le_trans (Nat.le_trans (Nat.le_trans (Nat.le_trans K2.1 K6.1) K7.1) K10.1) K11.1) K21.1) K23.1) K24.1) K31.1) K33.1)) nin0))).keep K41 nin0).keep K42 (ninS (ne_of_born (Nat.le_of_eq eb33.symm) Sy.exa.lt (Nat.le_trans (Nat.le_trans (Nat.le_trans (Nat.le_trans (Nat.le_trans (Nat.le_trans (Nat.le_trans (Nat.le_trans K2.1 K6.1) K7.1) K10.1) K11.1) K21.1) K23.1) K24.1) K31.1)) (ninS (neOr hor38 (ne_of_born lt37 Sy.exa.lt (Nat.le_trans (Nat.le_trans (Nat.le_trans (Nat.le_trans (Nat.le_trans (Nat.le_trans (Nat.le_trans (Nat.le_trans (Nat.le_trans K2.1 K6.1) K7.1) K10.1) K11.1) K21.1) K23.1) K24.1) K31.1) K33.1)) (Nat.lt_of_lt_of_le Sy.exa.lt (Nat.le_trans (Nat.le_trans (Nat.le_trans (Nat.le_trans (Nat.le_trans (Nat.le_trans (Nat.le_trans (Nat.le_trans (Nat.le_trans (Nat.le_trans K2.1 K6.1) K7.1) K10.1) K11.1) K21.1) K23.1) K24.1) K31.1) K33.1) K37.1))) nin0)))
  have k55 := ((((((((((((((V1.keep K2 nin0).keep K6 (ninS (ne_of_born (Nat.le_of_eq eb2.symm) V1.lt (Nat.le_refl _)) nin0)).keep K7 (ninS (ne_of_born (Nat.le_of_eq eb2.symm) V1.lt (Nat.le_refl _)) (ninS (ne_of_born lt6 V1.lt K2.1) nin0))).keep K10 nin0).keep K11 (ninS (ne_of_born (Nat.le_of_eq eb2.symm) V1.lt (Nat.le_refl _)) (ninS (neOr hor7 (ne_of_born lt6 V1.lt K2.1) (Nat.lt_of_lt_of_le V1.lt (Nat.le_trans K2.1 K6.1))) nin0))).keep K21 (ninS (ne_of_born (Nat.le_of_eq eb2.symm) V1.lt (Nat.le_refl _)) (ninS (neOr hor11 (neOr hor7 (ne_of_born lt6 V1.lt K2.1) (Nat.lt_of_lt_of_le V1.lt (Nat.le_trans K2.1 K6.1))) (Nat.lt_of_lt_of_le V1.lt (Nat.le_trans (Nat.le_trans (Nat.le_trans K2.1 K6.1) K7.1) K10.1))) nin0))).keep K23 nin0).keep K24 (ninS (ne_of_born (Nat.le_of_eq eb2.symm) V1.lt (Nat.le_refl _)) (ninS (neOr hor21 (neOr hor11 (neOr hor7 (ne_of_born lt6 V1.lt K2.1) (Nat.lt_of_lt_of_le V1.lt (Nat.le_trans K2.1 K6.1))) (Nat.lt_of_lt_of_le V1.lt (Nat.le_trans (Nat.le_trans (Nat.le_trans K2.1 K6.1) K7.1) K10.1))) (Nat.lt_of_lt_of_le V1.lt (Nat.le_trans (Nat.le_trans (Nat.le_trans (Nat.le_trans K2.1 K6.1) K7.1) K10.1) K11.1))) nin0))).keep K31 nin0).keep K33 nin0).keep K37 (ninS (ne_of_born (Nat.le_of_eq eb33.symm) V1.lt (Nat.le_trans (Nat.le_trans (Nat.le_trans (Nat.le_trans (Nat.le_trans (Nat.le_trans (Nat.le_trans (Nat.le_trans K2.1 K6.1) K7.1) K10.1) K11.1) K21.1) K23.1) K24.1) K31.1)) nin0)).keep K38 (ninS (ne_of_born (Nat.le_of_eq eb33.symm) V1.lt (Nat.le_trans (Nat.le_trans (Nat.le_trans (Nat.le_trans (Nat.le_trans (Nat.le_trans (Nat.le_trans (Nat.le_trans K2.1 K6.1) K7.1) K10.1) K11.1) K21.1) K23.1) K24.1) K31.1)) (ninS (ne_of_born lt37 V1.lt (Nat.le_trans (Nat.le_trans (Nat.le_trans (Nat.le_trans (Nat.le_trans (Nat.le_trans (Nat.le_trans (Nat.le_trans (Nat.le_trans K2.1 K6.1) K7.1) K10.1) K11.1) K21.1) K23.1) K24.1) K31.1) K33.1)) nin0))).keep K41 nin0).keep K42 (ninS (ne_of_born (Nat.le_of_eq eb33.symm) V1.lt (Nat.le_trans (Nat.le_trans (Nat.le_trans (Nat.le_trans (Nat.le_trans (Nat.le_trans (Nat.le_trans (Nat.le_trans K2.1 K6.1) K7.1) K10.1) K11.1) K21.1) K23.1) K24.1) K31.1)) (ninS (neOr hor38 (ne_of_born lt37 V1.lt (Nat.le_trans (Nat.le_trans (Nat.le_trans (Nat.le_trans (Nat.le_trans (Nat.le_trans (Nat.le_trans (Nat.le_trans (Nat.le_trans K2.1 K6.1) K7.1) K10.1) K11.1) K21.1) K23.1) K24.1) K31.1) K33.1)) (Nat.lt_of_lt_of_le V1.lt (Nat.le_trans (Nat.le_trans (Nat.le_trans (Nat.le_trans (Nat.le_trans (Nat.le_trans (Nat.le_trans (Nat.le_trans (Nat.le_trans (Nat.le_trans K2.1 K6.1) K7.1) K10.1) K11.1) K21.1) K23.1) K24.1) K31.1) K33.1) K37.1))) nin0)))
  have S51 : Str Z h42 x3 ys := ⟨t1, kb1, 0, _, _, k52, k53, k54, k55, Or.inl ⟨rfl, rfl, rfl, snd255 hys⟩, up255 hys, ln1⟩
  refine W42.pv hx D 62 1 63 [_, _, _, _, _] [_, _] rfl ?_
  refine W42.kV hx hEL (B.h 48 rfl) (B.h 49 rfl) (B.h 51 rfl) (B.h 50 rfl) (B.h 32 rfl) (B.h 52 rfl) k50 [(.ref x3)] [] (rm63 B b33 t42 kt42 dl42 rl42 cl42 x3 ys h42 W42.old k50 Fv42 Fc42 Fn42 A42 Et42 hrl42 hcl42 hbl42 gb33.1 gn42 nat42 (by first | omega | (simp only [LN]; omega)) S51 hys) (allS (mI 0 rfl) all0) 0 (by decide +kernel) (allS ⟨gb33.1, (Or.inr gb33.2)⟩ (allS ⟨gn42, gw42⟩ all0)) hml (lenOf pd27 rfl) (D 63 rfl) ⟨rfl, rfl, rfl, rfl⟩ (fun T49 h49 v49 P49 Ws49 K49 q49 => ?_)
  obtain ⟨t49, kt49, dl49, rl49, cl49, rfl, hor49, nat49, gn49, edl49, hrl49, hcl49, hbl49, Fv49, Fc49, Fn49, A49, Et49, st49⟩ := q49
  have W49 := Ws49 [t49] (allS st49 all0)
  have gw49 : t49 ∈ [] ∨ s.heap.size ≤ t49 := hor49.elim (fun q => by rw [q]; exact gw42) (fun q => Or.inr (Nat.le_trans W42.s0le q))
  have eln49 : dl49.length = dl42.length + ys.length := by rw [edl49]; simp only [List.length_append, List.length_cons, List.length_nil, dgl_len] <;> omega
  have k57 := (k50.keep K49)
  refine W49.kV hx hEL (B.h 158 rfl) (B.h 159 rfl) (B.h 161 rfl) (B.h 160 rfl) (B.h 32 rfl) (B.h 162 rfl) k57 [] [] (rm74 B b33 t49 kt49 dl49 rl49 cl49 h49 W49.old k57 Fv49 Fc49 Fn49 A49 Et49 hrl49 hcl49 hbl49) all0 0 (by decide +kernel) all0 hml (lenOf pd30 rfl) (D 66 rfl) ⟨rfl, rfl, rfl, rfl⟩ (fun T56 h56 v56 P56 Ws56 K56 q56 => ?_)
  have W56 := Ws56 [] all0
  obtain ⟨r56, rfl, lr56, S56⟩ := q56
  have gr56 : n0 ≤ r56 ∧ s.heap.size ≤ r56 := ⟨Nat.le_trans W49.n0le lr56, Nat.le_trans W49.s0le lr56⟩
  have E56 := S56.exa
  show Go p e below _ (T56.setTop (mkF m 69 #[vr x1, .val (.long tm), S0, vr x3, vr r31] [(.ref r56)]))
  exact W56.retA hx hEL hs hlk (by decide +kernel) (by decide +kernel) hret rfl rfl (D 69 rfl) (fun S hS => ⟨r56, rfl, hs ▸ gr56.2, (by have q := S56; rw [edl49, edl42, edl38, edl37, edl24, edl21, edl11, edl7, edl6] at q; simpa only [List.nil_append] using q)⟩)
set_option maxRecDepth 65536 in
set_option maxHeartbeats 40000000 in
theorem rm113 (B : EV l Z a0 zc fm) (x1 : Addr) (tm : Int64) (xs : List Int32) (ns don dtn : Addr) (ko kt : ClassId) (uu nn : Nat) (h0 : Heap) {n0 : Nat} (O0 : Old Z n0 h0) (Sx : Str Z h0 x1 xs) (hxs : ∀ c ∈ xs, ¬ c < 0 ∧ ¬ (255 : Int32) < c) (OT : Sta Z Z.heap "java/util/concurrent/TimeUnit" "NANOSECONDS" "Ljava/util/concurrent/TimeUnit;" (.ref ns)) (OTE : Exa Z Z.heap ns "java/util/concurrent/TimeUnit") (OTS : Fld Z Z.heap ns "java/util/concurrent/TimeUnit" "scale" "J" (.long 1)) (OTM : Fld Z Z.heap ns "java/util/concurrent/TimeUnit" "milliRatio" "I" (.int 1000000)) (OSo : Sta Z Z.heap "java/lang/Integer" "DigitOnes" "[B" (.ref don)) (OSt : Sta Z Z.heap "java/lang/Integer" "DigitTens" "[B" (.ref dtn)) (OAo : Arv Z Z.heap don ko .byte (100 : Int32) onesL (.int 0)) (OAt : Arv Z Z.heap dtn kt .byte (100 : Int32) tensL (.int 0)) (hN : ND uu nn) (hu : 1 ≤ uu ∧ uu ≤ 9223372036854 ∧ 1 ≤ nn ∧ nn ≤ 13) (hm : (tm / (1000000 : Int64)) = (negL (uu))) (hxy : xs.length ≤ 2) :
    Met l Z EL0 n0 (⟨"com/example/sem1/sem1/store/StoreFailures", "unanswered", "(Ljava/lang/String;JLjava/lang/String;)Ljava/lang/String;"⟩ : MethodName) prog_22_method_3_code 5 (some (.object "java/lang/String")) [] (rO 6 12 596 92) #[(.ref x1), (.long tm), .null] h0 [] [] (fun v h' S => ∃ r : Addr, v = some (.ref r) ∧ h0.size ≤ r ∧ Str Z h' r (((xs ++ [(32 : Int32), 100, 105, 100, 32, 110, 111, 116, 32, 97, 110, 115, 119, 101, 114, 32, 119, 105, 116, 104, 105, 110, 32]) ++ ((45 : Int32) :: dgl uu nn)) ++ [(32 : Int32), 109, 115])) := by
  obtain ⟨hw, hEL, SC, hzc, SF, rfm⟩ := id B
  refine Met.of (plainFor_of_name pn9) O0 ?_
  intro p e s m below meth c T0 hx hby hml hret hlk hnm hs W0
  have W0 : Wk p l e _ s m _ below meth c Z EL0 n0 [] "com/example/sem1/sem1/store/StoreFailures" [] T0 0 0 h0 := W0
  have D := @tk c _ _ hby Kq37
  have hSA := fun d hd => hw d (sa_in d hd)
  refine Go.of (fun _ kk => castTop (ef111 m x1 tm) kk) ?_
  refine W0.newO hx (B.h 30 rfl) (B.h 31 rfl) (B.h 32 rfl) rfl (D 0 rfl) (by decide +kernel) (by decide +kernel) (fun T1 h1 b1 eb1 gb1 W1 K1 E1 D1 => ?_)
  have k2 : Fld Z h1 b1 "java/lang/AbstractStringBuilder" "value" "[B" .null := D1 (Or.inl (B.h 45 rfl)) (ty := (.array .byte)) (by decide +kernel)
  have k3 : Fld Z h1 b1 "java/lang/AbstractStringBuilder" "coder" "B" (.int 0) := D1 (Or.inl (B.h 47 rfl)) (ty := .byte) (by decide +kernel)
  have k4 : Fld Z h1 b1 "java/lang/AbstractStringBuilder" "count" "I" (.int 0) := D1 (Or.inl (B.h 70 rfl)) (ty := .int) (by decide +kernel)
  refine W1.pv hx D 3 1 4 [_, _, _, _, _] [_, _] rfl ?_
  refine W1.kP hx hEL rfl (B.h 33 rfl) (B.h 34 rfl) (B.h 32 rfl) (B.h 35 rfl) (a := b1) [] [(.ref b1)] (rm3 B b1 h1 W1.old E1 k2 k3 k4 gb1.1) all0 1 (by decide +kernel) (allS ⟨gb1.1, (Or.inr gb1.2)⟩ all0) hml (lenOf pd26 rfl) (D 4 rfl) ⟨rfl, rfl, rfl, rfl⟩ (fun T5 h5 v5 P5 Ws5 K5 q5 => ?_)
  obtain ⟨t5, kt5, dl5, rl5, rfl, lt5, edl5, hrl5, hbl5, Fv5, Fc5, Fn5, A5, Et5, st5⟩ := q5
  have W5 := Ws5 [t5] (allS st5 all0)
  have gt5 : n0 ≤ t5 ∧ s.heap.size ≤ t5 := ⟨Nat.le_trans W1.n0le lt5, Nat.le_trans W1.s0le lt5⟩
  have eln5 : dl5.length = 0 := by rw [edl5]; rfl
  obtain ⟨cl5, ecl5⟩ : ∃ z, z = 16 := ⟨_, rfl⟩
  rw [← ecl5] at hrl5
  have hcl5 : cl5 ≤ 92 := by omega
  have A5 : Arv Z h5 t5 kt5 .byte (Int32.ofNat (cl5)) (List.map lv dl5 ++ rl5) (.int 0) := by rw [ecl5]; exact A5
  have k7 := (E1.keep K5)
  refine W5.pv hx D 7 1 8 [_, _, _, _, _] [_, _] rfl ?_
  obtain ⟨t8, kb8, cd8, N8, vs8, E8, V8, C8, A8, R8⟩ := id Sx
  have S8 : Str Z h5 x1 xs := ⟨t8, kb8, cd8, N8, vs8, ((E8.keep K1).keep K5), ((V8.keep K1 nin0).keep K5 (ninS (ne_of_born (Nat.le_of_eq eb1.symm) Sx.exa.lt (Nat.le_refl _)) nin0)), ((C8.keep K1 nin0).keep K5 (ninS (ne_of_born (Nat.le_of_eq eb1.symm) Sx.exa.lt (Nat.le_refl _)) nin0)), ((A8.keep K1 nin0).keep K5 (ninS (ne_of_born (Nat.le_of_eq eb1.symm) A8.lt (Nat.le_refl _)) nin0)), R8⟩
  refine W5.kV hx hEL (B.h 48 rfl) (B.h 49 rfl) (B.h 51 rfl) (B.h 50 rfl) (B.h 32 rfl) (B.h 52 rfl) k7 [(.ref x1)] [] (rm63 B b1 t5 kt5 dl5 rl5 cl5 x1 xs h5 W5.old k7 Fv5 Fc5 Fn5 A5 Et5 hrl5 hcl5 hbl5 gb1.1 gt5.1 (ne_of_born lt5 E1.lt (Nat.le_refl _)) (by first | omega | (simp only [LN]; omega)) S8 hxs) (allS (mI 0 rfl) all0) 0 (by decide +kernel) (allS ⟨gb1.1, (Or.inr gb1.2)⟩ (allS ⟨gt5.1, (Or.inr gt5.2)⟩ all0)) hml (lenOf pd27 rfl) (D 8 rfl) ⟨rfl, rfl, rfl, rfl⟩ (fun T6 h6 v6 P6 Ws6 K6 q6 => ?_)
  obtain ⟨t6, kt6, dl6, rl6, cl6, rfl, hor6, nat6, gn6, edl6, hrl6, hcl6, hbl6, Fv6, Fc6, Fn6, A6, Et6, st6⟩ := q6
  have W6 := Ws6 [t6] (allS st6 all0)
  have gw6 : t6 ∈ [] ∨ s.heap.size ≤ t6 := hor6.elim (fun q => by rw [q]; exact (Or.inr gt5.2)) (fun q => Or.inr (Nat.le_trans W5.s0le q))
  have eln6 : dl6.length = dl5.length + xs.length := by rw [edl6]; simp only [List.length_append, List.length_cons, List.length_nil, dgl_len] <;> omega
  refine W6.ldcC hx hEL (by decide +kernel) (B.h 96 rfl) hSA [(.int 32), (.int 100), (.int 105), (.int 100), (.int 32), (.int 110), (.int 111), (.int 116), (.int 32), (.int 97), (.int 110), (.int 115), (.int 119), (.int 101), (.int 114), (.int 32), (.int 119), (.int 105), (.int 116), (.int 104), (.int 105), (.int 110), (.int 32)] (23 : Int32) (by decide +kernel) (by decide +kernel) (by decide +kernel) rfl (D 11 rfl) (n := 92) (by decide +kernel) (by decide +kernel) (by decide +kernel) (by decide +kernel) (fun T9 h9 b9 t9 kb9 W9 K9 E9 Fv9 Fc9 A9 N9 => ?_)
  have S9 : Str Z h9 b9 [(32 : Int32), 100, 105, 100, 32, 110, 111, 116, 32, 97, 110, 115, 119, 101, 114, 32, 119, 105, 116, 104, 105, 110, 32] := ⟨t9, kb9, 0, (23 : Int32), _, E9, Fv9, Fc9, A9, Or.inl ⟨rfl, by decide +kernel, by decide +kernel, by decide +kernel⟩, by decide +kernel, by decide⟩
  have k11 := ((k7.keep K6).keep K9)
  have k12 := (Fv6.keep K9 nin0)
  have k13 := (Fc6.keep K9 nin0)
  have k14 := (Fn6.keep K9 nin0)
  have k15 := (A6.keep K9 nin0)
  have k16 := (Et6.keep K9)
  refine W9.kV hx hEL (B.h 48 rfl) (B.h 49 rfl) (B.h 51 rfl) (B.h 50 rfl) (B.h 32 rfl) (B.h 52 rfl) k11 [(.ref b9)] [] (rm63 B b1 t6 kt6 dl6 rl6 cl6 b9 [(32 : Int32), 100, 105, 100, 32, 110, 111, 116, 32, 97, 110, 115, 119, 101, 114, 32, 119, 105, 116, 104, 105, 110, 32] h9 W9.old k11 k12 k13 k14 k15 k16 hrl6 hcl6 hbl6 gb1.1 gn6 nat6 (by first | omega | (simp only [LN]; omega)) S9 (lat8 (by decide +kernel))) (allS (mI 0 rfl) all0) 0 (by decide +kernel) (allS ⟨gb1.1, (Or.inr gb1.2)⟩ (allS ⟨gn6, gw6⟩ all0)) hml (lenOf pd27 rfl) (D 13 rfl) ⟨rfl, rfl, rfl, rfl⟩ (fun T10 h10 v10 P10 Ws10 K10 q10 => ?_)
  obtain ⟨t10, kt10, dl10, rl10, cl10, rfl, hor10, nat10, gn10, edl10, hrl10, hcl10, hbl10, Fv10, Fc10, Fn10, A10, Et10, st10⟩ := q10
  have W10 := Ws10 [t10] (allS st10 all0)
  have gw10 : t10 ∈ [] ∨ s.heap.size ≤ t10 := hor10.elim (fun q => by rw [q]; exact gw6) (fun q => Or.inr (Nat.le_trans W9.s0le q))
  have eln10 : dl10.length = dl6.length + 23 := by rw [edl10]; simp only [List.length_append, List.length_cons, List.length_nil, dgl_len] <;> omega
  refine W10.getS hx (host := "") (Or.inl (B.h 120 rfl)) Via.refl OT rfl (D 16 rfl) (fun T17 W17 => ?_)
  have k19 := OTE.ext W17.old.2
  refine W17.pv hx D 19 1 20 [_, _, _, _, _] [_, _, _] rfl ?_
  refine W17.kV hx hEL (B.h 122 rfl) (B.h 123 rfl) (B.h 125 rfl) (B.h 124 rfl) (B.h 121 rfl) (B.h 126 rfl) k19 [(.long tm)] [(.ref b1)] (rm100 B ns tm h10 W17.old OT OTE OTS OTM) all0 1 (by decide +kernel) all0 hml (lenOf pd28 rfl) (D 20 rfl) ⟨rfl, rfl, rfl, rfl⟩ (fun T18 h18 v18 P18 Ws18 K18 q18 => ?_)
  have W18 := Ws18 [] all0
  obtain ⟨rfl, rfl⟩ := q18
  show Go p e below _ (T18.setTop (mkF m 23 #[vr x1, .val (.long tm), S0, vN, U0] [(.long (tm / (1000000 : Int64))), (.ref b1)]))
  rw [hm]
  have k21 := (k11.keep K10)
  refine W18.kV hx hEL (B.h 132 rfl) (B.h 133 rfl) (B.h 135 rfl) (B.h 134 rfl) (B.h 32 rfl) (B.h 136 rfl) k21 [(.long (negL (uu)))] [] (rm108 B b1 t10 kt10 dl10 rl10 cl10 don dtn ko kt uu nn h10 W18.old k21 Fv10 Fc10 Fn10 A10 Et10 hrl10 hcl10 hbl10 gb1.1 gn10 nat10 OSo OSt OAo OAt hN hu (by first | omega | (simp only [LN]; omega))) (allS (mI 0 rfl) all0) 0 (by decide +kernel) (allS ⟨gb1.1, (Or.inr gb1.2)⟩ (allS ⟨gn10, gw10⟩ all0)) hml (lenOf pd29 rfl) (D 23 rfl) ⟨rfl, rfl, rfl, rfl⟩ (fun T20 h20 v20 P20 Ws20 K20 q20 => ?_)
  obtain ⟨t20, kt20, dl20, rl20, cl20, rfl, hor20, nat20, gn20, edl20, hrl20, hcl20, hbl20, Fv20, Fc20, Fn20, A20, Et20, st20⟩ := q20
  have W20 := Ws20 [t20] (allS st20 all0)
  have gw20 : t20 ∈ [] ∨ s.heap.size ≤ t20 := hor20.elim (fun q => by rw [q]; exact gw10) (fun q => Or.inr (Nat.le_trans W18.s0le q))
  have eln20 : dl20.length = dl10.length + (nn + 1) := by rw [edl20]; simp only [List.length_append, List.length_cons, List.length_nil, dgl_len] <;> omega
  refine W20.ldcC hx hEL (by decide +kernel) (B.h 157 rfl) hSA [(.int 32), (.int 109), (.int 115)] (3 : Int32) (by decide +kernel) (by decide +kernel) (by decide +kernel) rfl (D 26 rfl) (n := 12) (by decide +kernel) (by decide +kernel) (by decide +kernel) (by decide +kernel) (fun T22 h22 b22 t22 kb22 W22 K22 E22 Fv22 Fc22 A22 N22 => ?_)
  have S22 : Str Z h22 b22 [(32 : Int32), 109, 115] := ⟨t22, kb22, 0, (3 : Int32), _, E22, Fv22, Fc22, A22, Or.inl ⟨rfl, by decide +kernel, by decide +kernel, by decide +kernel⟩, by decide +kernel, by decide⟩
  have k24 := ((k21.keep K20).keep K22)
  have k25 := (Fv20.keep K22 nin0)
  have k26 := (Fc20.keep K22 nin0)
  have k27 := (Fn20.keep K22 nin0)
  have k28 := (A20.keep K22 nin0)
  have k29 := (Et20.keep K22)
  refine W22.kV hx hEL (B.h 48 rfl) (B.h 49 rfl) (B.h 51 rfl) (B.h 50 rfl) (B.h 32 rfl) (B.h 52 rfl) k24 [(.ref b22)] [] (rm63 B b1 t20 kt20 dl20 rl20 cl20 b22 [(32 : Int32), 109, 115] h22 W22.old k24 k25 k26 k27 k28 k29 hrl20 hcl20 hbl20 gb1.1 gn20 nat20 (by first | omega | (simp only [LN]; omega)) S22 (lat8 (by decide +kernel))) (allS (mI 0 rfl) all0) 0 (by decide +kernel) (allS ⟨gb1.1, (Or.inr gb1.2)⟩ (allS ⟨gn20, gw20⟩ all0)) hml (lenOf pd27 rfl) (D 28 rfl) ⟨rfl, rfl, rfl, rfl⟩ (fun T23 h23 v23 P23 Ws23 K23 q23 => ?_)
  obtain ⟨t23, kt23, dl23, rl23, cl23, rfl, hor23, nat23, gn23, edl23, hrl23, hcl23, hbl23, Fv23, Fc23, Fn23, A23, Et23, st23⟩ := q23
  have W23 := Ws23 [t23] (allS st23 all0)
  have gw23 : t23 ∈ [] ∨ s.heap.size ≤ t23 := hor23.elim (fun q => by rw [q]; exact gw20) (fun q => Or.inr (Nat.le_trans W22.s0le q))
  have eln23 : dl23.length = dl20.length + 3 := by rw [edl23]; simp only [List.length_append, List.length_cons, List.length_nil, dgl_len] <;> omega
  have k31 := (k24.keep K23)
  refine W23.kV hx hEL (B.h 158 rfl) (B.h 159 rfl) (B.h 161 rfl) (B.h 160 rfl) (B.h 32 rfl) (B.h 162 rfl) k31 [] [] (rm74 B b1 t23 kt23 dl23 rl23 cl23 h23 W23.old k31 Fv23 Fc23 Fn23 A23 Et23 hrl23 hcl23 hbl23) all0 0 (by decide +kernel) all0 hml (lenOf pd30 rfl) (D 31 rfl) ⟨rfl, rfl, rfl, rfl⟩ (fun T30 h30 v30 P30 Ws30 K30 q30 => ?_)
  have W30 := Ws30 [] all0
  obtain ⟨r30, rfl, lr30, S30⟩ := q30
  have gr30 : n0 ≤ r30 ∧ s.heap.size ≤ r30 := ⟨Nat.le_trans W23.n0le lr30, Nat.le_trans W23.s0le lr30⟩
  have E30 := S30.exa
  refine W30.pv hx D 34 5 69 [_, _, _, _, _] [_] rfl ?_
  exact W30.retA hx hEL hs hlk (by decide +kernel) (by decide +kernel) hret rfl rfl (D 69 rfl) (fun S hS => ⟨r30, rfl, hs ▸ gr30.2, (by have q := S30; rw [edl23, edl20, edl10, edl6, edl5] at q; simpa only [List.nil_append] using q)⟩)
set_option maxRecDepth 65536 in
set_option maxHeartbeats 40000000 in
theorem rm114 (B : EV l Z a0 zc fm) (x1 : Addr) (tm : Int64) (xs : List Int32) (x3 : Addr) (ys : List Int32) (ns don dtn : Addr) (ko kt : ClassId) (uu nn : Nat) (h0 : Heap) {n0 : Nat} (O0 : Old Z n0 h0) (Sx : Str Z h0 x1 xs) (hxs : ∀ c ∈ xs, ¬ c < 0 ∧ ¬ (255 : Int32) < c) (Sy : Str Z h0 x3 ys) (hys : ∀ c ∈ ys, ¬ c < 0 ∧ ¬ (255 : Int32) < c) (OT : Sta Z Z.heap "java/util/concurrent/TimeUnit" "NANOSECONDS" "Ljava/util/concurrent/TimeUnit;" (.ref ns)) (OTE : Exa Z Z.heap ns "java/util/concurrent/TimeUnit") (OTS : Fld Z Z.heap ns "java/util/concurrent/TimeUnit" "scale" "J" (.long 1)) (OTM : Fld Z Z.heap ns "java/util/concurrent/TimeUnit" "milliRatio" "I" (.int 1000000)) (OSo : Sta Z Z.heap "java/lang/Integer" "DigitOnes" "[B" (.ref don)) (OSt : Sta Z Z.heap "java/lang/Integer" "DigitTens" "[B" (.ref dtn)) (OAo : Arv Z Z.heap don ko .byte (100 : Int32) onesL (.int 0)) (OAt : Arv Z Z.heap dtn kt .byte (100 : Int32) tensL (.int 0)) (hN : ND uu nn) (hu : 1 ≤ uu ∧ uu ≤ 9223372036854 ∧ 1 ≤ nn ∧ nn ≤ 13) (hm : (tm / (1000000 : Int64)) = (negL (uu))) (hxy : xs.length ≤ 2 ∧ ys.length ≤ 2) :
    Met l Z EL0 n0 (⟨"com/example/sem1/sem1/store/StoreFailures", "unanswered", "(Ljava/lang/String;JLjava/lang/String;)Ljava/lang/String;"⟩ : MethodName) prog_22_method_3_code 5 (some (.object "java/lang/String")) [] (rO 6 21 1000 92) #[(.ref x1), (.long tm), (.ref x3)] h0 [] [] (fun v h' S => ∃ r : Addr, v = some (.ref r) ∧ h0.size ≤ r ∧ Str Z h' r (((((xs ++ [(32 : Int32), 100, 105, 100, 32, 110, 111, 116, 32, 97, 110, 115, 119, 101, 114, 32, 119, 105, 116, 104, 105, 110, 32]) ++ ((45 : Int32) :: dgl uu nn)) ++ [(32 : Int32), 109, 115]) ++ [(59 : Int32), 32]) ++ ys)) := by
  obtain ⟨hw, hEL, SC, hzc, SF, rfm⟩ := id B
  refine Met.of (plainFor_of_name pn9) O0 ?_
  intro p e s m below meth c T0 hx hby hml hret hlk hnm hs W0
  have W0 : Wk p l e _ s m _ below meth c Z EL0 n0 [] "com/example/sem1/sem1/store/StoreFailures" [] T0 0 0 h0 := W0
  have D := @tk c _ _ hby Kq37
  have hSA := fun d hd => hw d (sa_in d hd)
  refine Go.of (fun _ kk => castTop (ef112 m x1 tm x3) kk) ?_
  show Go p e below _ (T0.setTop (mkF m 0 #[vr x1, .val (.long tm), S0, vr x3, U0] []))
  obtain ⟨t1, kb1, E1, Fv1, Fc1, A1⟩ := Sy.open_ (snd255 hys)
  have ln1 := Sy.len4
  have V1 : Arv Z h0 t1 kb1 .byte (Int32.ofNat (ys.length)) (List.map lv ys) (.int 0) := A1
  refine W0.newO hx (B.h 30 rfl) (B.h 31 rfl) (B.h 32 rfl) rfl (D 0 rfl) (by decide +kernel) (by decide +kernel) (fun T2 h2 b2 eb2 gb2 W2 K2 E2 D2 => ?_)
  have k3 : Fld Z h2 b2 "java/lang/AbstractStringBuilder" "value" "[B" .null := D2 (Or.inl (B.h 45 rfl)) (ty := (.array .byte)) (by decide +kernel)
  have k4 : Fld Z h2 b2 "java/lang/AbstractStringBuilder" "coder" "B" (.int 0) := D2 (Or.inl (B.h 47 rfl)) (ty := .byte) (by decide +kernel)
  have k5 : Fld Z h2 b2 "java/lang/AbstractStringBuilder" "count" "I" (.int 0) := D2 (Or.inl (B.h 70 rfl)) (ty := .int) (by decide +kernel)
  refine W2.pv hx D 3 1 4 [_, _, _, _, _] [_, _] rfl ?_
  refine W2.kP hx hEL rfl (B.h 33 rfl) (B.h 34 rfl) (B.h 32 rfl) (B.h 35 rfl) (a := b2) [] [(.ref b2)] (rm3 B b2 h2 W2.old E2 k3 k4 k5 gb2.1) all0 1 (by decide +kernel) (allS ⟨gb2.1, (Or.inr gb2.2)⟩ all0) hml (lenOf pd26 rfl) (D 4 rfl) ⟨rfl, rfl, rfl, rfl⟩ (fun T6 h6 v6 P6 Ws6 K6 q6 => ?_)
  obtain ⟨t6, kt6, dl6, rl6, rfl, lt6, edl6, hrl6, hbl6, Fv6, Fc6, Fn6, A6, Et6, st6⟩ := q6
  have W6 := Ws6 [t6] (allS st6 all0)
  have gt6 : n0 ≤ t6 ∧ s.heap.size ≤ t6 := ⟨Nat.le_trans W2.n0le lt6, Nat.le_trans W2.s0le lt6⟩
  have eln6 : dl6.length = 0 := by rw [edl6]; rfl
  obtain ⟨cl6, ecl6⟩ : ∃ z, z = 16 := ⟨_, rfl⟩
  rw [← ecl6] at hrl6
  have hcl6 : cl6 ≤ 92 := by omega
  have A6 : Arv Z h6 t6 kt6 .byte (Int32.ofNat (cl6)) (List.map lv dl6 ++ rl6) (.int 0) := by rw [ecl6]; exact A6
  have k8 := (E2.keep K6)
  refine W6.pv hx D 7 1 8 [_, _, _, _, _] [_, _] rfl ?_
  obtain ⟨t9, kb9, cd9, N9, vs9, E9, V9, C9, A9, R9⟩ := id Sx
  have S9 : Str Z h6 x1 xs := ⟨t9, kb9, cd9, N9, vs9, ((E9.keep K2).keep K6), ((V9.keep K2 nin0).keep K6 (ninS (ne_of_born (Nat.le_of_eq eb2.symm) Sx.exa.lt (Nat.le_refl _)) nin0)), ((C9.keep K2 nin0).keep K6 (ninS (ne_of_born (Nat.le_of_eq eb2.symm) Sx.exa.lt (Nat.le_refl _)) nin0)), ((A9.keep K2 nin0).keep K6 (ninS (ne_of_born (Nat.le_of_eq eb2.symm) A9.lt (Nat.le_refl _)) nin0)), R9⟩
  refine W6.kV hx hEL (B.h 48 rfl) (B.h 49 rfl) (B.h 51 rfl) (B.h 50 rfl) (B.h 32 rfl) (B.h 52 rfl) k8 [(.ref x1)] [] (rm63 B b2 t6 kt6 dl6 rl6 cl6 x1 xs h6 W6.old k8 Fv6 Fc6 Fn6 A6 Et6 hrl6 hcl6 hbl6 gb2.1 gt6.1 (ne_of_born lt6 E2.lt (Nat.le_refl _)) (by first | omega | (simp only [LN]; omega)) S9 hxs) (allS (mI 0 rfl) all0) 0 (by decide +kernel) (allS ⟨gb2.1, (Or.inr gb2.2)⟩ (allS ⟨gt6.1, (Or.inr gt6.2)⟩ all0)) hml (lenOf pd27 rfl) (D 8 rfl) ⟨rfl, rfl, rfl, rfl⟩ (fun T7 h7 v7 P7 Ws7 K7 q7 => ?_)
  obtain ⟨t7, kt7, dl7, rl7, cl7, rfl, hor7, nat7, gn7, edl7, hrl7, hcl7, hbl7, Fv7, Fc7, Fn7, A7, Et7, st7⟩ := q7
  have W7 := Ws7 [t7] (allS st7 all0)
  have gw7 : t7 ∈ [] ∨ s.heap.size ≤ t7 := hor7.elim (fun q => by rw [q]; exact (Or.inr gt6.2)) (fun q => Or.inr (Nat.le_trans W6.s0le q))
  have eln7 : dl7.length = dl6.length + xs.length := by rw [edl7]; simp only [List.length_append, List.length_cons, List.length_nil, dgl_len] <;> omega
  refine W7.ldcC hx hEL (by decide +kernel) (B.h 96 rfl) hSA [(.int 32), (.int 100), (.int 105), (.int 100), (.int 32), (.int 110), (.int 111), (.int 116), (.int 32), (.int 97), (.int 110), (.int 115), (.int 119), (.int 101), (.int 114), (.int 32), (.int 119), (.int 105), (.int 116), (.int 104), (.int 105), (.int 110), (.int 32)] (23 : Int32) (by decide +kernel) (by decide +kernel) (by decide +kernel) rfl (D 11 rfl) (n := 92) (by decide +kernel) (by decide +kernel) (by decide +kernel) (by decide +kernel) (fun T10 h10 b10 t10 kb10 W10 K10 E10 Fv10 Fc10 A10 N10 => ?_)
  have S10 : Str Z h10 b10 [(32 : Int32), 100, 105, 100, 32, 110, 111, 116, 32, 97, 110, 115, 119, 101, 114, 32, 119, 105, 116, 104, 105, 110, 32] := ⟨t10, kb10, 0, (23 : Int32), _, E10, Fv10, Fc10, A10, Or.inl ⟨rfl, by decide +kernel, by decide +kernel, by decide +kernel⟩, by decide +kernel, by decide⟩
  have k12 := ((k8.keep K7).keep K10)
  have k13 := (Fv7.keep K10 nin0)
  have k14 := (Fc7.keep K10 nin0)
  have k15 := (Fn7.keep K10 nin0)
  have k16 := (A7.keep K10 nin0)
  have k17 := (Et7.keep K10)
  refine W10.kV hx hEL (B.h 48 rfl) (B.h 49 rfl) (B.h 51 rfl) (B.h 50 rfl) (B.h 32 rfl) (B.h 52 rfl) k12 [(.ref b10)] [] (rm63 B b2 t7 kt7 dl7 rl7 cl7 b10 [(32 : Int32), 100, 105, 100, 32, 110, 111, 116, 32, 97, 110, 115, 119, 101, 114, 32, 119, 105, 116, 104, 105, 110, 32] h10 W10.old k12 k13 k14 k15 k16 k17 hrl7 hcl7 hbl7 gb2.1 gn7 nat7 (by first | omega | (simp only [LN]; omega)) S10 (lat8 (by decide +kernel))) (allS (mI 0 rfl) all0) 0 (by decide +kernel) (allS ⟨gb2.1, (Or.inr gb2.2)⟩ (allS ⟨gn7, gw7⟩ all0)) hml (lenOf pd27 rfl) (D 13 rfl) ⟨rfl, rfl, rfl, rfl⟩ (fun T11 h11 v11 P11 Ws11 K11 q11 => ?_)
  obtain ⟨t11, kt11, dl11, rl11, cl11, rfl, hor11, nat11, gn11, edl11, hrl11, hcl11, hbl11, Fv11, Fc11, Fn11, A11, Et11, st11⟩ := q11
  have W11 := Ws11 [t11] (allS st11 all0)
  have gw11 : t11 ∈ [] ∨ s.heap.size ≤ t11 := hor11.elim (fun q => by rw [q]; exact gw7) (fun q => Or.inr (Nat.le_trans W10.s0le q))
  have eln11 : dl11.length = dl7.length + 23 := by rw [edl11]; simp only [List.length_append, List.length_cons, List.length_nil, dgl_len] <;> omega
  refine W11.getS hx (host := "") (Or.inl (B.h 120 rfl)) Via.refl OT rfl (D 16 rfl) (fun T18 W18 => ?_)
  have k20 := OTE.ext W18.old.2
  refine W18.pv hx D 19 1 20 [_, _, _, _, _] [_, _, _] rfl ?_
  refine W18.kV hx hEL (B.h 122 rfl) (B.h 123 rfl) (B.h 125 rfl) (B.h 124 rfl) (B.h 121 rfl) (B.h 126 rfl) k20 [(.long tm)] [(.ref b2)] (rm100 B ns tm h11 W18.old OT OTE OTS OTM) all0 1 (by decide +kernel) all0 hml (lenOf pd28 rfl) (D 20 rfl) ⟨rfl, rfl, rfl, rfl⟩ (fun T19 h19 v19 P19 Ws19 K19 q19 => ?_)
  have W19 := Ws19 [] all0
  obtain ⟨rfl, rfl⟩ := q19
  show Go p e below _ (T19.setTop (mkF m 23 #[vr x1, .val (.long tm), S0, vr x3, U0] [(.long (tm / (1000000 : Int64))), (.ref b2)]))
  rw [hm]
  have k22 := (k12.keep K11)
  refine W19.kV hx hEL (B.h 132 rfl) (B.h 133 rfl) (B.h 135 rfl) (B.h 134 rfl) (B.h 32 rfl) (B.h 136 rfl) k22 [(.long (negL (uu)))] [] (rm108 B b2 t11 kt11 dl11 rl11 cl11 don dtn ko kt uu nn h11 W19.old k22 Fv11 Fc11 Fn11 A11 Et11 hrl11 hcl11 hbl11 gb2.1 gn11 nat11 OSo OSt OAo OAt hN hu (by first | omega | (simp only [LN]; omega))) (allS (mI 0 rfl) all0) 0 (by decide +kernel) (allS ⟨gb2.1, (Or.inr gb2.2)⟩ (allS ⟨gn11, gw11⟩ all0)) hml (lenOf pd29 rfl) (D 23 rfl) ⟨rfl, rfl, rfl, rfl⟩ (fun T21 h21 v21 P21 Ws21 K21 q21 => ?_)
  obtain ⟨t21, kt21, dl21, rl21, cl21, rfl, hor21, nat21, gn21, edl21, hrl21, hcl21, hbl21, Fv21, Fc21, Fn21, A21, Et21, st21⟩ := q21
  have W21 := Ws21 [t21] (allS st21 all0)
  have gw21 : t21 ∈ [] ∨ s.heap.size ≤ t21 := hor21.elim (fun q => by rw [q]; exact gw11) (fun q => Or.inr (Nat.le_trans W19.s0le q))
  have eln21 : dl21.length = dl11.length + (nn + 1) := by rw [edl21]; simp only [List.length_append, List.length_cons, List.length_nil, dgl_len] <;> omega
  refine W21.ldcC hx hEL (by decide +kernel) (B.h 157 rfl) hSA [(.int 32), (.int 109), (.int 115)] (3 : Int32) (by decide +kernel) (by decide +kernel) (by decide +kernel) rfl (D 26 rfl) (n := 12) (by decide +kernel) (by decide +kernel) (by decide +kernel) (by decide +kernel) (fun T23 h23 b23 t23 kb23 W23 K23 E23 Fv23 Fc23 A23 N23 => ?_)
  have S23 : Str Z h23 b23 [(32 : Int32), 109, 115] := ⟨t23, kb23, 0, (3 : Int32), _, E23, Fv23, Fc23, A23, Or.inl ⟨rfl, by decide +kernel, by decide +kernel, by decide +kernel⟩, by decide +kernel, by decide⟩
  have k25 := ((k22.keep K21).keep K23)
  have k26 := (Fv21.keep K23 nin0)
  have k27 := (Fc21.keep K23 nin0)
  have k28 := (Fn21.keep K23 nin0)
  have k29 := (A21.keep K23 nin0)
  have k30 := (Et21.keep K23)
  refine W23.kV hx hEL (B.h 48 rfl) (B.h 49 rfl) (B.h 51 rfl) (B.h 50 rfl) (B.h 32 rfl) (B.h 52 rfl) k25 [(.ref b23)] [] (rm63 B b2 t21 kt21 dl21 rl21 cl21 b23 [(32 : Int32), 109, 115] h23 W23.old k25 k26 k27 k28 k29 k30 hrl21 hcl21 hbl21 gb2.1 gn21 nat21 (by first | omega | (simp only [LN]; omega)) S23 (lat8 (by decide +kernel))) (allS (mI 0 rfl) all0) 0 (by decide +kernel) (allS ⟨gb2.1, (Or.inr gb2.2)⟩ (allS ⟨gn21, gw21⟩ all0)) hml (lenOf pd27 rfl) (D 28 rfl) ⟨rfl, rfl, rfl, rfl⟩ (fun T24 h24 v24 P24 Ws24 K24 q24 => ?_)
  obtain ⟨t24, kt24, dl24, rl24, cl24, rfl, hor24, nat24, gn24, edl24, hrl24, hcl24, hbl24, Fv24, Fc24, Fn24, A24, Et24, st24⟩ := q24
  have W24 := Ws24 [t24] (allS st24 all0)
  have gw24 : t24 ∈ [] ∨ s.heap.size ≤ t24 := hor24.elim (fun q => by rw [q]; exact gw21) (fun q => Or.inr (Nat.le_trans W23.s0le q))
  have eln24 : dl24.length = dl21.length + 3 := by rw [edl24]; simp only [List.length_append, List.length_cons, List.length_nil, dgl_len] <;> omega
  have k32 := (k25.keep K24)
  refine W24.kV hx hEL (B.h 158 rfl) (B.h 159 rfl) (B.h 161 rfl) (B.h 160 rfl) (B.h 32 rfl) (B.h 162 rfl) k32 [] [] (rm74 B b2 t24 kt24 dl24 rl24 cl24 h24 W24.old k32 Fv24 Fc24 Fn24 A24 Et24 hrl24 hcl24 hbl24) all0 0 (by decide +kernel) all0 hml (lenOf pd30 rfl) (D 31 rfl) ⟨rfl, rfl, rfl, rfl⟩ (fun T31 h31 v31 P31 Ws31 K31 q31 => ?_)
  have W31 := Ws31 [] all0
  obtain ⟨r31, rfl, lr31, S31⟩ := q31
  have gr31 : n0 ≤ r31 ∧ s.heap.size ≤ r31 := ⟨Nat.le_trans W24.n0le lr31, Nat.le_trans W24.s0le lr31⟩
  have E31 := S31.exa
  refine W31.pv hx D 34 3 45 [_, _, _, _, _] [] rfl ?_
  refine W31.newO hx (B.h 30 rfl) (B.h 31 rfl) (B.h 32 rfl) rfl (D 45 rfl) (by decide +kernel) (by decide +kernel) (fun T33 h33 b33 eb33 gb33 W33 K33 E33 D33 => ?_)
  have k34 : Fld Z h33 b33 "java/lang/AbstractStringBuilder" "value" "[B" .null := D33 (Or.inl (B.h 45 rfl)) (ty := (.array .byte)) (by decide +kernel)
  have k35 : Fld Z h33 b33 "java/lang/AbstractStringBuilder" "coder" "B" (.int 0) := D33 (Or.inl (B.h 47 rfl)) (ty := .byte) (by decide +kernel)
  have k36 : Fld Z h33 b33 "java/lang/AbstractStringBuilder" "count" "I" (.int 0) := D33 (Or.inl (B.h 70 rfl)) (ty := .int) (by decide +kernel)
  refine W33.pv hx D 48 1 49 [_, _, _, _, _] [_, _] rfl ?_
  refine W33.kP hx hEL rfl (B.h 33 rfl) (B.h 34 rfl) (B.h 32 rfl) (B.h 35 rfl) (a := b33) [] [(.ref b33)] (rm3 B b33 h33 W33.old E33 k34 k35 k36 gb33.1) all0 1 (by decide +kernel) (allS ⟨gb33.1, (Or.inr gb33.2)⟩ all0) hml (lenOf pd26 rfl) (D 49 rfl) ⟨rfl, rfl, rfl, rfl⟩ (fun T37 h37 v37 P37 Ws37 K37 q37 => ?_)
  obtain ⟨t37, kt37, dl37, rl37, rfl, lt37, edl37, hrl37, hbl37, Fv37, Fc37, Fn37, A37, Et37, st37⟩ := q37
  have W37 := Ws37 [t37] (allS st37 all0)
  have gt37 : n0 ≤ t37 ∧ s.heap.size ≤ t37 := ⟨Nat.le_trans W33.n0le lt37, Nat.le_trans W33.s0le lt37⟩
  have eln37 : dl37.length = 0 := by rw [edl37]; rfl
  obtain ⟨cl37, ecl37⟩ : ∃ z, z = 16 := ⟨_, rfl⟩
  rw [← ecl37] at hrl37
  have hcl37 : cl37 ≤ 92 := by omega
  have A37 : Arv Z h37 t37 kt37 .byte (Int32.ofNat (cl37)) (List.map lv dl37 ++ rl37) (.int 0) := by rw [ecl37]; exact A37
  have k39 := (E33.keep K37)
  refine W37.pv hx D 52 1 54 [_, _, _, _, _] [_, _] rfl ?_
  obtain ⟨t40, kb40, cd40, N40, vs40, E40, V40, C40, A40, R40⟩ := id S31
  have S40 : Str Z h37 r31 dl24 := ⟨t40, kb40, cd40, N40, vs40, ((E40.keep K33).keep K37), ((V40.keep K33 nin0).keep K37 (ninS (ne_of_born (Nat.le_of_eq eb33.symm) E31.lt (Nat.le_refl _)) nin0)), ((C40.keep K33 nin0).keep K37 (ninS (ne_of_born (Nat.le_of_eq eb33.symm) E31.lt (Nat.le_refl _)) nin0)), ((A40.keep K33 nin0).keep K37 (ninS (ne_of_born (Nat.le_of_eq eb33.symm) A40.lt (Nat.le_refl _)) nin0)), R40⟩
  refine W37.kV hx hEL (B.h 48 rfl) (B.h 49 rfl) (B.h 51 rfl) (B.h 50 rfl) (B.h 32 rfl) (B.h 52 rfl) k39 [(.ref r31)] [] (rm63 B b33 t37 kt37 dl37 rl37 cl37 r31 dl24 h37 W37.old k39 Fv37 Fc37 Fn37 A37 Et37 hrl37 hcl37 hbl37 gb33.1 gt37.1 (ne_of_born lt37 E33.lt (Nat.le_refl _)) (by first | omega | (simp only [LN]; omega)) S40 hbl24) (allS (mI 0 rfl) all0) 0 (by decide +kernel) (allS ⟨gb33.1, (Or.inr gb33.2)⟩ (allS ⟨gt37.1, (Or.inr gt37.2)⟩ all0)) hml (lenOf pd27 rfl) (D 54 rfl) ⟨rfl, rfl, rfl, rfl⟩ (fun T38 h38 v38 P38 Ws38 K38 q38 => ?_)
  obtain ⟨t38, kt38, dl38, rl38, cl38, rfl, hor38, nat38, gn38, edl38, hrl38, hcl38, hbl38, Fv38, Fc38, Fn38, A38, Et38, st38⟩ := q38
  have W38 := Ws38 [t38] (allS st38 all0)
  have gw38 : t38 ∈ [] ∨ s.heap.size ≤ t38 := hor38.elim (fun q => by rw [q]; exact (Or.inr gt37.2)) (fun q => Or.inr (Nat.le_trans W37.s0le q))
  have eln38 : dl38.length = dl37.length + dl24.length := by rw [edl38]; simp only [List.length_append, List.length_cons, List.length_nil, dgl_len] <;> omega
  refine W38.ldcC hx hEL (by decide +kernel) (B.h 270 rfl) hSA [(.int 59), (.int 32)] (2 : Int32) (by decide +kernel) (by decide +kernel) (by decide +kernel) rfl (D 57 rfl) (n := 8) (by decide +kernel) (by decide +kernel) (by decide +kernel) (by decide +kernel) (fun T41 h41 b41 t41 kb41 W41 K41 E41 Fv41 Fc41 A41 N41 => ?_)
  have S41 : Str Z h41 b41 [(59 : Int32), 32] := ⟨t41, kb41, 0, (2 : Int32), _, E41, Fv41, Fc41, A41, Or.inl ⟨rfl, by decide +kernel, by decide +kernel, by decide +kernel⟩, by decide +kernel, by decide⟩
  have k43 := ((k39.keep K38).keep K41)
  have k44 := (Fv38.keep K41 nin0)
  have k45 := (Fc38.keep K41 nin0)
  have k46 := (Fn38.keep K41 nin0)
  have k47 := (A38.keep K41 nin0)
  have k48 := (Et38.keep K41)
  refine W41.kV hx hEL (B.h 48 rfl) (B.h 49 rfl) (B.h 51 rfl) (B.h 50 rfl) (B.h 32 rfl) (B.h 52 rfl) k43 [(.ref b41)] [] (rm63 B b33 t38 kt38 dl38 rl38 cl38 b41 [(59 : Int32), 32] h41 W41.old k43 k44 k45 k46 k47 k48 hrl38 hcl38 hbl38 gb33.1 gn38 nat38 (by first | omega | (simp only [LN]; omega)) S41 (lat8 (by decide +kernel))) (allS (mI 0 rfl) all0) 0 (by decide +kernel) (allS ⟨gb33.1, (Or.inr gb33.2)⟩ (allS ⟨gn38, gw38⟩ all0)) hml (lenOf pd27 rfl) (D 59 rfl) ⟨rfl, rfl, rfl, rfl⟩ (fun T42 h42 v42 P42 Ws42 K42 q42 => ?_)
  obtain ⟨t42, kt42, dl42, rl42, cl42, rfl, hor42, nat42, gn42, edl42, hrl42, hcl42, hbl42, Fv42, Fc42, Fn42, A42, Et42, st42⟩ := q42
  have W42 := Ws42 [t42] (allS st42 all0)
  have gw42 : t42 ∈ [] ∨ s.heap.size ≤ t42 := hor42.elim (fun q => by rw [q]; exact gw38) (fun q => Or.inr (Nat.le_trans W41.s0le q))
  have eln42 : dl42.length = dl38.length + 2 := by rw [edl42]; simp only [List.length_append, List.length_cons, List.length_nil, dgl_len] <;> omega
  have k50 := (k43.keep K42)
  have k52 := ((((((((((((((E1.keep K2).keep K6).keep K7).keep K10).keep K11).keep K21).keep K23).keep K24).keep K31).keep K33).keep K37).keep K38).keep K41).keep K42)
  have k53 := ((((((((((((((Fv1.keep K2 nin0).keep K6 (ninS (ne_of_born (Nat.le_of_eq eb2.symm) Sy.exa.lt (Nat.le_refl _)) nin0)).keep K7 (ninS (ne_of_born (Nat.le_of_eq eb2.symm) Sy.exa.lt (Nat.le_refl _)) (ninS (ne_of_born lt6 Sy.exa.lt K2.1) nin0))).keep K10 nin0).keep K11 (ninS (ne_of_born (Nat.le_of_eq eb2.symm) Sy.exa.lt (Nat.le_refl _)) (ninS (neOr hor7 (ne_of_born lt6 Sy.exa.lt K2.1) (Nat.lt_of_lt_of_le Sy.exa.lt (Nat.le_trans K2.1 K6.1))) nin0))).keep K21 (ninS (ne_of_born (Nat.le_of_eq eb2.symm) Sy.exa.lt (Nat.le_refl _)) (ninS (neOr hor11 (neOr hor7 (ne_of_born lt6 Sy.exa.lt K2.1) (Nat.lt_of_lt_of_le Sy.exa.lt (Nat.le_trans K2.1 K6.1))) (Nat.lt_of_lt_of_le Sy.exa.lt (Nat.le_trans (Nat.le_trans (Nat.le_trans K2.1 K6.1) K7.1) K10.1))) nin0))).keep K23 nin0).keep K24 (ninS (ne_of_born (Nat.le_of_eq eb2.symm) Sy.exa.lt (Nat.le_refl _)) (ninS (neOr hor21 (neOr hor11 (neOr hor7 (ne_of_born lt6 Sy.exa.lt K2.1) (Nat.lt_of_lt_of_le Sy.exa.lt (Nat.le_trans K2.1 K6.1))) (Nat.lt_of_lt_of_le Sy.exa.lt (Nat.le_trans (Nat.le_trans (Nat.le_trans K2.1 K6.1) K7.1) K10.1))) (Nat.lt_of_lt_of_le Sy.exa.lt (Nat.le_trans (Nat.le_trans (Nat.le_trans (Nat.le_trans K2.1 K6.1) K7.1) K10.1) K11.1))) nin0))).keep K31 nin0).keep K33 nin0).keep K37 (ninS (ne_of_born (Nat.le_of_eq eb33.symm) Sy.exa.lt (Nat.le_trans (Nat.le_trans (Nat.le_trans (Nat.le_trans (Nat.le_trans (Nat.le_trans (Nat.le_trans (Nat.le_trans K2.1 K6.1) K7.1) K10.1) K11.1) K21.1) K23.1) K24.1) K31.1)) nin0)).keep K38 (ninS (ne_of_born (Nat.le_of_eq eb33.symm) Sy.exa.lt (Nat.le_trans (Nat.le_trans (Nat.le_trans (Nat.le_trans (Nat.le_trans (Nat.le_trans (Nat.le_trans (Nat.le_trans K2.1 K6.1) K7.1) K10.1) K11.1) K21.1) K23.1) K24.1) K31.1)) (ninS (ne_of_born lt37 Sy.exa.lt (Nat.le_trans (Nat.le_trans (Nat.le_trans (Nat.le_trans (Nat.le_trans (Nat.le_trans (Nat.le_trans (Nat.le_trans (Nat.le_trans K2.1 K6.1) K7.1) K10.1) K11.1) K21.1) K23.1) K24.1) K31.1) K33.1)) nin0))).keep K41 nin0).keep K42 (ninS (ne_of_born (Nat.le_of_eq eb33.symm) Sy.exa.lt (Nat.le_trans (Nat.le_trans (Nat.le_trans (Nat.le_trans (Nat.le_trans (Nat.le_trans (Nat.le_trans (Nat.le_trans K2.1 K6.1) K7.1) K10.1) K11.1) K21.1) K23.1) K24.1) K31.1)) (ninS (neOr hor38 (ne_of_born lt37 Sy.exa.lt (Nat.le_trans (Nat.le_trans (Nat.le_trans (Nat.le_trans (Nat.le_trans (Nat.le_trans (Nat.le_trans (Nat.le_trans (Nat.le_trans K2.1 K6.1) K7.1) K10.1) K11.1) K21.1) K23.1) K24.1) K31.1) K33.1)) (Nat.lt_of_lt_of_le Sy.exa.lt (Nat.le_trans (Nat.le_trans (Nat.le_trans (Nat.le_trans (Nat.le_trans (Nat.le_trans (Nat.le_trans (Nat.le_trans (Nat.le_trans (Nat.le_trans K2.1 K6.1) K7.1) K10.1) K11.1) K21.1) K23.1) K24.1) K31.1) K33.1) K37.1))) nin0)))
  have k54 := ((((((((((((((Fc1.keep K2 nin0).keep K6 (ninS (ne_of_born (Nat.le_of_eq eb2.symm) Sy.exa.lt (Nat.le_refl _)) nin0)).keep K7 (ninS (ne_of_born (Nat.le_of_eq eb2.symm) Sy.exa.lt (Nat.le_refl _)) (ninS (ne_of_born lt6 Sy.exa.lt K2.1) nin0))).keep K10 nin0).keep K11 (ninS (ne_of_born (Nat.le_of_eq eb2.symm) Sy.exa.lt (Nat.le_refl _)) (ninS (neOr hor7 (ne_of_born lt6 Sy.exa.lt K2.1) (Nat.lt_of_lt_of_le Sy.exa.lt (Nat.le_trans K2.1 K6.1))) nin0))).keep K21 (ninS (ne_of_born (Nat.le_of_eq eb2.symm) Sy.exa.lt (Nat.le_refl _)) (ninS (neOr hor11 (neOr hor7 (ne_of_born lt6 Sy.exa.lt K2.1) (Nat.lt_of_lt_of_le Sy.exa.lt (Nat.le_trans K2.1 K6.1))) (Nat.lt_of_lt_of_le Sy.exa.lt (Nat.le_trans (Nat.le_trans (Nat.le_trans K2.1 K6.1) K7.1) K10.1))) nin0))).keep K23 nin0).keep K24 (ninS (ne_of_born (Nat.le_of_eq eb2.symm) Sy.exa.lt (Nat.le_refl _)) (ninS (neOr hor21 (neOr hor11 (neOr hor7 (ne_of_born lt6 Sy.exa.lt K2.1) (Nat.lt_of_lt_of_le Sy.exa.lt (Nat.le_trans K2.1 K6.1))) (Nat.lt_of_lt_of_le Sy.exa.lt (Nat.le_trans (Nat.le_trans (Nat.le_trans K2.1 K6.1) K7.1) K10.1))) (Nat.lt_of_lt_of_le Sy.exa.lt (Nat.le_trans (Nat.le_trans (Nat.le_trans (Nat.le_trans K2.1 K6.1) K7.1) K10.1) K11.1))) nin0))).keep K31 nin0).keep K33 nin0).keep K37 (ninS (ne_of_born (Nat.le_of_eq eb33.symm) Sy.exa.lt (Nat.le_trans (Nat.le_trans (Nat.le_trans (Nat.le_trans (Nat.le_trans (Nat.le_trans (Nat.le_trans (Nat.le_trans K2.1 K6.1) K7.1) K10.1) K11.1) K21.1) K23.1) K24.1) K31.1)) nin0)).keep K38 (ninS (ne_of_born (Nat.le_of_eq eb33.symm) Sy.exa.lt (Nat.le_trans (Nat.le_trans (Nat.le_trans (Nat.le_trans (Nat.le_trans (Nat.le_trans (Nat.le_trans (Nat.le_trans K2.1 K6.1) K7.1) K10.1) K11.1) K21.1) K23.1) K24.1) K31.1)) (ninS (ne_of_born lt37 Sy.exa.lt (Nat.le_trans (Nat.le_trans (Nat.le_trans (Nat.le_trans (Nat.le_trans (Nat.le_trans (Nat.le_trans (Nat.le_trans (Nat.le_trans K2.1 K6.1) K7.1) K10.1) K11.1) K21.1) K23.1) K24.1) K31.1) K33.1)) nin0))).keep K41 nin0).keep K42 (ninS (ne_of_born (Nat.le_of_eq eb33.symm) Sy.exa.lt (Nat.le_trans (Nat.le_trans (Nat.le_trans (Nat.le_trans (Nat.le_trans (Nat.le_trans (Nat.le_trans (Nat.le_trans K2.1 K6.1) K7.1) K10.1) K11.1) K21.1) K23.1) K24.1) K31.1)) (ninS (neOr hor38 (ne_of_born lt37 Sy.exa.lt (Nat.le_trans (Nat.le_trans (Nat.le_trans (Nat.le_trans (Nat.le_trans (Nat.le_trans (Nat.le_trans (Nat.le_trans (Nat.le_trans K2.1 K6.1) K7.1) K10.1) K11.1) K21.1) K23.1) K24.1) K31.1) K33.1)) (Nat.lt_of_lt_of_le Sy.exa.lt (Nat.le_trans (Nat.le_trans (Nat.le_trans (Nat.le_trans (Nat.le_trans (Nat.le_trans (Nat.le_trans (Nat.le_trans (Nat.le_trans (Nat.le_trans K2.1 K6.1) K7.1) K10.1) K11.1) K21.1) K23.1) K24.1) K31.1) K33.1) K37.1))) nin0)))
  have k55 := ((((((((((((((V1.keep K2 nin0).keep K6 (ninS (ne_of_born (Nat.le_of_eq eb2.symm) V1.lt (Nat.le_refl _)) nin0)).keep K7 (ninS (ne_of_born (Nat.le_of_eq eb2.symm) V1.lt (Nat.le_refl _)) (ninS (ne_of_born lt6 V1.lt K2.1) nin0))).keep K10 nin0).keep K11 (ninS (ne_of_born (Nat.le_of_eq eb2.symm) V1.lt (Nat.le_refl _)) (ninS (neOr hor7 (ne_of_born lt6 V1.lt K2.1) (Nat.lt_of_lt_of_le V1.lt (Nat.le_trans K2.1 K6.1))) nin0))).keep K21 (ninS (ne_of_born (Nat.le_of_eq eb2.symm) V1.lt (Nat.le_refl _)) (ninS (neOr hor11 (neOr hor7 (ne_of_born lt6 V1.lt K2.1) (Nat.lt_of_lt_of_le V1.lt (Nat.le_trans K2.1 K6.1))) (Nat.lt_of_lt_of_le V1.lt (Nat.le_trans (Nat.le_trans (Nat.le_trans K2.1 K6.1) K7.1) K10.1))) nin0))).keep K23 nin0).keep K24 (ninS (ne_of_born (Nat.le_of_eq eb2.symm) V1.lt (Nat.le_refl _)) (ninS (neOr hor21 (neOr hor11 (neOr hor7 (ne_of_born lt6 V1.lt K2.1) (Nat.lt_of_lt_of_le V1.lt (Nat.le_trans K2.1 K6.1))) (Nat.lt_of_lt_of_le V1.lt (Nat.le_trans (Nat.le_trans (Nat.le_trans K2.1 K6.1) K7.1) K10.1))) (Nat.lt_of_lt_of_le V1.lt (Nat.le_trans (Nat.le_trans (Nat.le_trans (Nat.le_trans K2.1 K6.1) K7.1) K10.1) K11.1))) nin0))).keep K31 nin0).keep K33 nin0).keep K37 (ninS (ne_of_born (Nat.le_of_eq eb33.symm) V1.lt (Nat.le_trans (Nat.le_trans (Nat.le_trans (Nat.le_trans (Nat.le_trans (Nat.le_trans (Nat.le_trans (Nat.le_trans K2.1 K6.1) K7.1) K10.1) K11.1) K21.1) K23.1) K24.1) K31.1)) nin0)).keep K38 (ninS (ne_of_born (Nat.le_of_eq eb33.symm) V1.lt (Nat.le_trans (Nat.le_trans (Nat.le_trans (Nat.le_trans (Nat.le_trans (Nat.le_trans (Nat.le_trans (Nat.le_trans K2.1 K6.1) K7.1) K10.1) K11.1) K21.1) K23.1) K24.1) K31.1)) (ninS (ne_of_born lt37 V1.lt (Nat.le_trans (Nat.le_trans (Nat.le_trans (Nat.le_trans (Nat.le_trans (Nat.le_trans (Nat.le_trans (Nat.le_trans (Nat.le_trans K2.1 K6.1) K7.1) K10.1) K11.1) K21.1) K23.1) K24.1) K31.1) K33.1)) nin0))).keep K41 nin0).keep K42 (ninS (ne_of_born (Nat.le_of_eq eb33.symm) V1.lt (Nat.le_trans (Nat.le_trans (Nat.le_trans (Nat.le_trans (Nat.le_trans (Nat.le_trans (Nat.le_trans (Nat.le_trans K2.1 K6.1) K7.1) K10.1) K11.1) K21.1) K23.1) K24.1) K31.1)) (ninS (neOr hor38 (ne_of_born lt37 V1.lt (Nat.le_trans (Nat.le_trans (Nat.le_trans (Nat.le_trans (Nat.le_trans (Nat.le_trans (Nat.le_trans (Nat.le_trans (Nat.le_trans K2.1 K6.1) K7.1) K10.1) K11.1) K21.1) K23.1) K24.1) K31.1) K33.1)) (Nat.lt_of_lt_of_le V1.lt (Nat.le_trans (Nat.le_trans (Nat.le_trans (Nat.le_trans (Nat.le_trans (Nat.le_trans (Nat.le_trans (Nat.le_trans (Nat.le_trans (Nat.le_trans K2.1 K6.1) K7.1) K10.1) K11.1) K21.1) K23.1) K24.1) K31.1) K33.1) K37.1))) nin0)))
  have S51 : Str Z h42 x3 ys := ⟨t1, kb1, 0, _, _, k52, k53, k54, k55, Or.inl ⟨rfl, rfl, rfl, snd255 hys⟩, up255 hys, ln1⟩
  refine W42.pv hx D 62 1 63 [_, _, _, _, _] [_, _] rfl ?_
  refine W42.kV hx hEL (B.h 48 rfl) (B.h 49 rfl) (B.h 51 rfl) (B.h 50 rfl) (B.h 32 rfl) (B.h 52 rfl) k50 [(.ref x3)] [] (rm63 B b33 t42 kt42 dl42 rl42 cl42 x3 ys h42 W42.old k50 Fv42 Fc42 Fn42 A42 Et42 hrl42 hcl42 hbl42 gb33.1 gn42 nat42 (by first | omega | (simp only [LN]; omega)) S51 hys) (allS (mI 0 rfl) all0) 0 (by decide +kernel) (allS ⟨gb33.1, (Or.inr gb33.2)⟩ (allS ⟨gn42, gw42⟩ all0)) hml (lenOf pd27 rfl) (D 63 rfl) ⟨rfl, rfl, rfl, rfl⟩ (fun T49 h49 v49 P49 Ws49 K49 q49 => ?_)
  obtain ⟨t49, kt49, dl49, rl49, cl49, rfl, hor49, nat49, gn49, edl49, hrl49, hcl49, hbl49, Fv49, Fc49, Fn49, A49, Et49, st49⟩ := q49
  have W49 := Ws49 [t49] (allS st49 all0)
  have gw49 : t49 ∈ [] ∨ s.heap.size ≤ t49 := hor49.elim (fun q => by rw [q]; exact gw42) (fun q => Or.inr (Nat.le_trans W42.s0le q))
  have eln49 : dl49.length = dl42.length + ys.length := by rw [edl49]; simp only [List.length_append, List.length_cons, List.length_nil, dgl_len] <;> omega
  have k57 := (k50.keep K49)
  refine W49.kV hx hEL (B.h 158 rfl) (B.h 159 rfl) (B.h 161 rfl) (B.h 160 rfl) (B.h 32 rfl) (B.h 162 rfl) k57 [] [] (rm74 B b33 t49 kt49 dl49 rl49 cl49 h49 W49.old k57 Fv49 Fc49 Fn49 A49 Et49 hrl49 hcl49 hbl49) all0 0 (by decide +kernel) all0 hml (lenOf pd30 rfl) (D 66 rfl) ⟨rfl, rfl, rfl, rfl⟩ (fun T56 h56 v56 P56 Ws56 K56 q56 => ?_)
  have W56 := Ws56 [] all0
  obtain ⟨r56, rfl, lr56, S56⟩ := q56
  have gr56 : n0 ≤ r56 ∧ s.heap.size ≤ r56 := ⟨Nat.le_trans W49.n0le lr56, Nat.le_trans W49.s0le lr56⟩
  have E56 := S56.exa
  show Go p e below _ (T56.setTop (mkF m 69 #[vr x1, .val (.long tm), S0, vr x3, vr r31] [(.ref r56)]))
  exact W56.retA hx hEL hs hlk (by decide +kernel) (by decide +kernel) hret rfl rfl (D 69 rfl) (fun S hS => ⟨r56, rfl, hs ▸ gr56.2, (by have q := S56; rw [edl49, edl42, edl38, edl37, edl24, edl21, edl11, edl7, edl6] at q; simpa only [List.nil_append] using q)⟩)
theorem ef115 (m : MethodId) (x0 : Int64)  : entryFrame m #[(.long x0)] 3 = mkF m 0 #[.val (.long x0), S0, U0] [] := by first | (simp [entryFrame, mkF, argsToLocals, Value.category]; done) | rfl | rfl
set_option maxRecDepth 65536 in
set_option maxHeartbeats 40000000 in
theorem rm115 (B : EV l Z a0 zc fm) (uu nn : Nat) (h0 : Heap) {n0 : Nat} (O0 : Old Z n0 h0) (hN : ND uu nn) (hu : 0 ≤ uu ∧ uu ≤ 9223372036854 ∧ 1 ≤ nn ∧ nn ≤ 13) :
    Met l Z EL0 n0 (⟨"com/example/sem1/sem1/store/StoreFailuresUnansweredPinLaw", "digits", "(J)I"⟩ : MethodName) method_4_code 3 (some .int) [] (rO 0 0 0 0) #[(.long (posL (uu)))] h0 [] [] (fun v h' S => v = some (.int (Int32.ofNat (nn))) ∧ h0 = h') := by
  obtain ⟨hw, hEL, SC, hzc, SF, rfm⟩ := id B
  refine Met.of (plainFor_of_name pn8) O0 ?_
  intro p e s m below meth c T0 hx hby hml hret hlk hnm hs W0
  have W0 : Wk p l e _ s m _ below meth c Z EL0 n0 [] "com/example/sem1/sem1/store/StoreFailuresUnansweredPinLaw" [] T0 0 0 h0 := W0
  have D := @tk c _ _ hby Kq38
  refine Go.of (fun _ kk => castTop (ef115 m (posL (uu))) kk) ?_
  show Go p e below _ (T0.setTop (mkF m 0 #[.val (.long (posL (uu))), S0, U0] []))
  rcases hN with ⟨rfl, hub⟩ | ⟨rfl, hub⟩ | ⟨rfl, hub⟩ | ⟨rfl, hub⟩ | ⟨rfl, hub⟩ | ⟨rfl, hub⟩ | ⟨rfl, hub⟩ | ⟨rfl, hub⟩ | ⟨rfl, hub⟩ | ⟨rfl, hub⟩ | ⟨rfl, hub⟩ | ⟨rfl, hub⟩ | ⟨rfl, hub⟩
  · refine W0.pv hx D 0 3 3 [_, _, vi 1] [_] rfl ?_
    refine W0.ldcJ hx (B.h 197 rfl) rfl (D 3 rfl) ?_
    refine W0.pu hx D 6 [(1, true)] 1 13 [_, _, _] [_] rfl ⟨trivial, (XT.ll_lt_t (ltLP (a := uu) (b := 10) (by omega)))⟩ ?_
    refine W0.ldcJ hx (B.h 198 rfl) rfl (D 13 rfl) ?_
    refine W0.pu hx D 16 [(1, true)] 1 23 [_, _, _] [_] rfl ⟨trivial, (XT.ll_lt_t (ltLP (a := uu) (b := 100) (by omega)))⟩ ?_
    refine W0.ldcJ hx (B.h 199 rfl) rfl (D 23 rfl) ?_
    refine W0.pu hx D 26 [(1, true)] 1 33 [_, _, _] [_] rfl ⟨trivial, (XT.ll_lt_t (ltLP (a := uu) (b := 1000) (by omega)))⟩ ?_
    refine W0.ldcJ hx (B.h 200 rfl) rfl (D 33 rfl) ?_
    refine W0.pu hx D 36 [(1, true)] 1 43 [_, _, _] [_] rfl ⟨trivial, (XT.ll_lt_t (ltLP (a := uu) (b := 10000) (by omega)))⟩ ?_
    refine W0.ldcJ hx (B.h 201 rfl) rfl (D 43 rfl) ?_
    refine W0.pu hx D 46 [(1, true)] 1 54 [_, _, _] [_] rfl ⟨trivial, (XT.ll_lt_t (ltLP (a := uu) (b := 100000) (by omega)))⟩ ?_
    refine W0.ldcJ hx (B.h 193 rfl) rfl (D 54 rfl) ?_
    refine W0.pu hx D 57 [(1, true)] 1 65 [_, _, _] [_] rfl ⟨trivial, (XT.ll_lt_t (ltLP (a := uu) (b := 1000000) (by omega)))⟩ ?_
    refine W0.ldcJ hx (B.h 202 rfl) rfl (D 65 rfl) ?_
    refine W0.pu hx D 68 [(1, true)] 1 76 [_, _, _] [_] rfl ⟨trivial, (XT.ll_lt_t (ltLP (a := uu) (b := 10000000) (by omega)))⟩ ?_
    refine W0.ldcJ hx (B.h 203 rfl) rfl (D 76 rfl) ?_
    refine W0.pu hx D 79 [(1, true)] 1 87 [_, _, _] [_] rfl ⟨trivial, (XT.ll_lt_t (ltLP (a := uu) (b := 100000000) (by omega)))⟩ ?_
    refine W0.ldcJ hx (B.h 204 rfl) rfl (D 87 rfl) ?_
    refine W0.pu hx D 90 [(1, true)] 1 98 [_, _, _] [_] rfl ⟨trivial, (XT.ll_lt_t (ltLP (a := uu) (b := 1000000000) (by omega)))⟩ ?_
    refine W0.ldcJ hx (B.h 205 rfl) rfl (D 98 rfl) ?_
    refine W0.pu hx D 101 [(1, true)] 1 109 [_, _, _] [_] rfl ⟨trivial, (XT.ll_lt_t (ltLP (a := uu) (b := 10000000000) (by omega)))⟩ ?_
    refine W0.ldcJ hx (B.h 206 rfl) rfl (D 109 rfl) ?_
    refine W0.pu hx D 112 [(1, true)] 1 120 [_, _, _] [_] rfl ⟨trivial, (XT.ll_lt_t (ltLP (a := uu) (b := 100000000000) (by omega)))⟩ ?_
    refine W0.ldcJ hx (B.h 207 rfl) rfl (D 120 rfl) ?_
    refine W0.pu hx D 123 [(1, true)] 1 131 [_, _, _] [.int 1] rfl ⟨trivial, (XT.ll_lt_t (ltLP (a := uu) (b := 1000000000000) (by omega)))⟩ ?_
    exact W0.retI hx hEL hs hlk (by decide +kernel) (by decide +kernel) hret (by simp) rfl (D 131 rfl) (fun S hS => ⟨rfl, rfl⟩)
  · refine W0.pv hx D 0 3 3 [_, _, vi 1] [_] rfl ?_
    refine W0.ldcJ hx (B.h 197 rfl) rfl (D 3 rfl) ?_
    refine W0.pu hx D 6 [(1, false)] 3 13 [_, _, vi 2] [_] rfl ⟨trivial, (XT.ll_lt_f (nltLP (a := uu) (b := 10) (by omega)))⟩ ?_
    refine W0.ldcJ hx (B.h 198 rfl) rfl (D 13 rfl) ?_
    refine W0.pu hx D 16 [(1, true)] 1 23 [_, _, _] [_] rfl ⟨trivial, (XT.ll_lt_t (ltLP (a := uu) (b := 100) (by omega)))⟩ ?_
    refine W0.ldcJ hx (B.h 199 rfl) rfl (D 23 rfl) ?_
    refine W0.pu hx D 26 [(1, true)] 1 33 [_, _, _] [_] rfl ⟨trivial, (XT.ll_lt_t (ltLP (a := uu) (b := 1000) (by omega)))⟩ ?_
    refine W0.ldcJ hx (B.h 200 rfl) rfl (D 33 rfl) ?_
    refine W0.pu hx D 36 [(1, true)] 1 43 [_, _, _] [_] rfl ⟨trivial, (XT.ll_lt_t (ltLP (a := uu) (b := 10000) (by omega)))⟩ ?_
    refine W0.ldcJ hx (B.h 201 rfl) rfl (D 43 rfl) ?_
    refine W0.pu hx D 46 [(1, true)] 1 54 [_, _, _] [_] rfl ⟨trivial, (XT.ll_lt_t (ltLP (a := uu) (b := 100000) (by omega)))⟩ ?_
    refine W0.ldcJ hx (B.h 193 rfl) rfl (D 54 rfl) ?_
    refine W0.pu hx D 57 [(1, true)] 1 65 [_, _, _] [_] rfl ⟨trivial, (XT.ll_lt_t (ltLP (a := uu) (b := 1000000) (by omega)))⟩ ?_
    refine W0.ldcJ hx (B.h 202 rfl) rfl (D 65 rfl) ?_
    refine W0.pu hx D 68 [(1, true)] 1 76 [_, _, _] [_] rfl ⟨trivial, (XT.ll_lt_t (ltLP (a := uu) (b := 10000000) (by omega)))⟩ ?_
    refine W0.ldcJ hx (B.h 203 rfl) rfl (D 76 rfl) ?_
    refine W0.pu hx D 79 [(1, true)] 1 87 [_, _, _] [_] rfl ⟨trivial, (XT.ll_lt_t (ltLP (a := uu) (b := 100000000) (by omega)))⟩ ?_
    refine W0.ldcJ hx (B.h 204 rfl) rfl (D 87 rfl) ?_
    refine W0.pu hx D 90 [(1, true)] 1 98 [_, _, _] [_] rfl ⟨trivial, (XT.ll_lt_t (ltLP (a := uu) (b := 1000000000) (by omega)))⟩ ?_
    refine W0.ldcJ hx (B.h 205 rfl) rfl (D 98 rfl) ?_
    refine W0.pu hx D 101 [(1, true)] 1 109 [_, _, _] [_] rfl ⟨trivial, (XT.ll_lt_t (ltLP (a := uu) (b := 10000000000) (by omega)))⟩ ?_
    refine W0.ldcJ hx (B.h 206 rfl) rfl (D 109 rfl) ?_
    refine W0.pu hx D 112 [(1, true)] 1 120 [_, _, _] [_] rfl ⟨trivial, (XT.ll_lt_t (ltLP (a := uu) (b := 100000000000) (by omega)))⟩ ?_
    refine W0.ldcJ hx (B.h 207 rfl) rfl (D 120 rfl) ?_
    refine W0.pu hx D 123 [(1, true)] 1 131 [_, _, _] [.int 2] rfl ⟨trivial, (XT.ll_lt_t (ltLP (a := uu) (b := 1000000000000) (by omega)))⟩ ?_
    exact W0.retI hx hEL hs hlk (by decide +kernel) (by decide +kernel) hret (by simp) rfl (D 131 rfl) (fun S hS => ⟨rfl, rfl⟩)
  · refine W0.pv hx D 0 3 3 [_, _, vi 1] [_] rfl ?_
    refine W0.ldcJ hx (B.h 197 rfl) rfl (D 3 rfl) ?_
    refine W0.pu hx D 6 [(1, false)] 3 13 [_, _, vi 2] [_] rfl ⟨trivial, (XT.ll_lt_f (nltLP (a := uu) (b := 10) (by omega)))⟩ ?_
    refine W0.ldcJ hx (B.h 198 rfl) rfl (D 13 rfl) ?_
    refine W0.pu hx D 16 [(1, false)] 3 23 [_, _, vi 3] [_] rfl ⟨trivial, (XT.ll_lt_f (nltLP (a := uu) (b := 100) (by omega)))⟩ ?_
    refine W0.ldcJ hx (B.h 199 rfl) rfl (D 23 rfl) ?_
    refine W0.pu hx D 26 [(1, true)] 1 33 [_, _, _] [_] rfl ⟨trivial, (XT.ll_lt_t (ltLP (a := uu) (b := 1000) (by omega)))⟩ ?_
    refine W0.ldcJ hx (B.h 200 rfl) rfl (D 33 rfl) ?_
    refine W0.pu hx D 36 [(1, true)] 1 43 [_, _, _] [_] rfl ⟨trivial, (XT.ll_lt_t (ltLP (a := uu) (b := 10000) (by omega)))⟩ ?_
    refine W0.ldcJ hx (B.h 201 rfl) rfl (D 43 rfl) ?_
    refine W0.pu hx D 46 [(1, true)] 1 54 [_, _, _] [_] rfl ⟨trivial, (XT.ll_lt_t (ltLP (a := uu) (b := 100000) (by omega)))⟩ ?_
    refine W0.ldcJ hx (B.h 193 rfl) rfl (D 54 rfl) ?_
    refine W0.pu hx D 57 [(1, true)] 1 65 [_, _, _] [_] rfl ⟨trivial, (XT.ll_lt_t (ltLP (a := uu) (b := 1000000) (by omega)))⟩ ?_
    refine W0.ldcJ hx (B.h 202 rfl) rfl (D 65 rfl) ?_
    refine W0.pu hx D 68 [(1, true)] 1 76 [_, _, _] [_] rfl ⟨trivial, (XT.ll_lt_t (ltLP (a := uu) (b := 10000000) (by omega)))⟩ ?_
    refine W0.ldcJ hx (B.h 203 rfl) rfl (D 76 rfl) ?_
    refine W0.pu hx D 79 [(1, true)] 1 87 [_, _, _] [_] rfl ⟨trivial, (XT.ll_lt_t (ltLP (a := uu) (b := 100000000) (by omega)))⟩ ?_
    refine W0.ldcJ hx (B.h 204 rfl) rfl (D 87 rfl) ?_
    refine W0.pu hx D 90 [(1, true)] 1 98 [_, _, _] [_] rfl ⟨trivial, (XT.ll_lt_t (ltLP (a := uu) (b := 1000000000) (by omega)))⟩ ?_
    refine W0.ldcJ hx (B.h 205 rfl) rfl (D 98 rfl) ?_
    refine W0.pu hx D 101 [(1, true)] 1 109 [_, _, _] [_] rfl ⟨trivial, (XT.ll_lt_t (ltLP (a := uu) (b := 10000000000) (by omega)))⟩ ?_
    refine W0.ldcJ hx (B.h 206 rfl) rfl (D 109 rfl) ?_
    refine W0.pu hx D 112 [(1, true)] 1 120 [_, _, _] [_] rfl ⟨trivial, (XT.ll_lt_t (ltLP (a := uu) (b := 100000000000) (by omega)))⟩ ?_
    refine W0.ldcJ hx (B.h 207 rfl) rfl (D 120 rfl) ?_
    refine W0.pu hx D 123 [(1, true)] 1 131 [_, _, _] [.int 3] rfl ⟨trivial, (XT.ll_lt_t (ltLP (a := uu) (b := 1000000000000) (by omega)))⟩ ?_
    exact W0.retI hx hEL hs hlk (by decide +kernel) (by decide +kernel) hret (by simp) rfl (D 131 rfl) (fun S hS => ⟨rfl, rfl⟩)
  · refine W0.pv hx D 0 3 3 [_, _, vi 1] [_] rfl ?_
    refine W0.ldcJ hx (B.h 197 rfl) rfl (D 3 rfl) ?_
    refine W0.pu hx D 6 [(1, false)] 3 13 [_, _, vi 2] [_] rfl ⟨trivial, (XT.ll_lt_f (nltLP (a := uu) (b := 10) (by omega)))⟩ ?_
    refine W0.ldcJ hx (B.h 198 rfl) rfl (D 13 rfl) ?_
    refine W0.pu hx D 16 [(1, false)] 3 23 [_, _, vi 3] [_] rfl ⟨trivial, (XT.ll_lt_f (nltLP (a := uu) (b := 100) (by omega)))⟩ ?_
    refine W0.ldcJ hx (B.h 199 rfl) rfl (D 23 rfl) ?_
    refine W0.pu hx D 26 [(1, false)] 3 33 [_, _, vi 4] [_] rfl ⟨trivial, (XT.ll_lt_f (nltLP (a := uu) (b := 1000) (by omega)))⟩ ?_
    refine W0.ldcJ hx (B.h 200 rfl) rfl (D 33 rfl) ?_
    refine W0.pu hx D 36 [(1, true)] 1 43 [_, _, _] [_] rfl ⟨trivial, (XT.ll_lt_t (ltLP (a := uu) (b := 10000) (by omega)))⟩ ?_
    refine W0.ldcJ hx (B.h 201 rfl) rfl (D 43 rfl) ?_
    refine W0.pu hx D 46 [(1, true)] 1 54 [_, _, _] [_] rfl ⟨trivial, (XT.ll_lt_t (ltLP (a := uu) (b := 100000) (by omega)))⟩ ?_
    refine W0.ldcJ hx (B.h 193 rfl) rfl (D 54 rfl) ?_
    refine W0.pu hx D 57 [(1, true)] 1 65 [_, _, _] [_] rfl ⟨trivial, (XT.ll_lt_t (ltLP (a := uu) (b := 1000000) (by omega)))⟩ ?_
    refine W0.ldcJ hx (B.h 202 rfl) rfl (D 65 rfl) ?_
    refine W0.pu hx D 68 [(1, true)] 1 76 [_, _, _] [_] rfl ⟨trivial, (XT.ll_lt_t (ltLP (a := uu) (b := 10000000) (by omega)))⟩ ?_
    refine W0.ldcJ hx (B.h 203 rfl) rfl (D 76 rfl) ?_
    refine W0.pu hx D 79 [(1, true)] 1 87 [_, _, _] [_] rfl ⟨trivial, (XT.ll_lt_t (ltLP (a := uu) (b := 100000000) (by omega)))⟩ ?_
    refine W0.ldcJ hx (B.h 204 rfl) rfl (D 87 rfl) ?_
    refine W0.pu hx D 90 [(1, true)] 1 98 [_, _, _] [_] rfl ⟨trivial, (XT.ll_lt_t (ltLP (a := uu) (b := 1000000000) (by omega)))⟩ ?_
    refine W0.ldcJ hx (B.h 205 rfl) rfl (D 98 rfl) ?_
    refine W0.pu hx D 101 [(1, true)] 1 109 [_, _, _] [_] rfl ⟨trivial, (XT.ll_lt_t (ltLP (a := uu) (b := 10000000000) (by omega)))⟩ ?_
    refine W0.ldcJ hx (B.h 206 rfl) rfl (D 109 rfl) ?_
    refine W0.pu hx D 112 [(1, true)] 1 120 [_, _, _] [_] rfl ⟨trivial, (XT.ll_lt_t (ltLP (a := uu) (b := 100000000000) (by omega)))⟩ ?_
    refine W0.ldcJ hx (B.h 207 rfl) rfl (D 120 rfl) ?_
    refine W0.pu hx D 123 [(1, true)] 1 131 [_, _, _] [.int 4] rfl ⟨trivial, (XT.ll_lt_t (ltLP (a := uu) (b := 1000000000000) (by omega)))⟩ ?_
    exact W0.retI hx hEL hs hlk (by decide +kernel) (by decide +kernel) hret (by simp) rfl (D 131 rfl) (fun S hS => ⟨rfl, rfl⟩)
  · refine W0.pv hx D 0 3 3 [_, _, vi 1] [_] rfl ?_
    refine W0.ldcJ hx (B.h 197 rfl) rfl (D 3 rfl) ?_
    refine W0.pu hx D 6 [(1, false)] 3 13 [_, _, vi 2] [_] rfl ⟨trivial, (XT.ll_lt_f (nltLP (a := uu) (b := 10) (by omega)))⟩ ?_
    refine W0.ldcJ hx (B.h 198 rfl) rfl (D 13 rfl) ?_
    refine W0.pu hx D 16 [(1, false)] 3 23 [_, _, vi 3] [_] rfl ⟨trivial, (XT.ll_lt_f (nltLP (a := uu) (b := 100) (by omega)))⟩ ?_
    refine W0.ldcJ hx (B.h 199 rfl) rfl (D 23 rfl) ?_
    refine W0.pu hx D 26 [(1, false)] 3 33 [_, _, vi 4] [_] rfl ⟨trivial, (XT.ll_lt_f (nltLP (a := uu) (b := 1000) (by omega)))⟩ ?_
    refine W0.ldcJ hx (B.h 200 rfl) rfl (D 33 rfl) ?_
    refine W0.pu hx D 36 [(1, false)] 3 43 [_, _, vi 5] [_] rfl ⟨trivial, (XT.ll_lt_f (nltLP (a := uu) (b := 10000) (by omega)))⟩ ?_
    refine W0.ldcJ hx (B.h 201 rfl) rfl (D 43 rfl) ?_
    refine W0.pu hx D 46 [(1, true)] 1 54 [_, _, _] [_] rfl ⟨trivial, (XT.ll_lt_t (ltLP (a := uu) (b := 100000) (by omega)))⟩ ?_
    refine W0.ldcJ hx (B.h 193 rfl) rfl (D 54 rfl) ?_
    refine W0.pu hx D 57 [(1, true)] 1 65 [_, _, _] [_] rfl ⟨trivial, (XT.ll_lt_t (ltLP (a := uu) (b := 1000000) (by omega)))⟩ ?_
    refine W0.ldcJ hx (B.h 202 rfl) rfl (D 65 rfl) ?_
    refine W0.pu hx D 68 [(1, true)] 1 76 [_, _, _] [_] rfl ⟨trivial, (XT.ll_lt_t (ltLP (a := uu) (b := 10000000) (by omega)))⟩ ?_
    refine W0.ldcJ hx (B.h 203 rfl) rfl (D 76 rfl) ?_
    refine W0.pu hx D 79 [(1, true)] 1 87 [_, _, _] [_] rfl ⟨trivial, (XT.ll_lt_t (ltLP (a := uu) (b := 100000000) (by omega)))⟩ ?_
    refine W0.ldcJ hx (B.h 204 rfl) rfl (D 87 rfl) ?_
    refine W0.pu hx D 90 [(1, true)] 1 98 [_, _, _] [_] rfl ⟨trivial, (XT.ll_lt_t (ltLP (a := uu) (b := 1000000000) (by omega)))⟩ ?_
    refine W0.ldcJ hx (B.h 205 rfl) rfl (D 98 rfl) ?_
    refine W0.pu hx D 101 [(1, true)] 1 109 [_, _, _] [_] rfl ⟨trivial, (XT.ll_lt_t (ltLP (a := uu) (b := 10000000000) (by omega)))⟩ ?_
    refine W0.ldcJ hx (B.h 206 rfl) rfl (D 109 rfl) ?_
    refine W0.pu hx D 112 [(1, true)] 1 120 [_, _, _] [_] rfl ⟨trivial, (XT.ll_lt_t (ltLP (a := uu) (b := 100000000000) (by omega)))⟩ ?_
    refine W0.ldcJ hx (B.h 207 rfl) rfl (D 120 rfl) ?_
    refine W0.pu hx D 123 [(1, true)] 1 131 [_, _, _] [.int 5] rfl ⟨trivial, (XT.ll_lt_t (ltLP (a := uu) (b := 1000000000000) (by omega)))⟩ ?_
    exact W0.retI hx hEL hs hlk (by decide +kernel) (by decide +kernel) hret (by simp) rfl (D 131 rfl) (fun S hS => ⟨rfl, rfl⟩)
  · refine W0.pv hx D 0 3 3 [_, _, vi 1] [_] rfl ?_
    refine W0.ldcJ hx (B.h 197 rfl) rfl (D 3 rfl) ?_
    refine W0.pu hx D 6 [(1, false)] 3 13 [_, _, vi 2] [_] rfl ⟨trivial, (XT.ll_lt_f (nltLP (a := uu) (b := 10) (by omega)))⟩ ?_
    refine W0.ldcJ hx (B.h 198 rfl) rfl (D 13 rfl) ?_
    refine W0.pu hx D 16 [(1, false)] 3 23 [_, _, vi 3] [_] rfl ⟨trivial, (XT.ll_lt_f (nltLP (a := uu) (b := 100) (by omega)))⟩ ?_
    refine W0.ldcJ hx (B.h 199 rfl) rfl (D 23 rfl) ?_
    refine W0.pu hx D 26 [(1, false)] 3 33 [_, _, vi 4] [_] rfl ⟨trivial, (XT.ll_lt_f (nltLP (a := uu) (b := 1000) (by omega)))⟩ ?_
    refine W0.ldcJ hx (B.h 200 rfl) rfl (D 33 rfl) ?_
    refine W0.pu hx D 36 [(1, false)] 3 43 [_, _, vi 5] [_] rfl ⟨trivial, (XT.ll_lt_f (nltLP (a := uu) (b := 10000) (by omega)))⟩ ?_
    refine W0.ldcJ hx (B.h 201 rfl) rfl (D 43 rfl) ?_
    refine W0.pu hx D 46 [(1, false)] 3 54 [_, _, vi 6] [_] rfl ⟨trivial, (XT.ll_lt_f (nltLP (a := uu) (b := 100000) (by omega)))⟩ ?_
    refine W0.ldcJ hx (B.h 193 rfl) rfl (D 54 rfl) ?_
    refine W0.pu hx D 57 [(1, true)] 1 65 [_, _, _] [_] rfl ⟨trivial, (XT.ll_lt_t (ltLP (a := uu) (b := 1000000) (by omega)))⟩ ?_
    refine W0.ldcJ hx (B.h 202 rfl) rfl (D 65 rfl) ?_
    refine W0.pu hx D 68 [(1, true)] 1 76 [_, _, _] [_] rfl ⟨trivial, (XT.ll_lt_t (ltLP (a := uu) (b := 10000000) (by omega)))⟩ ?_
    refine W0.ldcJ hx (B.h 203 rfl) rfl (D 76 rfl) ?_
    refine W0.pu hx D 79 [(1, true)] 1 87 [_, _, _] [_] rfl ⟨trivial, (XT.ll_lt_t (ltLP (a := uu) (b := 100000000) (by omega)))⟩ ?_
    refine W0.ldcJ hx (B.h 204 rfl) rfl (D 87 rfl) ?_
    refine W0.pu hx D 90 [(1, true)] 1 98 [_, _, _] [_] rfl ⟨trivial, (XT.ll_lt_t (ltLP (a := uu) (b := 1000000000) (by omega)))⟩ ?_
    refine W0.ldcJ hx (B.h 205 rfl) rfl (D 98 rfl) ?_
    refine W0.pu hx D 101 [(1, true)] 1 109 [_, _, _] [_] rfl ⟨trivial, (XT.ll_lt_t (ltLP (a := uu) (b := 10000000000) (by omega)))⟩ ?_
    refine W0.ldcJ hx (B.h 206 rfl) rfl (D 109 rfl) ?_
    refine W0.pu hx D 112 [(1, true)] 1 120 [_, _, _] [_] rfl ⟨trivial, (XT.ll_lt_t (ltLP (a := uu) (b := 100000000000) (by omega)))⟩ ?_
    refine W0.ldcJ hx (B.h 207 rfl) rfl (D 120 rfl) ?_
    refine W0.pu hx D 123 [(1, true)] 1 131 [_, _, _] [.int 6] rfl ⟨trivial, (XT.ll_lt_t (ltLP (a := uu) (b := 1000000000000) (by omega)))⟩ ?_
    exact W0.retI hx hEL hs hlk (by decide +kernel) (by decide +kernel) hret (by simp) rfl (D 131 rfl) (fun S hS => ⟨rfl, rfl⟩)
  · refine W0.pv hx D 0 3 3 [_, _, vi 1] [_] rfl ?_
    refine W0.ldcJ hx (B.h 197 rfl) rfl (D 3 rfl) ?_
    refine W0.pu hx D 6 [(1, false)] 3 13 [_, _, vi 2] [_] rfl ⟨trivial, (XT.ll_lt_f (nltLP (a := uu) (b := 10) (by omega)))⟩ ?_
    refine W0.ldcJ hx (B.h 198 rfl) rfl (D 13 rfl) ?_
    refine W0.pu hx D 16 [(1, false)] 3 23 [_, _, vi 3] [_] rfl ⟨trivial, (XT.ll_lt_f (nltLP (a := uu) (b := 100) (by omega)))⟩ ?_
    refine W0.ldcJ hx (B.h 199 rfl) rfl (D 23 rfl) ?_
    refine W0.pu hx D 26 [(1, false)] 3 33 [_, _, vi 4] [_] rfl ⟨trivial, (XT.ll_lt_f (nltLP (a := uu) (b := 1000) (by omega)))⟩ ?_
    refine W0.ldcJ hx (B.h 200 rfl) rfl (D 33 rfl) ?_
    refine W0.pu hx D 36 [(1, false)] 3 43 [_, _, vi 5] [_] rfl ⟨trivial, (XT.ll_lt_f (nltLP (a := uu) (b := 10000) (by omega)))⟩ ?_
    refine W0.ldcJ hx (B.h 201 rfl) rfl (D 43 rfl) ?_
    refine W0.pu hx D 46 [(1, false)] 3 54 [_, _, vi 6] [_] rfl ⟨trivial, (XT.ll_lt_f (nltLP (a := uu) (b := 100000) (by omega)))⟩ ?_
    refine W0.ldcJ hx (B.h 193 rfl) rfl (D 54 rfl) ?_
    refine W0.pu hx D 57 [(1, false)] 3 65 [_, _, vi 7] [_] rfl ⟨trivial, (XT.ll_lt_f (nltLP (a := uu) (b := 1000000) (by omega)))⟩ ?_
    refine W0.ldcJ hx (B.h 202 rfl) rfl (D 65 rfl) ?_
    refine W0.pu hx D 68 [(1, true)] 1 76 [_, _, _] [_] rfl ⟨trivial, (XT.ll_lt_t (ltLP (a := uu) (b := 10000000) (by omega)))⟩ ?_
    refine W0.ldcJ hx (B.h 203 rfl) rfl (D 76 rfl) ?_
    refine W0.pu hx D 79 [(1, true)] 1 87 [_, _, _] [_] rfl ⟨trivial, (XT.ll_lt_t (ltLP (a := uu) (b := 100000000) (by omega)))⟩ ?_
    refine W0.ldcJ hx (B.h 204 rfl) rfl (D 87 rfl) ?_
    refine W0.pu hx D 90 [(1, true)] 1 98 [_, _, _] [_] rfl ⟨trivial, (XT.ll_lt_t (ltLP (a := uu) (b := 1000000000) (by omega)))⟩ ?_
    refine W0.ldcJ hx (B.h 205 rfl) rfl (D 98 rfl) ?_
    refine W0.pu hx D 101 [(1, true)] 1 109 [_, _, _] [_] rfl ⟨trivial, (XT.ll_lt_t (ltLP (a := uu) (b := 10000000000) (by omega)))⟩ ?_
    refine W0.ldcJ hx (B.h 206 rfl) rfl (D 109 rfl) ?_
    refine W0.pu hx D 112 [(1, true)] 1 120 [_, _, _] [_] rfl ⟨trivial, (XT.ll_lt_t (ltLP (a := uu) (b := 100000000000) (by omega)))⟩ ?_
    refine W0.ldcJ hx (B.h 207 rfl) rfl (D 120 rfl) ?_
    refine W0.pu hx D 123 [(1, true)] 1 131 [_, _, _] [.int 7] rfl ⟨trivial, (XT.ll_lt_t (ltLP (a := uu) (b := 1000000000000) (by omega)))⟩ ?_
    exact W0.retI hx hEL hs hlk (by decide +kernel) (by decide +kernel) hret (by simp) rfl (D 131 rfl) (fun S hS => ⟨rfl, rfl⟩)
  · refine W0.pv hx D 0 3 3 [_, _, vi 1] [_] rfl ?_
    refine W0.ldcJ hx (B.h 197 rfl) rfl (D 3 rfl) ?_
    refine W0.pu hx D 6 [(1, false)] 3 13 [_, _, vi 2] [_] rfl ⟨trivial, (XT.ll_lt_f (nltLP (a := uu) (b := 10) (by omega)))⟩ ?_
    refine W0.ldcJ hx (B.h 198 rfl) rfl (D 13 rfl) ?_
    refine W0.pu hx D 16 [(1, false)] 3 23 [_, _, vi 3] [_] rfl ⟨trivial, (XT.ll_lt_f (nltLP (a := uu) (b := 100) (by omega)))⟩ ?_
    refine W0.ldcJ hx (B.h 199 rfl) rfl (D 23 rfl) ?_
    refine W0.pu hx D 26 [(1, false)] 3 33 [_, _, vi 4] [_] rfl ⟨trivial, (XT.ll_lt_f (nltLP (a := uu) (b := 1000) (by omega)))⟩ ?_
    refine W0.ldcJ hx (B.h 200 rfl) rfl (D 33 rfl) ?_
    refine W0.pu hx D 36 [(1, false)] 3 43 [_, _, vi 5] [_] rfl ⟨trivial, (XT.ll_lt_f (nltLP (a := uu) (b := 10000) (by omega)))⟩ ?_
    refine W0.ldcJ hx (B.h 201 rfl) rfl (D 43 rfl) ?_
    refine W0.pu hx D 46 [(1, false)] 3 54 [_, _, vi 6] [_] rfl ⟨trivial, (XT.ll_lt_f (nltLP (a := uu) (b := 100000) (by omega)))⟩ ?_
    refine W0.ldcJ hx (B.h 193 rfl) rfl (D 54 rfl) ?_
    refine W0.pu hx D 57 [(1, false)] 3 65 [_, _, vi 7] [_] rfl ⟨trivial, (XT.ll_lt_f (nltLP (a := uu) (b := 1000000) (by omega)))⟩ ?_
    refine W0.ldcJ hx (B.h 202 rfl) rfl (D 65 rfl) ?_
    refine W0.pu hx D 68 [(1, false)] 3 76 [_, _, vi 8] [_] rfl ⟨trivial, (XT.ll_lt_f (nltLP (a := uu) (b := 10000000) (by omega)))⟩ ?_
    refine W0.ldcJ hx (B.h 203 rfl) rfl (D 76 rfl) ?_
    refine W0.pu hx D 79 [(1, true)] 1 87 [_, _, _] [_] rfl ⟨trivial, (XT.ll_lt_t (ltLP (a := uu) (b := 100000000) (by omega)))⟩ ?_
    refine W0.ldcJ hx (B.h 204 rfl) rfl (D 87 rfl) ?_
    refine W0.pu hx D 90 [(1, true)] 1 98 [_, _, _] [_] rfl ⟨trivial, (XT.ll_lt_t (ltLP (a := uu) (b := 1000000000) (by omega)))⟩ ?_
    refine W0.ldcJ hx (B.h 205 rfl) rfl (D 98 rfl) ?_
    refine W0.pu hx D 101 [(1, true)] 1 109 [_, _, _] [_] rfl ⟨trivial, (XT.ll_lt_t (ltLP (a := uu) (b := 10000000000) (by omega)))⟩ ?_
    refine W0.ldcJ hx (B.h 206 rfl) rfl (D 109 rfl) ?_
    refine W0.pu hx D 112 [(1, true)] 1 120 [_, _, _] [_] rfl ⟨trivial, (XT.ll_lt_t (ltLP (a := uu) (b := 100000000000) (by omega)))⟩ ?_
    refine W0.ldcJ hx (B.h 207 rfl) rfl (D 120 rfl) ?_
    refine W0.pu hx D 123 [(1, true)] 1 131 [_, _, _] [.int 8] rfl ⟨trivial, (XT.ll_lt_t (ltLP (a := uu) (b := 1000000000000) (by omega)))⟩ ?_
    exact W0.retI hx hEL hs hlk (by decide +kernel) (by decide +kernel) hret (by simp) rfl (D 131 rfl) (fun S hS => ⟨rfl, rfl⟩)
  · refine W0.pv hx D 0 3 3 [_, _, vi 1] [_] rfl ?_
    refine W0.ldcJ hx (B.h 197 rfl) rfl (D 3 rfl) ?_
    refine W0.pu hx D 6 [(1, false)] 3 13 [_, _, vi 2] [_] rfl ⟨trivial, (XT.ll_lt_f (nltLP (a := uu) (b := 10) (by omega)))⟩ ?_
    refine W0.ldcJ hx (B.h 198 rfl) rfl (D 13 rfl) ?_
    refine W0.pu hx D 16 [(1, false)] 3 23 [_, _, vi 3] [_] rfl ⟨trivial, (XT.ll_lt_f (nltLP (a := uu) (b := 100) (by omega)))⟩ ?_
    refine W0.ldcJ hx (B.h 199 rfl) rfl (D 23 rfl) ?_
    refine W0.pu hx D 26 [(1, false)] 3 33 [_, _, vi 4] [_] rfl ⟨trivial, (XT.ll_lt_f (nltLP (a := uu) (b := 1000) (by omega)))⟩ ?_
    refine W0.ldcJ hx (B.h 200 rfl) rfl (D 33 rfl) ?_
    refine W0.pu hx D 36 [(1, false)] 3 43 [_, _, vi 5] [_] rfl ⟨trivial, (XT.ll_lt_f (nltLP (a := uu) (b := 10000) (by omega)))⟩ ?_
    refine W0.ldcJ hx (B.h 201 rfl) rfl (D 43 rfl) ?_
    refine W0.pu hx D 46 [(1, false)] 3 54 [_, _, vi 6] [_] rfl ⟨trivial, (XT.ll_lt_f (nltLP (a := uu) (b := 100000) (by omega)))⟩ ?_
    refine W0.ldcJ hx (B.h 193 rfl) rfl (D 54 rfl) ?_
    refine W0.pu hx D 57 [(1, false)] 3 65 [_, _, vi 7] [_] rfl ⟨trivial, (XT.ll_lt_f (nltLP (a := uu) (b := 1000000) (by omega)))⟩ ?_
    refine W0.ldcJ hx (B.h 202 rfl) rfl (D 65 rfl) ?_
    refine W0.pu hx D 68 [(1, false)] 3 76 [_, _, vi 8] [_] rfl ⟨trivial, (XT.ll_lt_f (nltLP (a := uu) (b := 10000000) (by omega)))⟩ ?_
    refine W0.ldcJ hx (B.h 203 rfl) rfl (D 76 rfl) ?_
    refine W0.pu hx D 79 [(1, false)] 3 87 [_, _, vi 9] [_] rfl ⟨trivial, (XT.ll_lt_f (nltLP (a := uu) (b := 100000000) (by omega)))⟩ ?_
    refine W0.ldcJ hx (B.h 204 rfl) rfl (D 87 rfl) ?_
    refine W0.pu hx D 90 [(1, true)] 1 98 [_, _, _] [_] rfl ⟨trivial, (XT.ll_lt_t (ltLP (a := uu) (b := 1000000000) (by omega)))⟩ ?_
    refine W0.ldcJ hx (B.h 205 rfl) rfl (D 98 rfl) ?_
    refine W0.pu hx D 101 [(1, true)] 1 109 [_, _, _] [_] rfl ⟨trivial, (XT.ll_lt_t (ltLP (a := uu) (b := 10000000000) (by omega)))⟩ ?_
    refine W0.ldcJ hx (B.h 206 rfl) rfl (D 109 rfl) ?_
    refine W0.pu hx D 112 [(1, true)] 1 120 [_, _, _] [_] rfl ⟨trivial, (XT.ll_lt_t (ltLP (a := uu) (b := 100000000000) (by omega)))⟩ ?_
    refine W0.ldcJ hx (B.h 207 rfl) rfl (D 120 rfl) ?_
    refine W0.pu hx D 123 [(1, true)] 1 131 [_, _, _] [.int 9] rfl ⟨trivial, (XT.ll_lt_t (ltLP (a := uu) (b := 1000000000000) (by omega)))⟩ ?_
    exact W0.retI hx hEL hs hlk (by decide +kernel) (by decide +kernel) hret (by simp) rfl (D 131 rfl) (fun S hS => ⟨rfl, rfl⟩)
  · refine W0.pv hx D 0 3 3 [_, _, vi 1] [_] rfl ?_
    refine W0.ldcJ hx (B.h 197 rfl) rfl (D 3 rfl) ?_
    refine W0.pu hx D 6 [(1, false)] 3 13 [_, _, vi 2] [_] rfl ⟨trivial, (XT.ll_lt_f (nltLP (a := uu) (b := 10) (by omega)))⟩ ?_
    refine W0.ldcJ hx (B.h 198 rfl) rfl (D 13 rfl) ?_
    refine W0.pu hx D 16 [(1, false)] 3 23 [_, _, vi 3] [_] rfl ⟨trivial, (XT.ll_lt_f (nltLP (a := uu) (b := 100) (by omega)))⟩ ?_
    refine W0.ldcJ hx (B.h 199 rfl) rfl (D 23 rfl) ?_
    refine W0.pu hx D 26 [(1, false)] 3 33 [_, _, vi 4] [_] rfl ⟨trivial, (XT.ll_lt_f (nltLP (a := uu) (b := 1000) (by omega)))⟩ ?_
    refine W0.ldcJ hx (B.h 200 rfl) rfl (D 33 rfl) ?_
    refine W0.pu hx D 36 [(1, false)] 3 43 [_, _, vi 5] [_] rfl ⟨trivial, (XT.ll_lt_f (nltLP (a := uu) (b := 10000) (by omega)))⟩ ?_
    refine W0.ldcJ hx (B.h 201 rfl) rfl (D 43 rfl) ?_
    refine W0.pu hx D 46 [(1, false)] 3 54 [_, _, vi 6] [_] rfl ⟨trivial, (XT.ll_lt_f (nltLP (a := uu) (b := 100000) (by omega)))⟩ ?_
    refine W0.ldcJ hx (B.h 193 rfl) rfl (D 54 rfl) ?_
    refine W0.pu hx D 57 [(1, false)] 3 65 [_, _, vi 7] [_] rfl ⟨trivial, (XT.ll_lt_f (nltLP (a := uu) (b := 1000000) (by omega)))⟩ ?_
    refine W0.ldcJ hx (B.h 202 rfl) rfl (D 65 rfl) ?_
    refine W0.pu hx D 68 [(1, false)] 3 76 [_, _, vi 8] [_] rfl ⟨trivial, (XT.ll_lt_f (nltLP (a := uu) (b := 10000000) (by omega)))⟩ ?_
    refine W0.ldcJ hx (B.h 203 rfl) rfl (D 76 rfl) ?_
    refine W0.pu hx D 79 [(1, false)] 3 87 [_, _, vi 9] [_] rfl ⟨trivial, (XT.ll_lt_f (nltLP (a := uu) (b := 100000000) (by omega)))⟩ ?_
    refine W0.ldcJ hx (B.h 204 rfl) rfl (D 87 rfl) ?_
    refine W0.pu hx D 90 [(1, false)] 3 98 [_, _, vi 10] [_] rfl ⟨trivial, (XT.ll_lt_f (nltLP (a := uu) (b := 1000000000) (by omega)))⟩ ?_
    refine W0.ldcJ hx (B.h 205 rfl) rfl (D 98 rfl) ?_
    refine W0.pu hx D 101 [(1, true)] 1 109 [_, _, _] [_] rfl ⟨trivial, (XT.ll_lt_t (ltLP (a := uu) (b := 10000000000) (by omega)))⟩ ?_
    refine W0.ldcJ hx (B.h 206 rfl) rfl (D 109 rfl) ?_
    refine W0.pu hx D 112 [(1, true)] 1 120 [_, _, _] [_] rfl ⟨trivial, (XT.ll_lt_t (ltLP (a := uu) (b := 100000000000) (by omega)))⟩ ?_
    refine W0.ldcJ hx (B.h 207 rfl) rfl (D 120 rfl) ?_
    refine W0.pu hx D 123 [(1, true)] 1 131 [_, _, _] [.int 10] rfl ⟨trivial, (XT.ll_lt_t (ltLP (a := uu) (b := 1000000000000) (by omega)))⟩ ?_
    exact W0.retI hx hEL hs hlk (by decide +kernel) (by decide +kernel) hret (by simp) rfl (D 131 rfl) (fun S hS => ⟨rfl, rfl⟩)
  · refine W0.pv hx D 0 3 3 [_, _, vi 1] [_] rfl ?_
    refine W0.ldcJ hx (B.h 197 rfl) rfl (D 3 rfl) ?_
    refine W0.pu hx D 6 [(1, false)] 3 13 [_, _, vi 2] [_] rfl ⟨trivial, (XT.ll_lt_f (nltLP (a := uu) (b := 10) (by omega)))⟩ ?_
    refine W0.ldcJ hx (B.h 198 rfl) rfl (D 13 rfl) ?_
    refine W0.pu hx D 16 [(1, false)] 3 23 [_, _, vi 3] [_] rfl ⟨trivial, (XT.ll_lt_f (nltLP (a := uu) (b := 100) (by omega)))⟩ ?_
    refine W0.ldcJ hx (B.h 199 rfl) rfl (D 23 rfl) ?_
    refine W0.pu hx D 26 [(1, false)] 3 33 [_, _, vi 4] [_] rfl ⟨trivial, (XT.ll_lt_f (nltLP (a := uu) (b := 1000) (by omega)))⟩ ?_
    refine W0.ldcJ hx (B.h 200 rfl) rfl (D 33 rfl) ?_
    refine W0.pu hx D 36 [(1, false)] 3 43 [_, _, vi 5] [_] rfl ⟨trivial, (XT.ll_lt_f (nltLP (a := uu) (b := 10000) (by omega)))⟩ ?_
    refine W0.ldcJ hx (B.h 201 rfl) rfl (D 43 rfl) ?_
    refine W0.pu hx D 46 [(1, false)] 3 54 [_, _, vi 6] [_] rfl ⟨trivial, (XT.ll_lt_f (nltLP (a := uu) (b := 100000) (by omega)))⟩ ?_
    refine W0.ldcJ hx (B.h 193 rfl) rfl (D 54 rfl) ?_
    refine W0.pu hx D 57 [(1, false)] 3 65 [_, _, vi 7] [_] rfl ⟨trivial, (XT.ll_lt_f (nltLP (a := uu) (b := 1000000) (by omega)))⟩ ?_
    refine W0.ldcJ hx (B.h 202 rfl) rfl (D 65 rfl) ?_
    refine W0.pu hx D 68 [(1, false)] 3 76 [_, _, vi 8] [_] rfl ⟨trivial, (XT.ll_lt_f (nltLP (a := uu) (b := 10000000) (by omega)))⟩ ?_
    refine W0.ldcJ hx (B.h 203 rfl) rfl (D 76 rfl) ?_
    refine W0.pu hx D 79 [(1, false)] 3 87 [_, _, vi 9] [_] rfl ⟨trivial, (XT.ll_lt_f (nltLP (a := uu) (b := 100000000) (by omega)))⟩ ?_
    refine W0.ldcJ hx (B.h 204 rfl) rfl (D 87 rfl) ?_
    refine W0.pu hx D 90 [(1, false)] 3 98 [_, _, vi 10] [_] rfl ⟨trivial, (XT.ll_lt_f (nltLP (a := uu) (b := 1000000000) (by omega)))⟩ ?_
    refine W0.ldcJ hx (B.h 205 rfl) rfl (D 98 rfl) ?_
    refine W0.pu hx D 101 [(1, false)] 3 109 [_, _, vi 11] [_] rfl ⟨trivial, (XT.ll_lt_f (nltLP (a := uu) (b := 10000000000) (by omega)))⟩ ?_
    refine W0.ldcJ hx (B.h 206 rfl) rfl (D 109 rfl) ?_
    refine W0.pu hx D 112 [(1, true)] 1 120 [_, _, _] [_] rfl ⟨trivial, (XT.ll_lt_t (ltLP (a := uu) (b := 100000000000) (by omega)))⟩ ?_
    refine W0.ldcJ hx (B.h 207 rfl) rfl (D 120 rfl) ?_
    refine W0.pu hx D 123 [(1, true)] 1 131 [_, _, _] [.int 11] rfl ⟨trivial, (XT.ll_lt_t (ltLP (a := uu) (b := 1000000000000) (by omega)))⟩ ?_
    exact W0.retI hx hEL hs hlk (by decide +kernel) (by decide +kernel) hret (by simp) rfl (D 131 rfl) (fun S hS => ⟨rfl, rfl⟩)
  · refine W0.pv hx D 0 3 3 [_, _, vi 1] [_] rfl ?_
    refine W0.ldcJ hx (B.h 197 rfl) rfl (D 3 rfl) ?_
    refine W0.pu hx D 6 [(1, false)] 3 13 [_, _, vi 2] [_] rfl ⟨trivial, (XT.ll_lt_f (nltLP (a := uu) (b := 10) (by omega)))⟩ ?_
    refine W0.ldcJ hx (B.h 198 rfl) rfl (D 13 rfl) ?_
    refine W0.pu hx D 16 [(1, false)] 3 23 [_, _, vi 3] [_] rfl ⟨trivial, (XT.ll_lt_f (nltLP (a := uu) (b := 100) (by omega)))⟩ ?_
    refine W0.ldcJ hx (B.h 199 rfl) rfl (D 23 rfl) ?_
    refine W0.pu hx D 26 [(1, false)] 3 33 [_, _, vi 4] [_] rfl ⟨trivial, (XT.ll_lt_f (nltLP (a := uu) (b := 1000) (by omega)))⟩ ?_
    refine W0.ldcJ hx (B.h 200 rfl) rfl (D 33 rfl) ?_
    refine W0.pu hx D 36 [(1, false)] 3 43 [_, _, vi 5] [_] rfl ⟨trivial, (XT.ll_lt_f (nltLP (a := uu) (b := 10000) (by omega)))⟩ ?_
    refine W0.ldcJ hx (B.h 201 rfl) rfl (D 43 rfl) ?_
    refine W0.pu hx D 46 [(1, false)] 3 54 [_, _, vi 6] [_] rfl ⟨trivial, (XT.ll_lt_f (nltLP (a := uu) (b := 100000) (by omega)))⟩ ?_
    refine W0.ldcJ hx (B.h 193 rfl) rfl (D 54 rfl) ?_
    refine W0.pu hx D 57 [(1, false)] 3 65 [_, _, vi 7] [_] rfl ⟨trivial, (XT.ll_lt_f (nltLP (a := uu) (b := 1000000) (by omega)))⟩ ?_
    refine W0.ldcJ hx (B.h 202 rfl) rfl (D 65 rfl) ?_
    refine W0.pu hx D 68 [(1, false)] 3 76 [_, _, vi 8] [_] rfl ⟨trivial, (XT.ll_lt_f (nltLP (a := uu) (b := 10000000) (by omega)))⟩ ?_
    refine W0.ldcJ hx (B.h 203 rfl) rfl (D 76 rfl) ?_
    refine W0.pu hx D 79 [(1, false)] 3 87 [_, _, vi 9] [_] rfl ⟨trivial, (XT.ll_lt_f (nltLP (a := uu) (b := 100000000) (by omega)))⟩ ?_
    refine W0.ldcJ hx (B.h 204 rfl) rfl (D 87 rfl) ?_
    refine W0.pu hx D 90 [(1, false)] 3 98 [_, _, vi 10] [_] rfl ⟨trivial, (XT.ll_lt_f (nltLP (a := uu) (b := 1000000000) (by omega)))⟩ ?_
    refine W0.ldcJ hx (B.h 205 rfl) rfl (D 98 rfl) ?_
    refine W0.pu hx D 101 [(1, false)] 3 109 [_, _, vi 11] [_] rfl ⟨trivial, (XT.ll_lt_f (nltLP (a := uu) (b := 10000000000) (by omega)))⟩ ?_
    refine W0.ldcJ hx (B.h 206 rfl) rfl (D 109 rfl) ?_
    refine W0.pu hx D 112 [(1, false)] 3 120 [_, _, vi 12] [_] rfl ⟨trivial, (XT.ll_lt_f (nltLP (a := uu) (b := 100000000000) (by omega)))⟩ ?_
    refine W0.ldcJ hx (B.h 207 rfl) rfl (D 120 rfl) ?_
    refine W0.pu hx D 123 [(1, true)] 1 131 [_, _, _] [.int 12] rfl ⟨trivial, (XT.ll_lt_t (ltLP (a := uu) (b := 1000000000000) (by omega)))⟩ ?_
    exact W0.retI hx hEL hs hlk (by decide +kernel) (by decide +kernel) hret (by simp) rfl (D 131 rfl) (fun S hS => ⟨rfl, rfl⟩)
  · refine W0.pv hx D 0 3 3 [_, _, vi 1] [_] rfl ?_
    refine W0.ldcJ hx (B.h 197 rfl) rfl (D 3 rfl) ?_
    refine W0.pu hx D 6 [(1, false)] 3 13 [_, _, vi 2] [_] rfl ⟨trivial, (XT.ll_lt_f (nltLP (a := uu) (b := 10) (by omega)))⟩ ?_
    refine W0.ldcJ hx (B.h 198 rfl) rfl (D 13 rfl) ?_
    refine W0.pu hx D 16 [(1, false)] 3 23 [_, _, vi 3] [_] rfl ⟨trivial, (XT.ll_lt_f (nltLP (a := uu) (b := 100) (by omega)))⟩ ?_
    refine W0.ldcJ hx (B.h 199 rfl) rfl (D 23 rfl) ?_
    refine W0.pu hx D 26 [(1, false)] 3 33 [_, _, vi 4] [_] rfl ⟨trivial, (XT.ll_lt_f (nltLP (a := uu) (b := 1000) (by omega)))⟩ ?_
    refine W0.ldcJ hx (B.h 200 rfl) rfl (D 33 rfl) ?_
    refine W0.pu hx D 36 [(1, false)] 3 43 [_, _, vi 5] [_] rfl ⟨trivial, (XT.ll_lt_f (nltLP (a := uu) (b := 10000) (by omega)))⟩ ?_
    refine W0.ldcJ hx (B.h 201 rfl) rfl (D 43 rfl) ?_
    refine W0.pu hx D 46 [(1, false)] 3 54 [_, _, vi 6] [_] rfl ⟨trivial, (XT.ll_lt_f (nltLP (a := uu) (b := 100000) (by omega)))⟩ ?_
    refine W0.ldcJ hx (B.h 193 rfl) rfl (D 54 rfl) ?_
    refine W0.pu hx D 57 [(1, false)] 3 65 [_, _, vi 7] [_] rfl ⟨trivial, (XT.ll_lt_f (nltLP (a := uu) (b := 1000000) (by omega)))⟩ ?_
    refine W0.ldcJ hx (B.h 202 rfl) rfl (D 65 rfl) ?_
    refine W0.pu hx D 68 [(1, false)] 3 76 [_, _, vi 8] [_] rfl ⟨trivial, (XT.ll_lt_f (nltLP (a := uu) (b := 10000000) (by omega)))⟩ ?_
    refine W0.ldcJ hx (B.h 203 rfl) rfl (D 76 rfl) ?_
    refine W0.pu hx D 79 [(1, false)] 3 87 [_, _, vi 9] [_] rfl ⟨trivial, (XT.ll_lt_f (nltLP (a := uu) (b := 100000000) (by omega)))⟩ ?_
    refine W0.ldcJ hx (B.h 204 rfl) rfl (D 87 rfl) ?_
    refine W0.pu hx D 90 [(1, false)] 3 98 [_, _, vi 10] [_] rfl ⟨trivial, (XT.ll_lt_f (nltLP (a := uu) (b := 1000000000) (by omega)))⟩ ?_
    refine W0.ldcJ hx (B.h 205 rfl) rfl (D 98 rfl) ?_
    refine W0.pu hx D 101 [(1, false)] 3 109 [_, _, vi 11] [_] rfl ⟨trivial, (XT.ll_lt_f (nltLP (a := uu) (b := 10000000000) (by omega)))⟩ ?_
    refine W0.ldcJ hx (B.h 206 rfl) rfl (D 109 rfl) ?_
    refine W0.pu hx D 112 [(1, false)] 3 120 [_, _, vi 12] [_] rfl ⟨trivial, (XT.ll_lt_f (nltLP (a := uu) (b := 100000000000) (by omega)))⟩ ?_
    refine W0.ldcJ hx (B.h 207 rfl) rfl (D 120 rfl) ?_
    refine W0.pu hx D 123 [(1, false)] 3 131 [_, _, vi 13] [.int 13] rfl ⟨trivial, (XT.ll_lt_f (nltLP (a := uu) (b := 1000000000000) (by omega)))⟩ ?_
    exact W0.retI hx hEL hs hlk (by decide +kernel) (by decide +kernel) hret (by simp) rfl (D 131 rfl) (fun S hS => ⟨rfl, rfl⟩)
theorem ef116 (m : MethodId) (x0 : Addr) (x1 : Int32) (x2 : Addr) (x3 : Int32)  : entryFrame m #[(.ref x0), (.int x1), (.ref x2), (.int x3)] 4 = mkF m 0 #[vr x0, vi x1, vr x2, vi x3] [] := by first | (simp [entryFrame, mkF, argsToLocals, Value.category]; done) | rfl | rfl
set_option maxRecDepth 65536 in
set_option maxHeartbeats 40000000 in
theorem rm116 (B : EV l Z a0 zc fm) (rr : Addr) (cs : List Int32) (xl : Addr) (ls : List Int32) (oo ii : Nat) (h0 : Heap) {n0 : Nat} (O0 : Old Z n0 h0) (Sr : Str Z h0 rr cs) (hcs : ∀ c ∈ cs, ¬ c < 0 ∧ ¬ (255 : Int32) < c) (Sl : Str Z h0 xl ls) (hls : ∀ c ∈ ls, ¬ c < 0 ∧ ¬ (255 : Int32) < c) (hii : ii < ls.length ∧ oo + ii < cs.length ∧ cs.length ≤ 4000 ∧ ls.length ≤ 4000) (hat : cs.getD (oo + ii) 0 = ls.getD ii 0) :
    Met l Z EL0 n0 (⟨"com/example/sem1/sem1/store/StoreFailuresUnansweredPinLaw", "at", "(Ljava/lang/String;ILjava/lang/String;I)Z"⟩ : MethodName) method_5_code 4 (some .boolean) [] (rO 4 0 0 54) #[(.ref rr), (.int (Int32.ofNat (oo))), (.ref xl), (.int (Int32.ofNat (ii)))] h0 [] [] (fun v h' S => v = some (.int 1) ∧ h0 = h') := by
  obtain ⟨hw, hEL, SC, hzc, SF, rfm⟩ := id B
  refine Met.of (plainFor_of_name pn8) O0 ?_
  intro p e s m below meth c T0 hx hby hml hret hlk hnm hs W0
  have W0 : Wk p l e _ s m _ below meth c Z EL0 n0 [] "com/example/sem1/sem1/store/StoreFailuresUnansweredPinLaw" [] T0 0 0 h0 := W0
  have D := @tk c _ _ hby Kq39
  have hch := fun d hd => hw d (ch_in d hd)
  refine Go.of (fun _ kk => castTop (ef116 m rr (Int32.ofNat (oo)) xl (Int32.ofNat (ii))) kk) ?_
  have ea1 : ((Int32.ofNat (oo)) + (Int32.ofNat (ii))) = (Int32.ofNat (oo + ii)) := (addN (oo) (ii)).trans (congrArg Int32.ofNat (by omega))
  refine W0.pv hx D 0 4 4 [_, _, _, _] [.int (Int32.ofNat (oo + ii)), _] (by rw [← ea1]; rfl) ?_
  refine W0.kC hx hch (B.h 5 rfl) SC hzc SF rfm (B.h 216 rfl) (B.h 217 rfl) (B.h 219 rfl) (B.h 218 rfl) hml Sr (snd255 hcs) (oo + ii) (by first | omega | (simp only [LN]; omega)) 0 (by decide +kernel) (D 4 rfl) ⟨rfl, rfl, rfl, rfl, rfl⟩ (fun T2 W2 => ?_)
  refine W2.pv hx D 7 2 9 [_, _, _, _] [_, _, _] rfl ?_
  refine W2.kC hx hch (B.h 5 rfl) SC hzc SF rfm (B.h 216 rfl) (B.h 217 rfl) (B.h 219 rfl) (B.h 218 rfl) hml Sl (snd255 hls) (ii) (by first | omega | (simp only [LN]; omega)) 1 (by decide +kernel) (D 9 rfl) ⟨rfl, rfl, rfl, rfl, rfl⟩ (fun T3 W3 => ?_)
  refine W3.pu hx D 12 [(0, false)] 2 20 [_, _, _, _] [.int 1] rfl ⟨trivial, (XT.ii_ne_f hat)⟩ ?_
  exact W3.retI hx hEL hs hlk (by decide +kernel) (by decide +kernel) hret (by simp) rfl (D 20 rfl) (fun S hS => ⟨rfl, rfl⟩)
set_option maxRecDepth 65536 in
set_option maxHeartbeats 40000000 in
theorem rm117 (B : EV l Z a0 zc fm) (rr : Addr) (cs : List Int32) (oo : Nat) (h0 : Heap) {n0 : Nat} (O0 : Old Z n0 h0) (Sr : Str Z h0 rr cs) (hcs : ∀ c ∈ cs, ¬ c < 0 ∧ ¬ (255 : Int32) < c) (hoo : oo + 23 ≤ cs.length ∧ cs.length ≤ 4000) (hwi : ∀ i, i < 23 → cs.getD (oo + i) 0 = List.getD [(32 : Int32), 100, 105, 100, 32, 110, 111, 116, 32, 97, 110, 115, 119, 101, 114, 32, 119, 105, 116, 104, 105, 110, 32] i 0) :
    Met l Z EL0 n0 (⟨"com/example/sem1/sem1/store/StoreFailuresUnansweredPinLaw", "within", "(Ljava/lang/String;I)Z"⟩ : MethodName) method_6_code 3 (some .boolean) [] (rO 5 2 96 69) #[(.ref rr), (.int (Int32.ofNat (oo)))] h0 [] [] (fun v h' S => v = some (.int 1)) := by
  obtain ⟨hw, hEL, SC, hzc, SF, rfm⟩ := id B
  refine Met.of (plainFor_of_name pn8) O0 ?_
  intro p e s m below meth c T0 hx hby hml hret hlk hnm hs W0
  have W0 : Wk p l e _ s m _ below meth c Z EL0 n0 [] "com/example/sem1/sem1/store/StoreFailuresUnansweredPinLaw" [] T0 0 0 h0 := W0
  have D := @tk c _ _ hby Kq40
  have hSA := fun d hd => hw d (sa_in d hd)
  refine Go.of (fun _ kk => castTop (ef45 m rr (Int32.ofNat (oo))) kk) ?_
  refine W0.ldcC hx hEL (by decide +kernel) (B.h 212 rfl) hSA [(.int 32), (.int 100), (.int 105), (.int 100), (.int 32), (.int 110), (.int 111), (.int 116), (.int 32), (.int 97), (.int 110), (.int 115), (.int 119), (.int 101), (.int 114), (.int 32), (.int 119), (.int 105), (.int 116), (.int 104), (.int 105), (.int 110), (.int 32)] (23 : Int32) (by decide +kernel) (by decide +kernel) (by decide +kernel) rfl (D 0 rfl) (n := 92) (by decide +kernel) (by decide +kernel) (by decide +kernel) (by decide +kernel) (fun T1 h1 b1 t1 kb1 W1 K1 E1 Fv1 Fc1 A1 N1 => ?_)
  have S1 : Str Z h1 b1 [(32 : Int32), 100, 105, 100, 32, 110, 111, 116, 32, 97, 110, 115, 119, 101, 114, 32, 119, 105, 116, 104, 105, 110, 32] := ⟨t1, kb1, 0, (23 : Int32), _, E1, Fv1, Fc1, A1, Or.inl ⟨rfl, by decide +kernel, by decide +kernel, by decide +kernel⟩, by decide +kernel, by decide⟩
  have k3 := (Sr.keep0 K1)
  refine W1.pv hx D 2 5 7 [_, _, _] [.int 0, _, _, _] rfl ?_
  refine W1.kS hx hEL (B.h 213 rfl) (B.h 214 rfl) (B.h 2 rfl) (B.h 215 rfl) [(.ref rr), (.int (Int32.ofNat (oo))), (.ref b1), (.int 0)] [] (rm116 B rr cs b1 [(32 : Int32), 100, 105, 100, 32, 110, 111, 116, 32, 97, 110, 115, 119, 101, 114, 32, 119, 105, 116, 104, 105, 110, 32] oo 0 h1 W1.old k3 hcs S1 (lat8 (by decide +kernel)) (by first | omega | (simp only [LN]; omega)) (hwi 0 (by omega))) all0 0 (by decide +kernel) all0 hml (lenOf pd31 rfl) (D 7 rfl) ⟨rfl, rfl, rfl, rfl⟩ (fun T2 h2 v2 P2 Ws2 K2 q2 => ?_)
  have W2 := Ws2 [] all0
  obtain ⟨rfl, rfl⟩ := q2
  refine W2.pu hx D 10 [(0, false)] 4 17 [_, _, _] [.int 1, _, _, _] rfl ⟨trivial, (XT.i0_eq_f (by decide +kernel))⟩ ?_
  refine W2.kS hx hEL (B.h 213 rfl) (B.h 214 rfl) (B.h 2 rfl) (B.h 215 rfl) [(.ref rr), (.int (Int32.ofNat (oo))), (.ref b1), (.int 1)] [] (rm116 B rr cs b1 [(32 : Int32), 100, 105, 100, 32, 110, 111, 116, 32, 97, 110, 115, 119, 101, 114, 32, 119, 105, 116, 104, 105, 110, 32] oo 1 h1 W2.old k3 hcs S1 (lat8 (by decide +kernel)) (by first | omega | (simp only [LN]; omega)) (hwi 1 (by omega))) all0 0 (by decide +kernel) all0 hml (lenOf pd31 rfl) (D 17 rfl) ⟨rfl, rfl, rfl, rfl⟩ (fun T4 h4 v4 P4 Ws4 K4 q4 => ?_)
  have W4 := Ws4 [] all0
  obtain ⟨rfl, rfl⟩ := q4
  refine W4.pu hx D 20 [(0, false)] 4 27 [_, _, _] [.int 2, _, _, _] rfl ⟨trivial, (XT.i0_eq_f (by decide +kernel))⟩ ?_
  refine W4.kS hx hEL (B.h 213 rfl) (B.h 214 rfl) (B.h 2 rfl) (B.h 215 rfl) [(.ref rr), (.int (Int32.ofNat (oo))), (.ref b1), (.int 2)] [] (rm116 B rr cs b1 [(32 : Int32), 100, 105, 100, 32, 110, 111, 116, 32, 97, 110, 115, 119, 101, 114, 32, 119, 105, 116, 104, 105, 110, 32] oo 2 h1 W4.old k3 hcs S1 (lat8 (by decide +kernel)) (by first | omega | (simp only [LN]; omega)) (hwi 2 (by omega))) all0 0 (by decide +kernel) all0 hml (lenOf pd31 rfl) (D 27 rfl) ⟨rfl, rfl, rfl, rfl⟩ (fun T5 h5 v5 P5 Ws5 K5 q5 => ?_)
  have W5 := Ws5 [] all0
  obtain ⟨rfl, rfl⟩ := q5
  refine W5.pu hx D 30 [(0, false)] 4 37 [_, _, _] [.int 3, _, _, _] rfl ⟨trivial, (XT.i0_eq_f (by decide +kernel))⟩ ?_
  refine W5.kS hx hEL (B.h 213 rfl) (B.h 214 rfl) (B.h 2 rfl) (B.h 215 rfl) [(.ref rr), (.int (Int32.ofNat (oo))), (.ref b1), (.int 3)] [] (rm116 B rr cs b1 [(32 : Int32), 100, 105, 100, 32, 110, 111, 116, 32, 97, 110, 115, 119, 101, 114, 32, 119, 105, 116, 104, 105, 110, 32] oo 3 h1 W5.old k3 hcs S1 (lat8 (by decide +kernel)) (by first | omega | (simp only [LN]; omega)) (hwi 3 (by omega))) all0 0 (by decide +kernel) all0 hml (lenOf pd31 rfl) (D 37 rfl) ⟨rfl, rfl, rfl, rfl⟩ (fun T6 h6 v6 P6 Ws6 K6 q6 => ?_)
  have W6 := Ws6 [] all0
  obtain ⟨rfl, rfl⟩ := q6
  refine W6.pu hx D 40 [(0, false)] 4 47 [_, _, _] [.int 4, _, _, _] rfl ⟨trivial, (XT.i0_eq_f (by decide +kernel))⟩ ?_
  refine W6.kS hx hEL (B.h 213 rfl) (B.h 214 rfl) (B.h 2 rfl) (B.h 215 rfl) [(.ref rr), (.int (Int32.ofNat (oo))), (.ref b1), (.int 4)] [] (rm116 B rr cs b1 [(32 : Int32), 100, 105, 100, 32, 110, 111, 116, 32, 97, 110, 115, 119, 101, 114, 32, 119, 105, 116, 104, 105, 110, 32] oo 4 h1 W6.old k3 hcs S1 (lat8 (by decide +kernel)) (by first | omega | (simp only [LN]; omega)) (hwi 4 (by omega))) all0 0 (by decide +kernel) all0 hml (lenOf pd31 rfl) (D 47 rfl) ⟨rfl, rfl, rfl, rfl⟩ (fun T7 h7 v7 P7 Ws7 K7 q7 => ?_)
  have W7 := Ws7 [] all0
  obtain ⟨rfl, rfl⟩ := q7
  refine W7.pu hx D 50 [(0, false)] 4 57 [_, _, _] [.int 5, _, _, _] rfl ⟨trivial, (XT.i0_eq_f (by decide +kernel))⟩ ?_
  refine W7.kS hx hEL (B.h 213 rfl) (B.h 214 rfl) (B.h 2 rfl) (B.h 215 rfl) [(.ref rr), (.int (Int32.ofNat (oo))), (.ref b1), (.int 5)] [] (rm116 B rr cs b1 [(32 : Int32), 100, 105, 100, 32, 110, 111, 116, 32, 97, 110, 115, 119, 101, 114, 32, 119, 105, 116, 104, 105, 110, 32] oo 5 h1 W7.old k3 hcs S1 (lat8 (by decide +kernel)) (by first | omega | (simp only [LN]; omega)) (hwi 5 (by omega))) all0 0 (by decide +kernel) all0 hml (lenOf pd31 rfl) (D 57 rfl) ⟨rfl, rfl, rfl, rfl⟩ (fun T8 h8 v8 P8 Ws8 K8 q8 => ?_)
  have W8 := Ws8 [] all0
  obtain ⟨rfl, rfl⟩ := q8
  refine W8.pu hx D 60 [(0, false)] 4 68 [_, _, _] [.int 6, _, _, _] rfl ⟨trivial, (XT.i0_eq_f (by decide +kernel))⟩ ?_
  refine W8.kS hx hEL (B.h 213 rfl) (B.h 214 rfl) (B.h 2 rfl) (B.h 215 rfl) [(.ref rr), (.int (Int32.ofNat (oo))), (.ref b1), (.int 6)] [] (rm116 B rr cs b1 [(32 : Int32), 100, 105, 100, 32, 110, 111, 116, 32, 97, 110, 115, 119, 101, 114, 32, 119, 105, 116, 104, 105, 110, 32] oo 6 h1 W8.old k3 hcs S1 (lat8 (by decide +kernel)) (by first | omega | (simp only [LN]; omega)) (hwi 6 (by omega))) all0 0 (by decide +kernel) all0 hml (lenOf pd31 rfl) (D 68 rfl) ⟨rfl, rfl, rfl, rfl⟩ (fun T9 h9 v9 P9 Ws9 K9 q9 => ?_)
  have W9 := Ws9 [] all0
  obtain ⟨rfl, rfl⟩ := q9
  refine W9.pu hx D 71 [(0, false)] 4 79 [_, _, _] [.int 7, _, _, _] rfl ⟨trivial, (XT.i0_eq_f (by decide +kernel))⟩ ?_
  refine W9.kS hx hEL (B.h 213 rfl) (B.h 214 rfl) (B.h 2 rfl) (B.h 215 rfl) [(.ref rr), (.int (Int32.ofNat (oo))), (.ref b1), (.int 7)] [] (rm116 B rr cs b1 [(32 : Int32), 100, 105, 100, 32, 110, 111, 116, 32, 97, 110, 115, 119, 101, 114, 32, 119, 105, 116, 104, 105, 110, 32] oo 7 h1 W9.old k3 hcs S1 (lat8 (by decide +kernel)) (by first | omega | (simp only [LN]; omega)) (hwi 7 (by omega))) all0 0 (by decide +kernel) all0 hml (lenOf pd31 rfl) (D 79 rfl) ⟨rfl, rfl, rfl, rfl⟩ (fun T10 h10 v10 P10 Ws10 K10 q10 => ?_)
  have W10 := Ws10 [] all0
  obtain ⟨rfl, rfl⟩ := q10
  refine W10.pu hx D 82 [(0, false)] 4 90 [_, _, _] [.int 8, _, _, _] rfl ⟨trivial, (XT.i0_eq_f (by decide +kernel))⟩ ?_
  refine W10.kS hx hEL (B.h 213 rfl) (B.h 214 rfl) (B.h 2 rfl) (B.h 215 rfl) [(.ref rr), (.int (Int32.ofNat (oo))), (.ref b1), (.int 8)] [] (rm116 B rr cs b1 [(32 : Int32), 100, 105, 100, 32, 110, 111, 116, 32, 97, 110, 115, 119, 101, 114, 32, 119, 105, 116, 104, 105, 110, 32] oo 8 h1 W10.old k3 hcs S1 (lat8 (by decide +kernel)) (by first | omega | (simp only [LN]; omega)) (hwi 8 (by omega))) all0 0 (by decide +kernel) all0 hml (lenOf pd31 rfl) (D 90 rfl) ⟨rfl, rfl, rfl, rfl⟩ (fun T11 h11 v11 P11 Ws11 K11 q11 => ?_)
  have W11 := Ws11 [] all0
  obtain ⟨rfl, rfl⟩ := q11
  refine W11.pu hx D 93 [(0, false)] 4 101 [_, _, _] [.int 9, _, _, _] rfl ⟨trivial, (XT.i0_eq_f (by decide +kernel))⟩ ?_
  refine W11.kS hx hEL (B.h 213 rfl) (B.h 214 rfl) (B.h 2 rfl) (B.h 215 rfl) [(.ref rr), (.int (Int32.ofNat (oo))), (.ref b1), (.int 9)] [] (rm116 B rr cs b1 [(32 : Int32), 100, 105, 100, 32, 110, 111, 116, 32, 97, 110, 115, 119, 101, 114, 32, 119, 105, 116, 104, 105, 110, 32] oo 9 h1 W11.old k3 hcs S1 (lat8 (by decide +kernel)) (by first | omega | (simp only [LN]; omega)) (hwi 9 (by omega))) all0 0 (by decide +kernel) all0 hml (lenOf pd31 rfl) (D 101 rfl) ⟨rfl, rfl, rfl, rfl⟩ (fun T12 h12 v12 P12 Ws12 K12 q12 => ?_)
  have W12 := Ws12 [] all0
  obtain ⟨rfl, rfl⟩ := q12
  refine W12.pu hx D 104 [(0, false)] 4 112 [_, _, _] [.int 10, _, _, _] rfl ⟨trivial, (XT.i0_eq_f (by decide +kernel))⟩ ?_
  refine W12.kS hx hEL (B.h 213 rfl) (B.h 214 rfl) (B.h 2 rfl) (B.h 215 rfl) [(.ref rr), (.int (Int32.ofNat (oo))), (.ref b1), (.int 10)] [] (rm116 B rr cs b1 [(32 : Int32), 100, 105, 100, 32, 110, 111, 116, 32, 97, 110, 115, 119, 101, 114, 32, 119, 105, 116, 104, 105, 110, 32] oo 10 h1 W12.old k3 hcs S1 (lat8 (by decide +kernel)) (by first | omega | (simp only [LN]; omega)) (hwi 10 (by omega))) all0 0 (by decide +kernel) all0 hml (lenOf pd31 rfl) (D 112 rfl) ⟨rfl, rfl, rfl, rfl⟩ (fun T13 h13 v13 P13 Ws13 K13 q13 => ?_)
  have W13 := Ws13 [] all0
  obtain ⟨rfl, rfl⟩ := q13
  refine W13.pu hx D 115 [(0, false)] 4 123 [_, _, _] [.int 11, _, _, _] rfl ⟨trivial, (XT.i0_eq_f (by decide +kernel))⟩ ?_
  refine W13.kS hx hEL (B.h 213 rfl) (B.h 214 rfl) (B.h 2 rfl) (B.h 215 rfl) [(.ref rr), (.int (Int32.ofNat (oo))), (.ref b1), (.int 11)] [] (rm116 B rr cs b1 [(32 : Int32), 100, 105, 100, 32, 110, 111, 116, 32, 97, 110, 115, 119, 101, 114, 32, 119, 105, 116, 104, 105, 110, 32] oo 11 h1 W13.old k3 hcs S1 (lat8 (by decide +kernel)) (by first | omega | (simp only [LN]; omega)) (hwi 11 (by omega))) all0 0 (by decide +kernel) all0 hml (lenOf pd31 rfl) (D 123 rfl) ⟨rfl, rfl, rfl, rfl⟩ (fun T14 h14 v14 P14 Ws14 K14 q14 => ?_)
  have W14 := Ws14 [] all0
  obtain ⟨rfl, rfl⟩ := q14
  refine W14.pu hx D 126 [(0, false)] 4 134 [_, _, _] [.int 12, _, _, _] rfl ⟨trivial, (XT.i0_eq_f (by decide +kernel))⟩ ?_
  refine W14.kS hx hEL (B.h 213 rfl) (B.h 214 rfl) (B.h 2 rfl) (B.h 215 rfl) [(.ref rr), (.int (Int32.ofNat (oo))), (.ref b1), (.int 12)] [] (rm116 B rr cs b1 [(32 : Int32), 100, 105, 100, 32, 110, 111, 116, 32, 97, 110, 115, 119, 101, 114, 32, 119, 105, 116, 104, 105, 110, 32] oo 12 h1 W14.old k3 hcs S1 (lat8 (by decide +kernel)) (by first | omega | (simp only [LN]; omega)) (hwi 12 (by omega))) all0 0 (by decide +kernel) all0 hml (lenOf pd31 rfl) (D 134 rfl) ⟨rfl, rfl, rfl, rfl⟩ (fun T15 h15 v15 P15 Ws15 K15 q15 => ?_)
  have W15 := Ws15 [] all0
  obtain ⟨rfl, rfl⟩ := q15
  refine W15.pu hx D 137 [(0, false)] 4 145 [_, _, _] [.int 13, _, _, _] rfl ⟨trivial, (XT.i0_eq_f (by decide +kernel))⟩ ?_
  refine W15.kS hx hEL (B.h 213 rfl) (B.h 214 rfl) (B.h 2 rfl) (B.h 215 rfl) [(.ref rr), (.int (Int32.ofNat (oo))), (.ref b1), (.int 13)] [] (rm116 B rr cs b1 [(32 : Int32), 100, 105, 100, 32, 110, 111, 116, 32, 97, 110, 115, 119, 101, 114, 32, 119, 105, 116, 104, 105, 110, 32] oo 13 h1 W15.old k3 hcs S1 (lat8 (by decide +kernel)) (by first | omega | (simp only [LN]; omega)) (hwi 13 (by omega))) all0 0 (by decide +kernel) all0 hml (lenOf pd31 rfl) (D 145 rfl) ⟨rfl, rfl, rfl, rfl⟩ (fun T16 h16 v16 P16 Ws16 K16 q16 => ?_)
  have W16 := Ws16 [] all0
  obtain ⟨rfl, rfl⟩ := q16
  refine W16.pu hx D 148 [(0, false)] 4 156 [_, _, _] [.int 14, _, _, _] rfl ⟨trivial, (XT.i0_eq_f (by decide +kernel))⟩ ?_
  refine W16.kS hx hEL (B.h 213 rfl) (B.h 214 rfl) (B.h 2 rfl) (B.h 215 rfl) [(.ref rr), (.int (Int32.ofNat (oo))), (.ref b1), (.int 14)] [] (rm116 B rr cs b1 [(32 : Int32), 100, 105, 100, 32, 110, 111, 116, 32, 97, 110, 115, 119, 101, 114, 32, 119, 105, 116, 104, 105, 110, 32] oo 14 h1 W16.old k3 hcs S1 (lat8 (by decide +kernel)) (by first | omega | (simp only [LN]; omega)) (hwi 14 (by omega))) all0 0 (by decide +kernel) all0 hml (lenOf pd31 rfl) (D 156 rfl) ⟨rfl, rfl, rfl, rfl⟩ (fun T17 h17 v17 P17 Ws17 K17 q17 => ?_)
  have W17 := Ws17 [] all0
  obtain ⟨rfl, rfl⟩ := q17
  refine W17.pu hx D 159 [(0, false)] 4 167 [_, _, _] [.int 15, _, _, _] rfl ⟨trivial, (XT.i0_eq_f (by decide +kernel))⟩ ?_
  refine W17.kS hx hEL (B.h 213 rfl) (B.h 214 rfl) (B.h 2 rfl) (B.h 215 rfl) [(.ref rr), (.int (Int32.ofNat (oo))), (.ref b1), (.int 15)] [] (rm116 B rr cs b1 [(32 : Int32), 100, 105, 100, 32, 110, 111, 116, 32, 97, 110, 115, 119, 101, 114, 32, 119, 105, 116, 104, 105, 110, 32] oo 15 h1 W17.old k3 hcs S1 (lat8 (by decide +kernel)) (by first | omega | (simp only [LN]; omega)) (hwi 15 (by omega))) all0 0 (by decide +kernel) all0 hml (lenOf pd31 rfl) (D 167 rfl) ⟨rfl, rfl, rfl, rfl⟩ (fun T18 h18 v18 P18 Ws18 K18 q18 => ?_)
  have W18 := Ws18 [] all0
  obtain ⟨rfl, rfl⟩ := q18
  refine W18.pu hx D 170 [(0, false)] 4 178 [_, _, _] [.int 16, _, _, _] rfl ⟨trivial, (XT.i0_eq_f (by decide +kernel))⟩ ?_
  refine W18.kS hx hEL (B.h 213 rfl) (B.h 214 rfl) (B.h 2 rfl) (B.h 215 rfl) [(.ref rr), (.int (Int32.ofNat (oo))), (.ref b1), (.int 16)] [] (rm116 B rr cs b1 [(32 : Int32), 100, 105, 100, 32, 110, 111, 116, 32, 97, 110, 115, 119, 101, 114, 32, 119, 105, 116, 104, 105, 110, 32] oo 16 h1 W18.old k3 hcs S1 (lat8 (by decide +kernel)) (by first | omega | (simp only [LN]; omega)) (hwi 16 (by omega))) all0 0 (by decide +kernel) all0 hml (lenOf pd31 rfl) (D 178 rfl) ⟨rfl, rfl, rfl, rfl⟩ (fun T19 h19 v19 P19 Ws19 K19 q19 => ?_)
  have W19 := Ws19 [] all0
  obtain ⟨rfl, rfl⟩ := q19
  refine W19.pu hx D 181 [(0, false)] 4 189 [_, _, _] [.int 17, _, _, _] rfl ⟨trivial, (XT.i0_eq_f (by decide +kernel))⟩ ?_
  refine W19.kS hx hEL (B.h 213 rfl) (B.h 214 rfl) (B.h 2 rfl) (B.h 215 rfl) [(.ref rr), (.int (Int32.ofNat (oo))), (.ref b1), (.int 17)] [] (rm116 B rr cs b1 [(32 : Int32), 100, 105, 100, 32, 110, 111, 116, 32, 97, 110, 115, 119, 101, 114, 32, 119, 105, 116, 104, 105, 110, 32] oo 17 h1 W19.old k3 hcs S1 (lat8 (by decide +kernel)) (by first | omega | (simp only [LN]; omega)) (hwi 17 (by omega))) all0 0 (by decide +kernel) all0 hml (lenOf pd31 rfl) (D 189 rfl) ⟨rfl, rfl, rfl, rfl⟩ (fun T20 h20 v20 P20 Ws20 K20 q20 => ?_)
  have W20 := Ws20 [] all0
  obtain ⟨rfl, rfl⟩ := q20
  refine W20.pu hx D 192 [(0, false)] 4 200 [_, _, _] [.int 18, _, _, _] rfl ⟨trivial, (XT.i0_eq_f (by decide +kernel))⟩ ?_
  refine W20.kS hx hEL (B.h 213 rfl) (B.h 214 rfl) (B.h 2 rfl) (B.h 215 rfl) [(.ref rr), (.int (Int32.ofNat (oo))), (.ref b1), (.int 18)] [] (rm116 B rr cs b1 [(32 : Int32), 100, 105, 100, 32, 110, 111, 116, 32, 97, 110, 115, 119, 101, 114, 32, 119, 105, 116, 104, 105, 110, 32] oo 18 h1 W20.old k3 hcs S1 (lat8 (by decide +kernel)) (by first | omega | (simp only [LN]; omega)) (hwi 18 (by omega))) all0 0 (by decide +kernel) all0 hml (lenOf pd31 rfl) (D 200 rfl) ⟨rfl, rfl, rfl, rfl⟩ (fun T21 h21 v21 P21 Ws21 K21 q21 => ?_)
  have W21 := Ws21 [] all0
  obtain ⟨rfl, rfl⟩ := q21
  refine W21.pu hx D 203 [(0, false)] 4 211 [_, _, _] [.int 19, _, _, _] rfl ⟨trivial, (XT.i0_eq_f (by decide +kernel))⟩ ?_
  refine W21.kS hx hEL (B.h 213 rfl) (B.h 214 rfl) (B.h 2 rfl) (B.h 215 rfl) [(.ref rr), (.int (Int32.ofNat (oo))), (.ref b1), (.int 19)] [] (rm116 B rr cs b1 [(32 : Int32), 100, 105, 100, 32, 110, 111, 116, 32, 97, 110, 115, 119, 101, 114, 32, 119, 105, 116, 104, 105, 110, 32] oo 19 h1 W21.old k3 hcs S1 (lat8 (by decide +kernel)) (by first | omega | (simp only [LN]; omega)) (hwi 19 (by omega))) all0 0 (by decide +kernel) all0 hml (lenOf pd31 rfl) (D 211 rfl) ⟨rfl, rfl, rfl, rfl⟩ (fun T22 h22 v22 P22 Ws22 K22 q22 => ?_)
  have W22 := Ws22 [] all0
  obtain ⟨rfl, rfl⟩ := q22
  refine W22.pu hx D 214 [(0, false)] 4 222 [_, _, _] [.int 20, _, _, _] rfl ⟨trivial, (XT.i0_eq_f (by decide +kernel))⟩ ?_
  refine W22.kS hx hEL (B.h 213 rfl) (B.h 214 rfl) (B.h 2 rfl) (B.h 215 rfl) [(.ref rr), (.int (Int32.ofNat (oo))), (.ref b1), (.int 20)] [] (rm116 B rr cs b1 [(32 : Int32), 100, 105, 100, 32, 110, 111, 116, 32, 97, 110, 115, 119, 101, 114, 32, 119, 105, 116, 104, 105, 110, 32] oo 20 h1 W22.old k3 hcs S1 (lat8 (by decide +kernel)) (by first | omega | (simp only [LN]; omega)) (hwi 20 (by omega))) all0 0 (by decide +kernel) all0 hml (lenOf pd31 rfl) (D 222 rfl) ⟨rfl, rfl, rfl, rfl⟩ (fun T23 h23 v23 P23 Ws23 K23 q23 => ?_)
  have W23 := Ws23 [] all0
  obtain ⟨rfl, rfl⟩ := q23
  refine W23.pu hx D 225 [(0, false)] 4 233 [_, _, _] [.int 21, _, _, _] rfl ⟨trivial, (XT.i0_eq_f (by decide +kernel))⟩ ?_
  refine W23.kS hx hEL (B.h 213 rfl) (B.h 214 rfl) (B.h 2 rfl) (B.h 215 rfl) [(.ref rr), (.int (Int32.ofNat (oo))), (.ref b1), (.int 21)] [] (rm116 B rr cs b1 [(32 : Int32), 100, 105, 100, 32, 110, 111, 116, 32, 97, 110, 115, 119, 101, 114, 32, 119, 105, 116, 104, 105, 110, 32] oo 21 h1 W23.old k3 hcs S1 (lat8 (by decide +kernel)) (by first | omega | (simp only [LN]; omega)) (hwi 21 (by omega))) all0 0 (by decide +kernel) all0 hml (lenOf pd31 rfl) (D 233 rfl) ⟨rfl, rfl, rfl, rfl⟩ (fun T24 h24 v24 P24 Ws24 K24 q24 => ?_)
  have W24 := Ws24 [] all0
  obtain ⟨rfl, rfl⟩ := q24
  refine W24.pu hx D 236 [(0, false)] 4 244 [_, _, _] [.int 22, _, _, _] rfl ⟨trivial, (XT.i0_eq_f (by decide +kernel))⟩ ?_
  refine W24.kS hx hEL (B.h 213 rfl) (B.h 214 rfl) (B.h 2 rfl) (B.h 215 rfl) [(.ref rr), (.int (Int32.ofNat (oo))), (.ref b1), (.int 22)] [] (rm116 B rr cs b1 [(32 : Int32), 100, 105, 100, 32, 110, 111, 116, 32, 97, 110, 115, 119, 101, 114, 32, 119, 105, 116, 104, 105, 110, 32] oo 22 h1 W24.old k3 hcs S1 (lat8 (by decide +kernel)) (by first | omega | (simp only [LN]; omega)) (hwi 22 (by omega))) all0 0 (by decide +kernel) all0 hml (lenOf pd31 rfl) (D 244 rfl) ⟨rfl, rfl, rfl, rfl⟩ (fun T25 h25 v25 P25 Ws25 K25 q25 => ?_)
  have W25 := Ws25 [] all0
  obtain ⟨rfl, rfl⟩ := q25
  refine W25.pu hx D 247 [(0, false)] 2 255 [_, _, _] [.int 1] rfl ⟨trivial, (XT.i0_eq_f (by decide +kernel))⟩ ?_
  exact W25.retI hx hEL hs hlk (by decide +kernel) (by decide +kernel) hret (by simp) rfl (D 255 rfl) (fun S hS => rfl)
theorem ef120 (m : MethodId) (x0 : Addr) (x1 : Int32) (x2 : Int64) (x3 x4 : Int32) (x5 : Addr)  : entryFrame m #[(.ref x0), (.int x1), (.long x2), (.int x3), (.int x4), (.ref x5)] 9 = mkF m 0 #[vr x0, vi x1, .val (.long x2), S0, vi x3, vi x4, vr x5, U0, U0] [] := by first | (simp [entryFrame, mkF, argsToLocals, Value.category]; done) | rfl | rfl
set_option maxRecDepth 65536 in
set_option maxHeartbeats 40000000 in
theorem rm120 (B : EV l Z a0 zc fm) (rr : Addr) (cs : List Int32) (ee : Nat) (lp : Addr) (klp : ClassId) (uu nn dk dw : Nat) (h0 : Heap) {n0 : Nat} (O0 : Old Z n0 h0) (Sr : Str Z h0 rr cs) (hcs : ∀ c ∈ cs, ¬ c < 0 ∧ ¬ (255 : Int32) < c) (Alp : Arv Z h0 lp klp .long (13 : Int32) [(.long 1), (.long 10), (.long 100), (.long 1000), (.long 10000), (.long 100000), (.long 1000000), (.long 10000000), (.long 100000000), (.long 1000000000), (.long 10000000000), (.long 100000000000), (.long 1000000000000)] (.long 0)) (hN : ND uu nn) (hu : 0 ≤ uu ∧ uu ≤ 9223372036854 ∧ 1 ≤ nn ∧ nn ≤ 13) (hee : nn ≤ ee ∧ ee ≤ cs.length ∧ cs.length ≤ 4000) (hdw : posL dw ≠ 0 ∧ dw < 9223372036854775808 ∧ dk < 13 ∧ List.getD (α := Value) [(.long 1), (.long 10), (.long 100), (.long 1000), (.long 10000), (.long 100000), (.long 1000000), (.long 10000000), (.long 100000000), (.long 1000000000), (.long 10000000000), (.long 100000000000), (.long 1000000000000)] dk (.long 0) = .long (posL (dw))) (hdg : dk < nn → cs.getD (ee - 1 - dk) 0 = Int32.ofNat (48 + uu / dw % 10)) :
    Met l Z EL0 n0 (⟨"com/example/sem1/sem1/store/StoreFailuresUnansweredPinLaw", "d", "(Ljava/lang/String;IJII[J)Z"⟩ : MethodName) method_7_code 9 (some .boolean) [] (rO 4 0 0 53) #[(.ref rr), (.int (Int32.ofNat (ee))), (.long (posL (uu))), (.int (Int32.ofNat (nn))), (.int (Int32.ofNat (dk))), (.ref lp)] h0 [] [] (fun v h' S => v = some (.int 1) ∧ h0 = h') := by
  obtain ⟨hw, hEL, SC, hzc, SF, rfm⟩ := id B
  refine Met.of (plainFor_of_name pn8) O0 ?_
  intro p e s m below meth c T0 hx hby hml hret hlk hnm hs W0
  have W0 : Wk p l e _ s m _ below meth c Z EL0 n0 [] "com/example/sem1/sem1/store/StoreFailuresUnansweredPinLaw" [] T0 0 0 h0 := W0
  have D := @tk c _ _ hby Kq41
  have hch := fun d hd => hw d (ch_in d hd)
  refine Go.of (fun _ kk => castTop (ef120 m rr (Int32.ofNat (ee)) (posL (uu)) (Int32.ofNat (nn)) (Int32.ofNat (dk)) lp) kk) ?_
  have hqd : uu / dw ≤ uu := Nat.div_le_self _ _
  refine W0.pv hx D 0 2 4 [_, _, _, _, _, _, _, _, _] [_, _] rfl ?_
  by_cases c1 : dk < nn
  · refine W0.pu hx D 4 [(0, true)] 3 14 [_, _, _, _, _, _, _, _, _] [_, _, _] rfl ⟨trivial, (XT.ii_lt_t (ltN (a := dk) (b := nn) (by first | omega | (simp only [LN]; omega))))⟩ ?_
    refine W0.laload hx Alp ⟨nltN (a := dk) (b := 0) (by omega), ltN (a := dk) (b := 13) (by omega)⟩ (v := (.long (posL (dw)))) (by rw [clampN (by omega)]; exact hdw.2.2.2) rfl rfl (D 14 rfl) ?_
    have ea2 : ((posL (uu)) / (posL (dw))) = (posL (uu / dw)) := divPos (u := uu) (d := dw) (by omega)
    refine gof T0 m 16 #[vr rr, vi (Int32.ofNat (ee)), .val (.long (posL (uu))), S0, vi (Int32.ofNat (nn)), vi (Int32.ofNat (dk)), vr lp, U0, U0] [(.long (posL (uu / dw)))] (fun _ kk => XS.ldiv W0.here hx rfl (D 15 rfl) rfl hdw.1 (by rw [ea2]; exact kk)) ?_
    refine W0.ldcJ hx (B.h 197 rfl) rfl (D 16 rfl) ?_
    have ea3 : ((posL (uu / dw)) - (posL (uu / dw)) / (10 : Int64) * (10 : Int64)) = (posL ((uu / dw) % 10)) := rem10 (u := uu / dw) (by omega)
    refine gof T0 m 20 #[vr rr, vi (Int32.ofNat (ee)), .val (.long (posL (uu))), S0, vi (Int32.ofNat (nn)), vi (Int32.ofNat (dk)), vr lp, U0, U0] [(.long (posL ((uu / dw) % 10)))] (fun _ kk => XS.lrem W0.here hx rfl (D 19 rfl) rfl (by decide +kernel) (by rw [ea3]; exact kk)) ?_
    have ea4 : ((Int32.ofNat (ee)) - (1 : Int32)) = (Int32.ofNat (ee - 1)) := subN (a := ee) (b := 1) (by first | omega | (simp only [LN]; omega))
    have ea5 : ((Int32.ofNat (ee - 1)) - (Int32.ofNat (dk))) = (Int32.ofNat ((ee - 1) - dk)) := subN (a := ee - 1) (b := dk) (by first | omega | (simp only [LN]; omega))
    refine W0.pv hx D 20 7 29 [_, _, _, _, _, _, _, _, S0] [.int (Int32.ofNat ((ee - 1) - dk)), _] (by rw [← ea5, ← ea4]; rfl) ?_
    refine W0.kC hx hch (B.h 5 rfl) SC hzc SF rfm (B.h 216 rfl) (B.h 217 rfl) (B.h 219 rfl) (B.h 218 rfl) hml Sr (snd255 hcs) ((ee - 1) - dk) (by first | omega | (simp only [LN]; omega)) 0 (by decide +kernel) (D 29 rfl) ⟨rfl, rfl, rfl, rfl, rfl⟩ (fun T6 W6 => ?_)
    have ea7 : ((posL ((uu / dw) % 10)).toInt32) = (Int32.ofNat ((uu / dw) % 10)) := l2iPos (by omega)
    have ea8 : ((48 : Int32) + (Int32.ofNat ((uu / dw) % 10))) = (Int32.ofNat (48 + ((uu / dw) % 10))) := (addN (48) ((uu / dw) % 10)).trans (congrArg Int32.ofNat (by omega))
    have ea9 : ((Int32.ofNat (48 + ((uu / dw) % 10))).toUInt32.toUInt16.toUInt32.toInt32) = (Int32.ofNat (48 + ((uu / dw) % 10))) := i2cN (by first | omega | (simp only [LN]; omega))
    refine W6.pv hx D 32 4 38 [_, _, _, _, _, _, _, _, _] [.int (Int32.ofNat (48 + ((uu / dw) % 10))), _] (by rw [← ea8, ← ea7]; rfl) ?_
    refine gof T6 m 39 #[vr rr, vi (Int32.ofNat (ee)), .val (.long (posL (uu))), S0, vi (Int32.ofNat (nn)), vi (Int32.ofNat (dk)), vr lp, .val (.long (posL ((uu / dw) % 10))), S0] [(.int (Int32.ofNat (48 + ((uu / dw) % 10)))), (.int (cs.getD ((ee - 1) - dk) 0))] (fun _ kk => XS.i2c W6.here hx rfl (D 38 rfl) rfl (by rw [ea9]; exact kk)) ?_
    refine W6.pu hx D 39 [(0, false)] 2 47 [_, _, _, _, _, _, _, _, _] [.int 1] rfl ⟨trivial, (XT.ii_ne_f (hdg (by omega)))⟩ ?_
    exact W6.retI hx hEL hs hlk (by decide +kernel) (by decide +kernel) hret (by simp) rfl (D 47 rfl) (fun S hS => ⟨rfl, rfl⟩)
  · refine W0.pu hx D 4 [(0, false)] 1 8 [_, _, _, _, _, _, _, _, _] [.int 1] rfl ⟨trivial, (XT.ii_lt_f (nltN (a := dk) (b := nn) (by first | omega | (simp only [LN]; omega))))⟩ ?_
    exact W0.retI hx hEL hs hlk (by decide +kernel) (by decide +kernel) hret (by simp) rfl (D 8 rfl) (fun S hS => ⟨rfl, rfl⟩)
theorem ef140 (m : MethodId) (x0 : Addr) (x1 : Int32) (x2 : Int64) (x3 : Int32)  : entryFrame m #[(.ref x0), (.int x1), (.long x2), (.int x3)] 6 = mkF m 0 #[vr x0, vi x1, .val (.long x2), S0, vi x3, U0] [] := by first | (simp [entryFrame, mkF, argsToLocals, Value.category]; done) | rfl | rfl
set_option maxRecDepth 65536 in
set_option maxHeartbeats 40000000 in
theorem rm140 (B : EV l Z a0 zc fm) (rr : Addr) (cs : List Int32) (ee uu nn : Nat) (h0 : Heap) {n0 : Nat} (O0 : Old Z n0 h0) (Sr : Str Z h0 rr cs) (hcs : ∀ c ∈ cs, ¬ c < 0 ∧ ¬ (255 : Int32) < c) (hN : ND uu nn) (hu : 0 ≤ uu ∧ uu ≤ 9223372036854 ∧ 1 ≤ nn ∧ nn ≤ 13) (hee : nn ≤ ee ∧ ee ≤ cs.length ∧ cs.length ≤ 4000) (hD : ∀ k, k < nn → cs.getD (ee - 1 - k) 0 = Int32.ofNat (48 + uu / 10 ^ k % 10)) :
    Met l Z EL0 n0 (⟨"com/example/sem1/sem1/store/StoreFailuresUnansweredPinLaw", "number", "(Ljava/lang/String;IJI)Z"⟩ : MethodName) method_8_code 6 (some .boolean) [] (rO 5 1 13 73) #[(.ref rr), (.int (Int32.ofNat (ee))), (.long (posL (uu))), (.int (Int32.ofNat (nn)))] h0 [] [] (fun v h' S => v = some (.int 1)) := by
  obtain ⟨hw, hEL, SC, hzc, SF, rfm⟩ := id B
  refine Met.of (plainFor_of_name pn8) O0 ?_
  intro p e s m below meth c T0 hx hby hml hret hlk hnm hs W0
  have W0 : Wk p l e _ s m _ below meth c Z EL0 n0 [] "com/example/sem1/sem1/store/StoreFailuresUnansweredPinLaw" [] T0 0 0 h0 := W0
  have D := @tk c _ _ hby Kq42
  refine Go.of (fun _ kk => castTop (ef140 m rr (Int32.ofNat (ee)) (posL (uu)) (Int32.ofNat (nn))) kk) ?_
  refine W0.pv hx D 0 1 2 [_, _, _, _, _, _] [.int 13] rfl ?_
  refine W0.newP hx (B.h 241 rfl) rfl (D 2 rfl) rfl (by decide +kernel) (cap := 13) (by decide +kernel) (by decide +kernel) (by decide +kernel) (by decide +kernel) (fun T1 h1 b1 c1 eb1 gb1 W1 K1 A1 => ?_)
  have V1 : Arv Z h1 b1 c1 .long (13 : Int32) [(.long 0), (.long 0), (.long 0), (.long 0), (.long 0), (.long 0), (.long 0), (.long 0), (.long 0), (.long 0), (.long 0), (.long 0), (.long 0)] (.long 0) := A1
  refine W1.pv hx D 4 3 7 [_, _, _, _, _, _] [.long (1 : Int64), .int 0, _, _] rfl ?_
  refine W1.stJ hx V1 ⟨by decide, by decide⟩ 0 rfl (Nat.le_of_ble_eq_true rfl) gb1.1 (Or.inr gb1.2) rfl rfl (D 7 rfl) (fun T2 h2 W2 K2 A2 => ?_)
  have V2 : Arv Z h2 b1 c1 .long (13 : Int32) [(.long 1), (.long 0), (.long 0), (.long 0), (.long 0), (.long 0), (.long 0), (.long 0), (.long 0), (.long 0), (.long 0), (.long 0), (.long 0)] (.long 0) := A2
  refine W2.pv hx D 8 2 10 [_, _, _, _, _, _] [.int 1, _, _] rfl ?_
  refine W2.ldcJ hx (B.h 197 rfl) rfl (D 10 rfl) ?_
  refine W2.stJ hx V2 ⟨by decide, by decide⟩ 1 rfl (Nat.le_of_ble_eq_true rfl) gb1.1 (Or.inr gb1.2) rfl rfl (D 13 rfl) (fun T3 h3 W3 K3 A3 => ?_)
  have V3 : Arv Z h3 b1 c1 .long (13 : Int32) [(.long 1), (.long 10), (.long 0), (.long 0), (.long 0), (.long 0), (.long 0), (.long 0), (.long 0), (.long 0), (.long 0), (.long 0), (.long 0)] (.long 0) := A3
  refine W3.pv hx D 14 2 16 [_, _, _, _, _, _] [.int 2, _, _] rfl ?_
  refine W3.ldcJ hx (B.h 198 rfl) rfl (D 16 rfl) ?_
  refine W3.stJ hx V3 ⟨by decide, by decide⟩ 2 rfl (Nat.le_of_ble_eq_true rfl) gb1.1 (Or.inr gb1.2) rfl rfl (D 19 rfl) (fun T4 h4 W4 K4 A4 => ?_)
  have V4 : Arv Z h4 b1 c1 .long (13 : Int32) [(.long 1), (.long 10), (.long 100), (.long 0), (.long 0), (.long 0), (.long 0), (.long 0), (.long 0), (.long 0), (.long 0), (.long 0), (.long 0)] (.long 0) := A4
  refine W4.pv hx D 20 2 22 [_, _, _, _, _, _] [.int 3, _, _] rfl ?_
  refine W4.ldcJ hx (B.h 199 rfl) rfl (D 22 rfl) ?_
  refine W4.stJ hx V4 ⟨by decide, by decide⟩ 3 rfl (Nat.le_of_ble_eq_true rfl) gb1.1 (Or.inr gb1.2) rfl rfl (D 25 rfl) (fun T5 h5 W5 K5 A5 => ?_)
  have V5 : Arv Z h5 b1 c1 .long (13 : Int32) [(.long 1), (.long 10), (.long 100), (.long 1000), (.long 0), (.long 0), (.long 0), (.long 0), (.long 0), (.long 0), (.long 0), (.long 0), (.long 0)] (.long 0) := A5
  refine W5.pv hx D 26 2 28 [_, _, _, _, _, _] [.int 4, _, _] rfl ?_
  refine W5.ldcJ hx (B.h 200 rfl) rfl (D 28 rfl) ?_
  refine W5.stJ hx V5 ⟨by decide, by decide⟩ 4 rfl (Nat.le_of_ble_eq_true rfl) gb1.1 (Or.inr gb1.2) rfl rfl (D 31 rfl) (fun T6 h6 W6 K6 A6 => ?_)
  have V6 : Arv Z h6 b1 c1 .long (13 : Int32) [(.long 1), (.long 10), (.long 100), (.long 1000), (.long 10000), (.long 0), (.long 0), (.long 0), (.long 0), (.long 0), (.long 0), (.long 0), (.long 0)] (.long 0) := A6
  refine W6.pv hx D 32 2 34 [_, _, _, _, _, _] [.int 5, _, _] rfl ?_
  refine W6.ldcJ hx (B.h 201 rfl) rfl (D 34 rfl) ?_
  refine W6.stJ hx V6 ⟨by decide, by decide⟩ 5 rfl (Nat.le_of_ble_eq_true rfl) gb1.1 (Or.inr gb1.2) rfl rfl (D 37 rfl) (fun T7 h7 W7 K7 A7 => ?_)
  have V7 : Arv Z h7 b1 c1 .long (13 : Int32) [(.long 1), (.long 10), (.long 100), (.long 1000), (.long 10000), (.long 100000), (.long 0), (.long 0), (.long 0), (.long 0), (.long 0), (.long 0), (.long 0)] (.long 0) := A7
  refine W7.pv hx D 38 2 41 [_, _, _, _, _, _] [.int 6, _, _] rfl ?_
  refine W7.ldcJ hx (B.h 193 rfl) rfl (D 41 rfl) ?_
  refine W7.stJ hx V7 ⟨by decide, by decide⟩ 6 rfl (Nat.le_of_ble_eq_true rfl) gb1.1 (Or.inr gb1.2) rfl rfl (D 44 rfl) (fun T8 h8 W8 K8 A8 => ?_)
  have V8 : Arv Z h8 b1 c1 .long (13 : Int32) [(.long 1), (.long 10), (.long 100), (.long 1000), (.long 10000), (.long 100000), (.long 1000000), (.long 0), (.long 0), (.long 0), (.long 0), (.long 0), (.long 0)] (.long 0) := A8
  refine W8.pv hx D 45 2 48 [_, _, _, _, _, _] [.int 7, _, _] rfl ?_
  refine W8.ldcJ hx (B.h 202 rfl) rfl (D 48 rfl) ?_
  refine W8.stJ hx V8 ⟨by decide, by decide⟩ 7 rfl (Nat.le_of_ble_eq_true rfl) gb1.1 (Or.inr gb1.2) rfl rfl (D 51 rfl) (fun T9 h9 W9 K9 A9 => ?_)
  have V9 : Arv Z h9 b1 c1 .long (13 : Int32) [(.long 1), (.long 10), (.long 100), (.long 1000), (.long 10000), (.long 100000), (.long 1000000), (.long 10000000), (.long 0), (.long 0), (.long 0), (.long 0), (.long 0)] (.long 0) := A9
  refine W9.pv hx D 52 2 55 [_, _, _, _, _, _] [.int 8, _, _] rfl ?_
  refine W9.ldcJ hx (B.h 203 rfl) rfl (D 55 rfl) ?_
  refine W9.stJ hx V9 ⟨by decide, by decide⟩ 8 rfl (Nat.le_of_ble_eq_true rfl) gb1.1 (Or.inr gb1.2) rfl rfl (D 58 rfl) (fun T10 h10 W10 K10 A10 => ?_)
  have V10 : Arv Z h10 b1 c1 .long (13 : Int32) [(.long 1), (.long 10), (.long 100), (.long 1000), (.long 10000), (.long 100000), (.long 1000000), (.long 10000000), (.long 100000000), (.long 0), (.long 0), (.long 0), (.long 0)] (.long 0) := A10
  refine W10.pv hx D 59 2 62 [_, _, _, _, _, _] [.int 9, _, _] rfl ?_
  refine W10.ldcJ hx (B.h 204 rfl) rfl (D 62 rfl) ?_
  refine W10.stJ hx V10 ⟨by decide, by decide⟩ 9 rfl (Nat.le_of_ble_eq_true rfl) gb1.1 (Or.inr gb1.2) rfl rfl (D 65 rfl) (fun T11 h11 W11 K11 A11 => ?_)
  have V11 : Arv Z h11 b1 c1 .long (13 : Int32) [(.long 1), (.long 10), (.long 100), (.long 1000), (.long 10000), (.long 100000), (.long 1000000), (.long 10000000), (.long 100000000), (.long 1000000000), (.long 0), (.long 0), (.long 0)] (.long 0) := A11
  refine W11.pv hx D 66 2 69 [_, _, _, _, _, _] [.int 10, _, _] rfl ?_
  refine W11.ldcJ hx (B.h 205 rfl) rfl (D 69 rfl) ?_
  refine W11.stJ hx V11 ⟨by decide, by decide⟩ 10 rfl (Nat.le_of_ble_eq_true rfl) gb1.1 (Or.inr gb1.2) rfl rfl (D 72 rfl) (fun T12 h12 W12 K12 A12 => ?_)
  have V12 : Arv Z h12 b1 c1 .long (13 : Int32) [(.long 1), (.long 10), (.long 100), (.long 1000), (.long 10000), (.long 100000), (.long 1000000), (.long 10000000), (.long 100000000), (.long 1000000000), (.long 10000000000), (.long 0), (.long 0)] (.long 0) := A12
  refine W12.pv hx D 73 2 76 [_, _, _, _, _, _] [.int 11, _, _] rfl ?_
  refine W12.ldcJ hx (B.h 206 rfl) rfl (D 76 rfl) ?_
  refine W12.stJ hx V12 ⟨by decide, by decide⟩ 11 rfl (Nat.le_of_ble_eq_true rfl) gb1.1 (Or.inr gb1.2) rfl rfl (D 79 rfl) (fun T13 h13 W13 K13 A13 => ?_)
  have V13 : Arv Z h13 b1 c1 .long (13 : Int32) [(.long 1), (.long 10), (.long 100), (.long 1000), (.long 10000), (.long 100000), (.long 1000000), (.long 10000000), (.long 100000000), (.long 1000000000), (.long 10000000000), (.long 100000000000), (.long 0)] (.long 0) := A13
  refine W13.pv hx D 80 2 83 [_, _, _, _, _, _] [.int 12, _, _] rfl ?_
  refine W13.ldcJ hx (B.h 207 rfl) rfl (D 83 rfl) ?_
  refine W13.stJ hx V13 ⟨by decide, by decide⟩ 12 rfl (Nat.le_of_ble_eq_true rfl) gb1.1 (Or.inr gb1.2) rfl rfl (D 86 rfl) (fun T14 h14 W14 K14 A14 => ?_)
  have V14 : Arv Z h14 b1 c1 .long (13 : Int32) [(.long 1), (.long 10), (.long 100), (.long 1000), (.long 10000), (.long 100000), (.long 1000000), (.long 10000000), (.long 100000000), (.long 1000000000), (.long 10000000000), (.long 100000000000), (.long 1000000000000)] (.long 0) := A14
  refine W14.pv hx D 87 7 97 [_, _, _, _, _, _] [_, .int 0, _, _, _, _] rfl ?_
  obtain ⟨t16, kb16, cd16, N16, vs16, E16, V16, C16, A16, R16⟩ := id Sr
  have S16 : Str Z h14 rr cs := ⟨t16, kb16, cd16, N16, vs16, ((((((((((((((E16.keep K1).keep K2).keep K3).keep K4).keep K5).keep K6).keep K7).keep K8).keep K9).keep K10).keep K11).keep K12).keep K13).keep K14), ((((((((((((((V16.keep K1 nin0).keep K2 (ninS (ne_of_born (Nat.le_of_eq eb1.symm) Sr.exa.lt (Nat.le_refl _)) nin0)).keep K3 (ninS (ne_of_born (Nat.le_of_eq eb1.symm) Sr.exa.lt (Nat.le_refl _)) nin0)).keep K4 (ninS (ne_of_born (Nat.le_of_eq eb1.symm) Sr.exa.lt (Nat.le_refl _)) nin0)).keep K5 (ninS (ne_of_born (Nat.le_of_eq eb1.symm) Sr.exa.lt (Nat.le_refl _)) nin0)).keep K6 (ninS (ne_of_born (Nat.le_of_eq eb1.symm) Sr.exa.lt (Nat.le_refl _)) nin0)).keep K7 (ninS (ne_of_born (Nat.le_of_eq eb1.symm) Sr.exa.lt (Nat.le_refl _)) nin0)).keep K8 (ninS (ne_of_born (Nat.le_of_eq eb1.symm) Sr.exa.lt (Nat.le_refl _)) nin0)).keep K9 (ninS (ne_of_born (Nat.le_of_eq eb1.symm) Sr.exa.lt (Nat.le_refl _)) nin0)).keep K10 (ninS (ne_of_born (Nat.le_of_eq eb1.symm) Sr.exa.lt (Nat.le_refl _)) nin0)).keep K11 (ninS (ne_of_born (Nat.le_of_eq eb1.symm) Sr.exa.lt (Nat.le_refl _)) nin0)).keep K12 (ninS (ne_of_born (Nat.le_of_eq eb1.symm) Sr.exa.lt (Nat.le_refl _)) nin0)).keep K13 (ninS (ne_of_born (Nat.le_of_eq eb1.symm) Sr.exa.lt (Nat.le_refl _)) nin0)).keep K14 (ninS (ne_of_born (Nat.le_of_eq eb1.symm) Sr.exa.lt (Nat.le_refl _)) nin0)), ((((((((((((((C16.keep K1 nin0).keep K2 (ninS (ne_of_born (Nat.le_of_eq eb1.symm) Sr.exa.lt (Nat.le_refl _)) nin0)).keep K3 (ninS (ne_of_born (Nat.le_of_eq eb1.symm) Sr.exa.lt (Nat.le_refl _)) nin0)).keep K4 (ninS (ne_of_born (Nat.le_of_eq eb1.symm) Sr.exa.lt (Nat.le_refl _)) nin0)).keep K5 (ninS (ne_of_born (Nat.le_of_eq eb1.symm) Sr.exa.lt (Nat.le_refl _)) nin0)).keep K6 (ninS (ne_of_born (Nat.le_of_eq eb1.symm) Sr.exa.lt (Nat.le_refl _)) nin0)).keep K7 (ninS (ne_of_born (Nat.le_of_eq eb1.symm) Sr.exa.lt (Nat.le_refl _)) nin0)).keep K8 (ninS (ne_of_born (Nat.le_of_eq eb1.symm) Sr.exa.lt (Nat.le_refl _)) nin0)).keep K9 (ninS (ne_of_born (Nat.le_of_eq eb1.symm) Sr.exa.lt (Nat.le_refl _)) nin0)).keep K10 (ninS (ne_of_born (Nat.le_of_eq eb1.symm) Sr.exa.lt (Nat.le_refl _)) nin0)).keep K11 (ninS (ne_of_born (Nat.le_of_eq eb1.symm) Sr.exa.lt (Nat.le_refl _)) nin0)).keep K12 (ninS (ne_of_born (Nat.le_of_eq eb1.symm) Sr.exa.lt (Nat.le_refl _)) nin0)).keep K13 (ninS (ne_of_born (Nat.le_of_eq eb1.symm) Sr.exa.lt (Nat.le_refl _)) nin0)).keep K14 (ninS (ne_of_born (Nat.le_of_eq eb1.symm) Sr.exa.lt (Nat.le_refl _)) nin0)), ((((((((((((((A16.keep K1 nin0).keep K2 (ninS (ne_of_born (Nat.le_of_eq eb1.symm) A16.lt (Nat.le_refl _)) nin0)).keep K3 (ninS (ne_of_born (Nat.le_of_eq eb1.symm) A16.lt (Nat.le_refl _)) nin0)).keep K4 (ninS (ne_of_born (Nat.le_of_eq eb1.symm) A16.lt (Nat.le_refl _)) nin0)).keep K5 (ninS (ne_of_born (Nat.le_of_eq eb1.symm) A16.lt (Nat.le_refl _)) nin0)).keep K6 (ninS (ne_of_born (Nat.le_of_eq eb1.symm) A16.lt (Nat.le_refl _)) nin0)).keep K7 (ninS (ne_of_born (Nat.le_of_eq eb1.symm) A16.lt (Nat.le_refl _)) nin0)).keep K8 (ninS (ne_of_born (Nat.le_of_eq eb1.symm) A16.lt (Nat.le_refl _)) nin0)).keep K9 (ninS (ne_of_born (Nat.le_of_eq eb1.symm) A16.lt (Nat.le_refl _)) nin0)).keep K10 (ninS (ne_of_born (Nat.le_of_eq eb1.symm) A16.lt (Nat.le_refl _)) nin0)).keep K11 (ninS (ne_of_born (Nat.le_of_eq eb1.symm) A16.lt (Nat.le_refl _)) nin0)).keep K12 (ninS (ne_of_born (Nat.le_of_eq eb1.symm) A16.lt (Nat.le_refl _)) nin0)).keep K13 (ninS (ne_of_born (Nat.le_of_eq eb1.symm) A16.lt (Nat.le_refl _)) nin0)).keep K14 (ninS (ne_of_born (Nat.le_of_eq eb1.symm) A16.lt (Nat.le_refl _)) nin0)), R16⟩
  refine W14.kS hx hEL (B.h 242 rfl) (B.h 243 rfl) (B.h 2 rfl) (B.h 244 rfl) [(.ref rr), (.int (Int32.ofNat (ee))), (.long (posL (uu))), (.int (Int32.ofNat (nn))), (.int 0), (.ref b1)] [] (rm120 B rr cs ee b1 c1 uu nn 0 1 h14 W14.old S16 hcs V14 hN (by first | omega | (simp only [LN]; omega)) (by first | omega | (simp only [LN]; omega)) ⟨by decide +kernel, by decide, by decide, rfl⟩ (hD 0)) all0 0 (by decide +kernel) all0 hml (lenOf pd32 rfl) (D 97 rfl) ⟨rfl, rfl, rfl, rfl⟩ (fun T15 h15 v15 P15 Ws15 K15 q15 => ?_)
  have W15 := Ws15 [] all0
  obtain ⟨rfl, rfl⟩ := q15
  refine W15.pu hx D 100 [(0, false)] 6 111 [_, _, _, _, _, _] [_, .int 1, _, _, _, _] rfl ⟨trivial, (XT.i0_eq_f (by decide +kernel))⟩ ?_
  refine W15.kS hx hEL (B.h 242 rfl) (B.h 243 rfl) (B.h 2 rfl) (B.h 244 rfl) [(.ref rr), (.int (Int32.ofNat (ee))), (.long (posL (uu))), (.int (Int32.ofNat (nn))), (.int 1), (.ref b1)] [] (rm120 B rr cs ee b1 c1 uu nn 1 10 h14 W15.old S16 hcs V14 hN (by first | omega | (simp only [LN]; omega)) (by first | omega | (simp only [LN]; omega)) ⟨by decide +kernel, by decide, by decide, rfl⟩ (hD 1)) all0 0 (by decide +kernel) all0 hml (lenOf pd32 rfl) (D 111 rfl) ⟨rfl, rfl, rfl, rfl⟩ (fun T17 h17 v17 P17 Ws17 K17 q17 => ?_)
  have W17 := Ws17 [] all0
  obtain ⟨rfl, rfl⟩ := q17
  refine W17.pu hx D 114 [(0, false)] 6 125 [_, _, _, _, _, _] [_, .int 2, _, _, _, _] rfl ⟨trivial, (XT.i0_eq_f (by decide +kernel))⟩ ?_
  refine W17.kS hx hEL (B.h 242 rfl) (B.h 243 rfl) (B.h 2 rfl) (B.h 244 rfl) [(.ref rr), (.int (Int32.ofNat (ee))), (.long (posL (uu))), (.int (Int32.ofNat (nn))), (.int 2), (.ref b1)] [] (rm120 B rr cs ee b1 c1 uu nn 2 100 h14 W17.old S16 hcs V14 hN (by first | omega | (simp only [LN]; omega)) (by first | omega | (simp only [LN]; omega)) ⟨by decide +kernel, by decide, by decide, rfl⟩ (hD 2)) all0 0 (by decide +kernel) all0 hml (lenOf pd32 rfl) (D 125 rfl) ⟨rfl, rfl, rfl, rfl⟩ (fun T18 h18 v18 P18 Ws18 K18 q18 => ?_)
  have W18 := Ws18 [] all0
  obtain ⟨rfl, rfl⟩ := q18
  refine W18.pu hx D 128 [(0, false)] 6 139 [_, _, _, _, _, _] [_, .int 3, _, _, _, _] rfl ⟨trivial, (XT.i0_eq_f (by decide +kernel))⟩ ?_
  refine W18.kS hx hEL (B.h 242 rfl) (B.h 243 rfl) (B.h 2 rfl) (B.h 244 rfl) [(.ref rr), (.int (Int32.ofNat (ee))), (.long (posL (uu))), (.int (Int32.ofNat (nn))), (.int 3), (.ref b1)] [] (rm120 B rr cs ee b1 c1 uu nn 3 1000 h14 W18.old S16 hcs V14 hN (by first | omega | (simp only [LN]; omega)) (by first | omega | (simp only [LN]; omega)) ⟨by decide +kernel, by decide, by decide, rfl⟩ (hD 3)) all0 0 (by decide +kernel) all0 hml (lenOf pd32 rfl) (D 139 rfl) ⟨rfl, rfl, rfl, rfl⟩ (fun T19 h19 v19 P19 Ws19 K19 q19 => ?_)
  have W19 := Ws19 [] all0
  obtain ⟨rfl, rfl⟩ := q19
  refine W19.pu hx D 142 [(0, false)] 6 153 [_, _, _, _, _, _] [_, .int 4, _, _, _, _] rfl ⟨trivial, (XT.i0_eq_f (by decide +kernel))⟩ ?_
  refine W19.kS hx hEL (B.h 242 rfl) (B.h 243 rfl) (B.h 2 rfl) (B.h 244 rfl) [(.ref rr), (.int (Int32.ofNat (ee))), (.long (posL (uu))), (.int (Int32.ofNat (nn))), (.int 4), (.ref b1)] [] (rm120 B rr cs ee b1 c1 uu nn 4 10000 h14 W19.old S16 hcs V14 hN (by first | omega | (simp only [LN]; omega)) (by first | omega | (simp only [LN]; omega)) ⟨by decide +kernel, by decide, by decide, rfl⟩ (hD 4)) all0 0 (by decide +kernel) all0 hml (lenOf pd32 rfl) (D 153 rfl) ⟨rfl, rfl, rfl, rfl⟩ (fun T20 h20 v20 P20 Ws20 K20 q20 => ?_)
  have W20 := Ws20 [] all0
  obtain ⟨rfl, rfl⟩ := q20
  refine W20.pu hx D 156 [(0, false)] 6 167 [_, _, _, _, _, _] [_, .int 5, _, _, _, _] rfl ⟨trivial, (XT.i0_eq_f (by decide +kernel))⟩ ?_
  refine W20.kS hx hEL (B.h 242 rfl) (B.h 243 rfl) (B.h 2 rfl) (B.h 244 rfl) [(.ref rr), (.int (Int32.ofNat (ee))), (.long (posL (uu))), (.int (Int32.ofNat (nn))), (.int 5), (.ref b1)] [] (rm120 B rr cs ee b1 c1 uu nn 5 100000 h14 W20.old S16 hcs V14 hN (by first | omega | (simp only [LN]; omega)) (by first | omega | (simp only [LN]; omega)) ⟨by decide +kernel, by decide, by decide, rfl⟩ (hD 5)) all0 0 (by decide +kernel) all0 hml (lenOf pd32 rfl) (D 167 rfl) ⟨rfl, rfl, rfl, rfl⟩ (fun T21 h21 v21 P21 Ws21 K21 q21 => ?_)
  have W21 := Ws21 [] all0
  obtain ⟨rfl, rfl⟩ := q21
  refine W21.pu hx D 170 [(0, false)] 6 182 [_, _, _, _, _, _] [_, .int 6, _, _, _, _] rfl ⟨trivial, (XT.i0_eq_f (by decide +kernel))⟩ ?_
  refine W21.kS hx hEL (B.h 242 rfl) (B.h 243 rfl) (B.h 2 rfl) (B.h 244 rfl) [(.ref rr), (.int (Int32.ofNat (ee))), (.long (posL (uu))), (.int (Int32.ofNat (nn))), (.int 6), (.ref b1)] [] (rm120 B rr cs ee b1 c1 uu nn 6 1000000 h14 W21.old S16 hcs V14 hN (by first | omega | (simp only [LN]; omega)) (by first | omega | (simp only [LN]; omega)) ⟨by decide +kernel, by decide, by decide, rfl⟩ (hD 6)) all0 0 (by decide +kernel) all0 hml (lenOf pd32 rfl) (D 182 rfl) ⟨rfl, rfl, rfl, rfl⟩ (fun T22 h22 v22 P22 Ws22 K22 q22 => ?_)
  have W22 := Ws22 [] all0
  obtain ⟨rfl, rfl⟩ := q22
  refine W22.pu hx D 185 [(0, false)] 6 197 [_, _, _, _, _, _] [_, .int 7, _, _, _, _] rfl ⟨trivial, (XT.i0_eq_f (by decide +kernel))⟩ ?_
  refine W22.kS hx hEL (B.h 242 rfl) (B.h 243 rfl) (B.h 2 rfl) (B.h 244 rfl) [(.ref rr), (.int (Int32.ofNat (ee))), (.long (posL (uu))), (.int (Int32.ofNat (nn))), (.int 7), (.ref b1)] [] (rm120 B rr cs ee b1 c1 uu nn 7 10000000 h14 W22.old S16 hcs V14 hN (by first | omega | (simp only [LN]; omega)) (by first | omega | (simp only [LN]; omega)) ⟨by decide +kernel, by decide, by decide, rfl⟩ (hD 7)) all0 0 (by decide +kernel) all0 hml (lenOf pd32 rfl) (D 197 rfl) ⟨rfl, rfl, rfl, rfl⟩ (fun T23 h23 v23 P23 Ws23 K23 q23 => ?_)
  have W23 := Ws23 [] all0
  obtain ⟨rfl, rfl⟩ := q23
  refine W23.pu hx D 200 [(0, false)] 6 212 [_, _, _, _, _, _] [_, .int 8, _, _, _, _] rfl ⟨trivial, (XT.i0_eq_f (by decide +kernel))⟩ ?_
  refine W23.kS hx hEL (B.h 242 rfl) (B.h 243 rfl) (B.h 2 rfl) (B.h 244 rfl) [(.ref rr), (.int (Int32.ofNat (ee))), (.long (posL (uu))), (.int (Int32.ofNat (nn))), (.int 8), (.ref b1)] [] (rm120 B rr cs ee b1 c1 uu nn 8 100000000 h14 W23.old S16 hcs V14 hN (by first | omega | (simp only [LN]; omega)) (by first | omega | (simp only [LN]; omega)) ⟨by decide +kernel, by decide, by decide, rfl⟩ (hD 8)) all0 0 (by decide +kernel) all0 hml (lenOf pd32 rfl) (D 212 rfl) ⟨rfl, rfl, rfl, rfl⟩ (fun T24 h24 v24 P24 Ws24 K24 q24 => ?_)
  have W24 := Ws24 [] all0
  obtain ⟨rfl, rfl⟩ := q24
  refine W24.pu hx D 215 [(0, false)] 6 227 [_, _, _, _, _, _] [_, .int 9, _, _, _, _] rfl ⟨trivial, (XT.i0_eq_f (by decide +kernel))⟩ ?_
  refine W24.kS hx hEL (B.h 242 rfl) (B.h 243 rfl) (B.h 2 rfl) (B.h 244 rfl) [(.ref rr), (.int (Int32.ofNat (ee))), (.long (posL (uu))), (.int (Int32.ofNat (nn))), (.int 9), (.ref b1)] [] (rm120 B rr cs ee b1 c1 uu nn 9 1000000000 h14 W24.old S16 hcs V14 hN (by first | omega | (simp only [LN]; omega)) (by first | omega | (simp only [LN]; omega)) ⟨by decide +kernel, by decide, by decide, rfl⟩ (hD 9)) all0 0 (by decide +kernel) all0 hml (lenOf pd32 rfl) (D 227 rfl) ⟨rfl, rfl, rfl, rfl⟩ (fun T25 h25 v25 P25 Ws25 K25 q25 => ?_)
  have W25 := Ws25 [] all0
  obtain ⟨rfl, rfl⟩ := q25
  refine W25.pu hx D 230 [(0, false)] 6 242 [_, _, _, _, _, _] [_, .int 10, _, _, _, _] rfl ⟨trivial, (XT.i0_eq_f (by decide +kernel))⟩ ?_
  refine W25.kS hx hEL (B.h 242 rfl) (B.h 243 rfl) (B.h 2 rfl) (B.h 244 rfl) [(.ref rr), (.int (Int32.ofNat (ee))), (.long (posL (uu))), (.int (Int32.ofNat (nn))), (.int 10), (.ref b1)] [] (rm120 B rr cs ee b1 c1 uu nn 10 10000000000 h14 W25.old S16 hcs V14 hN (by first | omega | (simp only [LN]; omega)) (by first | omega | (simp only [LN]; omega)) ⟨by decide +kernel, by decide, by decide, rfl⟩ (hD 10)) all0 0 (by decide +kernel) all0 hml (lenOf pd32 rfl) (D 242 rfl) ⟨rfl, rfl, rfl, rfl⟩ (fun T26 h26 v26 P26 Ws26 K26 q26 => ?_)
  have W26 := Ws26 [] all0
  obtain ⟨rfl, rfl⟩ := q26
  refine W26.pu hx D 245 [(0, false)] 6 257 [_, _, _, _, _, _] [_, .int 11, _, _, _, _] rfl ⟨trivial, (XT.i0_eq_f (by decide +kernel))⟩ ?_
  refine W26.kS hx hEL (B.h 242 rfl) (B.h 243 rfl) (B.h 2 rfl) (B.h 244 rfl) [(.ref rr), (.int (Int32.ofNat (ee))), (.long (posL (uu))), (.int (Int32.ofNat (nn))), (.int 11), (.ref b1)] [] (rm120 B rr cs ee b1 c1 uu nn 11 100000000000 h14 W26.old S16 hcs V14 hN (by first | omega | (simp only [LN]; omega)) (by first | omega | (simp only [LN]; omega)) ⟨by decide +kernel, by decide, by decide, rfl⟩ (hD 11)) all0 0 (by decide +kernel) all0 hml (lenOf pd32 rfl) (D 257 rfl) ⟨rfl, rfl, rfl, rfl⟩ (fun T27 h27 v27 P27 Ws27 K27 q27 => ?_)
  have W27 := Ws27 [] all0
  obtain ⟨rfl, rfl⟩ := q27
  refine W27.pu hx D 260 [(0, false)] 6 272 [_, _, _, _, _, _] [_, .int 12, _, _, _, _] rfl ⟨trivial, (XT.i0_eq_f (by decide +kernel))⟩ ?_
  refine W27.kS hx hEL (B.h 242 rfl) (B.h 243 rfl) (B.h 2 rfl) (B.h 244 rfl) [(.ref rr), (.int (Int32.ofNat (ee))), (.long (posL (uu))), (.int (Int32.ofNat (nn))), (.int 12), (.ref b1)] [] (rm120 B rr cs ee b1 c1 uu nn 12 1000000000000 h14 W27.old S16 hcs V14 hN (by first | omega | (simp only [LN]; omega)) (by first | omega | (simp only [LN]; omega)) ⟨by decide +kernel, by decide, by decide, rfl⟩ (hD 12)) all0 0 (by decide +kernel) all0 hml (lenOf pd32 rfl) (D 272 rfl) ⟨rfl, rfl, rfl, rfl⟩ (fun T28 h28 v28 P28 Ws28 K28 q28 => ?_)
  have W28 := Ws28 [] all0
  obtain ⟨rfl, rfl⟩ := q28
  refine W28.pu hx D 275 [(0, false)] 2 283 [_, _, _, _, _, _] [.int 1] rfl ⟨trivial, (XT.i0_eq_f (by decide +kernel))⟩ ?_
  exact W28.retI hx hEL hs hlk (by decide +kernel) (by decide +kernel) hret (by simp) rfl (D 283 rfl) (fun S hS => rfl)
theorem ef0 (m : MethodId) (x0 x1 : Int32) (x2 : Int64) (x3 : Int32)  : entryFrame m #[(.int x0), (.int x1), (.long x2), (.int x3)] maxLocals = mkF m 0 #[vi x0, vi x1, .val (.long x2), S0, vi x3, U0, U0, U0, U0, U0, U0, U0, U0, U0, U0, U0, U0, U0, U0, U0, U0, U0, U0, U0, U0] [] := by first | (simp [entryFrame, mkF, argsToLocals, Value.category, maxLocals]; done) | rfl | rfl
set_option maxRecDepth 65536 in
set_option maxHeartbeats 40000000 in
theorem rm0 (B : EV l Z a0 zc fm) (i0 i1 : Int32) (i2 : Int64) (i3 : Int32) (ns don dtn : Addr) (ko kt : ClassId) (h0 : Heap) {n0 : Nat} (O0 : Old Z n0 h0) (OT : Sta Z Z.heap "java/util/concurrent/TimeUnit" "NANOSECONDS" "Ljava/util/concurrent/TimeUnit;" (.ref ns)) (OTE : Exa Z Z.heap ns "java/util/concurrent/TimeUnit") (OTS : Fld Z Z.heap ns "java/util/concurrent/TimeUnit" "scale" "J" (.long 1)) (OTM : Fld Z Z.heap ns "java/util/concurrent/TimeUnit" "milliRatio" "I" (.int 1000000)) (OSo : Sta Z Z.heap "java/lang/Integer" "DigitOnes" "[B" (.ref don)) (OSt : Sta Z Z.heap "java/lang/Integer" "DigitTens" "[B" (.ref dtn)) (OAo : Arv Z Z.heap don ko .byte (100 : Int32) onesL (.int 0)) (OAt : Arv Z Z.heap dtn kt .byte (100 : Int32) tensL (.int 0)) :
    Met l Z EL0 n0 x code maxLocals ret tables_1 room_1 #[(.int i0), (.int i1), (.long i2), (.int i3)] h0 [] [] (fun v h' S => v = some (.int 1)) := by
  obtain ⟨hw, hEL, SC, hzc, SF, rfm⟩ := id B
  refine Met.of (plainFor_of_name pn8) O0 ?_
  intro p e s m below meth c T0 hx hby hml hret hlk hnm hs W0
  have W0 : Wk p l e _ s m _ below meth c Z EL0 n0 [] "com/example/sem1/sem1/store/StoreFailuresUnansweredPinLaw" [] T0 0 0 h0 := W0
  have D := @tk c _ _ hby Kq43
  have hln := fun d hd => hw d (ln_in d hd)
  have hch := fun d hd => hw d (ch_in d hd)
  refine Go.of (fun _ kk => castTop (ef0 m i0 i1 i2 i3) kk) ?_
  show Go p e below _ (T0.setTop (mkF m 0 #[vi i0, vi i1, .val (.long i2), S0, vi i3, U0, U0, U0, U0, U0, U0, U0, U0, U0, U0, U0, U0, U0, U0, U0, U0, U0, U0, U0, U0] []))
  rcases split64 _ (div6 i2) with ⟨uu, hu, hm⟩ | ⟨uu, hu0, hu, hm⟩
  · obtain ⟨nn, hN, hn1, hn2⟩ := ndEx uu hu
    have hu : 0 ≤ uu ∧ uu ≤ 9223372036854 ∧ 1 ≤ nn ∧ nn ≤ 13 := by omega
    refine W0.pv hx D 0 4 6 [_, _, _, _, _, _, _, _, _, _, _, _, _, _, _, _, _, _, _, _, _, _, _, _, _] [.int ((i0 &&& (255 : Int32)).toUInt32.toUInt16.toUInt32.toInt32)] rfl ?_
    obtain ⟨q1, hq1, cq1, zq1⟩ := char255 i0
    rw [hq1]
    refine W0.pv hx D 6 7 17 [_, _, _, _, _, _, _, _, _, _, _, _, _, _, _, _, _, _, _, _, _, _, _, _, _] [.int ((((i0.toUInt32 >>> ((8 : Int32) &&& 31).toUInt32).toInt32) &&& (255 : Int32)).toUInt32.toUInt16.toUInt32.toInt32)] rfl ?_
    obtain ⟨q2, hq2, cq2, zq2⟩ := char255 ((i0.toUInt32 >>> ((8 : Int32) &&& 31).toUInt32).toInt32)
    rw [hq2]
    refine W0.pv hx D 17 5 25 [_, _, _, _, _, _, _, _, _, _, _, _, _, _, _, _, _, _, _, _, _, _, _, _, _] [.int ((i1 &&& (255 : Int32)).toUInt32.toUInt16.toUInt32.toInt32)] rfl ?_
    obtain ⟨q3, hq3, cq3, zq3⟩ := char255 i1
    rw [hq3]
    refine W0.pv hx D 25 7 36 [_, _, _, _, _, _, _, _, _, _, _, _, _, _, _, _, _, _, _, _, _, _, _, _, _] [.int ((((i1.toUInt32 >>> ((8 : Int32) &&& 31).toUInt32).toInt32) &&& (255 : Int32)).toUInt32.toUInt16.toUInt32.toInt32)] rfl ?_
    obtain ⟨q4, hq4, cq4, zq4⟩ := char255 ((i1.toUInt32 >>> ((8 : Int32) &&& 31).toUInt32).toInt32)
    rw [hq4]
    refine W0.pv hx D 36 5 43 [_, _, _, _, _, _, _, _, _, _, _, _, _, _, _, _, _, _, _, _, _, _, _, _, _] [.int 3, .int (i3 &&& (3 : Int32))] rfl ?_
    refine gof T0 m 44 #[vi i0, vi i1, .val (.long i2), S0, vi i3, vi q1, vi q2, vi q3, vi q4, U0, U0, U0, U0, U0, U0, U0, U0, U0, U0, U0, U0, U0, U0, U0, U0] [(.int ((i3 &&& (3 : Int32)) % (3 : Int32)))] (fun _ kk => XS.irem W0.here hx rfl (D 43 rfl) rfl (by decide +kernel) (by rw [irem_eq_mod]; exact kk)) ?_
    obtain ⟨nl5, hl5, el5⟩ := rem3N i3
    rw [el5]
    refine W0.pv hx D 44 7 53 [_, _, _, _, _, _, _, _, _, _, _, _, _, _, _, _, _, _, _, _, _, _, _, _, _] [.int 3, .int (((i3.toUInt32 >>> ((2 : Int32) &&& 31).toUInt32).toInt32) &&& (3 : Int32))] rfl ?_
    refine gof T0 m 54 #[vi i0, vi i1, .val (.long i2), S0, vi i3, vi q1, vi q2, vi q3, vi q4, vi (Int32.ofNat (nl5)), U0, U0, U0, U0, U0, U0, U0, U0, U0, U0, U0, U0, U0, U0, U0] [(.int ((((i3.toUInt32 >>> ((2 : Int32) &&& 31).toUInt32).toInt32) &&& (3 : Int32)) % (3 : Int32)))] (fun _ kk => XS.irem W0.here hx rfl (D 53 rfl) rfl (by decide +kernel) (by rw [irem_eq_mod]; exact kk)) ?_
    obtain ⟨nl6, hl6, el6⟩ := rem3N ((i3.toUInt32 >>> ((2 : Int32) &&& 31).toUInt32).toInt32)
    rw [el6]
    refine W0.pv hx D 54 6 62 [_, _, _, _, _, _, _, _, _, _, _, _, _, _, _, _, _, _, _, _, _, _, _, _, _] [.int (((i3.toUInt32 >>> ((4 : Int32) &&& 31).toUInt32).toInt32) &&& (1 : Int32))] rfl ?_
    by_cases c7 : (((i3.toUInt32 >>> ((4 : Int32) &&& 31).toUInt32).toInt32) &&& (1 : Int32)) = (0 : Int32)
    · refine W0.pu hx D 62 [(0, true)] 5 78 [_, _, _, _, _, _, _, _, _, _, _, vi 0, _, _, _, _, _, _, _, _, _, _, _, _, _] [_, _, _] rfl ⟨trivial, (XT.i0_eq_t c7)⟩ ?_
      refine W0.kS hx hEL (B.h 0 rfl) (B.h 1 rfl) (B.h 2 rfl) (B.h 3 rfl) [(.int (Int32.ofNat (nl5))), (.int q1), (.int q2)] [] (rm110 B q1 q2 nl5 h0 W0.old (by first | omega | (simp only [LN]; omega)) cq1 cq2) all0 0 (by decide +kernel) all0 hml (lenOf pd33 rfl) (D 78 rfl) ⟨rfl, rfl, rfl, rfl⟩ (fun T8 h8 v8 P8 Ws8 K8 q8 => ?_)
      have W8 := Ws8 [] all0
      obtain ⟨r8, rfl, lr8, S8⟩ := q8
      have gr8 : n0 ≤ r8 ∧ s.heap.size ≤ r8 := ⟨Nat.le_trans W0.n0le lr8, Nat.le_trans W0.s0le lr8⟩
      obtain ⟨xl8, exl8⟩ : ∃ z, z = List.take nl5 [q1, q2] := ⟨_, rfl⟩
      rw [← exl8] at S8
      have hxl8 : ∀ c ∈ xl8, ¬ c < 0 ∧ ¬ (255 : Int32) < c := by rw [exl8]; exact bTake _ (allSi cq1 (allSi cq2 all0i))
      have lxl8 : xl8.length = nl5 := by rw [exl8]; simp only [List.length_take, List.length_cons, List.length_nil]; omega
      have E8 := S8.exa
      refine W8.pu hx D 81 [(2, true)] 5 108 [_, _, _, _, _, _, _, _, _, _, _, _, _, vN, _, _, _, _, _, _, _, _, _, _, _] [.null, _, _] rfl ⟨trivial, (XT.i0_eq_t (by decide +kernel))⟩ ?_
      refine W8.kS hx hEL (B.h 26 rfl) (B.h 27 rfl) (B.h 28 rfl) (B.h 29 rfl) [(.ref r8), (.long i2), .null] [] (rm111 B r8 i2 xl8 ns don dtn ko kt uu nn h8 W8.old S8 hxl8 OT OTE OTS OTM OSo OSt OAo OAt hN hu hm (by first | omega | (simp only [LN]; omega))) all0 0 (by decide +kernel) all0 hml (lenOf pd34 rfl) (D 108 rfl) ⟨rfl, rfl, rfl, rfl⟩ (fun T9 h9 v9 P9 Ws9 K9 q9 => ?_)
      have W9 := Ws9 [] all0
      obtain ⟨r9, rfl, lr9, S9⟩ := q9
      have gr9 : n0 ≤ r9 ∧ s.heap.size ≤ r9 := ⟨Nat.le_trans W8.n0le lr9, Nat.le_trans W8.s0le lr9⟩
      have E9 := S9.exa
      obtain ⟨cs, ecs⟩ : ∃ z, z = ((xl8 ++ [(32 : Int32), 100, 105, 100, 32, 110, 111, 116, 32, 97, 110, 115, 119, 101, 114, 32, 119, 105, 116, 104, 105, 110, 32]) ++ (dgl uu nn)) ++ [(32 : Int32), 109, 115] := ⟨_, rfl⟩
      rw [← ecs] at S9
      have hcs : ∀ c ∈ cs, ¬ c < 0 ∧ ¬ (255 : Int32) < c := by rw [ecs]; exact (bApp (bApp (bApp hxl8 (lat8 (by decide +kernel))) (dgl_b uu nn)) (lat8 (by decide +kernel)))
      have lcs : cs.length = xl8.length + 23 + (nn) + 3 := by rw [ecs]; simp only [List.length_append, List.length_cons, List.length_nil, dgl_len]
      have hA0 : ∀ j, j < xl8.length → cs.getD (0 + j) 0 = List.getD xl8 j 0 := fun j hj => by have q : cs = ([] : List Int32) ++ xl8 ++ ([(32 : Int32), 100, 105, 100, 32, 110, 111, 116, 32, 97, 110, 115, 119, 101, 114, 32, 119, 105, 116, 104, 105, 110, 32] ++ ((dgl uu nn) ++ ([(32 : Int32), 109, 115]))) := (by rw [ecs] <;> simp only [List.append_assoc, List.append_nil, List.nil_append, List.cons_append]); rw [q, show 0 + j = List.length ([] : List Int32) + j from by first | rfl | omega | (simp only [List.length_append, List.length_cons, List.length_nil, dgl_len]; try omega)]; exact gmid (by first | omega | (simp only [List.length_cons, List.length_nil, dgl_len]; omega))
      have hA : ∀ j, j < xl8.length → cs.getD j 0 = List.getD [q1, q2] j 0 := fun j hj => by have q := hA0 j hj; rw [Nat.zero_add] at q; rw [q, exl8]; exact getTake (by omega)
      have hWn : ∀ j, j < 23 → cs.getD (xl8.length + j) 0 = List.getD [(32 : Int32), 100, 105, 100, 32, 110, 111, 116, 32, 97, 110, 115, 119, 101, 114, 32, 119, 105, 116, 104, 105, 110, 32] j 0 := fun j hj => by have q : cs = xl8 ++ [(32 : Int32), 100, 105, 100, 32, 110, 111, 116, 32, 97, 110, 115, 119, 101, 114, 32, 119, 105, 116, 104, 105, 110, 32] ++ ((dgl uu nn) ++ ([(32 : Int32), 109, 115])) := (by rw [ecs] <;> simp only [List.append_assoc, List.append_nil, List.nil_append, List.cons_append]); rw [q, show xl8.length + j = List.length xl8 + j from by first | rfl | omega | (simp only [List.length_append, List.length_cons, List.length_nil, dgl_len]; try omega)]; exact gmid (by first | omega | (simp only [List.length_cons, List.length_nil, dgl_len]; omega))
      have hDl : ∀ j, j < nn → cs.getD (xl8.length + 23 + j) 0 = List.getD (dgl uu nn) j 0 := fun j hj => by have q : cs = (xl8 ++ [(32 : Int32), 100, 105, 100, 32, 110, 111, 116, 32, 97, 110, 115, 119, 101, 114, 32, 119, 105, 116, 104, 105, 110, 32]) ++ (dgl uu nn) ++ ([(32 : Int32), 109, 115]) := (by rw [ecs] <;> simp only [List.append_assoc, List.append_nil, List.nil_append, List.cons_append]); rw [q, show xl8.length + 23 + j = List.length (xl8 ++ [(32 : Int32), 100, 105, 100, 32, 110, 111, 116, 32, 97, 110, 115, 119, 101, 114, 32, 119, 105, 116, 104, 105, 110, 32]) + j from by first | rfl | omega | (simp only [List.length_append, List.length_cons, List.length_nil, dgl_len]; try omega)]; exact gmid (by first | omega | (simp only [List.length_cons, List.length_nil, dgl_len]; omega))
      have hDn : ∀ k, k < nn → cs.getD (xl8.length + 23 + nn - 1 - k) 0 = Int32.ofNat (48 + uu / 10 ^ k % 10) := fun k hk => by rw [show xl8.length + 23 + nn - 1 - k = xl8.length + 23 + (nn - 1 - k) from by omega, hDl _ (by omega)]; exact dgl_at uu nn k hk
      have hMs : ∀ j, j < 3 → cs.getD (xl8.length + 23 + nn + j) 0 = List.getD [(32 : Int32), 109, 115] j 0 := fun j hj => by have q : cs = ((xl8 ++ [(32 : Int32), 100, 105, 100, 32, 110, 111, 116, 32, 97, 110, 115, 119, 101, 114, 32, 119, 105, 116, 104, 105, 110, 32]) ++ dgl uu nn) ++ [(32 : Int32), 109, 115] ++ ([]) := (by rw [ecs] <;> simp only [List.append_assoc, List.append_nil, List.nil_append, List.cons_append]); rw [q, show xl8.length + 23 + nn + j = List.length ((xl8 ++ [(32 : Int32), 100, 105, 100, 32, 110, 111, 116, 32, 97, 110, 115, 119, 101, 114, 32, 119, 105, 116, 104, 105, 110, 32]) ++ dgl uu nn) + j from by first | rfl | omega | (simp only [List.length_append, List.length_cons, List.length_nil, dgl_len]; try omega)]; exact gmid (by first | omega | (simp only [List.length_cons, List.length_nil, dgl_len]; omega))
      refine W9.pv hx D 111 2 114 [_, _, _, _, _, _, _, _, _, _, _, _, _, _, _, _, _, _, _, _, _, _, _, _, _] [_] rfl ?_
      refine W9.ldcJ hx (B.h 193 rfl) rfl (D 114 rfl) ?_
      refine gof T9 m 118 #[vi i0, vi i1, .val (.long i2), S0, vi i3, vi q1, vi q2, vi q3, vi q4, vi (Int32.ofNat (nl5)), vi (Int32.ofNat (nl6)), vi 0, vr r8, vN, vr r9, U0, U0, U0, U0, U0, U0, U0, U0, U0, U0] [(.long (posL (uu)))] (fun _ kk => XS.ldiv W9.here hx rfl (D 117 rfl) rfl (by decide +kernel) (by rw [hm]; exact kk)) ?_
      refine W9.pu hx D 118 [(4, true), (3, true)] 3 151 [_, _, _, _, _, _, _, _, _, _, _, _, _, _, _, _, S0, vi 0, _, S0, _, _, _, _, _] [_] rfl ⟨⟨trivial, (XT.ll_ge_t (nltLP (a := uu) (b := 0) (by omega)))⟩, (XT.i0_eq_t (by decide +kernel))⟩ ?_
      refine W9.kS hx hEL (B.h 194 rfl) (B.h 195 rfl) (B.h 2 rfl) (B.h 196 rfl) [(.long (posL (uu)))] [] (rm115 B uu nn h9 W9.old hN (by first | omega | (simp only [LN]; omega))) all0 0 (by decide +kernel) all0 hml (lenOf pd21 rfl) (D 151 rfl) ⟨rfl, rfl, rfl, rfl⟩ (fun T10 h10 v10 P10 Ws10 K10 q10 => ?_)
      have W10 := Ws10 [] all0
      obtain ⟨rfl, rfl⟩ := q10
      have ea11 : ((Int32.ofNat (nl5)) + (23 : Int32)) = (Int32.ofNat (nl5 + 23)) := (addN (nl5) (23)).trans (congrArg Int32.ofNat (by omega))
      have ea12 : ((Int32.ofNat (nl5 + 23)) + (Int32.ofNat (nn))) = (Int32.ofNat (nl5 + 23 + nn)) := (addN (nl5 + 23) (nn)).trans (congrArg Int32.ofNat (by omega))
      refine W10.pv hx D 154 9 170 [_, _, _, _, _, _, _, _, _, _, _, _, _, _, _, _, _, _, _, _, _, vi (Int32.ofNat (nl5 + 23)), _, _, _] [.int 0, .int (Int32.ofNat (nl5 + 23 + nn))] (by rw [← ea12, ← ea11]; rfl) ?_
      have ea13 : ((Int32.ofNat (nl5 + 23 + nn)) + (0 : Int32)) = (Int32.ofNat (nl5 + 23 + nn + 0)) := (addN (nl5 + 23 + nn) (0)).trans (congrArg Int32.ofNat (by omega))
      refine W10.pu hx D 170 [(0, true)] 1 178 [_, _, _, _, _, _, _, _, _, _, _, _, _, _, _, _, _, _, _, _, _, _, _, _, _] [.int 0, _] rfl ⟨trivial, (XT.i0_eq_t (by decide +kernel))⟩ ?_
      have ea14 : ((Int32.ofNat (nl5 + 23 + nn + 0)) + (3 : Int32)) = (Int32.ofNat (nl5 + 23 + nn + 0 + 3)) := (addN (nl5 + 23 + nn + 0) (3)).trans (congrArg Int32.ofNat (by omega))
      refine W10.pv hx D 178 7 189 [_, _, _, _, _, _, _, _, _, _, _, _, _, _, _, _, _, _, _, _, _, _, vi (Int32.ofNat (nl5 + 23 + nn + 0)), vi (Int32.ofNat (nl5 + 23 + nn + 0 + 3)), _] [.int 0] (by rw [← ea14, ← ea13]; rfl) ?_
      refine W10.pu hx D 189 [(0, true)] 5 213 [_, _, _, _, _, _, _, _, _, _, _, _, _, _, _, _, _, _, _, _, _, _, _, _, _] [_] rfl ⟨trivial, (XT.i0_eq_t (by decide +kernel))⟩ ?_
      refine W10.strLen hx hln (B.h 5 rfl) SC hzc S9 (B.h 208 rfl) (B.h 59 rfl) (B.h 61 rfl) (B.h 60 rfl) (by decide +kernel) (Wd := 0) (by decide +kernel) (by decide +kernel) (by decide +kernel) rfl (by rw [hml]; rfl) rfl (by show 2 * 0 + _ ≤ _; exact Nat.le_of_eq rfl) (D 213 rfl) (fun T15 W15 => ?_)
      show Go p e below _ (T15.setTop (mkF m 216 #[vi i0, vi i1, .val (.long i2), S0, vi i3, vi q1, vi q2, vi q3, vi q4, vi (Int32.ofNat (nl5)), vi (Int32.ofNat (nl6)), vi 0, vr r8, vN, vr r9, .val (.long (posL (uu))), S0, vi 0, .val (.long (posL (uu))), S0, vi (Int32.ofNat (nn)), vi (Int32.ofNat (nl5 + 23)), vi (Int32.ofNat (nl5 + 23 + nn + 0)), vi (Int32.ofNat (nl5 + 23 + nn + 0 + 3)), vi (Int32.ofNat (nl5 + 23 + nn + 0 + 3))] [(.int (Int32.ofNat (cs.length)))]))
      refine W15.pu hx D 216 [(1, true)] 0 223 [_, _, _, _, _, _, _, _, _, _, _, _, _, _, _, _, _, _, _, _, _, _, _, _, _] [] rfl ⟨trivial, (XT.ii_eq_t (eqN (a := cs.length) (b := nl5 + 23 + nn + 0 + 3) (by first | omega | (simp only [LN]; omega))))⟩ ?_
      have tl : ∀ Tt : State, Wk p l e room_1 s m #[(.int i0), (.int i1), (.long i2), (.int i3)] below meth c Z EL0 n0 [] "com/example/sem1/sem1/store/StoreFailuresUnansweredPinLaw" [] Tt 18 608 h9 → Go p e below (Fend Z EL0 n0 s h0 [] (fun v h' S => v = some (.int 1)) room_1) (Tt.setTop (mkF m 261 #[vi i0, vi i1, .val (.long i2), S0, vi i3, vi q1, vi q2, vi q3, vi q4, vi (Int32.ofNat (nl5)), vi (Int32.ofNat (nl6)), vi 0, vr r8, vN, vr r9, .val (.long (posL (uu))), S0, vi 0, .val (.long (posL (uu))), S0, vi (Int32.ofNat (nn)), vi (Int32.ofNat (nl5 + 23)), vi (Int32.ofNat (nl5 + 23 + nn + 0)), vi (Int32.ofNat (nl5 + 23 + nn + 0 + 3)), vi (Int32.ofNat (nl5 + 23 + nn + 0 + 3))] [])) := by
        intro Tt Wt
        refine Wt.pv hx D 261 2 265 [_, _, _, _, _, _, _, _, _, _, _, _, _, _, _, _, _, _, _, _, _, _, _, _, _] [_, _] rfl ?_
        refine Wt.kS hx hEL (B.h 209 rfl) (B.h 210 rfl) (B.h 2 rfl) (B.h 211 rfl) [(.ref r9), (.int (Int32.ofNat (nl5)))] [] (rm117 B r9 cs nl5 h9 Wt.old S9 hcs (by first | omega | (simp only [LN]; omega)) (fun i hi => (congrArg (fun z => cs.getD (z + i) 0) (show nl5 = xl8.length from by omega)).trans (hWn i hi))) all0 0 (by decide +kernel) all0 hml (lenOf pd35 rfl) (D 265 rfl) ⟨rfl, rfl, rfl, rfl⟩ (fun T16 h16 v16 P16 Ws16 K16 q16 => ?_)
        have W16 := Ws16 [] all0
        obtain rfl := q16
        have k18 := (S9.keep0 K16)
        refine W16.pu hx D 268 [(0, true), (1, true)] 4 300 [_, _, _, _, _, _, _, _, _, _, _, _, _, _, _, _, _, _, _, _, _, _, _, _, _] [_, _, _, _] rfl ⟨⟨trivial, (XT.i0_ne_t (by decide +kernel))⟩, (XT.i0_eq_t (by decide +kernel))⟩ ?_
        refine W16.kS hx hEL (B.h 238 rfl) (B.h 239 rfl) (B.h 2 rfl) (B.h 240 rfl) [(.ref r9), (.int (Int32.ofNat (nl5 + 23 + nn + 0))), (.long (posL (uu))), (.int (Int32.ofNat (nn)))] [] (rm140 B r9 cs (nl5 + 23 + nn + 0) uu nn h16 W16.old k18 hcs hN (by first | omega | (simp only [LN]; omega)) (by first | omega | (simp only [LN]; omega)) (fun k hk => (congrArg (fun z => cs.getD (z - 1 - k) 0) (show nl5 + 23 + nn + 0 = xl8.length + 23 + nn from by omega)).trans (hDn k hk))) all0 0 (by decide +kernel) all0 hml (lenOf pd36 rfl) (D 300 rfl) ⟨rfl, rfl, rfl, rfl⟩ (fun T17 h17 v17 P17 Ws17 K17 q17 => ?_)
        have W17 := Ws17 [] all0
        obtain rfl := q17
        have k20 := (k18.keep0 K17)
        refine W17.pu hx D 303 [(0, true)] 2 312 [_, _, _, _, _, _, _, _, _, _, _, _, _, _, _, _, _, _, _, _, _, _, _, _, _] [_, _] rfl ⟨trivial, (XT.i0_ne_t (by decide +kernel))⟩ ?_
        refine W17.kC hx hch (B.h 5 rfl) SC hzc SF rfm (B.h 216 rfl) (B.h 217 rfl) (B.h 219 rfl) (B.h 218 rfl) hml k20 (snd255 hcs) (nl5 + 23 + nn + 0) (by first | omega | (simp only [LN]; omega)) 0 (by decide +kernel) (D 312 rfl) ⟨rfl, rfl, rfl, rfl, rfl⟩ (fun T19 W19 => ?_)
        have ea21 : ((Int32.ofNat (nl5 + 23 + nn + 0)) + (1 : Int32)) = (Int32.ofNat (nl5 + 23 + nn + 0 + 1)) := (addN (nl5 + 23 + nn + 0) (1)).trans (congrArg Int32.ofNat (by omega))
        refine W19.pu hx D 315 [(1, false)] 3 325 [_, _, _, _, _, _, _, _, _, _, _, _, _, _, _, _, _, _, _, _, _, _, _, _, _] [.int 1, _, _] rfl ⟨trivial, (XT.ii_ne_f ((congrArg (fun z => cs.getD z 0) (show nl5 + 23 + nn + 0 = xl8.length + 23 + nn + 0 from by omega)).trans (hMs 0 (by omega))))⟩ ?_
        refine W19.pv hx D 325 1 326 [_, _, _, _, _, _, _, _, _, _, _, _, _, _, _, _, _, _, _, _, _, _, _, _, _] [.int (Int32.ofNat (nl5 + 23 + nn + 0 + 1)), _] (by rw [← ea21]; rfl) ?_
        refine W19.kC hx hch (B.h 5 rfl) SC hzc SF rfm (B.h 216 rfl) (B.h 217 rfl) (B.h 219 rfl) (B.h 218 rfl) hml k20 (snd255 hcs) (nl5 + 23 + nn + 0 + 1) (by first | omega | (simp only [LN]; omega)) 0 (by decide +kernel) (D 326 rfl) ⟨rfl, rfl, rfl, rfl, rfl⟩ (fun T22 W22 => ?_)
        have ea23 : ((Int32.ofNat (nl5 + 23 + nn + 0)) + (2 : Int32)) = (Int32.ofNat (nl5 + 23 + nn + 0 + 2)) := (addN (nl5 + 23 + nn + 0) (2)).trans (congrArg Int32.ofNat (by omega))
        refine W22.pu hx D 329 [(1, false)] 3 339 [_, _, _, _, _, _, _, _, _, _, _, _, _, _, _, _, _, _, _, _, _, _, _, _, _] [.int 2, _, _] rfl ⟨trivial, (XT.ii_ne_f ((congrArg (fun z => cs.getD z 0) (show nl5 + 23 + nn + 0 + 1 = xl8.length + 23 + nn + 1 from by omega)).trans (hMs 1 (by omega))))⟩ ?_
        refine W22.pv hx D 339 1 340 [_, _, _, _, _, _, _, _, _, _, _, _, _, _, _, _, _, _, _, _, _, _, _, _, _] [.int (Int32.ofNat (nl5 + 23 + nn + 0 + 2)), _] (by rw [← ea23]; rfl) ?_
        refine W22.kC hx hch (B.h 5 rfl) SC hzc SF rfm (B.h 216 rfl) (B.h 217 rfl) (B.h 219 rfl) (B.h 218 rfl) hml k20 (snd255 hcs) (nl5 + 23 + nn + 0 + 2) (by first | omega | (simp only [LN]; omega)) 0 (by decide +kernel) (D 340 rfl) ⟨rfl, rfl, rfl, rfl, rfl⟩ (fun T24 W24 => ?_)
        refine W24.pu hx D 343 [(1, true), (1, true)] 1 428 [_, _, _, _, _, _, _, _, _, _, _, _, _, _, _, _, _, _, _, _, _, _, _, _, _] [.int 1] rfl ⟨⟨trivial, (XT.ii_eq_t ((congrArg (fun z => cs.getD z 0) (show nl5 + 23 + nn + 0 + 2 = xl8.length + 23 + nn + 2 from by omega)).trans (hMs 2 (by omega))))⟩, (XT.i0_eq_t (by decide +kernel))⟩ ?_
        exact W24.retI hx hEL hs hlk (by decide +kernel) (by decide +kernel) hret (by simp) rfl (D 428 rfl) (fun S hS => rfl)
      refine W15.pv hx D 223 2 226 [_, _, _, _, _, _, _, _, _, _, _, _, _, _, _, _, _, _, _, _, _, _, _, _, _] [.int 1, _] rfl ?_
      by_cases c25 : nl5 < 1
      · refine W15.pu hx D 226 [(0, true)] 2 245 [_, _, _, _, _, _, _, _, _, _, _, _, _, _, _, _, _, _, _, _, _, _, _, _, _] [.int 2, _] rfl ⟨trivial, (XT.ii_lt_t (ltN (a := nl5) (b := 1) (by first | omega | (simp only [LN]; omega))))⟩ ?_
        by_cases c26 : nl5 < 2
        · refine W15.pu hx D 245 [(0, true)] 0 261 [_, _, _, _, _, _, _, _, _, _, _, _, _, _, _, _, _, _, _, _, _, _, _, _, _] [] rfl ⟨trivial, (XT.ii_lt_t (ltN (a := nl5) (b := 2) (by first | omega | (simp only [LN]; omega))))⟩ ?_
          exact tl _ W15
        · refine W15.pu hx D 245 [(0, false)] 2 251 [_, _, _, _, _, _, _, _, _, _, _, _, _, _, _, _, _, _, _, _, _, _, _, _, _] [.int 1, _] rfl ⟨trivial, (XT.ii_lt_f (nltN (a := nl5) (b := 2) (by first | omega | (simp only [LN]; omega))))⟩ ?_
          refine W15.kC hx hch (B.h 5 rfl) SC hzc SF rfm (B.h 216 rfl) (B.h 217 rfl) (B.h 219 rfl) (B.h 218 rfl) hml S9 (snd255 hcs) (1) (by first | omega | (simp only [LN]; omega)) 0 (by decide +kernel) (D 251 rfl) ⟨rfl, rfl, rfl, rfl, rfl⟩ (fun T27 W27 => ?_)
          refine W27.pu hx D 254 [(1, true)] 0 261 [_, _, _, _, _, _, _, _, _, _, _, _, _, _, _, _, _, _, _, _, _, _, _, _, _] [] rfl ⟨trivial, (XT.ii_eq_t ((congrArg (fun z => cs.getD z 0) (show 1 = 1 from by omega)).trans (hA 1 (by omega))))⟩ ?_
          exact tl _ W27
      · refine W15.pu hx D 226 [(0, false)] 2 232 [_, _, _, _, _, _, _, _, _, _, _, _, _, _, _, _, _, _, _, _, _, _, _, _, _] [.int 0, _] rfl ⟨trivial, (XT.ii_lt_f (nltN (a := nl5) (b := 1) (by first | omega | (simp only [LN]; omega))))⟩ ?_
        refine W15.kC hx hch (B.h 5 rfl) SC hzc SF rfm (B.h 216 rfl) (B.h 217 rfl) (B.h 219 rfl) (B.h 218 rfl) hml S9 (snd255 hcs) (0) (by first | omega | (simp only [LN]; omega)) 0 (by decide +kernel) (D 232 rfl) ⟨rfl, rfl, rfl, rfl, rfl⟩ (fun T28 W28 => ?_)
        refine W28.pu hx D 235 [(1, true)] 2 245 [_, _, _, _, _, _, _, _, _, _, _, _, _, _, _, _, _, _, _, _, _, _, _, _, _] [.int 2, _] rfl ⟨trivial, (XT.ii_eq_t ((congrArg (fun z => cs.getD z 0) (show 0 = 0 from by omega)).trans (hA 0 (by omega))))⟩ ?_
        by_cases c29 : nl5 < 2
        · refine W28.pu hx D 245 [(0, true)] 0 261 [_, _, _, _, _, _, _, _, _, _, _, _, _, _, _, _, _, _, _, _, _, _, _, _, _] [] rfl ⟨trivial, (XT.ii_lt_t (ltN (a := nl5) (b := 2) (by first | omega | (simp only [LN]; omega))))⟩ ?_
          exact tl _ W28
        · refine W28.pu hx D 245 [(0, false)] 2 251 [_, _, _, _, _, _, _, _, _, _, _, _, _, _, _, _, _, _, _, _, _, _, _, _, _] [.int 1, _] rfl ⟨trivial, (XT.ii_lt_f (nltN (a := nl5) (b := 2) (by first | omega | (simp only [LN]; omega))))⟩ ?_
          refine W28.kC hx hch (B.h 5 rfl) SC hzc SF rfm (B.h 216 rfl) (B.h 217 rfl) (B.h 219 rfl) (B.h 218 rfl) hml S9 (snd255 hcs) (1) (by first | omega | (simp only [LN]; omega)) 0 (by decide +kernel) (D 251 rfl) ⟨rfl, rfl, rfl, rfl, rfl⟩ (fun T30 W30 => ?_)
          refine W30.pu hx D 254 [(1, true)] 0 261 [_, _, _, _, _, _, _, _, _, _, _, _, _, _, _, _, _, _, _, _, _, _, _, _, _] [] rfl ⟨trivial, (XT.ii_eq_t ((congrArg (fun z => cs.getD z 0) (show 1 = 1 from by omega)).trans (hA 1 (by omega))))⟩ ?_
          exact tl _ W30
    · refine W0.pu hx D 62 [(0, false)] 6 78 [_, _, _, _, _, _, _, _, _, _, _, vi 1, _, _, _, _, _, _, _, _, _, _, _, _, _] [_, _, _] rfl ⟨trivial, (XT.i0_eq_f c7)⟩ ?_
      refine W0.kS hx hEL (B.h 0 rfl) (B.h 1 rfl) (B.h 2 rfl) (B.h 3 rfl) [(.int (Int32.ofNat (nl5))), (.int q1), (.int q2)] [] (rm110 B q1 q2 nl5 h0 W0.old (by first | omega | (simp only [LN]; omega)) cq1 cq2) all0 0 (by decide +kernel) all0 hml (lenOf pd33 rfl) (D 78 rfl) ⟨rfl, rfl, rfl, rfl⟩ (fun T31 h31 v31 P31 Ws31 K31 q31 => ?_)
      have W31 := Ws31 [] all0
      obtain ⟨r31, rfl, lr31, S31⟩ := q31
      have gr31 : n0 ≤ r31 ∧ s.heap.size ≤ r31 := ⟨Nat.le_trans W0.n0le lr31, Nat.le_trans W0.s0le lr31⟩
      obtain ⟨xl31, exl31⟩ : ∃ z, z = List.take nl5 [q1, q2] := ⟨_, rfl⟩
      rw [← exl31] at S31
      have hxl31 : ∀ c ∈ xl31, ¬ c < 0 ∧ ¬ (255 : Int32) < c := by rw [exl31]; exact bTake _ (allSi cq1 (allSi cq2 all0i))
      have lxl31 : xl31.length = nl5 := by rw [exl31]; simp only [List.length_take, List.length_cons, List.length_nil]; omega
      have E31 := S31.exa
      refine W31.pu hx D 81 [(2, false)] 3 94 [_, _, _, _, _, _, _, _, _, _, _, _, _, _, _, _, _, _, _, _, _, _, _, _, _] [_, _, _] rfl ⟨trivial, (XT.i0_eq_f (by decide +kernel))⟩ ?_
      refine W31.kS hx hEL (B.h 0 rfl) (B.h 1 rfl) (B.h 2 rfl) (B.h 3 rfl) [(.int (Int32.ofNat (nl6))), (.int q3), (.int q4)] [] (rm110 B q3 q4 nl6 h31 W31.old (by first | omega | (simp only [LN]; omega)) cq3 cq4) all0 0 (by decide +kernel) all0 hml (lenOf pd33 rfl) (D 94 rfl) ⟨rfl, rfl, rfl, rfl⟩ (fun T32 h32 v32 P32 Ws32 K32 q32 => ?_)
      have W32 := Ws32 [] all0
      obtain ⟨r32, rfl, lr32, S32⟩ := q32
      have gr32 : n0 ≤ r32 ∧ s.heap.size ≤ r32 := ⟨Nat.le_trans W31.n0le lr32, Nat.le_trans W31.s0le lr32⟩
      obtain ⟨xl32, exl32⟩ : ∃ z, z = List.take nl6 [q3, q4] := ⟨_, rfl⟩
      rw [← exl32] at S32
      have hxl32 : ∀ c ∈ xl32, ¬ c < 0 ∧ ¬ (255 : Int32) < c := by rw [exl32]; exact bTake _ (allSi cq3 (allSi cq4 all0i))
      have lxl32 : xl32.length = nl6 := by rw [exl32]; simp only [List.length_take, List.length_cons, List.length_nil]; omega
      have E32 := S32.exa
      have k34 := (S31.keep0 K32)
      refine W32.pv hx D 97 5 108 [_, _, _, _, _, _, _, _, _, _, _, _, _, _, _, _, _, _, _, _, _, _, _, _, _] [_, _, _] rfl ?_
      refine W32.kS hx hEL (B.h 26 rfl) (B.h 27 rfl) (B.h 28 rfl) (B.h 29 rfl) [(.ref r31), (.long i2), (.ref r32)] [] (rm112 B r31 i2 xl31 r32 xl32 ns don dtn ko kt uu nn h32 W32.old k34 hxl31 S32 hxl32 OT OTE OTS OTM OSo OSt OAo OAt hN hu hm (by first | omega | (simp only [LN]; omega))) all0 0 (by decide +kernel) all0 hml (lenOf pd34 rfl) (D 108 rfl) ⟨rfl, rfl, rfl, rfl⟩ (fun T33 h33 v33 P33 Ws33 K33 q33 => ?_)
      have W33 := Ws33 [] all0
      obtain ⟨r33, rfl, lr33, S33⟩ := q33
      have gr33 : n0 ≤ r33 ∧ s.heap.size ≤ r33 := ⟨Nat.le_trans W32.n0le lr33, Nat.le_trans W32.s0le lr33⟩
      have E33 := S33.exa
      obtain ⟨cs, ecs⟩ : ∃ z, z = ((((xl31 ++ [(32 : Int32), 100, 105, 100, 32, 110, 111, 116, 32, 97, 110, 115, 119, 101, 114, 32, 119, 105, 116, 104, 105, 110, 32]) ++ (dgl uu nn)) ++ [(32 : Int32), 109, 115]) ++ [(59 : Int32), 32]) ++ xl32 := ⟨_, rfl⟩
      rw [← ecs] at S33
      have hcs : ∀ c ∈ cs, ¬ c < 0 ∧ ¬ (255 : Int32) < c := by rw [ecs]; exact (bApp (bApp (bApp (bApp (bApp hxl31 (lat8 (by decide +kernel))) (dgl_b uu nn)) (lat8 (by decide +kernel))) (lat8 (by decide +kernel))) hxl32)
      have lcs : cs.length = xl31.length + 23 + (nn) + 3 + 2 + xl32.length := by rw [ecs]; simp only [List.length_append, List.length_cons, List.length_nil, dgl_len]
      have hA0 : ∀ j, j < xl31.length → cs.getD (0 + j) 0 = List.getD xl31 j 0 := fun j hj => by have q : cs = ([] : List Int32) ++ xl31 ++ ([(32 : Int32), 100, 105, 100, 32, 110, 111, 116, 32, 97, 110, 115, 119, 101, 114, 32, 119, 105, 116, 104, 105, 110, 32] ++ ((dgl uu nn) ++ ([(32 : Int32), 109, 115] ++ ([(59 : Int32), 32] ++ xl32)))) := (by rw [ecs] <;> simp only [List.append_assoc, List.append_nil, List.nil_append, List.cons_append]); rw [q, show 0 + j = List.length ([] : List Int32) + j from by first | rfl | omega | (simp only [List.length_append, List.length_cons, List.length_nil, dgl_len]; try omega)]; exact gmid (by first | omega | (simp only [List.length_cons, List.length_nil, dgl_len]; omega))
      have hA : ∀ j, j < xl31.length → cs.getD j 0 = List.getD [q1, q2] j 0 := fun j hj => by have q := hA0 j hj; rw [Nat.zero_add] at q; rw [q, exl31]; exact getTake (by omega)
      have hWn : ∀ j, j < 23 → cs.getD (xl31.length + j) 0 = List.getD [(32 : Int32), 100, 105, 100, 32, 110, 111, 116, 32, 97, 110, 115, 119, 101, 114, 32, 119, 105, 116, 104, 105, 110, 32] j 0 := fun j hj => by have q : cs = xl31 ++ [(32 : Int32), 100, 105, 100, 32, 110, 111, 116, 32, 97, 110, 115, 119, 101, 114, 32, 119, 105, 116, 104, 105, 110, 32] ++ ((dgl uu nn) ++ ([(32 : Int32), 109, 115] ++ ([(59 : Int32), 32] ++ xl32))) := (by rw [ecs] <;> simp only [List.append_assoc, List.append_nil, List.nil_append, List.cons_append]); rw [q, show xl31.length + j = List.length xl31 + j from by first | rfl | omega | (simp only [List.length_append, List.length_cons, List.length_nil, dgl_len]; try omega)]; exact gmid (by first | omega | (simp only [List.length_cons, List.length_nil, dgl_len]; omega))
      have hDl : ∀ j, j < nn → cs.getD (xl31.length + 23 + j) 0 = List.getD (dgl uu nn) j 0 := fun j hj => by have q : cs = (xl31 ++ [(32 : Int32), 100, 105, 100, 32, 110, 111, 116, 32, 97, 110, 115, 119, 101, 114, 32, 119, 105, 116, 104, 105, 110, 32]) ++ (dgl uu nn) ++ ([(32 : Int32), 109, 115] ++ ([(59 : Int32), 32] ++ xl32)) := (by rw [ecs] <;> simp only [List.append_assoc, List.append_nil, List.nil_append, List.cons_append]); rw [q, show xl31.length + 23 + j = List.length (xl31 ++ [(32 : Int32), 100, 105, 100, 32, 110, 111, 116, 32, 97, 110, 115, 119, 101, 114, 32, 119, 105, 116, 104, 105, 110, 32]) + j from by first | rfl | omega | (simp only [List.length_append, List.length_cons, List.length_nil, dgl_len]; try omega)]; exact gmid (by first | omega | (simp only [List.length_cons, List.length_nil, dgl_len]; omega))
      have hDn : ∀ k, k < nn → cs.getD (xl31.length + 23 + nn - 1 - k) 0 = Int32.ofNat (48 + uu / 10 ^ k % 10) := fun k hk => by rw [show xl31.length + 23 + nn - 1 - k = xl31.length + 23 + (nn - 1 - k) from by omega, hDl _ (by omega)]; exact dgl_at uu nn k hk
      have hMs : ∀ j, j < 3 → cs.getD (xl31.length + 23 + nn + j) 0 = List.getD [(32 : Int32), 109, 115] j 0 := fun j hj => by have q : cs = ((xl31 ++ [(32 : Int32), 100, 105, 100, 32, 110, 111, 116, 32, 97, 110, 115, 119, 101, 114, 32, 119, 105, 116, 104, 105, 110, 32]) ++ dgl uu nn) ++ [(32 : Int32), 109, 115] ++ ([(59 : Int32), 32] ++ xl32) := (by rw [ecs] <;> simp only [List.append_assoc, List.append_nil, List.nil_append, List.cons_append]); rw [q, show xl31.length + 23 + nn + j = List.length ((xl31 ++ [(32 : Int32), 100, 105, 100, 32, 110, 111, 116, 32, 97, 110, 115, 119, 101, 114, 32, 119, 105, 116, 104, 105, 110, 32]) ++ dgl uu nn) + j from by first | rfl | omega | (simp only [List.length_append, List.length_cons, List.length_nil, dgl_len]; try omega)]; exact gmid (by first | omega | (simp only [List.length_cons, List.length_nil, dgl_len]; omega))
      have hYs : ∀ j, j < 2 → cs.getD (xl31.length + 23 + nn + 3 + j) 0 = List.getD [(59 : Int32), 32] j 0 := fun j hj => by have q : cs = (((xl31 ++ [(32 : Int32), 100, 105, 100, 32, 110, 111, 116, 32, 97, 110, 115, 119, 101, 114, 32, 119, 105, 116, 104, 105, 110, 32]) ++ dgl uu nn) ++ [(32 : Int32), 109, 115]) ++ [(59 : Int32), 32] ++ xl32 := (by rw [ecs] <;> simp only [List.append_assoc, List.append_nil, List.nil_append, List.cons_append]); rw [q, show xl31.length + 23 + nn + 3 + j = List.length (((xl31 ++ [(32 : Int32), 100, 105, 100, 32, 110, 111, 116, 32, 97, 110, 115, 119, 101, 114, 32, 119, 105, 116, 104, 105, 110, 32]) ++ dgl uu nn) ++ [(32 : Int32), 109, 115]) + j from by first | rfl | omega | (simp only [List.length_append, List.length_cons, List.length_nil, dgl_len]; try omega)]; exact gmid (by first | omega | (simp only [List.length_cons, List.length_nil, dgl_len]; omega))
      have hB0 : ∀ j, j < xl32.length → cs.getD (xl31.length + 23 + nn + 3 + 2 + j) 0 = List.getD xl32 j 0 := fun j hj => by have q : cs = ((((xl31 ++ [(32 : Int32), 100, 105, 100, 32, 110, 111, 116, 32, 97, 110, 115, 119, 101, 114, 32, 119, 105, 116, 104, 105, 110, 32]) ++ dgl uu nn) ++ [(32 : Int32), 109, 115]) ++ [(59 : Int32), 32]) ++ xl32 ++ [] := (by rw [ecs] <;> simp only [List.append_assoc, List.append_nil, List.nil_append, List.cons_append]); rw [q, show xl31.length + 23 + nn + 3 + 2 + j = List.length ((((xl31 ++ [(32 : Int32), 100, 105, 100, 32, 110, 111, 116, 32, 97, 110, 115, 119, 101, 114, 32, 119, 105, 116, 104, 105, 110, 32]) ++ dgl uu nn) ++ [(32 : Int32), 109, 115]) ++ [(59 : Int32), 32]) + j from by first | rfl | omega | (simp only [List.length_append, List.length_cons, List.length_nil, dgl_len]; try omega)]; exact gmid (by first | omega | (simp only [List.length_cons, List.length_nil, dgl_len]; omega))
      have hB : ∀ j, j < xl32.length → cs.getD (xl31.length + 23 + nn + 3 + 2 + j) 0 = List.getD [q3, q4] j 0 := fun j hj => by rw [hB0 j hj, exl32]; exact getTake (by omega)
      refine W33.pv hx D 111 2 114 [_, _, _, _, _, _, _, _, _, _, _, _, _, _, _, _, _, _, _, _, _, _, _, _, _] [_] rfl ?_
      refine W33.ldcJ hx (B.h 193 rfl) rfl (D 114 rfl) ?_
      refine gof T33 m 118 #[vi i0, vi i1, .val (.long i2), S0, vi i3, vi q1, vi q2, vi q3, vi q4, vi (Int32.ofNat (nl5)), vi (Int32.ofNat (nl6)), vi 1, vr r31, vr r32, vr r33, U0, U0, U0, U0, U0, U0, U0, U0, U0, U0] [(.long (posL (uu)))] (fun _ kk => XS.ldiv W33.here hx rfl (D 117 rfl) rfl (by decide +kernel) (by rw [hm]; exact kk)) ?_
      refine W33.pu hx D 118 [(4, true), (3, true)] 3 151 [_, _, _, _, _, _, _, _, _, _, _, _, _, _, _, _, S0, vi 0, _, S0, _, _, _, _, _] [_] rfl ⟨⟨trivial, (XT.ll_ge_t (nltLP (a := uu) (b := 0) (by omega)))⟩, (XT.i0_eq_t (by decide +kernel))⟩ ?_
      refine W33.kS hx hEL (B.h 194 rfl) (B.h 195 rfl) (B.h 2 rfl) (B.h 196 rfl) [(.long (posL (uu)))] [] (rm115 B uu nn h33 W33.old hN (by first | omega | (simp only [LN]; omega))) all0 0 (by decide +kernel) all0 hml (lenOf pd21 rfl) (D 151 rfl) ⟨rfl, rfl, rfl, rfl⟩ (fun T35 h35 v35 P35 Ws35 K35 q35 => ?_)
      have W35 := Ws35 [] all0
      obtain ⟨rfl, rfl⟩ := q35
      have ea36 : ((Int32.ofNat (nl5)) + (23 : Int32)) = (Int32.ofNat (nl5 + 23)) := (addN (nl5) (23)).trans (congrArg Int32.ofNat (by omega))
      have ea37 : ((Int32.ofNat (nl5 + 23)) + (Int32.ofNat (nn))) = (Int32.ofNat (nl5 + 23 + nn)) := (addN (nl5 + 23) (nn)).trans (congrArg Int32.ofNat (by omega))
      refine W35.pv hx D 154 9 170 [_, _, _, _, _, _, _, _, _, _, _, _, _, _, _, _, _, _, _, _, _, vi (Int32.ofNat (nl5 + 23)), _, _, _] [.int 0, .int (Int32.ofNat (nl5 + 23 + nn))] (by rw [← ea37, ← ea36]; rfl) ?_
      have ea38 : ((Int32.ofNat (nl5 + 23 + nn)) + (0 : Int32)) = (Int32.ofNat (nl5 + 23 + nn + 0)) := (addN (nl5 + 23 + nn) (0)).trans (congrArg Int32.ofNat (by omega))
      refine W35.pu hx D 170 [(0, true)] 1 178 [_, _, _, _, _, _, _, _, _, _, _, _, _, _, _, _, _, _, _, _, _, _, _, _, _] [.int 0, _] rfl ⟨trivial, (XT.i0_eq_t (by decide +kernel))⟩ ?_
      have ea39 : ((Int32.ofNat (nl5 + 23 + nn + 0)) + (3 : Int32)) = (Int32.ofNat (nl5 + 23 + nn + 0 + 3)) := (addN (nl5 + 23 + nn + 0) (3)).trans (congrArg Int32.ofNat (by omega))
      refine W35.pv hx D 178 7 189 [_, _, _, _, _, _, _, _, _, _, _, _, _, _, _, _, _, _, _, _, _, _, vi (Int32.ofNat (nl5 + 23 + nn + 0)), vi (Int32.ofNat (nl5 + 23 + nn + 0 + 3)), _] [.int 1] (by rw [← ea39, ← ea38]; rfl) ?_
      have ea40 : ((Int32.ofNat (nl5 + 23 + nn + 0 + 3)) + (2 : Int32)) = (Int32.ofNat (nl5 + 23 + nn + 0 + 3 + 2)) := (addN (nl5 + 23 + nn + 0 + 3) (2)).trans (congrArg Int32.ofNat (by omega))
      refine W35.pu hx D 189 [(0, false)] 2 195 [_, _, _, _, _, _, _, _, _, _, _, _, _, _, _, _, _, _, _, _, _, _, _, _, _] [.int 2, _] rfl ⟨trivial, (XT.i0_eq_f (by decide +kernel))⟩ ?_
      have ea41 : ((Int32.ofNat (nl5 + 23 + nn + 0 + 3 + 2)) + (Int32.ofNat (nl6))) = (Int32.ofNat (nl5 + 23 + nn + 0 + 3 + 2 + nl6)) := (addN (nl5 + 23 + nn + 0 + 3 + 2) (nl6)).trans (congrArg Int32.ofNat (by omega))
      refine W35.pv hx D 195 8 213 [_, _, _, _, _, _, _, _, _, _, _, _, _, _, _, _, _, _, _, _, _, _, _, _, vi (Int32.ofNat (nl5 + 23 + nn + 0 + 3 + 2 + nl6))] [_] (by rw [← ea41, ← ea40]; rfl) ?_
      refine W35.strLen hx hln (B.h 5 rfl) SC hzc S33 (B.h 208 rfl) (B.h 59 rfl) (B.h 61 rfl) (B.h 60 rfl) (by decide +kernel) (Wd := 0) (by decide +kernel) (by decide +kernel) (by decide +kernel) rfl (by rw [hml]; rfl) rfl (by show 2 * 0 + _ ≤ _; exact Nat.le_of_eq rfl) (D 213 rfl) (fun T42 W42 => ?_)
      show Go p e below _ (T42.setTop (mkF m 216 #[vi i0, vi i1, .val (.long i2), S0, vi i3, vi q1, vi q2, vi q3, vi q4, vi (Int32.ofNat (nl5)), vi (Int32.ofNat (nl6)), vi 1, vr r31, vr r32, vr r33, .val (.long (posL (uu))), S0, vi 0, .val (.long (posL (uu))), S0, vi (Int32.ofNat (nn)), vi (Int32.ofNat (nl5 + 23)), vi (Int32.ofNat (nl5 + 23 + nn + 0)), vi (Int32.ofNat (nl5 + 23 + nn + 0 + 3)), vi (Int32.ofNat (nl5 + 23 + nn + 0 + 3 + 2 + nl6))] [(.int (Int32.ofNat (cs.length)))]))
      refine W42.pu hx D 216 [(1, true)] 0 223 [_, _, _, _, _, _, _, _, _, _, _, _, _, _, _, _, _, _, _, _, _, _, _, _, _] [] rfl ⟨trivial, (XT.ii_eq_t (eqN (a := cs.length) (b := nl5 + 23 + nn + 0 + 3 + 2 + nl6) (by first | omega | (simp only [LN]; omega))))⟩ ?_
      have tl : ∀ Tt : State, Wk p l e room_1 s m #[(.int i0), (.int i1), (.long i2), (.int i3)] below meth c Z EL0 n0 [] "com/example/sem1/sem1/store/StoreFailuresUnansweredPinLaw" [] Tt 33 1024 h33 → Go p e below (Fend Z EL0 n0 s h0 [] (fun v h' S => v = some (.int 1)) room_1) (Tt.setTop (mkF m 261 #[vi i0, vi i1, .val (.long i2), S0, vi i3, vi q1, vi q2, vi q3, vi q4, vi (Int32.ofNat (nl5)), vi (Int32.ofNat (nl6)), vi 1, vr r31, vr r32, vr r33, .val (.long (posL (uu))), S0, vi 0, .val (.long (posL (uu))), S0, vi (Int32.ofNat (nn)), vi (Int32.ofNat (nl5 + 23)), vi (Int32.ofNat (nl5 + 23 + nn + 0)), vi (Int32.ofNat (nl5 + 23 + nn + 0 + 3)), vi (Int32.ofNat (nl5 + 23 + nn + 0 + 3 + 2 + nl6))] [])) := by
        intro Tt Wt
        refine Wt.pv hx D 261 2 265 [_, _, _, _, _, _, _, _, _, _, _, _, _, _, _, _, _, _, _, _, _, _, _, _, _] [_, _] rfl ?_
        refine Wt.kS hx hEL (B.h 209 rfl) (B.h 210 rfl) (B.h 2 rfl) (B.h 211 rfl) [(.ref r33), (.int (Int32.ofNat (nl5)))] [] (rm117 B r33 cs nl5 h33 Wt.old S33 hcs (by first | omega | (simp only [LN]; omega)) (fun i hi => (congrArg (fun z => cs.getD (z + i) 0) (show nl5 = xl31.length from by omega)).trans (hWn i hi))) all0 0 (by decide +kernel) all0 hml (lenOf pd35 rfl) (D 265 rfl) ⟨rfl, rfl, rfl, rfl⟩ (fun T43 h43 v43 P43 Ws43 K43 q43 => ?_)
        have W43 := Ws43 [] all0
        obtain rfl := q43
        have k45 := (S33.keep0 K43)
        refine W43.pu hx D 268 [(0, true), (1, true)] 4 300 [_, _, _, _, _, _, _, _, _, _, _, _, _, _, _, _, _, _, _, _, _, _, _, _, _] [_, _, _, _] rfl ⟨⟨trivial, (XT.i0_ne_t (by decide +kernel))⟩, (XT.i0_eq_t (by decide +kernel))⟩ ?_
        refine W43.kS hx hEL (B.h 238 rfl) (B.h 239 rfl) (B.h 2 rfl) (B.h 240 rfl) [(.ref r33), (.int (Int32.ofNat (nl5 + 23 + nn + 0))), (.long (posL (uu))), (.int (Int32.ofNat (nn)))] [] (rm140 B r33 cs (nl5 + 23 + nn + 0) uu nn h43 W43.old k45 hcs hN (by first | omega | (simp only [LN]; omega)) (by first | omega | (simp only [LN]; omega)) (fun k hk => (congrArg (fun z => cs.getD (z - 1 - k) 0) (show nl5 + 23 + nn + 0 = xl31.length + 23 + nn from by omega)).trans (hDn k hk))) all0 0 (by decide +kernel) all0 hml (lenOf pd36 rfl) (D 300 rfl) ⟨rfl, rfl, rfl, rfl⟩ (fun T44 h44 v44 P44 Ws44 K44 q44 => ?_)
        have W44 := Ws44 [] all0
        obtain rfl := q44
        have k47 := (k45.keep0 K44)
        refine W44.pu hx D 303 [(0, true)] 2 312 [_, _, _, _, _, _, _, _, _, _, _, _, _, _, _, _, _, _, _, _, _, _, _, _, _] [_, _] rfl ⟨trivial, (XT.i0_ne_t (by decide +kernel))⟩ ?_
        refine W44.kC hx hch (B.h 5 rfl) SC hzc SF rfm (B.h 216 rfl) (B.h 217 rfl) (B.h 219 rfl) (B.h 218 rfl) hml k47 (snd255 hcs) (nl5 + 23 + nn + 0) (by first | omega | (simp only [LN]; omega)) 0 (by decide +kernel) (D 312 rfl) ⟨rfl, rfl, rfl, rfl, rfl⟩ (fun T46 W46 => ?_)
        have ea48 : ((Int32.ofNat (nl5 + 23 + nn + 0)) + (1 : Int32)) = (Int32.ofNat (nl5 + 23 + nn + 0 + 1)) := (addN (nl5 + 23 + nn + 0) (1)).trans (congrArg Int32.ofNat (by omega))
        refine W46.pu hx D 315 [(1, false)] 3 325 [_, _, _, _, _, _, _, _, _, _, _, _, _, _, _, _, _, _, _, _, _, _, _, _, _] [.int 1, _, _] rfl ⟨trivial, (XT.ii_ne_f ((congrArg (fun z => cs.getD z 0) (show nl5 + 23 + nn + 0 = xl31.length + 23 + nn + 0 from by omega)).trans (hMs 0 (by omega))))⟩ ?_
        refine W46.pv hx D 325 1 326 [_, _, _, _, _, _, _, _, _, _, _, _, _, _, _, _, _, _, _, _, _, _, _, _, _] [.int (Int32.ofNat (nl5 + 23 + nn + 0 + 1)), _] (by rw [← ea48]; rfl) ?_
        refine W46.kC hx hch (B.h 5 rfl) SC hzc SF rfm (B.h 216 rfl) (B.h 217 rfl) (B.h 219 rfl) (B.h 218 rfl) hml k47 (snd255 hcs) (nl5 + 23 + nn + 0 + 1) (by first | omega | (simp only [LN]; omega)) 0 (by decide +kernel) (D 326 rfl) ⟨rfl, rfl, rfl, rfl, rfl⟩ (fun T49 W49 => ?_)
        have ea50 : ((Int32.ofNat (nl5 + 23 + nn + 0)) + (2 : Int32)) = (Int32.ofNat (nl5 + 23 + nn + 0 + 2)) := (addN (nl5 + 23 + nn + 0) (2)).trans (congrArg Int32.ofNat (by omega))
        refine W49.pu hx D 329 [(1, false)] 3 339 [_, _, _, _, _, _, _, _, _, _, _, _, _, _, _, _, _, _, _, _, _, _, _, _, _] [.int 2, _, _] rfl ⟨trivial, (XT.ii_ne_f ((congrArg (fun z => cs.getD z 0) (show nl5 + 23 + nn + 0 + 1 = xl31.length + 23 + nn + 1 from by omega)).trans (hMs 1 (by omega))))⟩ ?_
        refine W49.pv hx D 339 1 340 [_, _, _, _, _, _, _, _, _, _, _, _, _, _, _, _, _, _, _, _, _, _, _, _, _] [.int (Int32.ofNat (nl5 + 23 + nn + 0 + 2)), _] (by rw [← ea50]; rfl) ?_
        refine W49.kC hx hch (B.h 5 rfl) SC hzc SF rfm (B.h 216 rfl) (B.h 217 rfl) (B.h 219 rfl) (B.h 218 rfl) hml k47 (snd255 hcs) (nl5 + 23 + nn + 0 + 2) (by first | omega | (simp only [LN]; omega)) 0 (by decide +kernel) (D 340 rfl) ⟨rfl, rfl, rfl, rfl, rfl⟩ (fun T51 W51 => ?_)
        refine W51.pu hx D 343 [(1, true), (1, false)] 2 359 [_, _, _, _, _, _, _, _, _, _, _, _, _, _, _, _, _, _, _, _, _, _, _, _, _] [_, _] rfl ⟨⟨trivial, (XT.ii_eq_t ((congrArg (fun z => cs.getD z 0) (show nl5 + 23 + nn + 0 + 2 = xl31.length + 23 + nn + 2 from by omega)).trans (hMs 2 (by omega))))⟩, (XT.i0_eq_f (by decide +kernel))⟩ ?_
        refine W51.kC hx hch (B.h 5 rfl) SC hzc SF rfm (B.h 216 rfl) (B.h 217 rfl) (B.h 219 rfl) (B.h 218 rfl) hml k47 (snd255 hcs) (nl5 + 23 + nn + 0 + 3) (by first | omega | (simp only [LN]; omega)) 0 (by decide +kernel) (D 359 rfl) ⟨rfl, rfl, rfl, rfl, rfl⟩ (fun T52 W52 => ?_)
        have ea53 : ((Int32.ofNat (nl5 + 23 + nn + 0 + 3)) + (1 : Int32)) = (Int32.ofNat (nl5 + 23 + nn + 0 + 3 + 1)) := (addN (nl5 + 23 + nn + 0 + 3) (1)).trans (congrArg Int32.ofNat (by omega))
        refine W52.pu hx D 362 [(1, false)] 3 372 [_, _, _, _, _, _, _, _, _, _, _, _, _, _, _, _, _, _, _, _, _, _, _, _, _] [.int 1, _, _] rfl ⟨trivial, (XT.ii_ne_f ((congrArg (fun z => cs.getD z 0) (show nl5 + 23 + nn + 0 + 3 = xl31.length + 23 + nn + 3 + 0 from by omega)).trans (hYs 0 (by omega))))⟩ ?_
        refine W52.pv hx D 372 1 373 [_, _, _, _, _, _, _, _, _, _, _, _, _, _, _, _, _, _, _, _, _, _, _, _, _] [.int (Int32.ofNat (nl5 + 23 + nn + 0 + 3 + 1)), _] (by rw [← ea53]; rfl) ?_
        refine W52.kC hx hch (B.h 5 rfl) SC hzc SF rfm (B.h 216 rfl) (B.h 217 rfl) (B.h 219 rfl) (B.h 218 rfl) hml k47 (snd255 hcs) (nl5 + 23 + nn + 0 + 3 + 1) (by first | omega | (simp only [LN]; omega)) 0 (by decide +kernel) (D 373 rfl) ⟨rfl, rfl, rfl, rfl, rfl⟩ (fun T54 W54 => ?_)
        refine W54.pu hx D 376 [(1, true)] 2 386 [_, _, _, _, _, _, _, _, _, _, _, _, _, _, _, _, _, _, _, _, _, _, _, _, _] [.int 1, _] rfl ⟨trivial, (XT.ii_eq_t ((congrArg (fun z => cs.getD z 0) (show nl5 + 23 + nn + 0 + 3 + 1 = xl31.length + 23 + nn + 3 + 1 from by omega)).trans (hYs 1 (by omega))))⟩ ?_
        by_cases c55 : nl6 < 1
        · refine W54.pu hx D 386 [(0, true)] 2 408 [_, _, _, _, _, _, _, _, _, _, _, _, _, _, _, _, _, _, _, _, _, _, _, _, _] [.int 2, _] rfl ⟨trivial, (XT.ii_lt_t (ltN (a := nl6) (b := 1) (by first | omega | (simp only [LN]; omega))))⟩ ?_
          by_cases c56 : nl6 < 2
          · refine W54.pu hx D 408 [(0, true)] 1 428 [_, _, _, _, _, _, _, _, _, _, _, _, _, _, _, _, _, _, _, _, _, _, _, _, _] [.int 1] rfl ⟨trivial, (XT.ii_lt_t (ltN (a := nl6) (b := 2) (by first | omega | (simp only [LN]; omega))))⟩ ?_
            exact W54.retI hx hEL hs hlk (by decide +kernel) (by decide +kernel) hret (by simp) rfl (D 428 rfl) (fun S hS => rfl)
          · have ea57 : ((Int32.ofNat (nl5 + 23 + nn + 0 + 3)) + (3 : Int32)) = (Int32.ofNat (nl5 + 23 + nn + 0 + 3 + 3)) := (addN (nl5 + 23 + nn + 0 + 3) (3)).trans (congrArg Int32.ofNat (by omega))
            refine W54.pu hx D 408 [(0, false)] 3 416 [_, _, _, _, _, _, _, _, _, _, _, _, _, _, _, _, _, _, _, _, _, _, _, _, _] [.int 3, _, _] rfl ⟨trivial, (XT.ii_lt_f (nltN (a := nl6) (b := 2) (by first | omega | (simp only [LN]; omega))))⟩ ?_
            refine W54.pv hx D 416 1 417 [_, _, _, _, _, _, _, _, _, _, _, _, _, _, _, _, _, _, _, _, _, _, _, _, _] [.int (Int32.ofNat (nl5 + 23 + nn + 0 + 3 + 3)), _] (by rw [← ea57]; rfl) ?_
            refine W54.kC hx hch (B.h 5 rfl) SC hzc SF rfm (B.h 216 rfl) (B.h 217 rfl) (B.h 219 rfl) (B.h 218 rfl) hml k47 (snd255 hcs) (nl5 + 23 + nn + 0 + 3 + 3) (by first | omega | (simp only [LN]; omega)) 0 (by decide +kernel) (D 417 rfl) ⟨rfl, rfl, rfl, rfl, rfl⟩ (fun T58 W58 => ?_)
            refine W58.pu hx D 420 [(1, true)] 1 428 [_, _, _, _, _, _, _, _, _, _, _, _, _, _, _, _, _, _, _, _, _, _, _, _, _] [.int 1] rfl ⟨trivial, (XT.ii_eq_t ((congrArg (fun z => cs.getD z 0) (show nl5 + 23 + nn + 0 + 3 + 3 = xl31.length + 23 + nn + 3 + 2 + 1 from by omega)).trans (hB 1 (by omega))))⟩ ?_
            exact W58.retI hx hEL hs hlk (by decide +kernel) (by decide +kernel) hret (by simp) rfl (D 428 rfl) (fun S hS => rfl)
        · have ea59 : ((Int32.ofNat (nl5 + 23 + nn + 0 + 3)) + (2 : Int32)) = (Int32.ofNat (nl5 + 23 + nn + 0 + 3 + 2)) := (addN (nl5 + 23 + nn + 0 + 3) (2)).trans (congrArg Int32.ofNat (by omega))
          refine W54.pu hx D 386 [(0, false)] 3 394 [_, _, _, _, _, _, _, _, _, _, _, _, _, _, _, _, _, _, _, _, _, _, _, _, _] [.int 2, _, _] rfl ⟨trivial, (XT.ii_lt_f (nltN (a := nl6) (b := 1) (by first | omega | (simp only [LN]; omega))))⟩ ?_
          refine W54.pv hx D 394 1 395 [_, _, _, _, _, _, _, _, _, _, _, _, _, _, _, _, _, _, _, _, _, _, _, _, _] [.int (Int32.ofNat (nl5 + 23 + nn + 0 + 3 + 2)), _] (by rw [← ea59]; rfl) ?_
          refine W54.kC hx hch (B.h 5 rfl) SC hzc SF rfm (B.h 216 rfl) (B.h 217 rfl) (B.h 219 rfl) (B.h 218 rfl) hml k47 (snd255 hcs) (nl5 + 23 + nn + 0 + 3 + 2) (by first | omega | (simp only [LN]; omega)) 0 (by decide +kernel) (D 395 rfl) ⟨rfl, rfl, rfl, rfl, rfl⟩ (fun T60 W60 => ?_)
          refine W60.pu hx D 398 [(1, true)] 2 408 [_, _, _, _, _, _, _, _, _, _, _, _, _, _, _, _, _, _, _, _, _, _, _, _, _] [.int 2, _] rfl ⟨trivial, (XT.ii_eq_t ((congrArg (fun z => cs.getD z 0) (show nl5 + 23 + nn + 0 + 3 + 2 = xl31.length + 23 + nn + 3 + 2 + 0 from by omega)).trans (hB 0 (by omega))))⟩ ?_
          by_cases c61 : nl6 < 2
          · refine W60.pu hx D 408 [(0, true)] 1 428 [_, _, _, _, _, _, _, _, _, _, _, _, _, _, _, _, _, _, _, _, _, _, _, _, _] [.int 1] rfl ⟨trivial, (XT.ii_lt_t (ltN (a := nl6) (b := 2) (by first | omega | (simp only [LN]; omega))))⟩ ?_
            exact W60.retI hx hEL hs hlk (by decide +kernel) (by decide +kernel) hret (by simp) rfl (D 428 rfl) (fun S hS => rfl)
          · have ea62 : ((Int32.ofNat (nl5 + 23 + nn + 0 + 3)) + (3 : Int32)) = (Int32.ofNat (nl5 + 23 + nn + 0 + 3 + 3)) := (addN (nl5 + 23 + nn + 0 + 3) (3)).trans (congrArg Int32.ofNat (by omega))
            refine W60.pu hx D 408 [(0, false)] 3 416 [_, _, _, _, _, _, _, _, _, _, _, _, _, _, _, _, _, _, _, _, _, _, _, _, _] [.int 3, _, _] rfl ⟨trivial, (XT.ii_lt_f (nltN (a := nl6) (b := 2) (by first | omega | (simp only [LN]; omega))))⟩ ?_
            refine W60.pv hx D 416 1 417 [_, _, _, _, _, _, _, _, _, _, _, _, _, _, _, _, _, _, _, _, _, _, _, _, _] [.int (Int32.ofNat (nl5 + 23 + nn + 0 + 3 + 3)), _] (by rw [← ea62]; rfl) ?_
            refine W60.kC hx hch (B.h 5 rfl) SC hzc SF rfm (B.h 216 rfl) (B.h 217 rfl) (B.h 219 rfl) (B.h 218 rfl) hml k47 (snd255 hcs) (nl5 + 23 + nn + 0 + 3 + 3) (by first | omega | (simp only [LN]; omega)) 0 (by decide +kernel) (D 417 rfl) ⟨rfl, rfl, rfl, rfl, rfl⟩ (fun T63 W63 => ?_)
            refine W63.pu hx D 420 [(1, true)] 1 428 [_, _, _, _, _, _, _, _, _, _, _, _, _, _, _, _, _, _, _, _, _, _, _, _, _] [.int 1] rfl ⟨trivial, (XT.ii_eq_t ((congrArg (fun z => cs.getD z 0) (show nl5 + 23 + nn + 0 + 3 + 3 = xl31.length + 23 + nn + 3 + 2 + 1 from by omega)).trans (hB 1 (by omega))))⟩ ?_
            exact W63.retI hx hEL hs hlk (by decide +kernel) (by decide +kernel) hret (by simp) rfl (D 428 rfl) (fun S hS => rfl)
      refine W42.pv hx D 223 2 226 [_, _, _, _, _, _, _, _, _, _, _, _, _, _, _, _, _, _, _, _, _, _, _, _, _] [.int 1, _] rfl ?_
      by_cases c64 : nl5 < 1
      · refine W42.pu hx D 226 [(0, true)] 2 245 [_, _, _, _, _, _, _, _, _, _, _, _, _, _, _, _, _, _, _, _, _, _, _, _, _] [.int 2, _] rfl ⟨trivial, (XT.ii_lt_t (ltN (a := nl5) (b := 1) (by first | omega | (simp only [LN]; omega))))⟩ ?_
        by_cases c65 : nl5 < 2
        · refine W42.pu hx D 245 [(0, true)] 0 261 [_, _, _, _, _, _, _, _, _, _, _, _, _, _, _, _, _, _, _, _, _, _, _, _, _] [] rfl ⟨trivial, (XT.ii_lt_t (ltN (a := nl5) (b := 2) (by first | omega | (simp only [LN]; omega))))⟩ ?_
          exact tl _ W42
        · refine W42.pu hx D 245 [(0, false)] 2 251 [_, _, _, _, _, _, _, _, _, _, _, _, _, _, _, _, _, _, _, _, _, _, _, _, _] [.int 1, _] rfl ⟨trivial, (XT.ii_lt_f (nltN (a := nl5) (b := 2) (by first | omega | (simp only [LN]; omega))))⟩ ?_
          refine W42.kC hx hch (B.h 5 rfl) SC hzc SF rfm (B.h 216 rfl) (B.h 217 rfl) (B.h 219 rfl) (B.h 218 rfl) hml S33 (snd255 hcs) (1) (by first | omega | (simp only [LN]; omega)) 0 (by decide +kernel) (D 251 rfl) ⟨rfl, rfl, rfl, rfl, rfl⟩ (fun T66 W66 => ?_)
          refine W66.pu hx D 254 [(1, true)] 0 261 [_, _, _, _, _, _, _, _, _, _, _, _, _, _, _, _, _, _, _, _, _, _, _, _, _] [] rfl ⟨trivial, (XT.ii_eq_t ((congrArg (fun z => cs.getD z 0) (show 1 = 1 from by omega)).trans (hA 1 (by omega))))⟩ ?_
          exact tl _ W66
      · refine W42.pu hx D 226 [(0, false)] 2 232 [_, _, _, _, _, _, _, _, _, _, _, _, _, _, _, _, _, _, _, _, _, _, _, _, _] [.int 0, _] rfl ⟨trivial, (XT.ii_lt_f (nltN (a := nl5) (b := 1) (by first | omega | (simp only [LN]; omega))))⟩ ?_
        refine W42.kC hx hch (B.h 5 rfl) SC hzc SF rfm (B.h 216 rfl) (B.h 217 rfl) (B.h 219 rfl) (B.h 218 rfl) hml S33 (snd255 hcs) (0) (by first | omega | (simp only [LN]; omega)) 0 (by decide +kernel) (D 232 rfl) ⟨rfl, rfl, rfl, rfl, rfl⟩ (fun T67 W67 => ?_)
        refine W67.pu hx D 235 [(1, true)] 2 245 [_, _, _, _, _, _, _, _, _, _, _, _, _, _, _, _, _, _, _, _, _, _, _, _, _] [.int 2, _] rfl ⟨trivial, (XT.ii_eq_t ((congrArg (fun z => cs.getD z 0) (show 0 = 0 from by omega)).trans (hA 0 (by omega))))⟩ ?_
        by_cases c68 : nl5 < 2
        · refine W67.pu hx D 245 [(0, true)] 0 261 [_, _, _, _, _, _, _, _, _, _, _, _, _, _, _, _, _, _, _, _, _, _, _, _, _] [] rfl ⟨trivial, (XT.ii_lt_t (ltN (a := nl5) (b := 2) (by first | omega | (simp only [LN]; omega))))⟩ ?_
          exact tl _ W67
        · refine W67.pu hx D 245 [(0, false)] 2 251 [_, _, _, _, _, _, _, _, _, _, _, _, _, _, _, _, _, _, _, _, _, _, _, _, _] [.int 1, _] rfl ⟨trivial, (XT.ii_lt_f (nltN (a := nl5) (b := 2) (by first | omega | (simp only [LN]; omega))))⟩ ?_
          refine W67.kC hx hch (B.h 5 rfl) SC hzc SF rfm (B.h 216 rfl) (B.h 217 rfl) (B.h 219 rfl) (B.h 218 rfl) hml S33 (snd255 hcs) (1) (by first | omega | (simp only [LN]; omega)) 0 (by decide +kernel) (D 251 rfl) ⟨rfl, rfl, rfl, rfl, rfl⟩ (fun T69 W69 => ?_)
          refine W69.pu hx D 254 [(1, true)] 0 261 [_, _, _, _, _, _, _, _, _, _, _, _, _, _, _, _, _, _, _, _, _, _, _, _, _] [] rfl ⟨trivial, (XT.ii_eq_t ((congrArg (fun z => cs.getD z 0) (show 1 = 1 from by omega)).trans (hA 1 (by omega))))⟩ ?_
          exact tl _ W69
  · obtain ⟨nn, hN, hn1, hn2⟩ := ndEx uu hu
    have hu : 1 ≤ uu ∧ uu ≤ 9223372036854 ∧ 1 ≤ nn ∧ nn ≤ 13 := by omega
    refine W0.pv hx D 0 4 6 [_, _, _, _, _, _, _, _, _, _, _, _, _, _, _, _, _, _, _, _, _, _, _, _, _] [.int ((i0 &&& (255 : Int32)).toUInt32.toUInt16.toUInt32.toInt32)] rfl ?_
    obtain ⟨q70, hq70, cq70, zq70⟩ := char255 i0
    rw [hq70]
    refine W0.pv hx D 6 7 17 [_, _, _, _, _, _, _, _, _, _, _, _, _, _, _, _, _, _, _, _, _, _, _, _, _] [.int ((((i0.toUInt32 >>> ((8 : Int32) &&& 31).toUInt32).toInt32) &&& (255 : Int32)).toUInt32.toUInt16.toUInt32.toInt32)] rfl ?_
    obtain ⟨q71, hq71, cq71, zq71⟩ := char255 ((i0.toUInt32 >>> ((8 : Int32) &&& 31).toUInt32).toInt32)
    rw [hq71]
    refine W0.pv hx D 17 5 25 [_, _, _, _, _, _, _, _, _, _, _, _, _, _, _, _, _, _, _, _, _, _, _, _, _] [.int ((i1 &&& (255 : Int32)).toUInt32.toUInt16.toUInt32.toInt32)] rfl ?_
    obtain ⟨q72, hq72, cq72, zq72⟩ := char255 i1
    rw [hq72]
    refine W0.pv hx D 25 7 36 [_, _, _, _, _, _, _, _, _, _, _, _, _, _, _, _, _, _, _, _, _, _, _, _, _] [.int ((((i1.toUInt32 >>> ((8 : Int32) &&& 31).toUInt32).toInt32) &&& (255 : Int32)).toUInt32.toUInt16.toUInt32.toInt32)] rfl ?_
    obtain ⟨q73, hq73, cq73, zq73⟩ := char255 ((i1.toUInt32 >>> ((8 : Int32) &&& 31).toUInt32).toInt32)
    rw [hq73]
    refine W0.pv hx D 36 5 43 [_, _, _, _, _, _, _, _, _, _, _, _, _, _, _, _, _, _, _, _, _, _, _, _, _] [.int 3, .int (i3 &&& (3 : Int32))] rfl ?_
    refine gof T0 m 44 #[vi i0, vi i1, .val (.long i2), S0, vi i3, vi q70, vi q71, vi q72, vi q73, U0, U0, U0, U0, U0, U0, U0, U0, U0, U0, U0, U0, U0, U0, U0, U0] [(.int ((i3 &&& (3 : Int32)) % (3 : Int32)))] (fun _ kk => XS.irem W0.here hx rfl (D 43 rfl) rfl (by decide +kernel) (by rw [irem_eq_mod]; exact kk)) ?_
    obtain ⟨nl74, hl74, el74⟩ := rem3N i3
    rw [el74]
    refine W0.pv hx D 44 7 53 [_, _, _, _, _, _, _, _, _, _, _, _, _, _, _, _, _, _, _, _, _, _, _, _, _] [.int 3, .int (((i3.toUInt32 >>> ((2 : Int32) &&& 31).toUInt32).toInt32) &&& (3 : Int32))] rfl ?_
    refine gof T0 m 54 #[vi i0, vi i1, .val (.long i2), S0, vi i3, vi q70, vi q71, vi q72, vi q73, vi (Int32.ofNat (nl74)), U0, U0, U0, U0, U0, U0, U0, U0, U0, U0, U0, U0, U0, U0, U0] [(.int ((((i3.toUInt32 >>> ((2 : Int32) &&& 31).toUInt32).toInt32) &&& (3 : Int32)) % (3 : Int32)))] (fun _ kk => XS.irem W0.here hx rfl (D 53 rfl) rfl (by decide +kernel) (by rw [irem_eq_mod]; exact kk)) ?_
    obtain ⟨nl75, hl75, el75⟩ := rem3N ((i3.toUInt32 >>> ((2 : Int32) &&& 31).toUInt32).toInt32)
    rw [el75]
    refine W0.pv hx D 54 6 62 [_, _, _, _, _, _, _, _, _, _, _, _, _, _, _, _, _, _, _, _, _, _, _, _, _] [.int (((i3.toUInt32 >>> ((4 : Int32) &&& 31).toUInt32).toInt32) &&& (1 : Int32))] rfl ?_
    by_cases c76 : (((i3.toUInt32 >>> ((4 : Int32) &&& 31).toUInt32).toInt32) &&& (1 : Int32)) = (0 : Int32)
    · refine W0.pu hx D 62 [(0, true)] 5 78 [_, _, _, _, _, _, _, _, _, _, _, vi 0, _, _, _, _, _, _, _, _, _, _, _, _, _] [_, _, _] rfl ⟨trivial, (XT.i0_eq_t c76)⟩ ?_
      refine W0.kS hx hEL (B.h 0 rfl) (B.h 1 rfl) (B.h 2 rfl) (B.h 3 rfl) [(.int (Int32.ofNat (nl74))), (.int q70), (.int q71)] [] (rm110 B q70 q71 nl74 h0 W0.old (by first | omega | (simp only [LN]; omega)) cq70 cq71) all0 0 (by decide +kernel) all0 hml (lenOf pd33 rfl) (D 78 rfl) ⟨rfl, rfl, rfl, rfl⟩ (fun T77 h77 v77 P77 Ws77 K77 q77 => ?_)
      have W77 := Ws77 [] all0
      obtain ⟨r77, rfl, lr77, S77⟩ := q77
      have gr77 : n0 ≤ r77 ∧ s.heap.size ≤ r77 := ⟨Nat.le_trans W0.n0le lr77, Nat.le_trans W0.s0le lr77⟩
      obtain ⟨xl77, exl77⟩ : ∃ z, z = List.take nl74 [q70, q71] := ⟨_, rfl⟩
      rw [← exl77] at S77
      have hxl77 : ∀ c ∈ xl77, ¬ c < 0 ∧ ¬ (255 : Int32) < c := by rw [exl77]; exact bTake _ (allSi cq70 (allSi cq71 all0i))
      have lxl77 : xl77.length = nl74 := by rw [exl77]; simp only [List.length_take, List.length_cons, List.length_nil]; omega
      have E77 := S77.exa
      refine W77.pu hx D 81 [(2, true)] 5 108 [_, _, _, _, _, _, _, _, _, _, _, _, _, vN, _, _, _, _, _, _, _, _, _, _, _] [.null, _, _] rfl ⟨trivial, (XT.i0_eq_t (by decide +kernel))⟩ ?_
      refine W77.kS hx hEL (B.h 26 rfl) (B.h 27 rfl) (B.h 28 rfl) (B.h 29 rfl) [(.ref r77), (.long i2), .null] [] (rm113 B r77 i2 xl77 ns don dtn ko kt uu nn h77 W77.old S77 hxl77 OT OTE OTS OTM OSo OSt OAo OAt hN hu hm (by first | omega | (simp only [LN]; omega))) all0 0 (by decide +kernel) all0 hml (lenOf pd34 rfl) (D 108 rfl) ⟨rfl, rfl, rfl, rfl⟩ (fun T78 h78 v78 P78 Ws78 K78 q78 => ?_)
      have W78 := Ws78 [] all0
      obtain ⟨r78, rfl, lr78, S78⟩ := q78
      have gr78 : n0 ≤ r78 ∧ s.heap.size ≤ r78 := ⟨Nat.le_trans W77.n0le lr78, Nat.le_trans W77.s0le lr78⟩
      have E78 := S78.exa
      obtain ⟨cs, ecs⟩ : ∃ z, z = ((xl77 ++ [(32 : Int32), 100, 105, 100, 32, 110, 111, 116, 32, 97, 110, 115, 119, 101, 114, 32, 119, 105, 116, 104, 105, 110, 32]) ++ ((45 : Int32) :: dgl uu nn)) ++ [(32 : Int32), 109, 115] := ⟨_, rfl⟩
      rw [← ecs] at S78
      have hcs : ∀ c ∈ cs, ¬ c < 0 ∧ ¬ (255 : Int32) < c := by rw [ecs]; exact (bApp (bApp (bApp hxl77 (lat8 (by decide +kernel))) (allSi ⟨by decide, by decide⟩ (dgl_b uu nn))) (lat8 (by decide +kernel)))
      have lcs : cs.length = xl77.length + 23 + (nn + 1) + 3 := by rw [ecs]; simp only [List.length_append, List.length_cons, List.length_nil, dgl_len]
      have hA0 : ∀ j, j < xl77.length → cs.getD (0 + j) 0 = List.getD xl77 j 0 := fun j hj => by have q : cs = ([] : List Int32) ++ xl77 ++ ([(32 : Int32), 100, 105, 100, 32, 110, 111, 116, 32, 97, 110, 115, 119, 101, 114, 32, 119, 105, 116, 104, 105, 110, 32] ++ (((45 : Int32) :: dgl uu nn) ++ ([(32 : Int32), 109, 115]))) := (by rw [ecs] <;> simp only [List.append_assoc, List.append_nil, List.nil_append, List.cons_append]); rw [q, show 0 + j = List.length ([] : List Int32) + j from by first | rfl | omega | (simp only [List.length_append, List.length_cons, List.length_nil, dgl_len]; try omega)]; exact gmid (by first | omega | (simp only [List.length_cons, List.length_nil, dgl_len]; omega))
      have hA : ∀ j, j < xl77.length → cs.getD j 0 = List.getD [q70, q71] j 0 := fun j hj => by have q := hA0 j hj; rw [Nat.zero_add] at q; rw [q, exl77]; exact getTake (by omega)
      have hWn : ∀ j, j < 23 → cs.getD (xl77.length + j) 0 = List.getD [(32 : Int32), 100, 105, 100, 32, 110, 111, 116, 32, 97, 110, 115, 119, 101, 114, 32, 119, 105, 116, 104, 105, 110, 32] j 0 := fun j hj => by have q : cs = xl77 ++ [(32 : Int32), 100, 105, 100, 32, 110, 111, 116, 32, 97, 110, 115, 119, 101, 114, 32, 119, 105, 116, 104, 105, 110, 32] ++ (((45 : Int32) :: dgl uu nn) ++ ([(32 : Int32), 109, 115])) := (by rw [ecs] <;> simp only [List.append_assoc, List.append_nil, List.nil_append, List.cons_append]); rw [q, show xl77.length + j = List.length xl77 + j from by first | rfl | omega | (simp only [List.length_append, List.length_cons, List.length_nil, dgl_len]; try omega)]; exact gmid (by first | omega | (simp only [List.length_cons, List.length_nil, dgl_len]; omega))
      have hSg : ∀ j, j < 1 → cs.getD (xl77.length + 23 + j) 0 = List.getD [(45 : Int32)] j 0 := fun j hj => by have q : cs = (xl77 ++ [(32 : Int32), 100, 105, 100, 32, 110, 111, 116, 32, 97, 110, 115, 119, 101, 114, 32, 119, 105, 116, 104, 105, 110, 32]) ++ [(45 : Int32)] ++ (dgl uu nn ++ ([(32 : Int32), 109, 115])) := (by rw [ecs] <;> simp only [List.append_assoc, List.append_nil, List.nil_append, List.cons_append]); rw [q, show xl77.length + 23 + j = List.length (xl77 ++ [(32 : Int32), 100, 105, 100, 32, 110, 111, 116, 32, 97, 110, 115, 119, 101, 114, 32, 119, 105, 116, 104, 105, 110, 32]) + j from by first | rfl | omega | (simp only [List.length_append, List.length_cons, List.length_nil, dgl_len]; try omega)]; exact gmid (by first | omega | (simp only [List.length_cons, List.length_nil, dgl_len]; omega))
      have hDl : ∀ j, j < nn → cs.getD (xl77.length + 23 + 1 + j) 0 = List.getD (dgl uu nn) j 0 := fun j hj => by have q : cs = ((xl77 ++ [(32 : Int32), 100, 105, 100, 32, 110, 111, 116, 32, 97, 110, 115, 119, 101, 114, 32, 119, 105, 116, 104, 105, 110, 32]) ++ [(45 : Int32)]) ++ (dgl uu nn) ++ ([(32 : Int32), 109, 115]) := (by rw [ecs] <;> simp only [List.append_assoc, List.append_nil, List.nil_append, List.cons_append]); rw [q, show xl77.length + 23 + 1 + j = List.length ((xl77 ++ [(32 : Int32), 100, 105, 100, 32, 110, 111, 116, 32, 97, 110, 115, 119, 101, 114, 32, 119, 105, 116, 104, 105, 110, 32]) ++ [(45 : Int32)]) + j from by first | rfl | omega | (simp only [List.length_append, List.length_cons, List.length_nil, dgl_len]; try omega)]; exact gmid (by first | omega | (simp only [List.length_cons, List.length_nil, dgl_len]; omega))
      have hDn : ∀ k, k < nn → cs.getD (xl77.length + 23 + 1 + nn - 1 - k) 0 = Int32.ofNat (48 + uu / 10 ^ k % 10) := fun k hk => by rw [show xl77.length + 23 + 1 + nn - 1 - k = xl77.length + 23 + 1 + (nn - 1 - k) from by omega, hDl _ (by omega)]; exact dgl_at uu nn k hk
      have hMs : ∀ j, j < 3 → cs.getD (xl77.length + 23 + 1 + nn + j) 0 = List.getD [(32 : Int32), 109, 115] j 0 := fun j hj => by have q : cs = (((xl77 ++ [(32 : Int32), 100, 105, 100, 32, 110, 111, 116, 32, 97, 110, 115, 119, 101, 114, 32, 119, 105, 116, 104, 105, 110, 32]) ++ [(45 : Int32)]) ++ dgl uu nn) ++ [(32 : Int32), 109, 115] ++ ([]) := (by rw [ecs] <;> simp only [List.append_assoc, List.append_nil, List.nil_append, List.cons_append]); rw [q, show xl77.length + 23 + 1 + nn + j = List.length (((xl77 ++ [(32 : Int32), 100, 105, 100, 32, 110, 111, 116, 32, 97, 110, 115, 119, 101, 114, 32, 119, 105, 116, 104, 105, 110, 32]) ++ [(45 : Int32)]) ++ dgl uu nn) + j from by first | rfl | omega | (simp only [List.length_append, List.length_cons, List.length_nil, dgl_len]; try omega)]; exact gmid (by first | omega | (simp only [List.length_cons, List.length_nil, dgl_len]; omega))
      refine W78.pv hx D 111 2 114 [_, _, _, _, _, _, _, _, _, _, _, _, _, _, _, _, _, _, _, _, _, _, _, _, _] [_] rfl ?_
      refine W78.ldcJ hx (B.h 193 rfl) rfl (D 114 rfl) ?_
      refine gof T78 m 118 #[vi i0, vi i1, .val (.long i2), S0, vi i3, vi q70, vi q71, vi q72, vi q73, vi (Int32.ofNat (nl74)), vi (Int32.ofNat (nl75)), vi 0, vr r77, vN, vr r78, U0, U0, U0, U0, U0, U0, U0, U0, U0, U0] [(.long (negL (uu)))] (fun _ kk => XS.ldiv W78.here hx rfl (D 117 rfl) rfl (by decide +kernel) (by rw [hm]; exact kk)) ?_
      have ea79 : (-(negL (uu))) = (posL (uu)) := negNeg (by omega)
      refine W78.pu hx D 118 [(4, false), (4, false)] 1 141 [_, _, _, _, _, _, _, _, _, _, _, _, _, _, _, _, S0, vi 1, _, _, _, _, _, _, _] [_] rfl ⟨⟨trivial, (XT.ll_ge_f (ltZ1 (a := uu) (b := 0) (by decide +kernel) (by omega)))⟩, (XT.i0_eq_f (by decide +kernel))⟩ ?_
      refine W78.pv hx D 141 4 151 [_, _, _, _, _, _, _, _, _, _, _, _, _, _, _, _, _, _, .val (.long (posL (uu))), S0, _, _, _, _, _] [.long (posL (uu))] (by rw [← ea79]; rfl) ?_
      refine W78.kS hx hEL (B.h 194 rfl) (B.h 195 rfl) (B.h 2 rfl) (B.h 196 rfl) [(.long (posL (uu)))] [] (rm115 B uu nn h78 W78.old hN (by first | omega | (simp only [LN]; omega))) all0 0 (by decide +kernel) all0 hml (lenOf pd21 rfl) (D 151 rfl) ⟨rfl, rfl, rfl, rfl⟩ (fun T80 h80 v80 P80 Ws80 K80 q80 => ?_)
      have W80 := Ws80 [] all0
      obtain ⟨rfl, rfl⟩ := q80
      have ea81 : ((Int32.ofNat (nl74)) + (23 : Int32)) = (Int32.ofNat (nl74 + 23)) := (addN (nl74) (23)).trans (congrArg Int32.ofNat (by omega))
      have ea82 : ((Int32.ofNat (nl74 + 23)) + (Int32.ofNat (nn))) = (Int32.ofNat (nl74 + 23 + nn)) := (addN (nl74 + 23) (nn)).trans (congrArg Int32.ofNat (by omega))
      refine W80.pv hx D 154 9 170 [_, _, _, _, _, _, _, _, _, _, _, _, _, _, _, _, _, _, _, _, _, vi (Int32.ofNat (nl74 + 23)), _, _, _] [.int 1, .int (Int32.ofNat (nl74 + 23 + nn))] (by rw [← ea82, ← ea81]; rfl) ?_
      have ea83 : ((Int32.ofNat (nl74 + 23 + nn)) + (1 : Int32)) = (Int32.ofNat (nl74 + 23 + nn + 1)) := (addN (nl74 + 23 + nn) (1)).trans (congrArg Int32.ofNat (by omega))
      refine W80.pu hx D 170 [(0, false)] 2 178 [_, _, _, _, _, _, _, _, _, _, _, _, _, _, _, _, _, _, _, _, _, _, _, _, _] [.int 1, _] rfl ⟨trivial, (XT.i0_eq_f (by decide +kernel))⟩ ?_
      have ea84 : ((Int32.ofNat (nl74 + 23 + nn + 1)) + (3 : Int32)) = (Int32.ofNat (nl74 + 23 + nn + 1 + 3)) := (addN (nl74 + 23 + nn + 1) (3)).trans (congrArg Int32.ofNat (by omega))
      refine W80.pv hx D 178 7 189 [_, _, _, _, _, _, _, _, _, _, _, _, _, _, _, _, _, _, _, _, _, _, vi (Int32.ofNat (nl74 + 23 + nn + 1)), vi (Int32.ofNat (nl74 + 23 + nn + 1 + 3)), _] [.int 0] (by rw [← ea84, ← ea83]; rfl) ?_
      refine W80.pu hx D 189 [(0, true)] 5 213 [_, _, _, _, _, _, _, _, _, _, _, _, _, _, _, _, _, _, _, _, _, _, _, _, _] [_] rfl ⟨trivial, (XT.i0_eq_t (by decide +kernel))⟩ ?_
      refine W80.strLen hx hln (B.h 5 rfl) SC hzc S78 (B.h 208 rfl) (B.h 59 rfl) (B.h 61 rfl) (B.h 60 rfl) (by decide +kernel) (Wd := 0) (by decide +kernel) (by decide +kernel) (by decide +kernel) rfl (by rw [hml]; rfl) rfl (by show 2 * 0 + _ ≤ _; exact Nat.le_of_eq rfl) (D 213 rfl) (fun T85 W85 => ?_)
      show Go p e below _ (T85.setTop (mkF m 216 #[vi i0, vi i1, .val (.long i2), S0, vi i3, vi q70, vi q71, vi q72, vi q73, vi (Int32.ofNat (nl74)), vi (Int32.ofNat (nl75)), vi 0, vr r77, vN, vr r78, .val (.long (negL (uu))), S0, vi 1, .val (.long (posL (uu))), S0, vi (Int32.ofNat (nn)), vi (Int32.ofNat (nl74 + 23)), vi (Int32.ofNat (nl74 + 23 + nn + 1)), vi (Int32.ofNat (nl74 + 23 + nn + 1 + 3)), vi (Int32.ofNat (nl74 + 23 + nn + 1 + 3))] [(.int (Int32.ofNat (cs.length)))]))
      refine W85.pu hx D 216 [(1, true)] 0 223 [_, _, _, _, _, _, _, _, _, _, _, _, _, _, _, _, _, _, _, _, _, _, _, _, _] [] rfl ⟨trivial, (XT.ii_eq_t (eqN (a := cs.length) (b := nl74 + 23 + nn + 1 + 3) (by first | omega | (simp only [LN]; omega))))⟩ ?_
      have tl : ∀ Tt : State, Wk p l e room_1 s m #[(.int i0), (.int i1), (.long i2), (.int i3)] below meth c Z EL0 n0 [] "com/example/sem1/sem1/store/StoreFailuresUnansweredPinLaw" [] Tt 18 608 h78 → Go p e below (Fend Z EL0 n0 s h0 [] (fun v h' S => v = some (.int 1)) room_1) (Tt.setTop (mkF m 261 #[vi i0, vi i1, .val (.long i2), S0, vi i3, vi q70, vi q71, vi q72, vi q73, vi (Int32.ofNat (nl74)), vi (Int32.ofNat (nl75)), vi 0, vr r77, vN, vr r78, .val (.long (negL (uu))), S0, vi 1, .val (.long (posL (uu))), S0, vi (Int32.ofNat (nn)), vi (Int32.ofNat (nl74 + 23)), vi (Int32.ofNat (nl74 + 23 + nn + 1)), vi (Int32.ofNat (nl74 + 23 + nn + 1 + 3)), vi (Int32.ofNat (nl74 + 23 + nn + 1 + 3))] [])) := by
        intro Tt Wt
        refine Wt.pv hx D 261 2 265 [_, _, _, _, _, _, _, _, _, _, _, _, _, _, _, _, _, _, _, _, _, _, _, _, _] [_, _] rfl ?_
        refine Wt.kS hx hEL (B.h 209 rfl) (B.h 210 rfl) (B.h 2 rfl) (B.h 211 rfl) [(.ref r78), (.int (Int32.ofNat (nl74)))] [] (rm117 B r78 cs nl74 h78 Wt.old S78 hcs (by first | omega | (simp only [LN]; omega)) (fun i hi => (congrArg (fun z => cs.getD (z + i) 0) (show nl74 = xl77.length from by omega)).trans (hWn i hi))) all0 0 (by decide +kernel) all0 hml (lenOf pd35 rfl) (D 265 rfl) ⟨rfl, rfl, rfl, rfl⟩ (fun T86 h86 v86 P86 Ws86 K86 q86 => ?_)
        have W86 := Ws86 [] all0
        obtain rfl := q86
        have k88 := (S78.keep0 K86)
        refine W86.pu hx D 268 [(0, true), (1, false)] 2 282 [_, _, _, _, _, _, _, _, _, _, _, _, _, _, _, _, _, _, _, _, _, _, _, _, _] [_, _] rfl ⟨⟨trivial, (XT.i0_ne_t (by decide +kernel))⟩, (XT.i0_eq_f (by decide +kernel))⟩ ?_
        refine W86.kC hx hch (B.h 5 rfl) SC hzc SF rfm (B.h 216 rfl) (B.h 217 rfl) (B.h 219 rfl) (B.h 218 rfl) hml k88 (snd255 hcs) (nl74 + 23) (by first | omega | (simp only [LN]; omega)) 0 (by decide +kernel) (D 282 rfl) ⟨rfl, rfl, rfl, rfl, rfl⟩ (fun T87 W87 => ?_)
        refine W87.pu hx D 285 [(1, true)] 4 300 [_, _, _, _, _, _, _, _, _, _, _, _, _, _, _, _, _, _, _, _, _, _, _, _, _] [_, _, _, _] rfl ⟨trivial, (XT.ii_eq_t ((congrArg (fun z => cs.getD z 0) (show nl74 + 23 = xl77.length + 23 + 0 from by omega)).trans (hSg 0 (by omega))))⟩ ?_
        refine W87.kS hx hEL (B.h 238 rfl) (B.h 239 rfl) (B.h 2 rfl) (B.h 240 rfl) [(.ref r78), (.int (Int32.ofNat (nl74 + 23 + nn + 1))), (.long (posL (uu))), (.int (Int32.ofNat (nn)))] [] (rm140 B r78 cs (nl74 + 23 + nn + 1) uu nn h86 W87.old k88 hcs hN (by first | omega | (simp only [LN]; omega)) (by first | omega | (simp only [LN]; omega)) (fun k hk => (congrArg (fun z => cs.getD (z - 1 - k) 0) (show nl74 + 23 + nn + 1 = xl77.length + 23 + 1 + nn from by omega)).trans (hDn k hk))) all0 0 (by decide +kernel) all0 hml (lenOf pd36 rfl) (D 300 rfl) ⟨rfl, rfl, rfl, rfl⟩ (fun T89 h89 v89 P89 Ws89 K89 q89 => ?_)
        have W89 := Ws89 [] all0
        obtain rfl := q89
        have k91 := (k88.keep0 K89)
        refine W89.pu hx D 303 [(0, true)] 2 312 [_, _, _, _, _, _, _, _, _, _, _, _, _, _, _, _, _, _, _, _, _, _, _, _, _] [_, _] rfl ⟨trivial, (XT.i0_ne_t (by decide +kernel))⟩ ?_
        refine W89.kC hx hch (B.h 5 rfl) SC hzc SF rfm (B.h 216 rfl) (B.h 217 rfl) (B.h 219 rfl) (B.h 218 rfl) hml k91 (snd255 hcs) (nl74 + 23 + nn + 1) (by first | omega | (simp only [LN]; omega)) 0 (by decide +kernel) (D 312 rfl) ⟨rfl, rfl, rfl, rfl, rfl⟩ (fun T90 W90 => ?_)
        have ea92 : ((Int32.ofNat (nl74 + 23 + nn + 1)) + (1 : Int32)) = (Int32.ofNat (nl74 + 23 + nn + 1 + 1)) := (addN (nl74 + 23 + nn + 1) (1)).trans (congrArg Int32.ofNat (by omega))
        refine W90.pu hx D 315 [(1, false)] 3 325 [_, _, _, _, _, _, _, _, _, _, _, _, _, _, _, _, _, _, _, _, _, _, _, _, _] [.int 1, _, _] rfl ⟨trivial, (XT.ii_ne_f ((congrArg (fun z => cs.getD z 0) (show nl74 + 23 + nn + 1 = xl77.length + 23 + 1 + nn + 0 from by omega)).trans (hMs 0 (by omega))))⟩ ?_
        refine W90.pv hx D 325 1 326 [_, _, _, _, _, _, _, _, _, _, _, _, _, _, _, _, _, _, _, _, _, _, _, _, _] [.int (Int32.ofNat (nl74 + 23 + nn + 1 + 1)), _] (by rw [← ea92]; rfl) ?_
        refine W90.kC hx hch (B.h 5 rfl) SC hzc SF rfm (B.h 216 rfl) (B.h 217 rfl) (B.h 219 rfl) (B.h 218 rfl) hml k91 (snd255 hcs) (nl74 + 23 + nn + 1 + 1) (by first | omega | (simp only [LN]; omega)) 0 (by decide +kernel) (D 326 rfl) ⟨rfl, rfl, rfl, rfl, rfl⟩ (fun T93 W93 => ?_)
        have ea94 : ((Int32.ofNat (nl74 + 23 + nn + 1)) + (2 : Int32)) = (Int32.ofNat (nl74 + 23 + nn + 1 + 2)) := (addN (nl74 + 23 + nn + 1) (2)).trans (congrArg Int32.ofNat (by omega))
        refine W93.pu hx D 329 [(1, false)] 3 339 [_, _, _, _, _, _, _, _, _, _, _, _, _, _, _, _, _, _, _, _, _, _, _, _, _] [.int 2, _, _] rfl ⟨trivial, (XT.ii_ne_f ((congrArg (fun z => cs.getD z 0) (show nl74 + 23 + nn + 1 + 1 = xl77.length + 23 + 1 + nn + 1 from by omega)).trans (hMs 1 (by omega))))⟩ ?_
        refine W93.pv hx D 339 1 340 [_, _, _, _, _, _, _, _, _, _, _, _, _, _, _, _, _, _, _, _, _, _, _, _, _] [.int (Int32.ofNat (nl74 + 23 + nn + 1 + 2)), _] (by rw [← ea94]; rfl) ?_
        refine W93.kC hx hch (B.h 5 rfl) SC hzc SF rfm (B.h 216 rfl) (B.h 217 rfl) (B.h 219 rfl) (B.h 218 rfl) hml k91 (snd255 hcs) (nl74 + 23 + nn + 1 + 2) (by first | omega | (simp only [LN]; omega)) 0 (by decide +kernel) (D 340 rfl) ⟨rfl, rfl, rfl, rfl, rfl⟩ (fun T95 W95 => ?_)
        refine W95.pu hx D 343 [(1, true), (1, true)] 1 428 [_, _, _, _, _, _, _, _, _, _, _, _, _, _, _, _, _, _, _, _, _, _, _, _, _] [.int 1] rfl ⟨⟨trivial, (XT.ii_eq_t ((congrArg (fun z => cs.getD z 0) (show nl74 + 23 + nn + 1 + 2 = xl77.length + 23 + 1 + nn + 2 from by omega)).trans (hMs 2 (by omega))))⟩, (XT.i0_eq_t (by decide +kernel))⟩ ?_
        exact W95.retI hx hEL hs hlk (by decide +kernel) (by decide +kernel) hret (by simp) rfl (D 428 rfl) (fun S hS => rfl)
      refine W85.pv hx D 223 2 226 [_, _, _, _, _, _, _, _, _, _, _, _, _, _, _, _, _, _, _, _, _, _, _, _, _] [.int 1, _] rfl ?_
      by_cases c96 : nl74 < 1
      · refine W85.pu hx D 226 [(0, true)] 2 245 [_, _, _, _, _, _, _, _, _, _, _, _, _, _, _, _, _, _, _, _, _, _, _, _, _] [.int 2, _] rfl ⟨trivial, (XT.ii_lt_t (ltN (a := nl74) (b := 1) (by first | omega | (simp only [LN]; omega))))⟩ ?_
        by_cases c97 : nl74 < 2
        · refine W85.pu hx D 245 [(0, true)] 0 261 [_, _, _, _, _, _, _, _, _, _, _, _, _, _, _, _, _, _, _, _, _, _, _, _, _] [] rfl ⟨trivial, (XT.ii_lt_t (ltN (a := nl74) (b := 2) (by first | omega | (simp only [LN]; omega))))⟩ ?_
          exact tl _ W85
        · refine W85.pu hx D 245 [(0, false)] 2 251 [_, _, _, _, _, _, _, _, _, _, _, _, _, _, _, _, _, _, _, _, _, _, _, _, _] [.int 1, _] rfl ⟨trivial, (XT.ii_lt_f (nltN (a := nl74) (b := 2) (by first | omega | (simp only [LN]; omega))))⟩ ?_
          refine W85.kC hx hch (B.h 5 rfl) SC hzc SF rfm (B.h 216 rfl) (B.h 217 rfl) (B.h 219 rfl) (B.h 218 rfl) hml S78 (snd255 hcs) (1) (by first | omega | (simp only [LN]; omega)) 0 (by decide +kernel) (D 251 rfl) ⟨rfl, rfl, rfl, rfl, rfl⟩ (fun T98 W98 => ?_)
          refine W98.pu hx D 254 [(1, true)] 0 261 [_, _, _, _, _, _, _, _, _, _, _, _, _, _, _, _, _, _, _, _, _, _, _, _, _] [] rfl ⟨trivial, (XT.ii_eq_t ((congrArg (fun z => cs.getD z 0) (show 1 = 1 from by omega)).trans (hA 1 (by omega))))⟩ ?_
          exact tl _ W98
      · refine W85.pu hx D 226 [(0, false)] 2 232 [_, _, _, _, _, _, _, _, _, _, _, _, _, _, _, _, _, _, _, _, _, _, _, _, _] [.int 0, _] rfl ⟨trivial, (XT.ii_lt_f (nltN (a := nl74) (b := 1) (by first | omega | (simp only [LN]; omega))))⟩ ?_
        refine W85.kC hx hch (B.h 5 rfl) SC hzc SF rfm (B.h 216 rfl) (B.h 217 rfl) (B.h 219 rfl) (B.h 218 rfl) hml S78 (snd255 hcs) (0) (by first | omega | (simp only [LN]; omega)) 0 (by decide +kernel) (D 232 rfl) ⟨rfl, rfl, rfl, rfl, rfl⟩ (fun T99 W99 => ?_)
        refine W99.pu hx D 235 [(1, true)] 2 245 [_, _, _, _, _, _, _, _, _, _, _, _, _, _, _, _, _, _, _, _, _, _, _, _, _] [.int 2, _] rfl ⟨trivial, (XT.ii_eq_t ((congrArg (fun z => cs.getD z 0) (show 0 = 0 from by omega)).trans (hA 0 (by omega))))⟩ ?_
        by_cases c100 : nl74 < 2
        · refine W99.pu hx D 245 [(0, true)] 0 261 [_, _, _, _, _, _, _, _, _, _, _, _, _, _, _, _, _, _, _, _, _, _, _, _, _] [] rfl ⟨trivial, (XT.ii_lt_t (ltN (a := nl74) (b := 2) (by first | omega | (simp only [LN]; omega))))⟩ ?_
          exact tl _ W99
        · refine W99.pu hx D 245 [(0, false)] 2 251 [_, _, _, _, _, _, _, _, _, _, _, _, _, _, _, _, _, _, _, _, _, _, _, _, _] [.int 1, _] rfl ⟨trivial, (XT.ii_lt_f (nltN (a := nl74) (b := 2) (by first | omega | (simp only [LN]; omega))))⟩ ?_
          refine W99.kC hx hch (B.h 5 rfl) SC hzc SF rfm (B.h 216 rfl) (B.h 217 rfl) (B.h 219 rfl) (B.h 218 rfl) hml S78 (snd255 hcs) (1) (by first | omega | (simp only [LN]; omega)) 0 (by decide +kernel) (D 251 rfl) ⟨rfl, rfl, rfl, rfl, rfl⟩ (fun T101 W101 => ?_)
          refine W101.pu hx D 254 [(1, true)] 0 261 [_, _, _, _, _, _, _, _, _, _, _, _, _, _, _, _, _, _, _, _, _, _, _, _, _] [] rfl ⟨trivial, (XT.ii_eq_t ((congrArg (fun z => cs.getD z 0) (show 1 = 1 from by omega)).trans (hA 1 (by omega))))⟩ ?_
          exact tl _ W101
    · refine W0.pu hx D 62 [(0, false)] 6 78 [_, _, _, _, _, _, _, _, _, _, _, vi 1, _, _, _, _, _, _, _, _, _, _, _, _, _] [_, _, _] rfl ⟨trivial, (XT.i0_eq_f c76)⟩ ?_
      refine W0.kS hx hEL (B.h 0 rfl) (B.h 1 rfl) (B.h 2 rfl) (B.h 3 rfl) [(.int (Int32.ofNat (nl74))), (.int q70), (.int q71)] [] (rm110 B q70 q71 nl74 h0 W0.old (by first | omega | (simp only [LN]; omega)) cq70 cq71) all0 0 (by decide +kernel) all0 hml (lenOf pd33 rfl) (D 78 rfl) ⟨rfl, rfl, rfl, rfl⟩ (fun T102 h102 v102 P102 Ws102 K102 q102 => ?_)
      have W102 := Ws102 [] all0
      obtain ⟨r102, rfl, lr102, S102⟩ := q102
      have gr102 : n0 ≤ r102 ∧ s.heap.size ≤ r102 := ⟨Nat.le_trans W0.n0le lr102, Nat.le_trans W0.s0le lr102⟩
      obtain ⟨xl102, exl102⟩ : ∃ z, z = List.take nl74 [q70, q71] := ⟨_, rfl⟩
      rw [← exl102] at S102
      have hxl102 : ∀ c ∈ xl102, ¬ c < 0 ∧ ¬ (255 : Int32) < c := by rw [exl102]; exact bTake _ (allSi cq70 (allSi cq71 all0i))
      have lxl102 : xl102.length = nl74 := by rw [exl102]; simp only [List.length_take, List.length_cons, List.length_nil]; omega
      have E102 := S102.exa
      refine W102.pu hx D 81 [(2, false)] 3 94 [_, _, _, _, _, _, _, _, _, _, _, _, _, _, _, _, _, _, _, _, _, _, _, _, _] [_, _, _] rfl ⟨trivial, (XT.i0_eq_f (by decide +kernel))⟩ ?_
      refine W102.kS hx hEL (B.h 0 rfl) (B.h 1 rfl) (B.h 2 rfl) (B.h 3 rfl) [(.int (Int32.ofNat (nl75))), (.int q72), (.int q73)] [] (rm110 B q72 q73 nl75 h102 W102.old (by first | omega | (simp only [LN]; omega)) cq72 cq73) all0 0 (by decide +kernel) all0 hml (lenOf pd33 rfl) (D 94 rfl) ⟨rfl, rfl, rfl, rfl⟩ (fun T103 h103 v103 P103 Ws103 K103 q103 => ?_)
      have W103 := Ws103 [] all0
      obtain ⟨r103, rfl, lr103, S103⟩ := q103
      have gr103 : n0 ≤ r103 ∧ s.heap.size ≤ r103 := ⟨Nat.le_trans W102.n0le lr103, Nat.le_trans W102.s0le lr103⟩
      obtain ⟨xl103, exl103⟩ : ∃ z, z = List.take nl75 [q72, q73] := ⟨_, rfl⟩
      rw [← exl103] at S103
      have hxl103 : ∀ c ∈ xl103, ¬ c < 0 ∧ ¬ (255 : Int32) < c := by rw [exl103]; exact bTake _ (allSi cq72 (allSi cq73 all0i))
      have lxl103 : xl103.length = nl75 := by rw [exl103]; simp only [List.length_take, List.length_cons, List.length_nil]; omega
      have E103 := S103.exa
      have k105 := (S102.keep0 K103)
      refine W103.pv hx D 97 5 108 [_, _, _, _, _, _, _, _, _, _, _, _, _, _, _, _, _, _, _, _, _, _, _, _, _] [_, _, _] rfl ?_
      refine W103.kS hx hEL (B.h 26 rfl) (B.h 27 rfl) (B.h 28 rfl) (B.h 29 rfl) [(.ref r102), (.long i2), (.ref r103)] [] (rm114 B r102 i2 xl102 r103 xl103 ns don dtn ko kt uu nn h103 W103.old k105 hxl102 S103 hxl103 OT OTE OTS OTM OSo OSt OAo OAt hN hu hm (by first | omega | (simp only [LN]; omega))) all0 0 (by decide +kernel) all0 hml (lenOf pd34 rfl) (D 108 rfl) ⟨rfl, rfl, rfl, rfl⟩ (fun T104 h104 v104 P104 Ws104 K104 q104 => ?_)
      have W104 := Ws104 [] all0
      obtain ⟨r104, rfl, lr104, S104⟩ := q104
      have gr104 : n0 ≤ r104 ∧ s.heap.size ≤ r104 := ⟨Nat.le_trans W103.n0le lr104, Nat.le_trans W103.s0le lr104⟩
      have E104 := S104.exa
      obtain ⟨cs, ecs⟩ : ∃ z, z = ((((xl102 ++ [(32 : Int32), 100, 105, 100, 32, 110, 111, 116, 32, 97, 110, 115, 119, 101, 114, 32, 119, 105, 116, 104, 105, 110, 32]) ++ ((45 : Int32) :: dgl uu nn)) ++ [(32 : Int32), 109, 115]) ++ [(59 : Int32), 32]) ++ xl103 := ⟨_, rfl⟩
      rw [← ecs] at S104
      have hcs : ∀ c ∈ cs, ¬ c < 0 ∧ ¬ (255 : Int32) < c := by rw [ecs]; exact (bApp (bApp (bApp (bApp (bApp hxl102 (lat8 (by decide +kernel))) (allSi ⟨by decide, by decide⟩ (dgl_b uu nn))) (lat8 (by decide +kernel))) (lat8 (by decide +kernel))) hxl103)
      have lcs : cs.length = xl102.length + 23 + (nn + 1) + 3 + 2 + xl103.length := by rw [ecs]; simp only [List.length_append, List.length_cons, List.length_nil, dgl_len]
      have hA0 : ∀ j, j < xl102.length → cs.getD (0 + j) 0 = List.getD xl102 j 0 := fun j hj => by have q : cs = ([] : List Int32) ++ xl102 ++ ([(32 : Int32), 100, 105, 100, 32, 110, 111, 116, 32, 97, 110, 115, 119, 101, 114, 32, 119, 105, 116, 104, 105, 110, 32] ++ (((45 : Int32) :: dgl uu nn) ++ ([(32 : Int32), 109, 115] ++ ([(59 : Int32), 32] ++ xl103)))) := (by rw [ecs] <;> simp only [List.append_assoc, List.append_nil, List.nil_append, List.cons_append]); rw [q, show 0 + j = List.length ([] : List Int32) + j from by first | rfl | omega | (simp only [List.length_append, List.length_cons, List.length_nil, dgl_len]; try omega)]; exact gmid (by first | omega | (simp only [List.length_cons, List.length_nil, dgl_len]; omega))
      have hA : ∀ j, j < xl102.length → cs.getD j 0 = List.getD [q70, q71] j 0 := fun j hj => by have q := hA0 j hj; rw [Nat.zero_add] at q; rw [q, exl102]; exact getTake (by omega)
      have hWn : ∀ j, j < 23 → cs.getD (xl102.length + j) 0 = List.getD [(32 : Int32), 100, 105, 100, 32, 110, 111, 116, 32, 97, 110, 115, 119, 101, 114, 32, 119, 105, 116, 104, 105, 110, 32] j 0 := fun j hj => by have q : cs = xl102 ++ [(32 : Int32), 100, 105, 100, 32, 110, 111, 116, 32, 97, 110, 115, 119, 101, 114, 32, 119, 105, 116, 104, 105, 110, 32] ++ (((45 : Int32) :: dgl uu nn) ++ ([(32 : Int32), 109, 115] ++ ([(59 : Int32), 32] ++ xl103))) := (by rw [ecs] <;> simp only [List.append_assoc, List.append_nil, List.nil_append, List.cons_append]); rw [q, show xl102.length + j = List.length xl102 + j from by first | rfl | omega | (simp only [List.length_append, List.length_cons, List.length_nil, dgl_len]; try omega)]; exact gmid (by first | omega | (simp only [List.length_cons, List.length_nil, dgl_len]; omega))
      have hSg : ∀ j, j < 1 → cs.getD (xl102.length + 23 + j) 0 = List.getD [(45 : Int32)] j 0 := fun j hj => by have q : cs = (xl102 ++ [(32 : Int32), 100, 105, 100, 32, 110, 111, 116, 32, 97, 110, 115, 119, 101, 114, 32, 119, 105, 116, 104, 105, 110, 32]) ++ [(45 : Int32)] ++ (dgl uu nn ++ ([(32 : Int32), 109, 115] ++ ([(59 : Int32), 32] ++ xl103))) := (by rw [ecs] <;> simp only [List.append_assoc, List.append_nil, List.nil_append, List.cons_append]); rw [q, show xl102.length + 23 + j = List.length (xl102 ++ [(32 : Int32), 100, 105, 100, 32, 110, 111, 116, 32, 97, 110, 115, 119, 101, 114, 32, 119, 105, 116, 104, 105, 110, 32]) + j from by first | rfl | omega | (simp only [List.length_append, List.length_cons, List.length_nil, dgl_len]; try omega)]; exact gmid (by first | omega | (simp only [List.length_cons, List.length_nil, dgl_len]; omega))
      have hDl : ∀ j, j < nn → cs.getD (xl102.length + 23 + 1 + j) 0 = List.getD (dgl uu nn) j 0 := fun j hj => by have q : cs = ((xl102 ++ [(32 : Int32), 100, 105, 100, 32, 110, 111, 116, 32, 97, 110, 115, 119, 101, 114, 32, 119, 105, 116, 104, 105, 110, 32]) ++ [(45 : Int32)]) ++ (dgl uu nn) ++ ([(32 : Int32), 109, 115] ++ ([(59 : Int32), 32] ++ xl103)) := (by rw [ecs] <;> simp only [List.append_assoc, List.append_nil, List.nil_append, List.cons_append]); rw [q, show xl102.length + 23 + 1 + j = List.length ((xl102 ++ [(32 : Int32), 100, 105, 100, 32, 110, 111, 116, 32, 97, 110, 115, 119, 101, 114, 32, 119, 105, 116, 104, 105, 110, 32]) ++ [(45 : Int32)]) + j from by first | rfl | omega | (simp only [List.length_append, List.length_cons, List.length_nil, dgl_len]; try omega)]; exact gmid (by first | omega | (simp only [List.length_cons, List.length_nil, dgl_len]; omega))
      have hDn : ∀ k, k < nn → cs.getD (xl102.length + 23 + 1 + nn - 1 - k) 0 = Int32.ofNat (48 + uu / 10 ^ k % 10) := fun k hk => by rw [show xl102.length + 23 + 1 + nn - 1 - k = xl102.length + 23 + 1 + (nn - 1 - k) from by omega, hDl _ (by omega)]; exact dgl_at uu nn k hk
      have hMs : ∀ j, j < 3 → cs.getD (xl102.length + 23 + 1 + nn + j) 0 = List.getD [(32 : Int32), 109, 115] j 0 := fun j hj => by have q : cs = (((xl102 ++ [(32 : Int32), 100, 105, 100, 32, 110, 111, 116, 32, 97, 110, 115, 119, 101, 114, 32, 119, 105, 116, 104, 105, 110, 32]) ++ [(45 : Int32)]) ++ dgl uu nn) ++ [(32 : Int32), 109, 115] ++ ([(59 : Int32), 32] ++ xl103) := (by rw [ecs] <;> simp only [List.append_assoc, List.append_nil, List.nil_append, List.cons_append]); rw [q, show xl102.length + 23 + 1 + nn + j = List.length (((xl102 ++ [(32 : Int32), 100, 105, 100, 32, 110, 111, 116, 32, 97, 110, 115, 119, 101, 114, 32, 119, 105, 116, 104, 105, 110, 32]) ++ [(45 : Int32)]) ++ dgl uu nn) + j from by first | rfl | omega | (simp only [List.length_append, List.length_cons, List.length_nil, dgl_len]; try omega)]; exact gmid (by first | omega | (simp only [List.length_cons, List.length_nil, dgl_len]; omega))
      have hYs : ∀ j, j < 2 → cs.getD (xl102.length + 23 + 1 + nn + 3 + j) 0 = List.getD [(59 : Int32), 32] j 0 := fun j hj => by have q : cs = ((((xl102 ++ [(32 : Int32), 100, 105, 100, 32, 110, 111, 116, 32, 97, 110, 115, 119, 101, 114, 32, 119, 105, 116, 104, 105, 110, 32]) ++ [(45 : Int32)]) ++ dgl uu nn) ++ [(32 : Int32), 109, 115]) ++ [(59 : Int32), 32] ++ xl103 := (by rw [ecs] <;> simp only [List.append_assoc, List.append_nil, List.nil_append, List.cons_append]); rw [q, show xl102.length + 23 + 1 + nn + 3 + j = List.length ((((xl102 ++ [(32 : Int32), 100, 105, 100, 32, 110, 111, 116, 32, 97, 110, 115, 119, 101, 114, 32, 119, 105, 116, 104, 105, 110, 32]) ++ [(45 : Int32)]) ++ dgl uu nn) ++ [(32 : Int32), 109, 115]) + j from by first | rfl | omega | (simp only [List.length_append, List.length_cons, List.length_nil, dgl_len]; try omega)]; exact gmid (by first | omega | (simp only [List.length_cons, List.length_nil, dgl_len]; omega))
      have hB0 : ∀ j, j < xl103.length → cs.getD (xl102.length + 23 + 1 + nn + 3 + 2 + j) 0 = List.getD xl103 j 0 := fun j hj => by have q : cs = (((((xl102 ++ [(32 : Int32), 100, 105, 100, 32, 110, 111, 116, 32, 97, 110, 115, 119, 101, 114, 32, 119, 105, 116, 104, 105, 110, 32]) ++ [(45 : Int32)]) ++ dgl uu nn) ++ [(32 : Int32), 109, 115]) ++ [(59 : Int32), 32]) ++ xl103 ++ [] := (by rw [ecs] <;> simp only [List.append_assoc, List.append_nil, List.nil_append, List.cons_append]); rw [q, show xl102.length + 23 + 1 + nn + 3 + 2 + j = List.length (((((xl102 ++ [(32 : Int32), 100, 105, 100, 32, 110, 111, 116, 32, 97, 110, 115, 119, 101, 114, 32, 119, 105, 116, 104, 105, 110, 32]) ++ [(45 : Int32)]) ++ dgl uu nn) ++ [(32 : Int32), 109, 115]) ++ [(59 : Int32), 32]) + j from by first | rfl | omega | (simp only [List.length_append, List.length_cons, List.length_nil, dgl_len]; try omega)]; exact gmid (by first | omega | (simp only [List.length_cons, List.length_nil, dgl_len]; omega))
      have hB : ∀ j, j < xl103.length → cs.getD (xl102.length + 23 + 1 + nn + 3 + 2 + j) 0 = List.getD [q72, q73] j 0 := fun j hj => by rw [hB0 j hj, exl103]; exact getTake (by omega)
      refine W104.pv hx D 111 2 114 [_, _, _, _, _, _, _, _, _, _, _, _, _, _, _, _, _, _, _, _, _, _, _, _, _] [_] rfl ?_
      refine W104.ldcJ hx (B.h 193 rfl) rfl (D 114 rfl) ?_
      refine gof T104 m 118 #[vi i0, vi i1, .val (.long i2), S0, vi i3, vi q70, vi q71, vi q72, vi q73, vi (Int32.ofNat (nl74)), vi (Int32.ofNat (nl75)), vi 1, vr r102, vr r103, vr r104, U0, U0, U0, U0, U0, U0, U0, U0, U0, U0] [(.long (negL (uu)))] (fun _ kk => XS.ldiv W104.here hx rfl (D 117 rfl) rfl (by decide +kernel) (by rw [hm]; exact kk)) ?_
      have ea106 : (-(negL (uu))) = (posL (uu)) := negNeg (by omega)
      refine W104.pu hx D 118 [(4, false), (4, false)] 1 141 [_, _, _, _, _, _, _, _, _, _, _, _, _, _, _, _, S0, vi 1, _, _, _, _, _, _, _] [_] rfl ⟨⟨trivial, (XT.ll_ge_f (ltZ1 (a := uu) (b := 0) (by decide +kernel) (by omega)))⟩, (XT.i0_eq_f (by decide +kernel))⟩ ?_
      refine W104.pv hx D 141 4 151 [_, _, _, _, _, _, _, _, _, _, _, _, _, _, _, _, _, _, .val (.long (posL (uu))), S0, _, _, _, _, _] [.long (posL (uu))] (by rw [← ea106]; rfl) ?_
      refine W104.kS hx hEL (B.h 194 rfl) (B.h 195 rfl) (B.h 2 rfl) (B.h 196 rfl) [(.long (posL (uu)))] [] (rm115 B uu nn h104 W104.old hN (by first | omega | (simp only [LN]; omega))) all0 0 (by decide +kernel) all0 hml (lenOf pd21 rfl) (D 151 rfl) ⟨rfl, rfl, rfl, rfl⟩ (fun T107 h107 v107 P107 Ws107 K107 q107 => ?_)
      have W107 := Ws107 [] all0
      obtain ⟨rfl, rfl⟩ := q107
      have ea108 : ((Int32.ofNat (nl74)) + (23 : Int32)) = (Int32.ofNat (nl74 + 23)) := (addN (nl74) (23)).trans (congrArg Int32.ofNat (by omega))
      have ea109 : ((Int32.ofNat (nl74 + 23)) + (Int32.ofNat (nn))) = (Int32.ofNat (nl74 + 23 + nn)) := (addN (nl74 + 23) (nn)).trans (congrArg Int32.ofNat (by omega))
      refine W107.pv hx D 154 9 170 [_, _, _, _, _, _, _, _, _, _, _, _, _, _, _, _, _, _, _, _, _, vi (Int32.ofNat (nl74 + 23)), _, _, _] [.int 1, .int (Int32.ofNat (nl74 + 23 + nn))] (by rw [← ea109, ← ea108]; rfl) ?_
      have ea110 : ((Int32.ofNat (nl74 + 23 + nn)) + (1 : Int32)) = (Int32.ofNat (nl74 + 23 + nn + 1)) := (addN (nl74 + 23 + nn) (1)).trans (congrArg Int32.ofNat (by omega))
      refine W107.pu hx D 170 [(0, false)] 2 178 [_, _, _, _, _, _, _, _, _, _, _, _, _, _, _, _, _, _, _, _, _, _, _, _, _] [.int 1, _] rfl ⟨trivial, (XT.i0_eq_f (by decide +kernel))⟩ ?_
      have ea111 : ((Int32.ofNat (nl74 + 23 + nn + 1)) + (3 : Int32)) = (Int32.ofNat (nl74 + 23 + nn + 1 + 3)) := (addN (nl74 + 23 + nn + 1) (3)).trans (congrArg Int32.ofNat (by omega))
      refine W107.pv hx D 178 7 189 [_, _, _, _, _, _, _, _, _, _, _, _, _, _, _, _, _, _, _, _, _, _, vi (Int32.ofNat (nl74 + 23 + nn + 1)), vi (Int32.ofNat (nl74 + 23 + nn + 1 + 3)), _] [.int 1] (by rw [← ea111, ← ea110]; rfl) ?_
      have ea112 : ((Int32.ofNat (nl74 + 23 + nn + 1 + 3)) + (2 : Int32)) = (Int32.ofNat (nl74 + 23 + nn + 1 + 3 + 2)) := (addN (nl74 + 23 + nn + 1 + 3) (2)).trans (congrArg Int32.ofNat (by omega))
      refine W107.pu hx D 189 [(0, false)] 2 195 [_, _, _, _, _, _, _, _, _, _, _, _, _, _, _, _, _, _, _, _, _, _, _, _, _] [.int 2, _] rfl ⟨trivial, (XT.i0_eq_f (by decide +kernel))⟩ ?_
      have ea113 : ((Int32.ofNat (nl74 + 23 + nn + 1 + 3 + 2)) + (Int32.ofNat (nl75))) = (Int32.ofNat (nl74 + 23 + nn + 1 + 3 + 2 + nl75)) := (addN (nl74 + 23 + nn + 1 + 3 + 2) (nl75)).trans (congrArg Int32.ofNat (by omega))
      refine W107.pv hx D 195 8 213 [_, _, _, _, _, _, _, _, _, _, _, _, _, _, _, _, _, _, _, _, _, _, _, _, vi (Int32.ofNat (nl74 + 23 + nn + 1 + 3 + 2 + nl75))] [_] (by rw [← ea113, ← ea112]; rfl) ?_
      refine W107.strLen hx hln (B.h 5 rfl) SC hzc S104 (B.h 208 rfl) (B.h 59 rfl) (B.h 61 rfl) (B.h 60 rfl) (by decide +kernel) (Wd := 0) (by decide +kernel) (by decide +kernel) (by decide +kernel) rfl (by rw [hml]; rfl) rfl (by show 2 * 0 + _ ≤ _; exact Nat.le_of_eq rfl) (D 213 rfl) (fun T114 W114 => ?_)
      show Go p e below _ (T114.setTop (mkF m 216 #[vi i0, vi i1, .val (.long i2), S0, vi i3, vi q70, vi q71, vi q72, vi q73, vi (Int32.ofNat (nl74)), vi (Int32.ofNat (nl75)), vi 1, vr r102, vr r103, vr r104, .val (.long (negL (uu))), S0, vi 1, .val (.long (posL (uu))), S0, vi (Int32.ofNat (nn)), vi (Int32.ofNat (nl74 + 23)), vi (Int32.ofNat (nl74 + 23 + nn + 1)), vi (Int32.ofNat (nl74 + 23 + nn + 1 + 3)), vi (Int32.ofNat (nl74 + 23 + nn + 1 + 3 + 2 + nl75))] [(.int (Int32.ofNat (cs.length)))]))
      refine W114.pu hx D 216 [(1, true)] 0 223 [_, _, _, _, _, _, _, _, _, _, _, _, _, _, _, _, _, _, _, _, _, _, _, _, _] [] rfl ⟨trivial, (XT.ii_eq_t (eqN (a := cs.length) (b := nl74 + 23 + nn + 1 + 3 + 2 + nl75) (by first | omega | (simp only [LN]; omega))))⟩ ?_
      have tl : ∀ Tt : State, Wk p l e room_1 s m #[(.int i0), (.int i1), (.long i2), (.int i3)] below meth c Z EL0 n0 [] "com/example/sem1/sem1/store/StoreFailuresUnansweredPinLaw" [] Tt 33 1024 h104 → Go p e below (Fend Z EL0 n0 s h0 [] (fun v h' S => v = some (.int 1)) room_1) (Tt.setTop (mkF m 261 #[vi i0, vi i1, .val (.long i2), S0, vi i3, vi q70, vi q71, vi q72, vi q73, vi (Int32.ofNat (nl74)), vi (Int32.ofNat (nl75)), vi 1, vr r102, vr r103, vr r104, .val (.long (negL (uu))), S0, vi 1, .val (.long (posL (uu))), S0, vi (Int32.ofNat (nn)), vi (Int32.ofNat (nl74 + 23)), vi (Int32.ofNat (nl74 + 23 + nn + 1)), vi (Int32.ofNat (nl74 + 23 + nn + 1 + 3)), vi (Int32.ofNat (nl74 + 23 + nn + 1 + 3 + 2 + nl75))] [])) := by
        intro Tt Wt
        refine Wt.pv hx D 261 2 265 [_, _, _, _, _, _, _, _, _, _, _, _, _, _, _, _, _, _, _, _, _, _, _, _, _] [_, _] rfl ?_
        refine Wt.kS hx hEL (B.h 209 rfl) (B.h 210 rfl) (B.h 2 rfl) (B.h 211 rfl) [(.ref r104), (.int (Int32.ofNat (nl74)))] [] (rm117 B r104 cs nl74 h104 Wt.old S104 hcs (by first | omega | (simp only [LN]; omega)) (fun i hi => (congrArg (fun z => cs.getD (z + i) 0) (show nl74 = xl102.length from by omega)).trans (hWn i hi))) all0 0 (by decide +kernel) all0 hml (lenOf pd35 rfl) (D 265 rfl) ⟨rfl, rfl, rfl, rfl⟩ (fun T115 h115 v115 P115 Ws115 K115 q115 => ?_)
        have W115 := Ws115 [] all0
        obtain rfl := q115
        have k117 := (S104.keep0 K115)
        refine W115.pu hx D 268 [(0, true), (1, false)] 2 282 [_, _, _, _, _, _, _, _, _, _, _, _, _, _, _, _, _, _, _, _, _, _, _, _, _] [_, _] rfl ⟨⟨trivial, (XT.i0_ne_t (by decide +kernel))⟩, (XT.i0_eq_f (by decide +kernel))⟩ ?_
        refine W115.kC hx hch (B.h 5 rfl) SC hzc SF rfm (B.h 216 rfl) (B.h 217 rfl) (B.h 219 rfl) (B.h 218 rfl) hml k117 (snd255 hcs) (nl74 + 23) (by first | omega | (simp only [LN]; omega)) 0 (by decide +kernel) (D 282 rfl) ⟨rfl, rfl, rfl, rfl, rfl⟩ (fun T116 W116 => ?_)
        refine W116.pu hx D 285 [(1, true)] 4 300 [_, _, _, _, _, _, _, _, _, _, _, _, _, _, _, _, _, _, _, _, _, _, _, _, _] [_, _, _, _] rfl ⟨trivial, (XT.ii_eq_t ((congrArg (fun z => cs.getD z 0) (show nl74 + 23 = xl102.length + 23 + 0 from by omega)).trans (hSg 0 (by omega))))⟩ ?_
        refine W116.kS hx hEL (B.h 238 rfl) (B.h 239 rfl) (B.h 2 rfl) (B.h 240 rfl) [(.ref r104), (.int (Int32.ofNat (nl74 + 23 + nn + 1))), (.long (posL (uu))), (.int (Int32.ofNat (nn)))] [] (rm140 B r104 cs (nl74 + 23 + nn + 1) uu nn h115 W116.old k117 hcs hN (by first | omega | (simp only [LN]; omega)) (by first | omega | (simp only [LN]; omega)) (fun k hk => (congrArg (fun z => cs.getD (z - 1 - k) 0) (show nl74 + 23 + nn + 1 = xl102.length + 23 + 1 + nn from by omega)).trans (hDn k hk))) all0 0 (by decide +kernel) all0 hml (lenOf pd36 rfl) (D 300 rfl) ⟨rfl, rfl, rfl, rfl⟩ (fun T118 h118 v118 P118 Ws118 K118 q118 => ?_)
        have W118 := Ws118 [] all0
        obtain rfl := q118
        have k120 := (k117.keep0 K118)
        refine W118.pu hx D 303 [(0, true)] 2 312 [_, _, _, _, _, _, _, _, _, _, _, _, _, _, _, _, _, _, _, _, _, _, _, _, _] [_, _] rfl ⟨trivial, (XT.i0_ne_t (by decide +kernel))⟩ ?_
        refine W118.kC hx hch (B.h 5 rfl) SC hzc SF rfm (B.h 216 rfl) (B.h 217 rfl) (B.h 219 rfl) (B.h 218 rfl) hml k120 (snd255 hcs) (nl74 + 23 + nn + 1) (by first | omega | (simp only [LN]; omega)) 0 (by decide +kernel) (D 312 rfl) ⟨rfl, rfl, rfl, rfl, rfl⟩ (fun T119 W119 => ?_)
        have ea121 : ((Int32.ofNat (nl74 + 23 + nn + 1)) + (1 : Int32)) = (Int32.ofNat (nl74 + 23 + nn + 1 + 1)) := (addN (nl74 + 23 + nn + 1) (1)).trans (congrArg Int32.ofNat (by omega))
        refine W119.pu hx D 315 [(1, false)] 3 325 [_, _, _, _, _, _, _, _, _, _, _, _, _, _, _, _, _, _, _, _, _, _, _, _, _] [.int 1, _, _] rfl ⟨trivial, (XT.ii_ne_f ((congrArg (fun z => cs.getD z 0) (show nl74 + 23 + nn + 1 = xl102.length + 23 + 1 + nn + 0 from by omega)).trans (hMs 0 (by omega))))⟩ ?_
        refine W119.pv hx D 325 1 326 [_, _, _, _, _, _, _, _, _, _, _, _, _, _, _, _, _, _, _, _, _, _, _, _, _] [.int (Int32.ofNat (nl74 + 23 + nn + 1 + 1)), _] (by rw [← ea121]; rfl) ?_
        refine W119.kC hx hch (B.h 5 rfl) SC hzc SF rfm (B.h 216 rfl) (B.h 217 rfl) (B.h 219 rfl) (B.h 218 rfl) hml k120 (snd255 hcs) (nl74 + 23 + nn + 1 + 1) (by first | omega | (simp only [LN]; omega)) 0 (by decide +kernel) (D 326 rfl) ⟨rfl, rfl, rfl, rfl, rfl⟩ (fun T122 W122 => ?_)
        have ea123 : ((Int32.ofNat (nl74 + 23 + nn + 1)) + (2 : Int32)) = (Int32.ofNat (nl74 + 23 + nn + 1 + 2)) := (addN (nl74 + 23 + nn + 1) (2)).trans (congrArg Int32.ofNat (by omega))
        refine W122.pu hx D 329 [(1, false)] 3 339 [_, _, _, _, _, _, _, _, _, _, _, _, _, _, _, _, _, _, _, _, _, _, _, _, _] [.int 2, _, _] rfl ⟨trivial, (XT.ii_ne_f ((congrArg (fun z => cs.getD z 0) (show nl74 + 23 + nn + 1 + 1 = xl102.length + 23 + 1 + nn + 1 from by omega)).trans (hMs 1 (by omega))))⟩ ?_
        refine W122.pv hx D 339 1 340 [_, _, _, _, _, _, _, _, _, _, _, _, _, _, _, _, _, _, _, _, _, _, _, _, _] [.int (Int32.ofNat (nl74 + 23 + nn + 1 + 2)), _] (by rw [← ea123]; rfl) ?_
        refine W122.kC hx hch (B.h 5 rfl) SC hzc SF rfm (B.h 216 rfl) (B.h 217 rfl) (B.h 219 rfl) (B.h 218 rfl) hml k120 (snd255 hcs) (nl74 + 23 + nn + 1 + 2) (by first | omega | (simp only [LN]; omega)) 0 (by decide +kernel) (D 340 rfl) ⟨rfl, rfl, rfl, rfl, rfl⟩ (fun T124 W124 => ?_)
        refine W124.pu hx D 343 [(1, true), (1, false)] 2 359 [_, _, _, _, _, _, _, _, _, _, _, _, _, _, _, _, _, _, _, _, _, _, _, _, _] [_, _] rfl ⟨⟨trivial, (XT.ii_eq_t ((congrArg (fun z => cs.getD z 0) (show nl74 + 23 + nn + 1 + 2 = xl102.length + 23 + 1 + nn + 2 from by omega)).trans (hMs 2 (by omega))))⟩, (XT.i0_eq_f (by decide +kernel))⟩ ?_
        refine W124.kC hx hch (B.h 5 rfl) SC hzc SF rfm (B.h 216 rfl) (B.h 217 rfl) (B.h 219 rfl) (B.h 218 rfl) hml k120 (snd255 hcs) (nl74 + 23 + nn + 1 + 3) (by first | omega | (simp only [LN]; omega)) 0 (by decide +kernel) (D 359 rfl) ⟨rfl, rfl, rfl, rfl, rfl⟩ (fun T125 W125 => ?_)
        have ea126 : ((Int32.ofNat (nl74 + 23 + nn + 1 + 3)) + (1 : Int32)) = (Int32.ofNat (nl74 + 23 + nn + 1 + 3 + 1)) := (addN (nl74 + 23 + nn + 1 + 3) (1)).trans (congrArg Int32.ofNat (by omega))
        refine W125.pu hx D 362 [(1, false)] 3 372 [_, _, _, _, _, _, _, _, _, _, _, _, _, _, _, _, _, _, _, _, _, _, _, _, _] [.int 1, _, _] rfl ⟨trivial, (XT.ii_ne_f ((congrArg (fun z => cs.getD z 0) (show nl74 + 23 + nn + 1 + 3 = xl102.length + 23 + 1 + nn + 3 + 0 from by omega)).trans (hYs 0 (by omega))))⟩ ?_
        refine W125.pv hx D 372 1 373 [_, _, _, _, _, _, _, _, _, _, _, _, _, _, _, _, _, _, _, _, _, _, _, _, _] [.int (Int32.ofNat (nl74 + 23 + nn + 1 + 3 + 1)), _] (by rw [← ea126]; rfl) ?_
        refine W125.kC hx hch (B.h 5 rfl) SC hzc SF rfm (B.h 216 rfl) (B.h 217 rfl) (B.h 219 rfl) (B.h 218 rfl) hml k120 (snd255 hcs) (nl74 + 23 + nn + 1 + 3 + 1) (by first | omega | (simp only [LN]; omega)) 0 (by decide +kernel) (D 373 rfl) ⟨rfl, rfl, rfl, rfl, rfl⟩ (fun T127 W127 => ?_)
        refine W127.pu hx D 376 [(1, true)] 2 386 [_, _, _, _, _, _, _, _, _, _, _, _, _, _, _, _, _, _, _, _, _, _, _, _, _] [.int 1, _] rfl ⟨trivial, (XT.ii_eq_t ((congrArg (fun z => cs.getD z 0) (show nl74 + 23 + nn + 1 + 3 + 1 = xl102.length + 23 + 1 + nn + 3 + 1 from by omega)).trans (hYs 1 (by omega))))⟩ ?_
        by_cases c128 : nl75 < 1
        · refine W127.pu hx D 386 [(0, true)] 2 408 [_, _, _, _, _, _, _, _, _, _, _, _, _, _, _, _, _, _, _, _, _, _, _, _, _] [.int 2, _] rfl ⟨trivial, (XT.ii_lt_t (ltN (a := nl75) (b := 1) (by first | omega | (simp only [LN]; omega))))⟩ ?_
          by_cases c129 : nl75 < 2
          · refine W127.pu hx D 408 [(0, true)] 1 428 [_, _, _, _, _, _, _, _, _, _, _, _, _, _, _, _, _, _, _, _, _, _, _, _, _] [.int 1] rfl ⟨trivial, (XT.ii_lt_t (ltN (a := nl75) (b := 2) (by first | omega | (simp only [LN]; omega))))⟩ ?_
            exact W127.retI hx hEL hs hlk (by decide +kernel) (by decide +kernel) hret (by simp) rfl (D 428 rfl) (fun S hS => rfl)
          · have ea130 : ((Int32.ofNat (nl74 + 23 + nn + 1 + 3)) + (3 : Int32)) = (Int32.ofNat (nl74 + 23 + nn + 1 + 3 + 3)) := (addN (nl74 + 23 + nn + 1 + 3) (3)).trans (congrArg Int32.ofNat (by omega))
            refine W127.pu hx D 408 [(0, false)] 3 416 [_, _, _, _, _, _, _, _, _, _, _, _, _, _, _, _, _, _, _, _, _, _, _, _, _] [.int 3, _, _] rfl ⟨trivial, (XT.ii_lt_f (nltN (a := nl75) (b := 2) (by first | omega | (simp only [LN]; omega))))⟩ ?_
            refine W127.pv hx D 416 1 417 [_, _, _, _, _, _, _, _, _, _, _, _, _, _, _, _, _, _, _, _, _, _, _, _, _] [.int (Int32.ofNat (nl74 + 23 + nn + 1 + 3 + 3)), _] (by rw [← ea130]; rfl) ?_
            refine W127.kC hx hch (B.h 5 rfl) SC hzc SF rfm (B.h 216 rfl) (B.h 217 rfl) (B.h 219 rfl) (B.h 218 rfl) hml k120 (snd255 hcs) (nl74 + 23 + nn + 1 + 3 + 3) (by first | omega | (simp only [LN]; omega)) 0 (by decide +kernel) (D 417 rfl) ⟨rfl, rfl, rfl, rfl, rfl⟩ (fun T131 W131 => ?_)
            refine W131.pu hx D 420 [(1, true)] 1 428 [_, _, _, _, _, _, _, _, _, _, _, _, _, _, _, _, _, _, _, _, _, _, _, _, _] [.int 1] rfl ⟨trivial, (XT.ii_eq_t ((congrArg (fun z => cs.getD z 0) (show nl74 + 23 + nn + 1 + 3 + 3 = xl102.length + 23 + 1 + nn + 3 + 2 + 1 from by omega)).trans (hB 1 (by omega))))⟩ ?_
            exact W131.retI hx hEL hs hlk (by decide +kernel) (by decide +kernel) hret (by simp) rfl (D 428 rfl) (fun S hS => rfl)
        · have ea132 : ((Int32.ofNat (nl74 + 23 + nn + 1 + 3)) + (2 : Int32)) = (Int32.ofNat (nl74 + 23 + nn + 1 + 3 + 2)) := (addN (nl74 + 23 + nn + 1 + 3) (2)).trans (congrArg Int32.ofNat (by omega))
          refine W127.pu hx D 386 [(0, false)] 3 394 [_, _, _, _, _, _, _, _, _, _, _, _, _, _, _, _, _, _, _, _, _, _, _, _, _] [.int 2, _, _] rfl ⟨trivial, (XT.ii_lt_f (nltN (a := nl75) (b := 1) (by first | omega | (simp only [LN]; omega))))⟩ ?_
          refine W127.pv hx D 394 1 395 [_, _, _, _, _, _, _, _, _, _, _, _, _, _, _, _, _, _, _, _, _, _, _, _, _] [.int (Int32.ofNat (nl74 + 23 + nn + 1 + 3 + 2)), _] (by rw [← ea132]; rfl) ?_
          refine W127.kC hx hch (B.h 5 rfl) SC hzc SF rfm (B.h 216 rfl) (B.h 217 rfl) (B.h 219 rfl) (B.h 218 rfl) hml k120 (snd255 hcs) (nl74 + 23 + nn + 1 + 3 + 2) (by first | omega | (simp only [LN]; omega)) 0 (by decide +kernel) (D 395 rfl) ⟨rfl, rfl, rfl, rfl, rfl⟩ (fun T133 W133 => ?_)
          refine W133.pu hx D 398 [(1, true)] 2 408 [_, _, _, _, _, _, _, _, _, _, _, _, _, _, _, _, _, _, _, _, _, _, _, _, _] [.int 2, _] rfl ⟨trivial, (XT.ii_eq_t ((congrArg (fun z => cs.getD z 0) (show nl74 + 23 + nn + 1 + 3 + 2 = xl102.length + 23 + 1 + nn + 3 + 2 + 0 from by omega)).trans (hB 0 (by omega))))⟩ ?_
          by_cases c134 : nl75 < 2
          · refine W133.pu hx D 408 [(0, true)] 1 428 [_, _, _, _, _, _, _, _, _, _, _, _, _, _, _, _, _, _, _, _, _, _, _, _, _] [.int 1] rfl ⟨trivial, (XT.ii_lt_t (ltN (a := nl75) (b := 2) (by first | omega | (simp only [LN]; omega))))⟩ ?_
            exact W133.retI hx hEL hs hlk (by decide +kernel) (by decide +kernel) hret (by simp) rfl (D 428 rfl) (fun S hS => rfl)
          · have ea135 : ((Int32.ofNat (nl74 + 23 + nn + 1 + 3)) + (3 : Int32)) = (Int32.ofNat (nl74 + 23 + nn + 1 + 3 + 3)) := (addN (nl74 + 23 + nn + 1 + 3) (3)).trans (congrArg Int32.ofNat (by omega))
            refine W133.pu hx D 408 [(0, false)] 3 416 [_, _, _, _, _, _, _, _, _, _, _, _, _, _, _, _, _, _, _, _, _, _, _, _, _] [.int 3, _, _] rfl ⟨trivial, (XT.ii_lt_f (nltN (a := nl75) (b := 2) (by first | omega | (simp only [LN]; omega))))⟩ ?_
            refine W133.pv hx D 416 1 417 [_, _, _, _, _, _, _, _, _, _, _, _, _, _, _, _, _, _, _, _, _, _, _, _, _] [.int (Int32.ofNat (nl74 + 23 + nn + 1 + 3 + 3)), _] (by rw [← ea135]; rfl) ?_
            refine W133.kC hx hch (B.h 5 rfl) SC hzc SF rfm (B.h 216 rfl) (B.h 217 rfl) (B.h 219 rfl) (B.h 218 rfl) hml k120 (snd255 hcs) (nl74 + 23 + nn + 1 + 3 + 3) (by first | omega | (simp only [LN]; omega)) 0 (by decide +kernel) (D 417 rfl) ⟨rfl, rfl, rfl, rfl, rfl⟩ (fun T136 W136 => ?_)
            refine W136.pu hx D 420 [(1, true)] 1 428 [_, _, _, _, _, _, _, _, _, _, _, _, _, _, _, _, _, _, _, _, _, _, _, _, _] [.int 1] rfl ⟨trivial, (XT.ii_eq_t ((congrArg (fun z => cs.getD z 0) (show nl74 + 23 + nn + 1 + 3 + 3 = xl102.length + 23 + 1 + nn + 3 + 2 + 1 from by omega)).trans (hB 1 (by omega))))⟩ ?_
            exact W136.retI hx hEL hs hlk (by decide +kernel) (by decide +kernel) hret (by simp) rfl (D 428 rfl) (fun S hS => rfl)
      refine W114.pv hx D 223 2 226 [_, _, _, _, _, _, _, _, _, _, _, _, _, _, _, _, _, _, _, _, _, _, _, _, _] [.int 1, _] rfl ?_
      by_cases c137 : nl74 < 1
      · refine W114.pu hx D 226 [(0, true)] 2 245 [_, _, _, _, _, _, _, _, _, _, _, _, _, _, _, _, _, _, _, _, _, _, _, _, _] [.int 2, _] rfl ⟨trivial, (XT.ii_lt_t (ltN (a := nl74) (b := 1) (by first | omega | (simp only [LN]; omega))))⟩ ?_
        by_cases c138 : nl74 < 2
        · refine W114.pu hx D 245 [(0, true)] 0 261 [_, _, _, _, _, _, _, _, _, _, _, _, _, _, _, _, _, _, _, _, _, _, _, _, _] [] rfl ⟨trivial, (XT.ii_lt_t (ltN (a := nl74) (b := 2) (by first | omega | (simp only [LN]; omega))))⟩ ?_
          exact tl _ W114
        · refine W114.pu hx D 245 [(0, false)] 2 251 [_, _, _, _, _, _, _, _, _, _, _, _, _, _, _, _, _, _, _, _, _, _, _, _, _] [.int 1, _] rfl ⟨trivial, (XT.ii_lt_f (nltN (a := nl74) (b := 2) (by first | omega | (simp only [LN]; omega))))⟩ ?_
          refine W114.kC hx hch (B.h 5 rfl) SC hzc SF rfm (B.h 216 rfl) (B.h 217 rfl) (B.h 219 rfl) (B.h 218 rfl) hml S104 (snd255 hcs) (1) (by first | omega | (simp only [LN]; omega)) 0 (by decide +kernel) (D 251 rfl) ⟨rfl, rfl, rfl, rfl, rfl⟩ (fun T139 W139 => ?_)
          refine W139.pu hx D 254 [(1, true)] 0 261 [_, _, _, _, _, _, _, _, _, _, _, _, _, _, _, _, _, _, _, _, _, _, _, _, _] [] rfl ⟨trivial, (XT.ii_eq_t ((congrArg (fun z => cs.getD z 0) (show 1 = 1 from by omega)).trans (hA 1 (by omega))))⟩ ?_
          exact tl _ W139
      · refine W114.pu hx D 226 [(0, false)] 2 232 [_, _, _, _, _, _, _, _, _, _, _, _, _, _, _, _, _, _, _, _, _, _, _, _, _] [.int 0, _] rfl ⟨trivial, (XT.ii_lt_f (nltN (a := nl74) (b := 1) (by first | omega | (simp only [LN]; omega))))⟩ ?_
        refine W114.kC hx hch (B.h 5 rfl) SC hzc SF rfm (B.h 216 rfl) (B.h 217 rfl) (B.h 219 rfl) (B.h 218 rfl) hml S104 (snd255 hcs) (0) (by first | omega | (simp only [LN]; omega)) 0 (by decide +kernel) (D 232 rfl) ⟨rfl, rfl, rfl, rfl, rfl⟩ (fun T140 W140 => ?_)
        refine W140.pu hx D 235 [(1, true)] 2 245 [_, _, _, _, _, _, _, _, _, _, _, _, _, _, _, _, _, _, _, _, _, _, _, _, _] [.int 2, _] rfl ⟨trivial, (XT.ii_eq_t ((congrArg (fun z => cs.getD z 0) (show 0 = 0 from by omega)).trans (hA 0 (by omega))))⟩ ?_
        by_cases c141 : nl74 < 2
        · refine W140.pu hx D 245 [(0, true)] 0 261 [_, _, _, _, _, _, _, _, _, _, _, _, _, _, _, _, _, _, _, _, _, _, _, _, _] [] rfl ⟨trivial, (XT.ii_lt_t (ltN (a := nl74) (b := 2) (by first | omega | (simp only [LN]; omega))))⟩ ?_
          exact tl _ W140
        · refine W140.pu hx D 245 [(0, false)] 2 251 [_, _, _, _, _, _, _, _, _, _, _, _, _, _, _, _, _, _, _, _, _, _, _, _, _] [.int 1, _] rfl ⟨trivial, (XT.ii_lt_f (nltN (a := nl74) (b := 2) (by first | omega | (simp only [LN]; omega))))⟩ ?_
          refine W140.kC hx hch (B.h 5 rfl) SC hzc SF rfm (B.h 216 rfl) (B.h 217 rfl) (B.h 219 rfl) (B.h 218 rfl) hml S104 (snd255 hcs) (1) (by first | omega | (simp only [LN]; omega)) 0 (by decide +kernel) (D 251 rfl) ⟨rfl, rfl, rfl, rfl, rfl⟩ (fun T142 W142 => ?_)
          refine W142.pu hx D 254 [(1, true)] 0 261 [_, _, _, _, _, _, _, _, _, _, _, _, _, _, _, _, _, _, _, _, _, _, _, _, _] [] rfl ⟨trivial, (XT.ii_eq_t ((congrArg (fun z => cs.getD z 0) (show 1 = 1 from by omega)).trans (hA 1 (by omega))))⟩ ?_
          exact tl _ W142
set_option maxRecDepth 65536 in
set_option maxHeartbeats 40000000 in
theorem comes_1 {Post : Tables → Env → Array Value → State → Outcome → State → Prop} (hpost : ∀ tb e args s v u, (limb_1_1.after args s (.returned v) u = true ∧ limb_1_2.after args s (.returned v) u = true ∧ True) → FramedW s (.returned v) u (Jvm.fieldLocs frame_1_writes args s ++ Jvm.arrayLocs frame_1_arrays args s ++ Jvm.staticLocs frame_1_statics s) 56 6016 → Post tb e args s (.returned v) u) :
    ArmFor flags0 classFile x code maxLocals ret World_1 tables_1 room_1 Calls_1 rest_1 Pre_1 Post := by
  intro l hfl _ _ p e ha hc hk s m args below hf hA hF happ hP
  obtain ⟨hcalls, hrest, hpre⟩ := hP
  obtain ⟨-, -, -, hnamed, -, -, -, hat⟩ := (Spec.applies_iff hf).mp happ
  obtain ⟨hg, hn⟩ := and_e (Cond.before_iff.mp (show (Jvm.Cond.and given_1 narrow_1).before args s = true from hpre))
  obtain ⟨hy0, hz0⟩ := and_e hg
  obtain ⟨hy1, hz1⟩ := and_e hz0
  obtain ⟨hy2, hz2⟩ := and_e hz1
  obtain ⟨hy3, hz3⟩ := and_e hz2
  obtain ⟨w0, w1, w2, w3, rfl⟩ : ∃ w0 w1 w2 w3 : Value, args = #[w0, w1, w2, w3] := by
    have hs : args.size = 4 := by simpa [Cond.value, given_1] using hy0
    obtain ⟨L⟩ := args
    match L, hs with
    | [w0, w1, w2, w3], _ => exact ⟨w0, w1, w2, w3, rfl⟩
  have hw := fun d (hd : d ∈ tables_1) => atoms_spec (ws := Jvm.Cond.code x code maxLocals ret :: tables_1) hat d (List.mem_cons_of_mem _ hd)
  obtain ⟨hsets, hown0⟩ := atoms_of _ (rest_1_c_eq ▸ (show rest_1_c.before _ s = true from hrest))
  have hfit : Fit s := fun {y c} hc i hi => by
    obtain ⟨ha, rfl⟩ := Array.getElem?_eq_some_iff.mp hc
    have q := List.all_eq_true.mp ((Array.all_eq_true_iff_forall_mem.mp hF) _ (Array.getElem_mem ha)) i (List.mem_range.mpr hi)
    simpa [Array.getElem?_eq_getElem hi] using q
  have nzc := not_v (Cond.before_iff.mp (hsets _ (mI 2 rfl)))
  obtain ⟨i0, ei0⟩ := is_v hy1
  obtain rfl : w0 = (.int i0) := Option.some.inj ei0
  obtain ⟨i1, ei1⟩ := is_v hy2
  obtain rfl : w1 = (.int i1) := Option.some.inj ei1
  obtain ⟨i2, ei2⟩ := isL_v hy3
  obtain rfl : w2 = (.long i2) := Option.some.inj ei2
  obtain ⟨i3, ei3⟩ := is_v hz3
  obtain rfl : w3 = (.int i3) := Option.some.inj ei3
  obtain ⟨zc, ezc⟩ := is_v (Cond.before_iff.mp (hsets _ (mI 1 rfl)))
  have SC : Sta s s.heap "java/lang/String" "COMPACT_STRINGS" "Z" (.int zc) := Sta.start ezc (Or.inl (hsets _ (mI 0 rfl)))
  obtain ⟨fm, efm, rfm⟩ := isR_v (Cond.before_iff.mp (hsets _ (mI 8 rfl)))
  have SF : Sta s s.heap "jdk/internal/util/Preconditions" "SIOOBE_FORMATTER" "Ljava/util/function/BiFunction;" fm := Sta.start efm (Or.inl (hsets _ (mI 7 rfl)))
  have hzc : ¬ (zc = (0 : Int32)) := gotF (Cond.eq_ints ezc (Term.int_eval (0))) nzc
  have hEL : EW s #[(.int i0), (.int i1), (.long i2), (.int i3)] EL0 := (EW.cons (hw _ (mI 270 rfl)) (by decide +kernel) (EW.cons (hw _ (mI 96 rfl)) (by decide +kernel) (EW.cons (hw _ (mI 157 rfl)) (by decide +kernel) (EW.cons (hw _ (mI 212 rfl)) (by decide +kernel) (EW.cons (hw _ (mI 18 rfl)) (by decide +kernel) EW.nil)))))
  obtain ⟨ns, evn⟩ := exa_v (Cond.before_iff.mp (hsets _ (mI 11 rfl)))
  have OTE := Exa.start evn (Cond.before_iff.mp (hsets _ (mI 11 rfl)))
  have OT : Sta s s.heap "java/util/concurrent/TimeUnit" "NANOSECONDS" "Ljava/util/concurrent/TimeUnit;" (.ref ns) := Sta.start evn (Or.inl (hsets _ (mI 10 rfl)))
  have OTS : Fld s s.heap ns "java/util/concurrent/TimeUnit" "scale" "J" (.long (1 : Int64)) := Fld.start ((fld_at evn).symm.trans (eqv_l rfl (Cond.before_iff.mp (hsets _ (mI 14 rfl)))))
  have OTM : Fld s s.heap ns "java/util/concurrent/TimeUnit" "milliRatio" "I" (.int 1000000) := Fld.start ((fld_at evn).symm.trans (eqv_i (Term.int_eval (1000000)) (Cond.before_iff.mp (hsets _ (mI 18 rfl)))))
  obtain ⟨don, evdon⟩ := exa_v (Cond.before_iff.mp (hsets _ (mI 25 rfl)))
  have OSo : Sta s s.heap "java/lang/Integer" "DigitOnes" "[B" (.ref don) := Sta.start evdon (Or.inl (hsets _ (mI 24 rfl)))
  obtain ⟨ko, OAo⟩ := digStart_ones hfit (fun idx => static_any evdon) (Exa.start evdon (Cond.before_iff.mp (hsets _ (mI 25 rfl)))) (hw _ (mI 19 rfl)) (Cond.before_iff.mp (hsets _ (mI 26 rfl))) (Cond.before_iff.mp (hsets _ (mI 27 rfl)))
  obtain ⟨dtn, evdtn⟩ := exa_v (Cond.before_iff.mp (hsets _ (mI 30 rfl)))
  have OSt : Sta s s.heap "java/lang/Integer" "DigitTens" "[B" (.ref dtn) := Sta.start evdtn (Or.inl (hsets _ (mI 29 rfl)))
  obtain ⟨kt, OAt⟩ := digStart_tens hfit (fun idx => static_any evdtn) (Exa.start evdtn (Cond.before_iff.mp (hsets _ (mI 30 rfl)))) (hw _ (mI 19 rfl)) (Cond.before_iff.mp (hsets _ (mI 31 rfl))) (Cond.before_iff.mp (hsets _ (mI 32 rfl)))
  have hCH : CHv s EL0 s.vm s.heap := CHv.start hEL (fun q hq => hcalls.1 q hq) (hsets _ (mI 2 rfl)) (hw _ (mI 19 rfl)) (hw _ (mI 5 rfl))
  obtain ⟨n, o, h1, h2, h3, _, L, rfl, ⟨q1, N, K⟩, -, hq1, hq2, hq3, hq4⟩ := rm0 (⟨hw, hEL, SC, hzc, SF, rfm⟩ : EV l s _ zc fm) i0 i1 i2 i3 ns don dtn ko kt s.heap (Old.start s) OT OTE OTS OTM OSo OSt OAo OAt p e ha hc hk s m _ below hf ((Spec.applies_iff_loose hf).mp happ).1 ⟨rfl, State.Warmed39.refl s, rfl, hCH, all0⟩ trivial
  cases q1
  refine ⟨n, _, h1, h2, h3, hpost _ _ _ _ _ _ ⟨Cond.after_iff.mpr rfl, Cond.after_iff.mpr (eq_i res_at (Term.int_eval (1)) rfl), trivial⟩ ⟨hq1, hq2, hq3, (hq4.sift fun y hy => Or.inr (N y hy)).mono (by decide +kernel) (by decide +kernel)⟩⟩
theorem main_1_1 : Claimed_1_1 := comes_1 fun _ _ _ _ _ _ h hF => ⟨h.1, hF⟩
theorem main_1_2 : Claimed_1_2 := comes_1 fun _ _ _ _ _ _ h hF => ⟨h.2.1, hF⟩
end Jvm.Pilot.@@N@@
namespace Jvm.Pilot.@@N@@
open Jvm Jvm.ClassFile Sem Op Lib Jvm.Free Jvm.Stand Jvm.Pilot.@@N@@.Jvm.D
/-! MADE BY PROGRAM (witnessworld.py) out of the Statement's table words and the real class files: 33 classes; the members and pool entries that the words name. The judged class is class 1, her method 1. -/
namespace start1
open Jvm.ClassFile
def u (s : String) : CpInfo := .utf8 (stringToUtf16 s)
/-- a pool by its gaps: so many unusable entries, then the entry; so many at the end -/
def gap : Nat → List CpInfo → List CpInfo
  | 0, r => r
  | n + 1, r => .unusable :: gap n r
def poolList (es : List (Nat × CpInfo)) (last : Nat) : List CpInfo := es.foldr (fun e r => gap e.1 (e.2 :: r)) (gap last [])
def pool (es : List (Nat × CpInfo)) (last : Nat) : Array CpInfo := ⟨poolList es last⟩
def fileOf (pool : Array CpInfo) (this : Nat) (attrs : Array Attribute := #[]) (ms : Array MethodInfo := #[]) (fl : Nat := 33) (sup : Nat := 0) (ifs : Array Nat := #[]) (fds : Array FieldInfo := #[]) : ClassFile where
  minorVersion := 0
  majorVersion := 65
  constantPool := pool
  accessFlags := fl
  thisClass := this
  superClass := sup
  interfaces := ifs
  fields := fds
  methods := ms
  attributes := attrs
def plain (name : String) (sup : Option ClassId) : Class where
  name := name
  kind := .ordinary
  loader := none
  accessFlags := 33
  super := sup
  interfaces := #[]
  cf := none
  fields := #[]
  methods := #[]
  instanceTypes := #[]
  staticTypes := #[]
  resolved := #[]
  callSites := []
  init := .initialized
  statics := none
  mirror := none

def pool0 : Array CpInfo := pool [(5, u "<init>"), (0, u "()V"), (1, .class_ 10), (1, u "java/lang/Object"), (85, u "clone"), (0, u "()Ljava/lang/Object;")] 26

def k0c0 : Code := { maxStack := 0, maxLocals := 1, code := object_method_1_code, exceptionTable := #[], attributes := #[] }
def k0m0 : Method := { name := "<init>", desc := "()V", sig := { parameters := [], returnType := none }, accessFlags := 1, code := some k0c0 }
def k0m1 : Method := { name := "clone", desc := "()Ljava/lang/Object;", sig := { parameters := [], returnType := some (.object "java/lang/Object") }, accessFlags := 260, code := none }
/-- java/lang/Object -/
def k0 : Class := { plain "java/lang/Object" none with
  accessFlags := 33
  interfaces := #[]
  cf := some (fileOf pool0 8 #[] #[{ accessFlags := 1, nameIndex := 5, descriptorIndex := 6, attributes := #[] }, { accessFlags := 260, nameIndex := 96, descriptorIndex := 97, attributes := #[] }] 33 0 #[] #[])
  fields := #[]
  methods := #[k0m0, k0m1]
  instanceTypes := #[]
  staticTypes := #[]
  resolved := Array.replicate 124 none
  statics := none }

def pool1 : Array CpInfo := pool [(2, .class_ 4), (1, u "java/lang/Object"), (0, u "<init>"), (0, u "()V"), (0, .methodref 8 9), (0, .class_ 10), (0, .nameAndType 11 12), (0, u "com/example/sem1/sem1/store/StoreFailuresUnansweredPinLaw"), (0, u "pick"), (0, u "(ICC)Ljava/lang/String;"), (0, .methodref 14 15), (0, .class_ 16), (0, .nameAndType 17 18), (0, u "com/example/sem1/sem1/store/StoreFailures"), (0, u "unanswered"), (0, u "(Ljava/lang/String;JLjava/lang/String;)Ljava/lang/String;"), (0, .long 1000000), (1, .methodref 8 22), (0, .nameAndType 23 24), (0, u "digits"), (0, u "(J)I"), (0, .methodref 26 27), (0, .class_ 28), (0, .nameAndType 29 30), (0, u "java/lang/String"), (0, u "length"), (0, u "()I"), (0, .methodref 26 32), (0, .nameAndType 33 34), (0, u "charAt"), (0, u "(I)C"), (0, .methodref 8 36), (0, .nameAndType 37 38), (0, u "within"), (0, u "(Ljava/lang/String;I)Z"), (0, .methodref 8 40), (0, .nameAndType 41 42), (0, u "number"), (0, u "(Ljava/lang/String;IJI)Z"), (0, .methodref 26 44), (0, .nameAndType 5 45), (0, u "([C)V"), (0, .methodref 26 47), (0, .nameAndType 48 49), (0, u "valueOf"), (0, u "(C)Ljava/lang/String;"), (0, .long 10), (1, .long 100), (1, .long 1000), (1, .long 10000), (1, .long 100000), (1, .long 10000000), (1, .long 100000000), (1, .long 1000000000), (1, .long 10000000000), (1, .long 100000000000), (1, .long 1000000000000), (1, .string 73), (0, u " did not answer within "), (0, .methodref 8 75), (0, .nameAndType 76 77), (0, u "at"), (0, u "(Ljava/lang/String;ILjava/lang/String;I)Z"), (0, .methodref 8 79), (0, .nameAndType 80 81), (0, u "d"), (0, u "(Ljava/lang/String;IJII[J)Z"), (2, u "law"), (0, u "(IIJI)Z")] 5

def k1m0 : Method := { name := "<init>", desc := "()V", sig := { parameters := [], returnType := none }, accessFlags := 2, code := none }
def k1c1 : Code := { maxStack := 5, maxLocals := 25, code := code, exceptionTable := #[], attributes := #[] }
def k1m1 : Method := { name := "law", desc := "(IIJI)Z", sig := { parameters := [.int, .int, .long, .int], returnType := some .boolean }, accessFlags := 9, code := some k1c1 }
def k1c2 : Code := { maxStack := 6, maxLocals := 3, code := method_3_code, exceptionTable := #[], attributes := #[] }
def k1m2 : Method := { name := "pick", desc := "(ICC)Ljava/lang/String;", sig := { parameters := [.int, .char, .char], returnType := some (.object "java/lang/String") }, accessFlags := 10, code := some k1c2 }
def k1c3 : Code := { maxStack := 4, maxLocals := 3, code := method_4_code, exceptionTable := #[], attributes := #[] }
def k1m3 : Method := { name := "digits", desc := "(J)I", sig := { parameters := [.long], returnType := some .int }, accessFlags := 10, code := some k1c3 }
def k1c4 : Code := { maxStack := 3, maxLocals := 4, code := method_5_code, exceptionTable := #[], attributes := #[] }
def k1m4 : Method := { name := "at", desc := "(Ljava/lang/String;ILjava/lang/String;I)Z", sig := { parameters := [(.object "java/lang/String"), .int, (.object "java/lang/String"), .int], returnType := some .boolean }, accessFlags := 10, code := some k1c4 }
def k1c5 : Code := { maxStack := 4, maxLocals := 3, code := method_6_code, exceptionTable := #[], attributes := #[] }
def k1m5 : Method := { name := "within", desc := "(Ljava/lang/String;I)Z", sig := { parameters := [(.object "java/lang/String"), .int], returnType := some .boolean }, accessFlags := 10, code := some k1c5 }
def k1c6 : Code := { maxStack := 4, maxLocals := 9, code := method_7_code, exceptionTable := #[], attributes := #[] }
def k1m6 : Method := { name := "d", desc := "(Ljava/lang/String;IJII[J)Z", sig := { parameters := [(.object "java/lang/String"), .int, .long, .int, .int, (.array .long)], returnType := some .boolean }, accessFlags := 10, code := some k1c6 }
def k1c7 : Code := { maxStack := 7, maxLocals := 6, code := method_8_code, exceptionTable := #[], attributes := #[] }
def k1m7 : Method := { name := "number", desc := "(Ljava/lang/String;IJI)Z", sig := { parameters := [(.object "java/lang/String"), .int, .long, .int], returnType := some .boolean }, accessFlags := 10, code := some k1c7 }
/-- com/example/sem1/sem1/store/StoreFailuresUnansweredPinLaw -/
def k1 : Class := { plain "com/example/sem1/sem1/store/StoreFailuresUnansweredPinLaw" (some 0) with
  accessFlags := 49
  interfaces := #[]
  cf := some (fileOf pool1 8 #[] #[{ accessFlags := 2, nameIndex := 5, descriptorIndex := 6, attributes := #[] }, { accessFlags := 9, nameIndex := 84, descriptorIndex := 85, attributes := #[] }, { accessFlags := 10, nameIndex := 11, descriptorIndex := 12, attributes := #[] }, { accessFlags := 10, nameIndex := 23, descriptorIndex := 24, attributes := #[] }, { accessFlags := 10, nameIndex := 76, descriptorIndex := 77, attributes := #[] }, { accessFlags := 10, nameIndex := 37, descriptorIndex := 38, attributes := #[] }, { accessFlags := 10, nameIndex := 80, descriptorIndex := 81, attributes := #[] }, { accessFlags := 10, nameIndex := 41, descriptorIndex := 42, attributes := #[] }] 49 2 #[] #[])
  fields := #[]
  methods := #[k1m0, k1m1, k1m2, k1m3, k1m4, k1m5, k1m6, k1m7]
  instanceTypes := #[]
  staticTypes := #[]
  resolved := Array.replicate 91 none
  statics := none }

def pool2 : Array CpInfo := pool [(1, .class_ 2), (0, u "java/io/Serializable"), (0, .class_ 4), (0, u "java/lang/Object")] 2

/-- java/io/Serializable -/
def k2 : Class := { plain "java/io/Serializable" (some 0) with
  accessFlags := 1537
  interfaces := #[]
  cf := some (fileOf pool2 1 #[] #[] 1537 3 #[] #[])
  fields := #[]
  methods := #[]
  instanceTypes := #[]
  staticTypes := #[]
  resolved := Array.replicate 7 none
  statics := none }

def pool3 : Array CpInfo := pool [(1, .class_ 2), (0, u "java/lang/Comparable"), (0, .class_ 4), (0, u "java/lang/Object")] 7

/-- java/lang/Comparable -/
def k3 : Class := { plain "java/lang/Comparable" (some 0) with
  accessFlags := 1537
  interfaces := #[]
  cf := some (fileOf pool3 1 #[] #[] 1537 3 #[] #[])
  fields := #[]
  methods := #[]
  instanceTypes := #[]
  staticTypes := #[]
  resolved := Array.replicate 12 none
  statics := none }

def pool4 : Array CpInfo := pool [(2, .class_ 4), (1, u "java/lang/CharSequence"), (42, .class_ 48), (0, u "java/lang/CharSequence$1CodePointIterator"), (10, .class_ 60), (0, u "java/lang/CharSequence$1CharIterator"), (5, .class_ 67), (0, u "java/lang/Object")] 63

/-- java/lang/CharSequence -/
def k4 : Class := { plain "java/lang/CharSequence" (some 0) with
  accessFlags := 1537
  interfaces := #[]
  cf := some (fileOf pool4 2 #[.nestMembers #[47, 59]] #[] 1537 66 #[] #[])
  fields := #[]
  methods := #[]
  instanceTypes := #[]
  staticTypes := #[]
  resolved := Array.replicate 131 none
  statics := none }

def pool5 : Array CpInfo := pool [(1, .class_ 2), (0, u "java/lang/constant/Constable"), (0, .class_ 4), (0, u "java/lang/Object")] 6

/-- java/lang/constant/Constable -/
def k5 : Class := { plain "java/lang/constant/Constable" (some 0) with
  accessFlags := 1537
  interfaces := #[]
  cf := some (fileOf pool5 1 #[] #[] 1537 3 #[] #[])
  fields := #[]
  methods := #[]
  instanceTypes := #[]
  staticTypes := #[]
  resolved := Array.replicate 11 none
  statics := none }

def pool6 : Array CpInfo := pool [(1, .class_ 2), (0, u "java/lang/constant/ConstantDesc"), (0, .class_ 4), (0, u "java/lang/Object")] 32

/-- java/lang/constant/ConstantDesc -/
def k6 : Class := { plain "java/lang/constant/ConstantDesc" (some 0) with
  accessFlags := 1537
  interfaces := #[]
  cf := some (fileOf pool6 1 #[] #[] 1537 3 #[] #[])
  fields := #[]
  methods := #[]
  instanceTypes := #[]
  staticTypes := #[]
  resolved := Array.replicate 37 none
  statics := none }

def pool7 : Array CpInfo := pool [(1, .methodref 2 3), (0, .class_ 4), (0, .nameAndType 5 6), (0, u "java/lang/Object"), (0, u "<init>"), (0, u "()V"), (0, .string 8), (0, u ""), (0, .fieldref 10 11), (0, .class_ 12), (0, .nameAndType 13 14), (0, u "java/lang/String"), (0, u "value"), (0, u "[B"), (0, .fieldref 10 16), (0, .nameAndType 17 18), (0, u "coder"), (0, u "B"), (2, u "hash"), (0, u "I"), (2, u "hashIsZero"), (0, u "Z"), (0, .methodref 10 28), (0, .nameAndType 5 29), (0, u "([CIILjava/lang/Void;)V"), (8, .fieldref 10 39), (0, .nameAndType 40 26), (0, u "COMPACT_STRINGS"), (1, .class_ 44), (1, u "java/lang/StringUTF16"), (0, u "compress"), (1, .methodref 42 48), (0, .nameAndType 49 50), (0, u "coderFromArrayLen"), (0, u "([BI)B"), (2, u "toBytes"), (0, .methodref 55 56), (0, .class_ 57), (0, .nameAndType 58 59), (0, u "java/util/Arrays"), (0, u "copyOfRange"), (0, u "([BII)[B"), (47, .class_ 109), (1, u "java/lang/StringLatin1"), (32, u "()Z"), (34, .methodref 42 178), (0, .nameAndType 45 179), (0, u "([CII)[B"), (13, .class_ 195), (1, u "java/lang/System"), (13, .methodref 10 210), (0, .nameAndType 5 211), (0, u "([BB)V"), (0, .methodref 193 213), (0, .nameAndType 214 215), (0, u "arraycopy"), (0, u "(Ljava/lang/Object;ILjava/lang/Object;II)V"), (118, u "()I"), (0, .methodref 10 336), (0, .nameAndType 17 337), (0, u "()B"), (2, u "()[B"), (22, u "([BI)C"), (5, u "(C)Z"), (21, u "(II)V"), (35, u "(I)C"), (61, .methodref 10 490), (0, .nameAndType 5 491), (0, u "(Ljava/lang/AbstractStringBuilder;Ljava/lang/Void;)V"), (0, .methodref 10 493), (0, .nameAndType 494 142), (0, u "isLatin1"), (0, .methodref 107 496), (0, .nameAndType 497 363), (0, u "charAt"), (3, u "checkIndex"), (4, .nameAndType 507 334), (0, u "length"), (24, u "getBytes"), (16, .methodref 550 506), (0, .class_ 551), (0, u "java/lang/AbstractStringBuilder"), (0, .methodref 550 553), (0, .nameAndType 554 340), (0, u "getValue"), (20, .class_ 576), (0, u "java/lang/CharSequence"), (22, u "CASE_INSENSITIVE_ORDER"), (0, u "Ljava/util/Comparator;"), (181, u "valueOf"), (0, u "(C)Ljava/lang/String;"), (37, u "([BIB)V"), (188, u "([C)V"), (4, .methodref 107 1016), (0, .nameAndType 1017 369), (0, u "canEncode"), (0, .methodref 107 1019), (0, .nameAndType 53 1020), (0, u "(C)[B"), (26, .methodref 550 493), (5, .fieldref 1054 1055), (0, .class_ 1056), (0, .nameAndType 1057 1058), (0, u "jdk/internal/util/Preconditions"), (0, u "SIOOBE_FORMATTER"), (0, u "Ljava/util/function/BiFunction;"), (0, .methodref 1054 1060), (0, .nameAndType 501 1061), (0, u "(IILjava/util/function/BiFunction;)I"), (39, u "serialPersistentFields"), (0, u "[Ljava/io/ObjectStreamField;"), (0, .class_ 1104), (0, u "java/lang/String$CaseInsensitiveComparator"), (1, .class_ 1107), (0, u "java/io/Serializable"), (0, .class_ 1109), (0, u "java/lang/Comparable"), (0, .class_ 1111), (0, u "java/lang/constant/Constable"), (0, .class_ 1113), (0, u "java/lang/constant/ConstantDesc"), (2, u "serialVersionUID"), (0, u "J"), (3, u "REPL"), (0, u "C"), (2, u "LATIN1"), (1, u "UTF16"), (105, u "(Ljava/lang/StringBuilder;)V")] 217

def k7m0 : Method := { name := "<init>", desc := "()V", sig := { parameters := [], returnType := none }, accessFlags := 1, code := none }
def k7c1 : Code := { maxStack := 5, maxLocals := 2, code := jdk_42_method_3_code, exceptionTable := #[], attributes := #[] }
def k7m1 : Method := { name := "<init>", desc := "([C)V", sig := { parameters := [(.array .char)], returnType := none }, accessFlags := 1, code := some k7c1 }
def k7c2 : Code := { maxStack := 3, maxLocals := 2, code := jdk_42_method_53_code, exceptionTable := #[], attributes := #[] }
def k7m2 : Method := { name := "<init>", desc := "(Ljava/lang/StringBuilder;)V", sig := { parameters := [(.object "java/lang/StringBuilder")], returnType := none }, accessFlags := 1, code := some k7c2 }
def k7c3 : Code := { maxStack := 2, maxLocals := 1, code := jdk_42_method_54_code, exceptionTable := #[], attributes := #[] }
def k7m3 : Method := { name := "length", desc := "()I", sig := { parameters := [], returnType := some .int }, accessFlags := 1, code := some k7c3 }
def k7c4 : Code := { maxStack := 2, maxLocals := 2, code := jdk_42_method_56_code, exceptionTable := #[], attributes := #[] }
def k7m4 : Method := { name := "charAt", desc := "(I)C", sig := { parameters := [.int], returnType := some .char }, accessFlags := 1, code := some k7c4 }
def k7c5 : Code := { maxStack := 4, maxLocals := 1, code := jdk_42_method_139_code, exceptionTable := #[], attributes := #[] }
def k7m5 : Method := { name := "valueOf", desc := "(C)Ljava/lang/String;", sig := { parameters := [.char], returnType := some (.object "java/lang/String") }, accessFlags := 9, code := some k7c5 }
def k7c6 : Code := { maxStack := 5, maxLocals := 4, code := jdk_42_method_147_code, exceptionTable := #[], attributes := #[] }
def k7m6 : Method := { name := "getBytes", desc := "([BIB)V", sig := { parameters := [(.array .byte), .int, .byte], returnType := none }, accessFlags := 0, code := some k7c6 }
def k7c7 : Code := { maxStack := 4, maxLocals := 6, code := jdk_42_method_149_code, exceptionTable := #[], attributes := #[] }
def k7m7 : Method := { name := "<init>", desc := "([CIILjava/lang/Void;)V", sig := { parameters := [(.array .char), .int, .int, (.object "java/lang/Void")], returnType := none }, accessFlags := 2, code := some k7c7 }
def k7c8 : Code := { maxStack := 5, maxLocals := 5, code := jdk_42_method_150_code, exceptionTable := #[], attributes := #[] }
def k7m8 : Method := { name := "<init>", desc := "(Ljava/lang/AbstractStringBuilder;Ljava/lang/Void;)V", sig := { parameters := [(.object "java/lang/AbstractStringBuilder"), (.object "java/lang/Void")], returnType := none }, accessFlags := 0, code := some k7c8 }
def k7c9 : Code := { maxStack := 2, maxLocals := 3, code := jdk_42_method_151_code, exceptionTable := #[], attributes := #[] }
def k7m9 : Method := { name := "<init>", desc := "([BB)V", sig := { parameters := [(.array .byte), .byte], returnType := none }, accessFlags := 0, code := some k7c9 }
def k7c10 : Code := { maxStack := 1, maxLocals := 1, code := jdk_42_method_152_code, exceptionTable := #[], attributes := #[] }
def k7m10 : Method := { name := "coder", desc := "()B", sig := { parameters := [], returnType := some .byte }, accessFlags := 0, code := some k7c10 }
def k7c11 : Code := { maxStack := 1, maxLocals := 1, code := jdk_42_method_154_code, exceptionTable := #[], attributes := #[] }
def k7m11 : Method := { name := "isLatin1", desc := "()Z", sig := { parameters := [], returnType := some .boolean }, accessFlags := 0, code := some k7c11 }
def k7c12 : Code := { maxStack := 3, maxLocals := 2, code := jdk_42_method_155_code, exceptionTable := #[], attributes := #[] }
def k7m12 : Method := { name := "checkIndex", desc := "(II)V", sig := { parameters := [.int, .int], returnType := none }, accessFlags := 8, code := some k7c12 }
/-- java/lang/String -/
def k7 : Class := { plain "java/lang/String" (some 0) with
  accessFlags := 49
  interfaces := #[2, 3, 4, 5, 6]
  cf := some (fileOf pool7 10 #[.nestMembers #[1103]] #[{ accessFlags := 1, nameIndex := 5, descriptorIndex := 6, attributes := #[] }, { accessFlags := 1, nameIndex := 5, descriptorIndex := 1010, attributes := #[] }, { accessFlags := 1, nameIndex := 5, descriptorIndex := 1233, attributes := #[] }, { accessFlags := 1, nameIndex := 507, descriptorIndex := 334, attributes := #[] }, { accessFlags := 1, nameIndex := 497, descriptorIndex := 427, attributes := #[] }, { accessFlags := 9, nameIndex := 782, descriptorIndex := 783, attributes := #[] }, { accessFlags := 0, nameIndex := 532, descriptorIndex := 821, attributes := #[] }, { accessFlags := 2, nameIndex := 5, descriptorIndex := 29, attributes := #[] }, { accessFlags := 0, nameIndex := 5, descriptorIndex := 491, attributes := #[] }, { accessFlags := 0, nameIndex := 5, descriptorIndex := 211, attributes := #[] }, { accessFlags := 0, nameIndex := 17, descriptorIndex := 337, attributes := #[] }, { accessFlags := 0, nameIndex := 494, descriptorIndex := 142, attributes := #[] }, { accessFlags := 8, nameIndex := 501, descriptorIndex := 391, attributes := #[] }] 49 2 #[1106, 1108, 575, 1110, 1112] #[{ accessFlags := 18, nameIndex := 13, descriptorIndex := 14, attributes := #[] }, { accessFlags := 18, nameIndex := 17, descriptorIndex := 18, attributes := #[] }, { accessFlags := 2, nameIndex := 21, descriptorIndex := 22, attributes := #[] }, { accessFlags := 2, nameIndex := 25, descriptorIndex := 26, attributes := #[] }, { accessFlags := 26, nameIndex := 1116, descriptorIndex := 1117, attributes := #[] }, { accessFlags := 24, nameIndex := 40, descriptorIndex := 26, attributes := #[] }, { accessFlags := 26, nameIndex := 1101, descriptorIndex := 1102, attributes := #[] }, { accessFlags := 26, nameIndex := 1121, descriptorIndex := 1122, attributes := #[] }, { accessFlags := 25, nameIndex := 599, descriptorIndex := 600, attributes := #[] }, { accessFlags := 24, nameIndex := 1125, descriptorIndex := 18, attributes := #[] }, { accessFlags := 24, nameIndex := 1127, descriptorIndex := 18, attributes := #[] }])
  fields := #[{ name := "value", type := (.array .byte), accessFlags := 18, slot := 0, constantValue := 0 }, { name := "coder", type := .byte, accessFlags := 18, slot := 1, constantValue := 0 }, { name := "hash", type := .int, accessFlags := 2, slot := 2, constantValue := 0 }, { name := "hashIsZero", type := .boolean, accessFlags := 2, slot := 3, constantValue := 0 }, { name := "serialVersionUID", type := .long, accessFlags := 26, slot := 0, constantValue := 0 }, { name := "COMPACT_STRINGS", type := .boolean, accessFlags := 24, slot := 1, constantValue := 0 }, { name := "serialPersistentFields", type := (.array (.object "java/io/ObjectStreamField")), accessFlags := 26, slot := 2, constantValue := 0 }, { name := "REPL", type := .char, accessFlags := 26, slot := 3, constantValue := 0 }, { name := "CASE_INSENSITIVE_ORDER", type := (.object "java/util/Comparator"), accessFlags := 25, slot := 4, constantValue := 0 }, { name := "LATIN1", type := .byte, accessFlags := 24, slot := 5, constantValue := 0 }, { name := "UTF16", type := .byte, accessFlags := 24, slot := 6, constantValue := 0 }]
  methods := #[k7m0, k7m1, k7m2, k7m3, k7m4, k7m5, k7m6, k7m7, k7m8, k7m9, k7m10, k7m11, k7m12]
  instanceTypes := #[(.array .byte), .byte, .int, .boolean]
  staticTypes := #[.long, .boolean, (.array (.object "java/io/ObjectStreamField")), .char, (.object "java/util/Comparator"), .byte, .byte]
  resolved := Array.replicate 1451 none
  statics := some 0 }

def pool8 : Array CpInfo := pool [(2, .class_ 4), (0, .nameAndType 5 6), (0, u "java/lang/Object"), (0, u "<init>"), (0, u "()V"), (0, .class_ 8), (0, u "java/lang/StringBuilder"), (5, u "()Ljava/lang/String;"), (13, .string 29), (0, u "; "), (0, .methodref 7 31), (0, .nameAndType 32 33), (0, u "append"), (0, u "(Ljava/lang/String;)Ljava/lang/StringBuilder;"), (0, .methodref 7 35), (0, .nameAndType 36 14), (0, u "toString"), (0, .methodref 7 3), (0, .string 39), (0, u " did not answer within "), (0, .fieldref 41 42), (0, .class_ 43), (0, .nameAndType 44 45), (0, u "java/util/concurrent/TimeUnit"), (0, u "NANOSECONDS"), (0, u "Ljava/util/concurrent/TimeUnit;"), (0, .methodref 41 47), (0, .nameAndType 48 49), (0, u "toMillis"), (0, u "(J)J"), (0, .methodref 7 51), (0, .nameAndType 32 52), (0, u "(J)Ljava/lang/StringBuilder;"), (0, .string 54), (0, u " ms"), (0, .class_ 56), (0, u "com/example/sem1/sem1/store/StoreFailures"), (5, u "unanswered"), (0, u "(Ljava/lang/String;JLjava/lang/String;)Ljava/lang/String;")] 2

def k8m0 : Method := { name := "<init>", desc := "()V", sig := { parameters := [], returnType := none }, accessFlags := 2, code := none }
def k8c1 : Code := { maxStack := 4, maxLocals := 5, code := prog_22_method_3_code, exceptionTable := #[], attributes := #[] }
def k8m1 : Method := { name := "unanswered", desc := "(Ljava/lang/String;JLjava/lang/String;)Ljava/lang/String;", sig := { parameters := [(.object "java/lang/String"), .long, (.object "java/lang/String")], returnType := some (.object "java/lang/String") }, accessFlags := 8, code := some k8c1 }
/-- com/example/sem1/sem1/store/StoreFailures -/
def k8 : Class := { plain "com/example/sem1/sem1/store/StoreFailures" (some 0) with
  accessFlags := 48
  interfaces := #[]
  cf := some (fileOf pool8 55 #[] #[{ accessFlags := 2, nameIndex := 5, descriptorIndex := 6, attributes := #[] }, { accessFlags := 8, nameIndex := 62, descriptorIndex := 63, attributes := #[] }] 48 2 #[] #[])
  fields := #[]
  methods := #[k8m0, k8m1]
  instanceTypes := #[]
  staticTypes := #[]
  resolved := Array.replicate 66 none
  statics := none }

def pool9 : Array CpInfo := pool [(1, .class_ 2), (0, u "java/lang/Appendable"), (0, .class_ 4), (0, u "java/lang/Object")] 9

/-- java/lang/Appendable -/
def k9 : Class := { plain "java/lang/Appendable" (some 0) with
  accessFlags := 1537
  interfaces := #[]
  cf := some (fileOf pool9 1 #[] #[] 1537 3 #[] #[])
  fields := #[]
  methods := #[]
  instanceTypes := #[]
  staticTypes := #[]
  resolved := Array.replicate 14 none
  statics := none }

def pool10 : Array CpInfo := pool [(1, .class_ 2), (0, u "java/lang/String"), (0, .methodref 4 5), (0, .class_ 6), (0, .nameAndType 7 8), (0, u "java/lang/Object"), (0, u "<init>"), (0, u "()V"), (1, .class_ 12), (1, u "java/lang/AbstractStringBuilder"), (0, u "EMPTYVALUE"), (0, u "[B"), (0, .fieldref 10 16), (0, .nameAndType 17 14), (0, u "value"), (0, .fieldref 1 19), (0, .nameAndType 20 21), (0, u "COMPACT_STRINGS"), (0, u "Z"), (0, .fieldref 10 23), (0, .nameAndType 24 25), (0, u "coder"), (0, u "B"), (6, .methodref 1 33), (0, .nameAndType 34 35), (0, u "length"), (0, u "()I"), (3, .integer 2147483647), (0, .methodref 1 41), (0, .nameAndType 24 42), (0, u "()B"), (2, u "append"), (0, u "(Ljava/lang/String;)Ljava/lang/AbstractStringBuilder;"), (1, .class_ 49), (0, u "java/lang/CharSequence"), (19, u "(Ljava/lang/String;)V"), (5, u "maybeLatin1"), (3, .fieldref 10 80), (0, .nameAndType 81 82), (0, u "count"), (0, u "I"), (0, .methodref 10 84), (0, .nameAndType 85 86), (0, u "isLatin1"), (0, u "()Z"), (13, .methodref 10 101), (0, .nameAndType 102 103), (0, u "ensureCapacityInternal"), (0, u "(I)V"), (0, .methodref 10 105), (0, .nameAndType 106 107), (0, u "newCapacity"), (0, u "(I)I"), (0, .methodref 109 110), (0, .class_ 111), (0, .nameAndType 112 113), (0, u "java/util/Arrays"), (0, u "copyOf"), (0, u "([BI)[B"), (0, .methodref 115 116), (0, .class_ 117), (0, .nameAndType 118 119), (0, u "jdk/internal/util/ArraysSupport"), (0, u "newLength"), (0, u "(III)I"), (68, u "getChars"), (19, .methodref 10 209), (0, .nameAndType 210 211), (0, u "putStringAt"), (0, u "(ILjava/lang/String;)V"), (5, u "inflateIfNeededFor"), (2, .nameAndType 221 222), (0, u "getBytes"), (0, u "([BIB)V"), (24, u "stringSize"), (6, .methodref 255 256), (0, .class_ 257), (0, .nameAndType 247 258), (0, u "java/lang/Long"), (0, u "(J)I"), (0, .methodref 255 260), (0, .nameAndType 188 261), (0, u "(JI[B)I"), (135, .methodref 10 398), (0, .nameAndType 217 69), (0, .methodref 1 220), (3, u "()[B"), (40, .class_ 445), (0, u "java/lang/Appendable"), (67, u "(J)Ljava/lang/AbstractStringBuilder;"), (38, u "getValue")] 56

def k10m0 : Method := { name := "<init>", desc := "()V", sig := { parameters := [], returnType := none }, accessFlags := 0, code := none }
def k10c1 : Code := { maxStack := 2, maxLocals := 2, code := jdk_68_method_2_code, exceptionTable := #[], attributes := #[] }
def k10m1 : Method := { name := "<init>", desc := "(I)V", sig := { parameters := [.int], returnType := none }, accessFlags := 0, code := some k10c1 }
def k10c2 : Code := { maxStack := 1, maxLocals := 1, code := jdk_68_method_6_code, exceptionTable := #[], attributes := #[] }
def k10m2 : Method := { name := "length", desc := "()I", sig := { parameters := [], returnType := some .int }, accessFlags := 1, code := some k10c2 }
def k10c3 : Code := { maxStack := 4, maxLocals := 3, code := jdk_68_method_9_code, exceptionTable := #[], attributes := #[] }
def k10m3 : Method := { name := "ensureCapacityInternal", desc := "(I)V", sig := { parameters := [.int], returnType := none }, accessFlags := 2, code := some k10c3 }
def k10c4 : Code := { maxStack := 5, maxLocals := 6, code := jdk_68_method_10_code, exceptionTable := #[], attributes := #[] }
def k10m4 : Method := { name := "newCapacity", desc := "(I)I", sig := { parameters := [.int], returnType := some .int }, accessFlags := 2, code := some k10c4 }
def k10c5 : Code := { maxStack := 3, maxLocals := 3, code := jdk_68_method_22_code, exceptionTable := #[], attributes := #[] }
def k10m5 : Method := { name := "append", desc := "(Ljava/lang/String;)Ljava/lang/AbstractStringBuilder;", sig := { parameters := [(.object "java/lang/String")], returnType := some (.object "java/lang/AbstractStringBuilder") }, accessFlags := 1, code := some k10c5 }
def k10c6 : Code := { maxStack := 5, maxLocals := 5, code := jdk_68_method_33_code, exceptionTable := #[], attributes := #[] }
def k10m6 : Method := { name := "append", desc := "(J)Ljava/lang/AbstractStringBuilder;", sig := { parameters := [.long], returnType := some (.object "java/lang/AbstractStringBuilder") }, accessFlags := 1, code := some k10c6 }
def k10c7 : Code := { maxStack := 1, maxLocals := 1, code := jdk_68_method_64_code, exceptionTable := #[], attributes := #[] }
def k10m7 : Method := { name := "getValue", desc := "()[B", sig := { parameters := [], returnType := some (.array .byte) }, accessFlags := 16, code := some k10c7 }
def k10c8 : Code := { maxStack := 1, maxLocals := 1, code := jdk_68_method_68_code, exceptionTable := #[], attributes := #[] }
def k10m8 : Method := { name := "isLatin1", desc := "()Z", sig := { parameters := [], returnType := some .boolean }, accessFlags := 16, code := some k10c8 }
def k10c9 : Code := { maxStack := 2, maxLocals := 2, code := jdk_68_method_71_code, exceptionTable := #[], attributes := #[] }
def k10m9 : Method := { name := "inflateIfNeededFor", desc := "(Ljava/lang/String;)V", sig := { parameters := [(.object "java/lang/String")], returnType := none }, accessFlags := 2, code := some k10c9 }
def k10c10 : Code := { maxStack := 4, maxLocals := 3, code := jdk_68_method_73_code, exceptionTable := #[], attributes := #[] }
def k10m10 : Method := { name := "putStringAt", desc := "(ILjava/lang/String;)V", sig := { parameters := [.int, (.object "java/lang/String")], returnType := none }, accessFlags := 2, code := some k10c10 }
/-- java/lang/AbstractStringBuilder -/
def k10 : Class := { plain "java/lang/AbstractStringBuilder" (some 0) with
  accessFlags := 1056
  interfaces := #[9, 4]
  cf := some (fileOf pool10 10 #[] #[{ accessFlags := 0, nameIndex := 7, descriptorIndex := 8, attributes := #[] }, { accessFlags := 0, nameIndex := 7, descriptorIndex := 103, attributes := #[] }, { accessFlags := 1, nameIndex := 34, descriptorIndex := 35, attributes := #[] }, { accessFlags := 2, nameIndex := 102, descriptorIndex := 103, attributes := #[] }, { accessFlags := 2, nameIndex := 106, descriptorIndex := 107, attributes := #[] }, { accessFlags := 1, nameIndex := 45, descriptorIndex := 46, attributes := #[] }, { accessFlags := 1, nameIndex := 45, descriptorIndex := 513, attributes := #[] }, { accessFlags := 16, nameIndex := 552, descriptorIndex := 403, attributes := #[] }, { accessFlags := 16, nameIndex := 85, descriptorIndex := 86, attributes := #[] }, { accessFlags := 2, nameIndex := 217, descriptorIndex := 69, attributes := #[] }, { accessFlags := 2, nameIndex := 210, descriptorIndex := 211, attributes := #[] }] 1056 4 #[444, 48] #[{ accessFlags := 0, nameIndex := 17, descriptorIndex := 14, attributes := #[] }, { accessFlags := 0, nameIndex := 24, descriptorIndex := 25, attributes := #[] }, { accessFlags := 0, nameIndex := 75, descriptorIndex := 21, attributes := #[] }, { accessFlags := 0, nameIndex := 81, descriptorIndex := 82, attributes := #[] }, { accessFlags := 26, nameIndex := 13, descriptorIndex := 14, attributes := #[] }])
  fields := #[{ name := "value", type := (.array .byte), accessFlags := 0, slot := 0, constantValue := 0 }, { name := "coder", type := .byte, accessFlags := 0, slot := 1, constantValue := 0 }, { name := "maybeLatin1", type := .boolean, accessFlags := 0, slot := 2, constantValue := 0 }, { name := "count", type := .int, accessFlags := 0, slot := 3, constantValue := 0 }, { name := "EMPTYVALUE", type := (.array .byte), accessFlags := 26, slot := 0, constantValue := 0 }]
  methods := #[k10m0, k10m1, k10m2, k10m3, k10m4, k10m5, k10m6, k10m7, k10m8, k10m9, k10m10]
  instanceTypes := #[(.array .byte), .byte, .boolean, .int]
  staticTypes := #[(.array .byte)]
  resolved := Array.replicate 609 none
  statics := none }

def pool11 : Array CpInfo := pool [(1, .methodref 2 3), (0, .class_ 4), (0, .nameAndType 5 6), (0, u "java/lang/AbstractStringBuilder"), (0, u "<init>"), (0, u "(I)V"), (11, .class_ 20), (1, u "java/lang/String"), (3, .class_ 26), (1, u "java/lang/StringBuilder"), (0, u "append"), (0, u "(Ljava/lang/String;)Ljava/lang/StringBuilder;"), (0, .methodref 2 30), (0, .nameAndType 27 31), (0, u "(Ljava/lang/String;)Ljava/lang/AbstractStringBuilder;"), (24, .methodref 2 57), (0, .nameAndType 27 58), (0, u "(J)Ljava/lang/AbstractStringBuilder;"), (78, .methodref 18 138), (0, .nameAndType 5 139), (0, u "(Ljava/lang/StringBuilder;)V"), (5, u "()V"), (10, u "()I"), (124, u "(J)Ljava/lang/StringBuilder;"), (61, .methodref 2 344), (0, .nameAndType 345 156), (0, u "length"), (3, .class_ 350), (0, u "java/lang/Appendable"), (0, .class_ 352), (0, u "java/io/Serializable"), (0, .class_ 354), (0, u "java/lang/Comparable"), (0, .class_ 356), (0, u "java/lang/CharSequence"), (0, u "serialVersionUID"), (0, u "J"), (40, u "toString"), (0, u "()Ljava/lang/String;")] 21

def k11c0 : Code := { maxStack := 2, maxLocals := 1, code := jdk_67_method_1_code, exceptionTable := #[], attributes := #[] }
def k11m0 : Method := { name := "<init>", desc := "()V", sig := { parameters := [], returnType := none }, accessFlags := 1, code := some k11c0 }
def k11c1 : Code := { maxStack := 2, maxLocals := 2, code := jdk_67_method_7_code, exceptionTable := #[], attributes := #[] }
def k11m1 : Method := { name := "append", desc := "(Ljava/lang/String;)Ljava/lang/StringBuilder;", sig := { parameters := [(.object "java/lang/String")], returnType := some (.object "java/lang/StringBuilder") }, accessFlags := 1, code := some k11c1 }
def k11c2 : Code := { maxStack := 3, maxLocals := 3, code := jdk_67_method_16_code, exceptionTable := #[], attributes := #[] }
def k11m2 : Method := { name := "append", desc := "(J)Ljava/lang/StringBuilder;", sig := { parameters := [.long], returnType := some (.object "java/lang/StringBuilder") }, accessFlags := 1, code := some k11c2 }
def k11c3 : Code := { maxStack := 3, maxLocals := 1, code := jdk_67_method_42_code, exceptionTable := #[], attributes := #[] }
def k11m3 : Method := { name := "toString", desc := "()Ljava/lang/String;", sig := { parameters := [], returnType := some (.object "java/lang/String") }, accessFlags := 1, code := some k11c3 }
def k11c4 : Code := { maxStack := 1, maxLocals := 1, code := jdk_67_method_93_code, exceptionTable := #[], attributes := #[] }
def k11m4 : Method := { name := "length", desc := "()I", sig := { parameters := [], returnType := some .int }, accessFlags := 4161, code := some k11c4 }
/-- java/lang/StringBuilder -/
def k11 : Class := { plain "java/lang/StringBuilder" (some 10) with
  accessFlags := 49
  interfaces := #[9, 2, 3, 4]
  cf := some (fileOf pool11 24 #[] #[{ accessFlags := 1, nameIndex := 5, descriptorIndex := 145, attributes := #[] }, { accessFlags := 1, nameIndex := 27, descriptorIndex := 28, attributes := #[] }, { accessFlags := 1, nameIndex := 27, descriptorIndex := 281, attributes := #[] }, { accessFlags := 1, nameIndex := 399, descriptorIndex := 400, attributes := #[] }, { accessFlags := 4161, nameIndex := 345, descriptorIndex := 156, attributes := #[] }] 49 2 #[349, 351, 353, 355] #[{ accessFlags := 24, nameIndex := 357, descriptorIndex := 358, attributes := #[] }])
  fields := #[{ name := "serialVersionUID", type := .long, accessFlags := 24, slot := 0, constantValue := 0 }]
  methods := #[k11m0, k11m1, k11m2, k11m3, k11m4]
  instanceTypes := #[(.array .byte), .byte, .boolean, .int]
  staticTypes := #[.long]
  resolved := Array.replicate 422 none
  statics := none }

def pool12 : Array CpInfo := pool [(2, .class_ 4), (1, u "java/lang/Object"), (0, u "<init>"), (0, u "()V"), (1, .class_ 10), (1, u "java/lang/System"), (0, u "allowSecurityManager"), (0, u "I"), (16, u "cons"), (0, u "Ljava/io/Console;"), (77, .class_ 110), (1, u "java/lang/System$CallersHolder"), (43, u "initialErrStream"), (0, u "Ljava/io/PrintStream;"), (19, u "security"), (0, u "Ljava/lang/SecurityManager;"), (31, .class_ 209), (0, u "java/lang/System$1"), (7, u "props"), (0, u "Ljava/util/Properties;"), (2, u "lineSeparator"), (0, u "Ljava/lang/String;"), (96, .class_ 321), (1, u "java/lang/System$LoggerFinder"), (5, .class_ 328), (0, u "java/lang/System$Logger"), (67, u "err"), (2, u "out"), (91, u "notSupportedJnuEncoding"), (15, u "in"), (17, u "initialIn"), (0, u "Ljava/io/InputStream;"), (35, u "bootLayer"), (0, u "Ljava/lang/ModuleLayer;"), (99, .class_ 664), (0, u "java/lang/System$2"), (9, u "NEVER"), (2, u "MAYBE"), (49, u "arraycopy"), (0, u "(Ljava/lang/Object;ILjava/lang/Object;II)V"), (72, .class_ 802), (0, u "java/lang/System$Logger$Level")] 31

def k12m0 : Method := { name := "<init>", desc := "()V", sig := { parameters := [], returnType := none }, accessFlags := 2, code := none }
def k12m1 : Method := { name := "arraycopy", desc := "(Ljava/lang/Object;ILjava/lang/Object;II)V", sig := { parameters := [(.object "java/lang/Object"), .int, (.object "java/lang/Object"), .int, .int], returnType := none }, accessFlags := 265, code := none }
/-- java/lang/System -/
def k12 : Class := { plain "java/lang/System" (some 0) with
  accessFlags := 49
  interfaces := #[]
  cf := some (fileOf pool12 8 #[.nestMembers #[319, 327, 801, 108, 663, 208]] #[{ accessFlags := 2, nameIndex := 5, descriptorIndex := 6, attributes := #[] }, { accessFlags := 265, nameIndex := 727, descriptorIndex := 728, attributes := #[] }] 49 2 #[] #[{ accessFlags := 25, nameIndex := 507, descriptorIndex := 526, attributes := #[] }, { accessFlags := 25, nameIndex := 399, descriptorIndex := 155, attributes := #[] }, { accessFlags := 25, nameIndex := 396, descriptorIndex := 155, attributes := #[] }, { accessFlags := 10, nameIndex := 525, descriptorIndex := 526, attributes := #[] }, { accessFlags := 26, nameIndex := 674, descriptorIndex := 12, attributes := #[] }, { accessFlags := 26, nameIndex := 677, descriptorIndex := 12, attributes := #[] }, { accessFlags := 10, nameIndex := 11, descriptorIndex := 12, attributes := #[] }, { accessFlags := 74, nameIndex := 175, descriptorIndex := 176, attributes := #[] }, { accessFlags := 10, nameIndex := 491, descriptorIndex := 222, attributes := #[] }, { accessFlags := 74, nameIndex := 29, descriptorIndex := 30, attributes := #[] }, { accessFlags := 74, nameIndex := 154, descriptorIndex := 155, attributes := #[] }, { accessFlags := 10, nameIndex := 217, descriptorIndex := 218, attributes := #[] }, { accessFlags := 10, nameIndex := 221, descriptorIndex := 222, attributes := #[] }, { accessFlags := 8, nameIndex := 562, descriptorIndex := 563, attributes := #[] }])
  fields := #[{ name := "in", type := (.object "java/io/InputStream"), accessFlags := 25, slot := 0, constantValue := 0 }, { name := "out", type := (.object "java/io/PrintStream"), accessFlags := 25, slot := 1, constantValue := 0 }, { name := "err", type := (.object "java/io/PrintStream"), accessFlags := 25, slot := 2, constantValue := 0 }, { name := "initialIn", type := (.object "java/io/InputStream"), accessFlags := 10, slot := 3, constantValue := 0 }, { name := "NEVER", type := .int, accessFlags := 26, slot := 4, constantValue := 0 }, { name := "MAYBE", type := .int, accessFlags := 26, slot := 5, constantValue := 0 }, { name := "allowSecurityManager", type := .int, accessFlags := 10, slot := 6, constantValue := 0 }, { name := "security", type := (.object "java/lang/SecurityManager"), accessFlags := 74, slot := 7, constantValue := 0 }, { name := "notSupportedJnuEncoding", type := (.object "java/lang/String"), accessFlags := 10, slot := 8, constantValue := 0 }, { name := "cons", type := (.object "java/io/Console"), accessFlags := 74, slot := 9, constantValue := 0 }, { name := "initialErrStream", type := (.object "java/io/PrintStream"), accessFlags := 74, slot := 10, constantValue := 0 }, { name := "props", type := (.object "java/util/Properties"), accessFlags := 10, slot := 11, constantValue := 0 }, { name := "lineSeparator", type := (.object "java/lang/String"), accessFlags := 10, slot := 12, constantValue := 0 }, { name := "bootLayer", type := (.object "java/lang/ModuleLayer"), accessFlags := 8, slot := 13, constantValue := 0 }]
  methods := #[k12m0, k12m1]
  instanceTypes := #[]
  staticTypes := #[(.object "java/io/InputStream"), (.object "java/io/PrintStream"), (.object "java/io/PrintStream"), (.object "java/io/InputStream"), .int, .int, .int, (.object "java/lang/SecurityManager"), (.object "java/lang/String"), (.object "java/io/Console"), (.object "java/io/PrintStream"), (.object "java/util/Properties"), (.object "java/lang/String"), (.object "java/lang/ModuleLayer")]
  resolved := Array.replicate 834 none
  statics := none }

def pool13 : Array CpInfo := pool [(9, u "<init>"), (6, .class_ 18), (1, u "java/lang/Object"), (0, u "()V"), (1, .class_ 23), (1, u "jdk/internal/util/ArraysSupport"), (0, u "LOG2_ARRAY_LONG_INDEX_SCALE"), (0, u "I"), (2, u "U"), (0, u "Ljdk/internal/misc/Unsafe;"), (8, u "BIG_ENDIAN"), (0, u "Z"), (8, u "LOG2_BYTE_BIT_SIZE"), (4, u "LOG2_ARRAY_INT_INDEX_SCALE"), (54, u "JLA"), (0, u "Ljdk/internal/access/JavaLangAccess;"), (11, u "LOG2_ARRAY_BOOLEAN_INDEX_SCALE"), (9, u "LOG2_ARRAY_BYTE_INDEX_SCALE"), (5, u "LOG2_ARRAY_CHAR_INDEX_SCALE"), (5, u "LOG2_ARRAY_SHORT_INDEX_SCALE"), (18, u "LOG2_ARRAY_FLOAT_INDEX_SCALE"), (24, u "LOG2_ARRAY_DOUBLE_INDEX_SCALE"), (6, .methodref 195 196), (0, .class_ 197), (0, .nameAndType 198 199), (0, u "java/lang/Math"), (0, u "max"), (0, u "(II)I"), (0, .integer 2147483639), (76, u "T_BOOLEAN"), (2, u "T_CHAR"), (1, u "T_FLOAT"), (1, u "T_DOUBLE"), (1, u "T_BYTE"), (1, u "T_SHORT"), (1, u "T_INT"), (1, u "T_LONG"), (1, u "SOFT_MAX_ARRAY_LENGTH"), (56, u "newLength"), (0, u "(III)I")] 25

def k13m0 : Method := { name := "<init>", desc := "()V", sig := { parameters := [], returnType := none }, accessFlags := 2, code := none }
def k13c1 : Code := { maxStack := 3, maxLocals := 4, code := jdk_48_method_27_code, exceptionTable := #[], attributes := #[] }
def k13m1 : Method := { name := "newLength", desc := "(III)I", sig := { parameters := [.int, .int, .int], returnType := some .int }, accessFlags := 9, code := some k13c1 }
/-- jdk/internal/util/ArraysSupport -/
def k13 : Class := { plain "jdk/internal/util/ArraysSupport" (some 0) with
  accessFlags := 33
  interfaces := #[]
  cf := some (fileOf pool13 21 #[] #[{ accessFlags := 2, nameIndex := 9, descriptorIndex := 19, attributes := #[] }, { accessFlags := 9, nameIndex := 351, descriptorIndex := 352, attributes := #[] }] 33 16 #[] #[{ accessFlags := 24, nameIndex := 28, descriptorIndex := 29, attributes := #[] }, { accessFlags := 26, nameIndex := 38, descriptorIndex := 39, attributes := #[] }, { accessFlags := 25, nameIndex := 121, descriptorIndex := 25, attributes := #[] }, { accessFlags := 25, nameIndex := 131, descriptorIndex := 25, attributes := #[] }, { accessFlags := 25, nameIndex := 137, descriptorIndex := 25, attributes := #[] }, { accessFlags := 25, nameIndex := 143, descriptorIndex := 25, attributes := #[] }, { accessFlags := 25, nameIndex := 53, descriptorIndex := 25, attributes := #[] }, { accessFlags := 25, nameIndex := 24, descriptorIndex := 25, attributes := #[] }, { accessFlags := 25, nameIndex := 162, descriptorIndex := 25, attributes := #[] }, { accessFlags := 25, nameIndex := 187, descriptorIndex := 25, attributes := #[] }, { accessFlags := 26, nameIndex := 48, descriptorIndex := 25, attributes := #[] }, { accessFlags := 25, nameIndex := 277, descriptorIndex := 25, attributes := #[] }, { accessFlags := 25, nameIndex := 280, descriptorIndex := 25, attributes := #[] }, { accessFlags := 25, nameIndex := 282, descriptorIndex := 25, attributes := #[] }, { accessFlags := 25, nameIndex := 284, descriptorIndex := 25, attributes := #[] }, { accessFlags := 25, nameIndex := 286, descriptorIndex := 25, attributes := #[] }, { accessFlags := 25, nameIndex := 288, descriptorIndex := 25, attributes := #[] }, { accessFlags := 25, nameIndex := 290, descriptorIndex := 25, attributes := #[] }, { accessFlags := 25, nameIndex := 292, descriptorIndex := 25, attributes := #[] }, { accessFlags := 26, nameIndex := 108, descriptorIndex := 109, attributes := #[] }, { accessFlags := 25, nameIndex := 294, descriptorIndex := 25, attributes := #[] }])
  fields := #[{ name := "U", type := (.object "jdk/internal/misc/Unsafe"), accessFlags := 24, slot := 0, constantValue := 0 }, { name := "BIG_ENDIAN", type := .boolean, accessFlags := 26, slot := 1, constantValue := 0 }, { name := "LOG2_ARRAY_BOOLEAN_INDEX_SCALE", type := .int, accessFlags := 25, slot := 2, constantValue := 0 }, { name := "LOG2_ARRAY_BYTE_INDEX_SCALE", type := .int, accessFlags := 25, slot := 3, constantValue := 0 }, { name := "LOG2_ARRAY_CHAR_INDEX_SCALE", type := .int, accessFlags := 25, slot := 4, constantValue := 0 }, { name := "LOG2_ARRAY_SHORT_INDEX_SCALE", type := .int, accessFlags := 25, slot := 5, constantValue := 0 }, { name := "LOG2_ARRAY_INT_INDEX_SCALE", type := .int, accessFlags := 25, slot := 6, constantValue := 0 }, { name := "LOG2_ARRAY_LONG_INDEX_SCALE", type := .int, accessFlags := 25, slot := 7, constantValue := 0 }, { name := "LOG2_ARRAY_FLOAT_INDEX_SCALE", type := .int, accessFlags := 25, slot := 8, constantValue := 0 }, { name := "LOG2_ARRAY_DOUBLE_INDEX_SCALE", type := .int, accessFlags := 25, slot := 9, constantValue := 0 }, { name := "LOG2_BYTE_BIT_SIZE", type := .int, accessFlags := 26, slot := 10, constantValue := 0 }, { name := "T_BOOLEAN", type := .int, accessFlags := 25, slot := 11, constantValue := 0 }, { name := "T_CHAR", type := .int, accessFlags := 25, slot := 12, constantValue := 0 }, { name := "T_FLOAT", type := .int, accessFlags := 25, slot := 13, constantValue := 0 }, { name := "T_DOUBLE", type := .int, accessFlags := 25, slot := 14, constantValue := 0 }, { name := "T_BYTE", type := .int, accessFlags := 25, slot := 15, constantValue := 0 }, { name := "T_SHORT", type := .int, accessFlags := 25, slot := 16, constantValue := 0 }, { name := "T_INT", type := .int, accessFlags := 25, slot := 17, constantValue := 0 }, { name := "T_LONG", type := .int, accessFlags := 25, slot := 18, constantValue := 0 }, { name := "JLA", type := (.object "jdk/internal/access/JavaLangAccess"), accessFlags := 26, slot := 19, constantValue := 0 }, { name := "SOFT_MAX_ARRAY_LENGTH", type := .int, accessFlags := 25, slot := 20, constantValue := 0 }]
  methods := #[k13m0, k13m1]
  instanceTypes := #[]
  staticTypes := #[(.object "jdk/internal/misc/Unsafe"), .boolean, .int, .int, .int, .int, .int, .int, .int, .int, .int, .int, .int, .int, .int, .int, .int, .int, .int, (.object "jdk/internal/access/JavaLangAccess"), .int]
  resolved := Array.replicate 378 none
  statics := none }

def pool14 : Array CpInfo := pool [(1, .class_ 2), (0, u "java/lang/Math"), (1, .class_ 6), (1, u "java/lang/Object"), (0, u "<init>"), (0, u "()V"), (89, .class_ 100), (1, u "java/lang/Math$RandomNumberGeneratorHolder"), (71, u "negativeZeroFloatBits"), (0, u "J"), (2, u "negativeZeroDoubleBits"), (21, u "max"), (2, u "min"), (43, u "$assertionsDisabled"), (0, u "Z"), (88, u "(II)I"), (2, u "twoToTheDoubleScaleDown"), (0, u "D"), (4, u "twoToTheDoubleScaleUp"), (9, u "E"), (3, u "PI"), (2, u "TAU"), (2, u "DEGREES_TO_RADIANS"), (0, u "RADIANS_TO_DEGREES")] 94

def k14m0 : Method := { name := "<init>", desc := "()V", sig := { parameters := [], returnType := none }, accessFlags := 2, code := none }
def k14c1 : Code := { maxStack := 2, maxLocals := 2, code := jdk_29_method_65_code, exceptionTable := #[], attributes := #[] }
def k14m1 : Method := { name := "max", desc := "(II)I", sig := { parameters := [.int, .int], returnType := some .int }, accessFlags := 9, code := some k14c1 }
def k14c2 : Code := { maxStack := 2, maxLocals := 2, code := jdk_29_method_69_code, exceptionTable := #[], attributes := #[] }
def k14m2 : Method := { name := "min", desc := "(II)I", sig := { parameters := [.int, .int], returnType := some .int }, accessFlags := 9, code := some k14c2 }
/-- java/lang/Math -/
def k14 : Class := { plain "java/lang/Math" (some 0) with
  accessFlags := 49
  interfaces := #[]
  cf := some (fileOf pool14 1 #[.nestMembers #[98]] #[{ accessFlags := 2, nameIndex := 7, descriptorIndex := 8, attributes := #[] }, { accessFlags := 9, nameIndex := 198, descriptorIndex := 335, attributes := #[] }, { accessFlags := 9, nameIndex := 201, descriptorIndex := 335, attributes := #[] }] 49 4 #[] #[{ accessFlags := 25, nameIndex := 354, descriptorIndex := 339, attributes := #[] }, { accessFlags := 25, nameIndex := 358, descriptorIndex := 339, attributes := #[] }, { accessFlags := 25, nameIndex := 361, descriptorIndex := 339, attributes := #[] }, { accessFlags := 26, nameIndex := 364, descriptorIndex := 339, attributes := #[] }, { accessFlags := 26, nameIndex := 365, descriptorIndex := 339, attributes := #[] }, { accessFlags := 26, nameIndex := 172, descriptorIndex := 173, attributes := #[] }, { accessFlags := 26, nameIndex := 176, descriptorIndex := 173, attributes := #[] }, { accessFlags := 8, nameIndex := 344, descriptorIndex := 339, attributes := #[] }, { accessFlags := 8, nameIndex := 338, descriptorIndex := 339, attributes := #[] }, { accessFlags := 4120, nameIndex := 245, descriptorIndex := 246, attributes := #[] }])
  fields := #[{ name := "E", type := .double, accessFlags := 25, slot := 0, constantValue := 0 }, { name := "PI", type := .double, accessFlags := 25, slot := 1, constantValue := 0 }, { name := "TAU", type := .double, accessFlags := 25, slot := 2, constantValue := 0 }, { name := "DEGREES_TO_RADIANS", type := .double, accessFlags := 26, slot := 3, constantValue := 0 }, { name := "RADIANS_TO_DEGREES", type := .double, accessFlags := 26, slot := 4, constantValue := 0 }, { name := "negativeZeroFloatBits", type := .long, accessFlags := 26, slot := 5, constantValue := 0 }, { name := "negativeZeroDoubleBits", type := .long, accessFlags := 26, slot := 6, constantValue := 0 }, { name := "twoToTheDoubleScaleUp", type := .double, accessFlags := 8, slot := 7, constantValue := 0 }, { name := "twoToTheDoubleScaleDown", type := .double, accessFlags := 8, slot := 8, constantValue := 0 }, { name := "$assertionsDisabled", type := .boolean, accessFlags := 4120, slot := 9, constantValue := 0 }]
  methods := #[k14m0, k14m1, k14m2]
  instanceTypes := #[]
  staticTypes := #[.double, .double, .double, .double, .double, .long, .long, .double, .double, .boolean]
  resolved := Array.replicate 460 none
  statics := none }

def pool15 : Array CpInfo := pool [(2, .class_ 4), (1, u "java/lang/Object"), (0, u "<init>"), (0, u "()V"), (7, .class_ 16), (1, u "java/util/Arrays"), (57, .class_ 76), (1, u "java/util/Arrays$NaturalOrder"), (32, u "()Ljava/lang/Object;"), (3, .class_ 115), (1, u "java/util/Arrays$LegacyMergeSort"), (1, u "Z"), (10, .nameAndType 129 109), (0, u "clone"), (9, u "copyOfRange"), (10, .methodref 151 152), (0, .class_ 153), (0, .nameAndType 154 155), (0, u "java/lang/System"), (0, u "arraycopy"), (0, u "(Ljava/lang/Object;ILjava/lang/Object;II)V"), (146, u "copyOf"), (1, .methodref 305 306), (0, .class_ 307), (0, .nameAndType 308 309), (0, u "java/lang/Math"), (0, u "min"), (0, u "(II)I"), (0, .methodref 311 128), (0, .class_ 312), (0, u "[B"), (26, .methodref 14 340), (0, .nameAndType 341 342), (0, u "copyOfRangeByte"), (0, u "([BII)[B"), (0, .methodref 14 344), (0, .nameAndType 345 346), (0, u "checkLength"), (0, u "(II)V"), (28, .class_ 376), (0, u "java/util/Arrays$ArrayList"), (68, u "$assertionsDisabled"), (269, u "MIN_ARRAY_SORT_GRAN"), (0, u "I"), (2, u "INSERTIONSORT_THRESHOLD"), (149, u "([BI)[B"), (105, .class_ 976), (0, u "java/util/Arrays$ArrayItr")] 52

def k15m0 : Method := { name := "<init>", desc := "()V", sig := { parameters := [], returnType := none }, accessFlags := 2, code := none }
def k15c1 : Code := { maxStack := 6, maxLocals := 3, code := jdk_65_method_121_code, exceptionTable := #[], attributes := #[] }
def k15m1 : Method := { name := "copyOf", desc := "([BI)[B", sig := { parameters := [(.array .byte), .int], returnType := some (.array .byte) }, accessFlags := 9, code := some k15c1 }
def k15c2 : Code := { maxStack := 4, maxLocals := 2, code := jdk_65_method_131_code, exceptionTable := #[], attributes := #[] }
def k15m2 : Method := { name := "checkLength", desc := "(II)V", sig := { parameters := [.int, .int], returnType := none }, accessFlags := 10, code := some k15c2 }
def k15c3 : Code := { maxStack := 3, maxLocals := 3, code := jdk_65_method_132_code, exceptionTable := #[], attributes := #[] }
def k15m3 : Method := { name := "copyOfRange", desc := "([BII)[B", sig := { parameters := [(.array .byte), .int, .int], returnType := some (.array .byte) }, accessFlags := 9, code := some k15c3 }
def k15c4 : Code := { maxStack := 6, maxLocals := 5, code := jdk_65_method_133_code, exceptionTable := #[], attributes := #[] }
def k15m4 : Method := { name := "copyOfRangeByte", desc := "([BII)[B", sig := { parameters := [(.array .byte), .int, .int], returnType := some (.array .byte) }, accessFlags := 10, code := some k15c4 }
/-- java/util/Arrays -/
def k15 : Class := { plain "java/util/Arrays" (some 0) with
  accessFlags := 49
  interfaces := #[]
  cf := some (fileOf pool15 14 #[.nestMembers #[975, 375, 113, 74]] #[{ accessFlags := 2, nameIndex := 5, descriptorIndex := 6, attributes := #[] }, { accessFlags := 9, nameIndex := 302, descriptorIndex := 869, attributes := #[] }, { accessFlags := 10, nameIndex := 345, descriptorIndex := 346, attributes := #[] }, { accessFlags := 9, nameIndex := 139, descriptorIndex := 342, attributes := #[] }, { accessFlags := 10, nameIndex := 341, descriptorIndex := 342, attributes := #[] }] 49 2 #[] #[{ accessFlags := 26, nameIndex := 715, descriptorIndex := 716, attributes := #[] }, { accessFlags := 26, nameIndex := 719, descriptorIndex := 716, attributes := #[] }, { accessFlags := 4120, nameIndex := 445, descriptorIndex := 117, attributes := #[] }])
  fields := #[{ name := "MIN_ARRAY_SORT_GRAN", type := .int, accessFlags := 26, slot := 0, constantValue := 0 }, { name := "INSERTIONSORT_THRESHOLD", type := .int, accessFlags := 26, slot := 1, constantValue := 0 }, { name := "$assertionsDisabled", type := .boolean, accessFlags := 4120, slot := 2, constantValue := 0 }]
  methods := #[k15m0, k15m1, k15m2, k15m3, k15m4]
  instanceTypes := #[]
  staticTypes := #[.int, .int, .boolean]
  resolved := Array.replicate 1029 none
  statics := none }

def pool16 : Array CpInfo := pool [(2, .class_ 4), (1, u "java/lang/Enum"), (0, u "name"), (0, u "Ljava/lang/String;"), (2, u "ordinal"), (0, u "I"), (1, .class_ 14), (1, u "java/lang/Object"), (4, u "hash"), (86, .class_ 108), (1, u "java/lang/Enum$EnumDesc"), (2, .class_ 112), (0, u "java/lang/constant/Constable"), (0, .class_ 114), (0, u "java/lang/Comparable"), (0, .class_ 116), (0, u "java/io/Serializable")] 87

/-- java/lang/Enum -/
def k16 : Class := { plain "java/lang/Enum" (some 0) with
  accessFlags := 1057
  interfaces := #[5, 3, 2]
  cf := some (fileOf pool16 2 #[.nestMembers #[106]] #[] 1057 12 #[111, 113, 115] #[{ accessFlags := 18, nameIndex := 5, descriptorIndex := 6, attributes := #[] }, { accessFlags := 18, nameIndex := 9, descriptorIndex := 10, attributes := #[] }, { accessFlags := 2, nameIndex := 19, descriptorIndex := 10, attributes := #[] }])
  fields := #[{ name := "name", type := (.object "java/lang/String"), accessFlags := 18, slot := 0, constantValue := 0 }, { name := "ordinal", type := .int, accessFlags := 18, slot := 1, constantValue := 0 }, { name := "hash", type := .int, accessFlags := 2, slot := 2, constantValue := 0 }]
  methods := #[]
  instanceTypes := #[(.object "java/lang/String"), .int, .int]
  staticTypes := #[]
  resolved := Array.replicate 204 none
  statics := none }

def pool17 : Array CpInfo := pool [(1, .class_ 2), (0, u "java/util/concurrent/TimeUnit"), (2, u "NANOSECONDS"), (0, u "Ljava/util/concurrent/TimeUnit;"), (2, u "MICROSECONDS"), (2, u "MILLISECONDS"), (2, u "SECONDS"), (2, u "MINUTES"), (2, u "HOURS"), (2, u "DAYS"), (2, u "$VALUES"), (0, u "[Ljava/util/concurrent/TimeUnit;"), (6, .class_ 37), (1, u "java/lang/Enum"), (6, .fieldref 1 45), (0, .nameAndType 46 47), (0, u "scale"), (0, u "J"), (6, u "maxNanos"), (4, u "microRatio"), (2, u "maxMicros"), (0, .long 1000000), (1, .fieldref 1 66), (0, .nameAndType 67 68), (0, u "milliRatio"), (0, u "I"), (2, u "maxMillis"), (4, u "secRatio"), (2, u "maxSecs"), (9, u "(J)J"), (5, u "toMillis"), (67, .class_ 165), (1, u "java/util/concurrent/TimeUnit$1"), (46, u "NANO_SCALE"), (3, u "MICRO_SCALE"), (0, u "MILLI_SCALE"), (0, u "SECOND_SCALE"), (0, u "MINUTE_SCALE"), (0, u "HOUR_SCALE"), (0, u "DAY_SCALE")] 61

def k17c0 : Code := { maxStack := 6, maxLocals := 7, code := jdk_2799_method_9_code, exceptionTable := #[], attributes := #[] }
def k17m0 : Method := { name := "toMillis", desc := "(J)J", sig := { parameters := [.long], returnType := some .long }, accessFlags := 1, code := some k17c0 }
/-- java/util/concurrent/TimeUnit -/
def k17 : Class := { plain "java/util/concurrent/TimeUnit" (some 16) with
  accessFlags := 16433
  interfaces := #[]
  cf := some (fileOf pool17 1 #[.nestMembers #[163]] #[{ accessFlags := 1, nameIndex := 95, descriptorIndex := 89, attributes := #[] }] 16433 35 #[] #[{ accessFlags := 16409, nameIndex := 5, descriptorIndex := 6, attributes := #[] }, { accessFlags := 16409, nameIndex := 9, descriptorIndex := 6, attributes := #[] }, { accessFlags := 16409, nameIndex := 12, descriptorIndex := 6, attributes := #[] }, { accessFlags := 16409, nameIndex := 15, descriptorIndex := 6, attributes := #[] }, { accessFlags := 16409, nameIndex := 18, descriptorIndex := 6, attributes := #[] }, { accessFlags := 16409, nameIndex := 21, descriptorIndex := 6, attributes := #[] }, { accessFlags := 16409, nameIndex := 24, descriptorIndex := 6, attributes := #[] }, { accessFlags := 26, nameIndex := 212, descriptorIndex := 47, attributes := #[] }, { accessFlags := 26, nameIndex := 216, descriptorIndex := 47, attributes := #[] }, { accessFlags := 26, nameIndex := 217, descriptorIndex := 47, attributes := #[] }, { accessFlags := 26, nameIndex := 218, descriptorIndex := 47, attributes := #[] }, { accessFlags := 26, nameIndex := 219, descriptorIndex := 47, attributes := #[] }, { accessFlags := 26, nameIndex := 220, descriptorIndex := 47, attributes := #[] }, { accessFlags := 26, nameIndex := 221, descriptorIndex := 47, attributes := #[] }, { accessFlags := 18, nameIndex := 46, descriptorIndex := 47, attributes := #[] }, { accessFlags := 18, nameIndex := 54, descriptorIndex := 47, attributes := #[] }, { accessFlags := 18, nameIndex := 62, descriptorIndex := 47, attributes := #[] }, { accessFlags := 18, nameIndex := 71, descriptorIndex := 47, attributes := #[] }, { accessFlags := 18, nameIndex := 79, descriptorIndex := 47, attributes := #[] }, { accessFlags := 18, nameIndex := 59, descriptorIndex := 47, attributes := #[] }, { accessFlags := 18, nameIndex := 67, descriptorIndex := 68, attributes := #[] }, { accessFlags := 18, nameIndex := 76, descriptorIndex := 68, attributes := #[] }, { accessFlags := 4122, nameIndex := 27, descriptorIndex := 28, attributes := #[] }])
  fields := #[{ name := "NANOSECONDS", type := (.object "java/util/concurrent/TimeUnit"), accessFlags := 16409, slot := 0, constantValue := 0 }, { name := "MICROSECONDS", type := (.object "java/util/concurrent/TimeUnit"), accessFlags := 16409, slot := 1, constantValue := 0 }, { name := "MILLISECONDS", type := (.object "java/util/concurrent/TimeUnit"), accessFlags := 16409, slot := 2, constantValue := 0 }, { name := "SECONDS", type := (.object "java/util/concurrent/TimeUnit"), accessFlags := 16409, slot := 3, constantValue := 0 }, { name := "MINUTES", type := (.object "java/util/concurrent/TimeUnit"), accessFlags := 16409, slot := 4, constantValue := 0 }, { name := "HOURS", type := (.object "java/util/concurrent/TimeUnit"), accessFlags := 16409, slot := 5, constantValue := 0 }, { name := "DAYS", type := (.object "java/util/concurrent/TimeUnit"), accessFlags := 16409, slot := 6, constantValue := 0 }, { name := "NANO_SCALE", type := .long, accessFlags := 26, slot := 7, constantValue := 0 }, { name := "MICRO_SCALE", type := .long, accessFlags := 26, slot := 8, constantValue := 0 }, { name := "MILLI_SCALE", type := .long, accessFlags := 26, slot := 9, constantValue := 0 }, { name := "SECOND_SCALE", type := .long, accessFlags := 26, slot := 10, constantValue := 0 }, { name := "MINUTE_SCALE", type := .long, accessFlags := 26, slot := 11, constantValue := 0 }, { name := "HOUR_SCALE", type := .long, accessFlags := 26, slot := 12, constantValue := 0 }, { name := "DAY_SCALE", type := .long, accessFlags := 26, slot := 13, constantValue := 0 }, { name := "scale", type := .long, accessFlags := 18, slot := 3, constantValue := 0 }, { name := "maxNanos", type := .long, accessFlags := 18, slot := 4, constantValue := 0 }, { name := "maxMicros", type := .long, accessFlags := 18, slot := 5, constantValue := 0 }, { name := "maxMillis", type := .long, accessFlags := 18, slot := 6, constantValue := 0 }, { name := "maxSecs", type := .long, accessFlags := 18, slot := 7, constantValue := 0 }, { name := "microRatio", type := .long, accessFlags := 18, slot := 8, constantValue := 0 }, { name := "milliRatio", type := .int, accessFlags := 18, slot := 9, constantValue := 0 }, { name := "secRatio", type := .int, accessFlags := 18, slot := 10, constantValue := 0 }, { name := "$VALUES", type := (.array (.object "java/util/concurrent/TimeUnit")), accessFlags := 4122, slot := 14, constantValue := 0 }]
  methods := #[k17m0]
  instanceTypes := #[(.object "java/lang/String"), .int, .int, .long, .long, .long, .long, .long, .long, .int, .int]
  staticTypes := #[(.object "java/util/concurrent/TimeUnit"), (.object "java/util/concurrent/TimeUnit"), (.object "java/util/concurrent/TimeUnit"), (.object "java/util/concurrent/TimeUnit"), (.object "java/util/concurrent/TimeUnit"), (.object "java/util/concurrent/TimeUnit"), (.object "java/util/concurrent/TimeUnit"), .long, .long, .long, .long, .long, .long, .long, (.array (.object "java/util/concurrent/TimeUnit"))]
  resolved := Array.replicate 283 none
  statics := some 1 }

def pool18 : Array CpInfo := pool [(2, .class_ 4), (1, u "java/lang/Object"), (0, u "<init>"), (0, u "()V"), (1, .class_ 10), (1, u "java/lang/Number"), (2, .class_ 14), (0, u "java/io/Serializable"), (0, u "serialVersionUID"), (0, u "J")] 20

def k18m0 : Method := { name := "<init>", desc := "()V", sig := { parameters := [], returnType := none }, accessFlags := 1, code := none }
/-- java/lang/Number -/
def k18 : Class := { plain "java/lang/Number" (some 0) with
  accessFlags := 1057
  interfaces := #[2]
  cf := some (fileOf pool18 8 #[] #[{ accessFlags := 1, nameIndex := 5, descriptorIndex := 6, attributes := #[] }] 1057 2 #[13] #[{ accessFlags := 26, nameIndex := 15, descriptorIndex := 16, attributes := #[] }])
  fields := #[{ name := "serialVersionUID", type := .long, accessFlags := 26, slot := 0, constantValue := 0 }]
  methods := #[k18m0]
  instanceTypes := #[]
  staticTypes := #[.long]
  resolved := Array.replicate 37 none
  statics := none }

def pool19 : Array CpInfo := pool [(1, .class_ 2), (0, u "java/lang/Long"), (15, .class_ 20), (1, u "java/lang/Integer"), (32, .long 10), (47, u "(J)I"), (18, u "stringSize"), (2, u "getChars"), (0, u "(JI[B)I"), (4, .long 18446744071562067968), (1, .long 100), (1, .fieldref 18 134), (0, .nameAndType 135 136), (0, u "DigitOnes"), (0, u "[B"), (0, .fieldref 18 138), (0, .nameAndType 139 136), (0, u "DigitTens"), (0, .long 18446744073709551606), (94, .class_ 237), (1, u "java/lang/Long$LongCache"), (33, .class_ 272), (0, u "java/lang/Number"), (2, u "value"), (0, u "J"), (84, u "TYPE"), (0, u "Ljava/lang/Class;"), (0, .class_ 364), (0, u "java/lang/Comparable"), (0, .class_ 366), (0, u "java/lang/constant/Constable"), (0, .class_ 368), (0, u "java/lang/constant/ConstantDesc"), (0, u "MIN_VALUE"), (1, u "MAX_VALUE"), (4, u "SIZE"), (0, u "I"), (1, u "BYTES"), (1, u "serialVersionUID")] 142

def k19c0 : Code := { maxStack := 4, maxLocals := 11, code := jdk_35_method_14_code, exceptionTable := #[], attributes := #[] }
def k19m0 : Method := { name := "getChars", desc := "(JI[B)I", sig := { parameters := [.long, .int, (.array .byte)], returnType := some .int }, accessFlags := 8, code := some k19c0 }
def k19c1 : Code := { maxStack := 4, maxLocals := 6, code := jdk_35_method_15_code, exceptionTable := #[], attributes := #[] }
def k19m1 : Method := { name := "stringSize", desc := "(J)I", sig := { parameters := [.long], returnType := some .int }, accessFlags := 8, code := some k19c1 }
/-- java/lang/Long -/
def k19 : Class := { plain "java/lang/Long" (some 18) with
  accessFlags := 49
  interfaces := #[3, 5, 6]
  cf := some (fileOf pool19 1 #[.nestMembers #[235]] #[{ accessFlags := 8, nameIndex := 123, descriptorIndex := 124, attributes := #[] }, { accessFlags := 8, nameIndex := 120, descriptorIndex := 101, attributes := #[] }] 49 271 #[363, 365, 367] #[{ accessFlags := 25, nameIndex := 369, descriptorIndex := 276, attributes := #[] }, { accessFlags := 25, nameIndex := 371, descriptorIndex := 276, attributes := #[] }, { accessFlags := 25, nameIndex := 361, descriptorIndex := 362, attributes := #[] }, { accessFlags := 18, nameIndex := 275, descriptorIndex := 276, attributes := #[] }, { accessFlags := 25, nameIndex := 376, descriptorIndex := 377, attributes := #[] }, { accessFlags := 25, nameIndex := 379, descriptorIndex := 377, attributes := #[] }, { accessFlags := 26, nameIndex := 381, descriptorIndex := 276, attributes := #[] }])
  fields := #[{ name := "MIN_VALUE", type := .long, accessFlags := 25, slot := 0, constantValue := 0 }, { name := "MAX_VALUE", type := .long, accessFlags := 25, slot := 1, constantValue := 0 }, { name := "TYPE", type := (.object "java/lang/Class"), accessFlags := 25, slot := 2, constantValue := 0 }, { name := "value", type := .long, accessFlags := 18, slot := 0, constantValue := 0 }, { name := "SIZE", type := .int, accessFlags := 25, slot := 3, constantValue := 0 }, { name := "BYTES", type := .int, accessFlags := 25, slot := 4, constantValue := 0 }, { name := "serialVersionUID", type := .long, accessFlags := 26, slot := 5, constantValue := 0 }]
  methods := #[k19m0, k19m1]
  instanceTypes := #[.long]
  staticTypes := #[.long, .long, (.object "java/lang/Class"), .int, .int, .long]
  resolved := Array.replicate 524 none
  statics := none }

def pool20 : Array CpInfo := pool [(1, .class_ 2), (0, u "java/lang/Integer"), (16, u "digits"), (0, u "[C"), (64, u "DigitOnes"), (0, u "[B"), (2, u "DigitTens"), (99, .class_ 190), (0, u "java/lang/Integer$IntegerCache"), (3, u "I"), (8, .class_ 204), (0, u "java/lang/Number"), (2, u "value"), (94, u "TYPE"), (0, u "Ljava/lang/Class;"), (0, .class_ 305), (0, u "java/lang/Comparable"), (0, .class_ 307), (0, u "java/lang/constant/Constable"), (0, .class_ 309), (0, u "java/lang/constant/ConstantDesc"), (0, u "MIN_VALUE"), (1, u "MAX_VALUE"), (3, u "SIZE"), (1, u "BYTES"), (1, u "serialVersionUID"), (0, u "J")] 131

/-- java/lang/Integer -/
def k20 : Class := { plain "java/lang/Integer" (some 18) with
  accessFlags := 49
  interfaces := #[3, 5, 6]
  cf := some (fileOf pool20 1 #[.nestMembers #[189]] #[] 49 203 #[304, 306, 308] #[{ accessFlags := 25, nameIndex := 310, descriptorIndex := 194, attributes := #[] }, { accessFlags := 25, nameIndex := 312, descriptorIndex := 194, attributes := #[] }, { accessFlags := 25, nameIndex := 302, descriptorIndex := 303, attributes := #[] }, { accessFlags := 24, nameIndex := 19, descriptorIndex := 20, attributes := #[] }, { accessFlags := 24, nameIndex := 89, descriptorIndex := 86, attributes := #[] }, { accessFlags := 24, nameIndex := 85, descriptorIndex := 86, attributes := #[] }, { accessFlags := 18, nameIndex := 207, descriptorIndex := 194, attributes := #[] }, { accessFlags := 25, nameIndex := 316, descriptorIndex := 194, attributes := #[] }, { accessFlags := 25, nameIndex := 318, descriptorIndex := 194, attributes := #[] }, { accessFlags := 26, nameIndex := 320, descriptorIndex := 321, attributes := #[] }])
  fields := #[{ name := "MIN_VALUE", type := .int, accessFlags := 25, slot := 0, constantValue := 0 }, { name := "MAX_VALUE", type := .int, accessFlags := 25, slot := 1, constantValue := 0 }, { name := "TYPE", type := (.object "java/lang/Class"), accessFlags := 25, slot := 2, constantValue := 0 }, { name := "digits", type := (.array .char), accessFlags := 24, slot := 3, constantValue := 0 }, { name := "DigitTens", type := (.array .byte), accessFlags := 24, slot := 4, constantValue := 0 }, { name := "DigitOnes", type := (.array .byte), accessFlags := 24, slot := 5, constantValue := 0 }, { name := "value", type := .int, accessFlags := 18, slot := 0, constantValue := 0 }, { name := "SIZE", type := .int, accessFlags := 25, slot := 6, constantValue := 0 }, { name := "BYTES", type := .int, accessFlags := 25, slot := 7, constantValue := 0 }, { name := "serialVersionUID", type := .long, accessFlags := 26, slot := 8, constantValue := 0 }]
  methods := #[]
  instanceTypes := #[.int]
  staticTypes := #[.int, .int, (.object "java/lang/Class"), (.array .char), (.array .byte), (.array .byte), .int, .int, .long]
  resolved := Array.replicate 453 none
  statics := some 2 }

def pool21 : Array CpInfo := pool [(1, .class_ 2), (0, u "java/lang/String"), (1, .class_ 6), (1, u "java/lang/Object"), (0, u "<init>"), (0, u "()V"), (0, .methodref 1 10), (0, .nameAndType 11 12), (0, u "checkIndex"), (0, u "(II)V"), (1, .class_ 16), (1, u "java/lang/StringLatin1"), (36, u "([BI)C"), (36, u "canEncode"), (14, u "(C)Z"), (15, u "$assertionsDisabled"), (0, u "Z"), (98, .class_ 223), (1, u "java/lang/StringLatin1$LinesSpliterator"), (28, u "charAt"), (127, u "toBytes"), (1, u "(C)[B"), (7, .class_ 391), (0, u "java/lang/StringLatin1$CharsSpliterator")] 3

def k21m0 : Method := { name := "<init>", desc := "()V", sig := { parameters := [], returnType := none }, accessFlags := 0, code := none }
def k21c1 : Code := { maxStack := 2, maxLocals := 2, code := jdk_43_method_2_code, exceptionTable := #[], attributes := #[] }
def k21m1 : Method := { name := "charAt", desc := "([BI)C", sig := { parameters := [(.array .byte), .int], returnType := some .char }, accessFlags := 9, code := some k21c1 }
def k21c2 : Code := { maxStack := 2, maxLocals := 1, code := jdk_43_method_3_code, exceptionTable := #[], attributes := #[] }
def k21m2 : Method := { name := "canEncode", desc := "(C)Z", sig := { parameters := [.char], returnType := some .boolean }, accessFlags := 9, code := some k21c2 }
def k21c3 : Code := { maxStack := 4, maxLocals := 1, code := jdk_43_method_46_code, exceptionTable := #[], attributes := #[] }
def k21m3 : Method := { name := "toBytes", desc := "(C)[B", sig := { parameters := [.char], returnType := some (.array .byte) }, accessFlags := 9, code := some k21c3 }
/-- java/lang/StringLatin1 -/
def k21 : Class := { plain "java/lang/StringLatin1" (some 0) with
  accessFlags := 48
  interfaces := #[]
  cf := some (fileOf pool21 14 #[.nestMembers #[390, 221]] #[{ accessFlags := 0, nameIndex := 7, descriptorIndex := 8, attributes := #[] }, { accessFlags := 9, nameIndex := 252, descriptorIndex := 53, attributes := #[] }, { accessFlags := 9, nameIndex := 90, descriptorIndex := 105, attributes := #[] }, { accessFlags := 9, nameIndex := 380, descriptorIndex := 382, attributes := #[] }] 48 4 #[] #[{ accessFlags := 4120, nameIndex := 121, descriptorIndex := 122, attributes := #[] }])
  fields := #[{ name := "$assertionsDisabled", type := .boolean, accessFlags := 4120, slot := 0, constantValue := 0 }]
  methods := #[k21m0, k21m1, k21m2, k21m3]
  instanceTypes := #[]
  staticTypes := #[.boolean]
  resolved := Array.replicate 395 none
  statics := none }

def pool22 : Array CpInfo := pool [(2, .class_ 4), (1, u "java/lang/Object"), (0, u "<init>"), (0, u "()V"), (17, .class_ 26), (1, u "jdk/internal/util/Preconditions"), (6, u "checkIndex"), (21, .class_ 56), (0, u "jdk/internal/util/Preconditions$4"), (57, .class_ 115), (0, u "jdk/internal/util/Preconditions$1"), (7, u "SIOOBE_FORMATTER"), (0, u "Ljava/util/function/BiFunction;"), (0, .class_ 126), (0, u "jdk/internal/util/Preconditions$2"), (3, u "AIOOBE_FORMATTER"), (0, .class_ 132), (0, u "jdk/internal/util/Preconditions$3"), (3, u "IOOBE_FORMATTER"), (41, u "(IILjava/util/function/BiFunction;)I")] 15

def k22m0 : Method := { name := "<init>", desc := "()V", sig := { parameters := [], returnType := none }, accessFlags := 1, code := none }
def k22c1 : Code := { maxStack := 3, maxLocals := 3, code := jdk_41_method_11_code, exceptionTable := #[], attributes := #[] }
def k22m1 : Method := { name := "checkIndex", desc := "(IILjava/util/function/BiFunction;)I", sig := { parameters := [.int, .int, (.object "java/util/function/BiFunction")], returnType := some .int }, accessFlags := 9, code := some k22c1 }
/-- jdk/internal/util/Preconditions -/
def k22 : Class := { plain "jdk/internal/util/Preconditions" (some 0) with
  accessFlags := 33
  interfaces := #[]
  cf := some (fileOf pool22 24 #[.nestMembers #[55, 131, 125, 114]] #[{ accessFlags := 1, nameIndex := 5, descriptorIndex := 6, attributes := #[] }, { accessFlags := 9, nameIndex := 33, descriptorIndex := 178, attributes := #[] }] 33 2 #[] #[{ accessFlags := 25, nameIndex := 123, descriptorIndex := 124, attributes := #[] }, { accessFlags := 25, nameIndex := 130, descriptorIndex := 124, attributes := #[] }, { accessFlags := 25, nameIndex := 136, descriptorIndex := 124, attributes := #[] }])
  fields := #[{ name := "SIOOBE_FORMATTER", type := (.object "java/util/function/BiFunction"), accessFlags := 25, slot := 0, constantValue := 0 }, { name := "AIOOBE_FORMATTER", type := (.object "java/util/function/BiFunction"), accessFlags := 25, slot := 1, constantValue := 0 }, { name := "IOOBE_FORMATTER", type := (.object "java/util/function/BiFunction"), accessFlags := 25, slot := 2, constantValue := 0 }]
  methods := #[k22m0, k22m1]
  instanceTypes := #[]
  staticTypes := #[(.object "java/util/function/BiFunction"), (.object "java/util/function/BiFunction"), (.object "java/util/function/BiFunction")]
  resolved := Array.replicate 194 none
  statics := some 3 }

def pool23 : Array CpInfo := pool [(6, .class_ 8), (1, u "java/lang/Object"), (0, u "<init>"), (0, u "()V"), (1, .class_ 14), (1, u "java/lang/StringUTF16"), (31, u "$assertionsDisabled"), (0, u "Z"), (13, u "HI_BYTE_SHIFT"), (0, u "I"), (2, u "LO_BYTE_SHIFT"), (49, .methodref 12 116), (0, .nameAndType 117 118), (0, u "compress"), (0, u "([CI[BII)I"), (3, u "([CII)[B"), (138, u "coderFromArrayLen"), (0, u "([BI)B"), (106, .class_ 371), (1, u "java/lang/StringUTF16$LinesSpliterator"), (58, u "MAX_LENGTH"), (196, .class_ 628), (0, u "java/lang/StringUTF16$CodePointsSpliterator"), (0, .class_ 630), (0, u "java/lang/StringUTF16$CharsSpliterator")] 4

def k23m0 : Method := { name := "<init>", desc := "()V", sig := { parameters := [], returnType := none }, accessFlags := 0, code := none }
def k23c1 : Code := { maxStack := 2, maxLocals := 2, code := jdk_52_method_15_code, exceptionTable := #[], attributes := #[] }
def k23m1 : Method := { name := "coderFromArrayLen", desc := "([BI)B", sig := { parameters := [(.array .byte), .int], returnType := some .byte }, accessFlags := 8, code := some k23c1 }
def k23c2 : Code := { maxStack := 5, maxLocals := 6, code := jdk_52_method_16_code, exceptionTable := #[], attributes := #[] }
def k23m2 : Method := { name := "compress", desc := "([CII)[B", sig := { parameters := [(.array .char), .int, .int], returnType := some (.array .byte) }, accessFlags := 9, code := some k23c2 }
def k23c3 : Code := { maxStack := 3, maxLocals := 7, code := jdk_52_method_21_code, exceptionTable := #[], attributes := #[] }
def k23m3 : Method := { name := "compress", desc := "([CI[BII)I", sig := { parameters := [(.array .char), .int, (.array .byte), .int, .int], returnType := some .int }, accessFlags := 9, code := some k23c3 }
/-- java/lang/StringUTF16 -/
def k23 : Class := { plain "java/lang/StringUTF16" (some 0) with
  accessFlags := 48
  interfaces := #[]
  cf := some (fileOf pool23 12 #[.nestMembers #[627, 629, 369]] #[{ accessFlags := 0, nameIndex := 9, descriptorIndex := 10, attributes := #[] }, { accessFlags := 8, nameIndex := 261, descriptorIndex := 262, attributes := #[] }, { accessFlags := 9, nameIndex := 117, descriptorIndex := 122, attributes := #[] }, { accessFlags := 9, nameIndex := 117, descriptorIndex := 118, attributes := #[] }] 48 6 #[] #[{ accessFlags := 26, nameIndex := 61, descriptorIndex := 62, attributes := #[] }, { accessFlags := 26, nameIndex := 65, descriptorIndex := 62, attributes := #[] }, { accessFlags := 24, nameIndex := 430, descriptorIndex := 62, attributes := #[] }, { accessFlags := 4120, nameIndex := 46, descriptorIndex := 47, attributes := #[] }])
  fields := #[{ name := "HI_BYTE_SHIFT", type := .int, accessFlags := 26, slot := 0, constantValue := 0 }, { name := "LO_BYTE_SHIFT", type := .int, accessFlags := 26, slot := 1, constantValue := 0 }, { name := "MAX_LENGTH", type := .int, accessFlags := 24, slot := 2, constantValue := 0 }, { name := "$assertionsDisabled", type := .boolean, accessFlags := 4120, slot := 3, constantValue := 0 }]
  methods := #[k23m0, k23m1, k23m2, k23m3]
  instanceTypes := #[]
  staticTypes := #[.int, .int, .int, .boolean]
  resolved := Array.replicate 635 none
  statics := none }

def pool24 : Array CpInfo := pool [(1, .class_ 2), (0, u "java/lang/Cloneable"), (0, .class_ 4), (0, u "java/lang/Object")] 2

/-- java/lang/Cloneable -/
def k24 : Class := { plain "java/lang/Cloneable" (some 0) with
  accessFlags := 1537
  interfaces := #[]
  cf := some (fileOf pool24 1 #[] #[] 1537 3 #[] #[])
  fields := #[]
  methods := #[]
  instanceTypes := #[]
  staticTypes := #[]
  resolved := Array.replicate 7 none
  statics := none }

/-- the primitive byte -/
def k25 : Class := { plain "byte" none with kind := .primitive 'B', accessFlags := 0x411 }
/-- [B -/
def k26 : Class := { plain "[B" (some 0) with kind := .array 25 .byte, interfaces := #[24, 2], accessFlags := 1041 }

/-- the primitive char -/
def k27 : Class := { plain "char" none with kind := .primitive 'C', accessFlags := 0x411 }
/-- [C -/
def k28 : Class := { plain "[C" (some 0) with kind := .array 27 .char, interfaces := #[24, 2], accessFlags := 1041 }

/-- the primitive int -/
def k29 : Class := { plain "int" none with kind := .primitive 'I', accessFlags := 0x411 }
/-- [I -/
def k30 : Class := { plain "[I" (some 0) with kind := .array 29 .int, interfaces := #[24, 2], accessFlags := 1041 }

/-- the primitive long -/
def k31 : Class := { plain "long" none with kind := .primitive 'J', accessFlags := 0x411 }
/-- [J -/
def k32 : Class := { plain "[J" (some 0) with kind := .array 31 .long, interfaces := #[24, 2], accessFlags := 1041 }

def heap : Heap := #[{ cls := 7, slots := #[.long 0, .int 1, .null, .int 0, .null, .int 0, .int 0], vm := .statics 7 },
  { cls := 17, slots := #[.ref 6, .null, .null, .null, .null, .null, .null, .long 0, .long 0, .long 0, .long 0, .long 0, .long 0, .long 0, .null], vm := .statics 17 },
  { cls := 20, slots := #[.int 0, .int 0, .null, .null, .ref 5, .ref 4, .int 0, .int 0, .long 0], vm := .statics 20 },
  { cls := 22, slots := #[.null, .null, .null], vm := .statics 22 },
  { cls := 26, slots := #[.int 48, .int 49, .int 50, .int 51, .int 52, .int 53, .int 54, .int 55, .int 56, .int 57, .int 48, .int 49, .int 50, .int 51, .int 52, .int 53, .int 54, .int 55, .int 56, .int 57, .int 48, .int 49, .int 50, .int 51, .int 52, .int 53, .int 54, .int 55, .int 56, .int 57, .int 48, .int 49, .int 50, .int 51, .int 52, .int 53, .int 54, .int 55, .int 56, .int 57, .int 48, .int 49, .int 50, .int 51, .int 52, .int 53, .int 54, .int 55, .int 56, .int 57, .int 48, .int 49, .int 50, .int 51, .int 52, .int 53, .int 54, .int 55, .int 56, .int 57, .int 48, .int 49, .int 50, .int 51, .int 52, .int 53, .int 54, .int 55, .int 56, .int 57, .int 48, .int 49, .int 50, .int 51, .int 52, .int 53, .int 54, .int 55, .int 56, .int 57, .int 48, .int 49, .int 50, .int 51, .int 52, .int 53, .int 54, .int 55, .int 56, .int 57, .int 48, .int 49, .int 50, .int 51, .int 52, .int 53, .int 54, .int 55, .int 56, .int 57], vm := .none },
  { cls := 26, slots := #[.int 48, .int 48, .int 48, .int 48, .int 48, .int 48, .int 48, .int 48, .int 48, .int 48, .int 49, .int 49, .int 49, .int 49, .int 49, .int 49, .int 49, .int 49, .int 49, .int 49, .int 50, .int 50, .int 50, .int 50, .int 50, .int 50, .int 50, .int 50, .int 50, .int 50, .int 51, .int 51, .int 51, .int 51, .int 51, .int 51, .int 51, .int 51, .int 51, .int 51, .int 52, .int 52, .int 52, .int 52, .int 52, .int 52, .int 52, .int 52, .int 52, .int 52, .int 53, .int 53, .int 53, .int 53, .int 53, .int 53, .int 53, .int 53, .int 53, .int 53, .int 54, .int 54, .int 54, .int 54, .int 54, .int 54, .int 54, .int 54, .int 54, .int 54, .int 55, .int 55, .int 55, .int 55, .int 55, .int 55, .int 55, .int 55, .int 55, .int 55, .int 56, .int 56, .int 56, .int 56, .int 56, .int 56, .int 56, .int 56, .int 56, .int 56, .int 57, .int 57, .int 57, .int 57, .int 57, .int 57, .int 57, .int 57, .int 57, .int 57], vm := .none },
  { cls := 17, slots := #[.ref 7, .int 0, .int 0, .long 1, .long 9223372036854775807, .long 9223372036854775, .long 9223372036854, .long 9223372036, .long 1000, .int 1000000, .int 1000000000], vm := .none },
  { cls := 7, slots := #[.null, .int 0, .int 0, .int 0], vm := .none }]
def classes : Array Class := #[k0, k1, k2, k3, k4, k5, k6, k7, k8, k9, k10, k11, k12, k13, k14, k15, k16, k17, k18, k19, k20, k21, k22, k23, k24, k25, k26, k27, k28, k29, k30, k31, k32]
def interned : List (Array UInt16 × Addr) := []
def slotsUsed : Nat := 249
def theMethod : MethodId := ⟨1, 1⟩
def args0 : Array Value := #[.int 5, .int 6, .long 7, .int 8]
def aboutOver (below : List Frame) : State where
  vm := { classes := classes, interned := interned.toArray }
  heap := heap
  slotsUsed := slotsUsed
  threads := #[{ frames := .invoking theMethod args0 :: below }]
def below0 : List Frame := [.native { method := ⟨0, 0⟩, args := #[] }]
def about1 : State := aboutOver below0
def p0 : Program := .bare "" "" ""
def e0 : Env := launch0.env 0 0 0
theorem w_frames : about1.frames = Frame.invoking theMethod args0 :: below0 := rfl
set_option maxRecDepth 65536 in
theorem w_args : argsFit about1.vm theMethod args0 = true := by decide +kernel
set_option maxRecDepth 65536 in
theorem w_heap : heapFits about1 = true := by decide +kernel
set_option maxRecDepth 65536 in
theorem w_runnable : about1.curStatus? = some .runnable := by decide +kernel
set_option maxRecDepth 65536 in
theorem w_alone : about1.alone = true := by decide +kernel
set_option maxRecDepth 65536 in
theorem w_named : about1.methodNamed? x = some theMethod := by decide +kernel
set_option maxRecDepth 65536 in
theorem w_hears : about1.hears theMethod below0 = true := by decide +kernel
set_option maxRecDepth 65536 in
theorem w_ripe : about1.ripe theMethod args0 below0 = true := by decide +kernel
theorem w_running : about1.status = .running := rfl
set_option maxRecDepth 65536 in
theorem w_room : about1.hasRoom e0.platform room_1 = true :=
  launch0.hasRoom_least _ room_1 (by decide +kernel) (by decide +kernel) (by decide +kernel) (by decide +kernel) (by decide +kernel) (by decide +kernel)
theorem allAtoms_all (ts : List Jvm.Cond) (a : Array Jvm.Value) (st : Jvm.State) : (allAtoms ts).before a st = ts.all (fun c => c.before a st) := by
  induction ts with
  | nil => rfl
  | cons c t ih =>
    show (Jvm.Cond.and c (allAtoms t)).before a st = _
    rw [Jvm.Cond.before_and, ih, List.all_cons]
def words1 : List Jvm.Cond := Jvm.Cond.code x code maxLocals ret :: tables_1
/-- a 'code' word, met by the world's own term for the bytes: nothing is compared byte by byte -/
theorem code_word {y : MethodName} {bytes : ByteArray} {mx : Nat} {rt : Option FieldType} {a : Array Value} {s : State} {m : MethodId} {meth : Method} {c : Code} (h1 : s.methodNamed? y = some m) (h2 : s.vm.method? m = some meth) (h3 : meth.code = some c) (h4 : c.code = bytes)
    (h5 : (c.maxLocals == mx && c.exceptionTable.isEmpty && decide (c.maxStack ≤ mostOperands) && decide (meth.sig.returnType = rt) && !meth.locks && decide (parseMethodDescriptor y.desc = some meth.sig)) = true) : (Jvm.Cond.code y bytes mx rt).before a s = true := by
  simp only [Bool.and_eq_true, beq_iff_eq, Bool.not_eq_true', decide_eq_true_eq] at h5
  obtain ⟨⟨⟨⟨⟨g1, g2⟩, g3⟩, g4⟩, g5⟩, g6⟩ := h5
  simp [Cond.before, Cond.holds, Cond.value, h1, h2, h3, h4, g1, g2, g3, g4, g5, g6]
def isCode : Jvm.Cond → Bool
  | .code _ _ _ _ => true
  | _ => false
theorem all_split {L : List Jvm.Cond} {P : Jvm.Cond → Bool} (h1 : L.all (fun c => isCode c || P c) = true) (h2 : ∀ c ∈ L.filter isCode, P c = true) : L.all P = true := by
  refine List.all_eq_true.mpr fun c hc => ?_
  have h := List.all_eq_true.mp h1 c hc
  rcases Bool.eq_false_or_eq_true (isCode c) with hi | hi
  · exact h2 c (List.mem_filter.mpr ⟨hc, hi⟩)
  · simpa [hi] using h
set_option maxRecDepth 65536 in
theorem w_c0 : (Jvm.Cond.code x code maxLocals ret).before args0 about1 = true := code_word (m := ⟨1, 1⟩) (meth := k1m1) (c := k1c1) (by decide +kernel) rfl rfl rfl (by decide +kernel)
set_option maxRecDepth 65536 in
theorem w_c1 : (Jvm.Cond.code ({ cls := "com/example/sem1/sem1/store/StoreFailuresUnansweredPinLaw", name := "pick", desc := "(ICC)Ljava/lang/String;" } : Jvm.MethodName) method_3_code (3 : Nat) (Option.some (Jvm.ClassFile.FieldType.object "java/lang/String"))).before args0 about1 = true := code_word (m := ⟨1, 2⟩) (meth := k1m2) (c := k1c2) (by decide +kernel) rfl rfl rfl (by decide +kernel)
set_option maxRecDepth 65536 in
theorem w_c2 : (Jvm.Cond.code ({ cls := "java/lang/String", name := "<init>", desc := "([C)V" } : Jvm.MethodName) jdk_42_method_3_code (2 : Nat) (Option.none : Option Jvm.ClassFile.FieldType)).before args0 about1 = true := code_word (m := ⟨7, 1⟩) (meth := k7m1) (c := k7c1) (by decide +kernel) rfl rfl rfl (by decide +kernel)
set_option maxRecDepth 65536 in
theorem w_c3 : (Jvm.Cond.code ({ cls := "java/lang/String", name := "<init>", desc := "([CIILjava/lang/Void;)V" } : Jvm.MethodName) jdk_42_method_149_code (6 : Nat) (Option.none : Option Jvm.ClassFile.FieldType)).before args0 about1 = true := code_word (m := ⟨7, 7⟩) (meth := k7m7) (c := k7c7) (by decide +kernel) rfl rfl rfl (by decide +kernel)
set_option maxRecDepth 65536 in
theorem w_c4 : (Jvm.Cond.code ({ cls := "java/lang/Object", name := "<init>", desc := "()V" } : Jvm.MethodName) object_method_1_code (1 : Nat) (Option.none : Option Jvm.ClassFile.FieldType)).before args0 about1 = true := code_word (m := ⟨0, 0⟩) (meth := k0m0) (c := k0c0) (by decide +kernel) rfl rfl rfl (by decide +kernel)
set_option maxRecDepth 65536 in
theorem w_c5 : (Jvm.Cond.code ({ cls := "com/example/sem1/sem1/store/StoreFailures", name := "unanswered", desc := "(Ljava/lang/String;JLjava/lang/String;)Ljava/lang/String;" } : Jvm.MethodName) prog_22_method_3_code (5 : Nat) (Option.some (Jvm.ClassFile.FieldType.object "java/lang/String"))).before args0 about1 = true := code_word (m := ⟨8, 1⟩) (meth := k8m1) (c := k8c1) (by decide +kernel) rfl rfl rfl (by decide +kernel)
set_option maxRecDepth 65536 in
theorem w_c6 : (Jvm.Cond.code ({ cls := "java/lang/StringBuilder", name := "<init>", desc := "()V" } : Jvm.MethodName) jdk_67_method_1_code (1 : Nat) (Option.none : Option Jvm.ClassFile.FieldType)).before args0 about1 = true := code_word (m := ⟨11, 0⟩) (meth := k11m0) (c := k11c0) (by decide +kernel) rfl rfl rfl (by decide +kernel)
set_option maxRecDepth 65536 in
theorem w_c7 : (Jvm.Cond.code ({ cls := "java/lang/AbstractStringBuilder", name := "<init>", desc := "(I)V" } : Jvm.MethodName) jdk_68_method_2_code (2 : Nat) (Option.none : Option Jvm.ClassFile.FieldType)).before args0 about1 = true := code_word (m := ⟨10, 1⟩) (meth := k10m1) (c := k10c1) (by decide +kernel) rfl rfl rfl (by decide +kernel)
set_option maxRecDepth 65536 in
theorem w_c8 : (Jvm.Cond.code ({ cls := "java/lang/StringBuilder", name := "append", desc := "(Ljava/lang/String;)Ljava/lang/StringBuilder;" } : Jvm.MethodName) jdk_67_method_7_code (2 : Nat) (Option.some (Jvm.ClassFile.FieldType.object "java/lang/StringBuilder"))).before args0 about1 = true := code_word (m := ⟨11, 1⟩) (meth := k11m1) (c := k11c1) (by decide +kernel) rfl rfl rfl (by decide +kernel)
set_option maxRecDepth 65536 in
theorem w_c9 : (Jvm.Cond.code ({ cls := "java/lang/AbstractStringBuilder", name := "append", desc := "(Ljava/lang/String;)Ljava/lang/AbstractStringBuilder;" } : Jvm.MethodName) jdk_68_method_22_code (3 : Nat) (Option.some (Jvm.ClassFile.FieldType.object "java/lang/AbstractStringBuilder"))).before args0 about1 = true := code_word (m := ⟨10, 5⟩) (meth := k10m5) (c := k10c5) (by decide +kernel) rfl rfl rfl (by decide +kernel)
set_option maxRecDepth 65536 in
theorem w_c10 : (Jvm.Cond.code ({ cls := "java/lang/String", name := "length", desc := "()I" } : Jvm.MethodName) jdk_42_method_54_code (1 : Nat) (Option.some Jvm.ClassFile.FieldType.int)).before args0 about1 = true := code_word (m := ⟨7, 3⟩) (meth := k7m3) (c := k7c3) (by decide +kernel) rfl rfl rfl (by decide +kernel)
set_option maxRecDepth 65536 in
theorem w_c11 : (Jvm.Cond.code ({ cls := "java/lang/String", name := "coder", desc := "()B" } : Jvm.MethodName) jdk_42_method_152_code (1 : Nat) (Option.some Jvm.ClassFile.FieldType.byte)).before args0 about1 = true := code_word (m := ⟨7, 10⟩) (meth := k7m10) (c := k7c10) (by decide +kernel) rfl rfl rfl (by decide +kernel)
set_option maxRecDepth 65536 in
theorem w_c12 : (Jvm.Cond.code ({ cls := "java/lang/AbstractStringBuilder", name := "ensureCapacityInternal", desc := "(I)V" } : Jvm.MethodName) jdk_68_method_9_code (3 : Nat) (Option.none : Option Jvm.ClassFile.FieldType)).before args0 about1 = true := code_word (m := ⟨10, 3⟩) (meth := k10m3) (c := k10c3) (by decide +kernel) rfl rfl rfl (by decide +kernel)
set_option maxRecDepth 65536 in
theorem w_c13 : (Jvm.Cond.code ({ cls := "java/lang/AbstractStringBuilder", name := "putStringAt", desc := "(ILjava/lang/String;)V" } : Jvm.MethodName) jdk_68_method_73_code (3 : Nat) (Option.none : Option Jvm.ClassFile.FieldType)).before args0 about1 = true := code_word (m := ⟨10, 10⟩) (meth := k10m10) (c := k10c10) (by decide +kernel) rfl rfl rfl (by decide +kernel)
set_option maxRecDepth 65536 in
theorem w_c14 : (Jvm.Cond.code ({ cls := "java/lang/AbstractStringBuilder", name := "inflateIfNeededFor", desc := "(Ljava/lang/String;)V" } : Jvm.MethodName) jdk_68_method_71_code (2 : Nat) (Option.none : Option Jvm.ClassFile.FieldType)).before args0 about1 = true := code_word (m := ⟨10, 9⟩) (meth := k10m9) (c := k10c9) (by decide +kernel) rfl rfl rfl (by decide +kernel)
set_option maxRecDepth 65536 in
theorem w_c15 : (Jvm.Cond.code ({ cls := "java/lang/String", name := "getBytes", desc := "([BIB)V" } : Jvm.MethodName) jdk_42_method_147_code (4 : Nat) (Option.none : Option Jvm.ClassFile.FieldType)).before args0 about1 = true := code_word (m := ⟨7, 6⟩) (meth := k7m6) (c := k7c6) (by decide +kernel) rfl rfl rfl (by decide +kernel)
set_option maxRecDepth 65536 in
theorem w_c16 : (Jvm.Cond.code ({ cls := "java/lang/AbstractStringBuilder", name := "newCapacity", desc := "(I)I" } : Jvm.MethodName) jdk_68_method_10_code (6 : Nat) (Option.some Jvm.ClassFile.FieldType.int)).before args0 about1 = true := code_word (m := ⟨10, 4⟩) (meth := k10m4) (c := k10c4) (by decide +kernel) rfl rfl rfl (by decide +kernel)
set_option maxRecDepth 65536 in
theorem w_c17 : (Jvm.Cond.code ({ cls := "jdk/internal/util/ArraysSupport", name := "newLength", desc := "(III)I" } : Jvm.MethodName) jdk_48_method_27_code (4 : Nat) (Option.some Jvm.ClassFile.FieldType.int)).before args0 about1 = true := code_word (m := ⟨13, 1⟩) (meth := k13m1) (c := k13c1) (by decide +kernel) rfl rfl rfl (by decide +kernel)
set_option maxRecDepth 65536 in
theorem w_c18 : (Jvm.Cond.code ({ cls := "java/lang/Math", name := "max", desc := "(II)I" } : Jvm.MethodName) jdk_29_method_65_code (2 : Nat) (Option.some Jvm.ClassFile.FieldType.int)).before args0 about1 = true := code_word (m := ⟨14, 1⟩) (meth := k14m1) (c := k14c1) (by decide +kernel) rfl rfl rfl (by decide +kernel)
set_option maxRecDepth 65536 in
theorem w_c19 : (Jvm.Cond.code ({ cls := "java/util/Arrays", name := "copyOf", desc := "([BI)[B" } : Jvm.MethodName) jdk_65_method_121_code (3 : Nat) (Option.some (Jvm.ClassFile.FieldType.array Jvm.ClassFile.FieldType.byte))).before args0 about1 = true := code_word (m := ⟨15, 1⟩) (meth := k15m1) (c := k15c1) (by decide +kernel) rfl rfl rfl (by decide +kernel)
set_option maxRecDepth 65536 in
theorem w_c20 : (Jvm.Cond.code ({ cls := "java/lang/Math", name := "min", desc := "(II)I" } : Jvm.MethodName) jdk_29_method_69_code (2 : Nat) (Option.some Jvm.ClassFile.FieldType.int)).before args0 about1 = true := code_word (m := ⟨14, 2⟩) (meth := k14m2) (c := k14c2) (by decide +kernel) rfl rfl rfl (by decide +kernel)
set_option maxRecDepth 65536 in
theorem w_c21 : (Jvm.Cond.code ({ cls := "java/util/concurrent/TimeUnit", name := "toMillis", desc := "(J)J" } : Jvm.MethodName) jdk_2799_method_9_code (7 : Nat) (Option.some Jvm.ClassFile.FieldType.long)).before args0 about1 = true := code_word (m := ⟨17, 0⟩) (meth := k17m0) (c := k17c0) (by decide +kernel) rfl rfl rfl (by decide +kernel)
set_option maxRecDepth 65536 in
theorem w_c22 : (Jvm.Cond.code ({ cls := "java/lang/StringBuilder", name := "append", desc := "(J)Ljava/lang/StringBuilder;" } : Jvm.MethodName) jdk_67_method_16_code (3 : Nat) (Option.some (Jvm.ClassFile.FieldType.object "java/lang/StringBuilder"))).before args0 about1 = true := code_word (m := ⟨11, 2⟩) (meth := k11m2) (c := k11c2) (by decide +kernel) rfl rfl rfl (by decide +kernel)
set_option maxRecDepth 65536 in
theorem w_c23 : (Jvm.Cond.code ({ cls := "java/lang/AbstractStringBuilder", name := "append", desc := "(J)Ljava/lang/AbstractStringBuilder;" } : Jvm.MethodName) jdk_68_method_33_code (5 : Nat) (Option.some (Jvm.ClassFile.FieldType.object "java/lang/AbstractStringBuilder"))).before args0 about1 = true := code_word (m := ⟨10, 6⟩) (meth := k10m6) (c := k10c6) (by decide +kernel) rfl rfl rfl (by decide +kernel)
set_option maxRecDepth 65536 in
theorem w_c24 : (Jvm.Cond.code ({ cls := "java/lang/Long", name := "stringSize", desc := "(J)I" } : Jvm.MethodName) jdk_35_method_15_code (6 : Nat) (Option.some Jvm.ClassFile.FieldType.int)).before args0 about1 = true := code_word (m := ⟨19, 1⟩) (meth := k19m1) (c := k19c1) (by decide +kernel) rfl rfl rfl (by decide +kernel)
set_option maxRecDepth 65536 in
theorem w_c25 : (Jvm.Cond.code ({ cls := "java/lang/AbstractStringBuilder", name := "isLatin1", desc := "()Z" } : Jvm.MethodName) jdk_68_method_68_code (1 : Nat) (Option.some Jvm.ClassFile.FieldType.boolean)).before args0 about1 = true := code_word (m := ⟨10, 8⟩) (meth := k10m8) (c := k10c8) (by decide +kernel) rfl rfl rfl (by decide +kernel)
set_option maxRecDepth 65536 in
theorem w_c26 : (Jvm.Cond.code ({ cls := "java/lang/Long", name := "getChars", desc := "(JI[B)I" } : Jvm.MethodName) jdk_35_method_14_code (11 : Nat) (Option.some Jvm.ClassFile.FieldType.int)).before args0 about1 = true := code_word (m := ⟨19, 0⟩) (meth := k19m0) (c := k19c0) (by decide +kernel) rfl rfl rfl (by decide +kernel)
set_option maxRecDepth 65536 in
theorem w_c27 : (Jvm.Cond.code ({ cls := "java/lang/StringBuilder", name := "toString", desc := "()Ljava/lang/String;" } : Jvm.MethodName) jdk_67_method_42_code (1 : Nat) (Option.some (Jvm.ClassFile.FieldType.object "java/lang/String"))).before args0 about1 = true := code_word (m := ⟨11, 3⟩) (meth := k11m3) (c := k11c3) (by decide +kernel) rfl rfl rfl (by decide +kernel)
set_option maxRecDepth 65536 in
theorem w_c28 : (Jvm.Cond.code ({ cls := "java/lang/String", name := "<init>", desc := "(Ljava/lang/StringBuilder;)V" } : Jvm.MethodName) jdk_42_method_53_code (2 : Nat) (Option.none : Option Jvm.ClassFile.FieldType)).before args0 about1 = true := code_word (m := ⟨7, 2⟩) (meth := k7m2) (c := k7c2) (by decide +kernel) rfl rfl rfl (by decide +kernel)
set_option maxRecDepth 65536 in
theorem w_c29 : (Jvm.Cond.code ({ cls := "java/lang/String", name := "<init>", desc := "(Ljava/lang/AbstractStringBuilder;Ljava/lang/Void;)V" } : Jvm.MethodName) jdk_42_method_150_code (5 : Nat) (Option.none : Option Jvm.ClassFile.FieldType)).before args0 about1 = true := code_word (m := ⟨7, 8⟩) (meth := k7m8) (c := k7c8) (by decide +kernel) rfl rfl rfl (by decide +kernel)
set_option maxRecDepth 65536 in
theorem w_c30 : (Jvm.Cond.code ({ cls := "java/lang/AbstractStringBuilder", name := "getValue", desc := "()[B" } : Jvm.MethodName) jdk_68_method_64_code (1 : Nat) (Option.some (Jvm.ClassFile.FieldType.array Jvm.ClassFile.FieldType.byte))).before args0 about1 = true := code_word (m := ⟨10, 7⟩) (meth := k10m7) (c := k10c7) (by decide +kernel) rfl rfl rfl (by decide +kernel)
set_option maxRecDepth 65536 in
theorem w_c31 : (Jvm.Cond.code ({ cls := "java/lang/StringBuilder", name := "length", desc := "()I" } : Jvm.MethodName) jdk_67_method_93_code (1 : Nat) (Option.some Jvm.ClassFile.FieldType.int)).before args0 about1 = true := code_word (m := ⟨11, 4⟩) (meth := k11m4) (c := k11c4) (by decide +kernel) rfl rfl rfl (by decide +kernel)
set_option maxRecDepth 65536 in
theorem w_c32 : (Jvm.Cond.code ({ cls := "java/lang/AbstractStringBuilder", name := "length", desc := "()I" } : Jvm.MethodName) jdk_68_method_6_code (1 : Nat) (Option.some Jvm.ClassFile.FieldType.int)).before args0 about1 = true := code_word (m := ⟨10, 2⟩) (meth := k10m2) (c := k10c2) (by decide +kernel) rfl rfl rfl (by decide +kernel)
set_option maxRecDepth 65536 in
theorem w_c33 : (Jvm.Cond.code ({ cls := "java/util/Arrays", name := "copyOfRange", desc := "([BII)[B" } : Jvm.MethodName) jdk_65_method_132_code (3 : Nat) (Option.some (Jvm.ClassFile.FieldType.array Jvm.ClassFile.FieldType.byte))).before args0 about1 = true := code_word (m := ⟨15, 3⟩) (meth := k15m3) (c := k15c3) (by decide +kernel) rfl rfl rfl (by decide +kernel)
set_option maxRecDepth 65536 in
theorem w_c34 : (Jvm.Cond.code ({ cls := "java/util/Arrays", name := "copyOfRangeByte", desc := "([BII)[B" } : Jvm.MethodName) jdk_65_method_133_code (5 : Nat) (Option.some (Jvm.ClassFile.FieldType.array Jvm.ClassFile.FieldType.byte))).before args0 about1 = true := code_word (m := ⟨15, 4⟩) (meth := k15m4) (c := k15c4) (by decide +kernel) rfl rfl rfl (by decide +kernel)
set_option maxRecDepth 65536 in
theorem w_c35 : (Jvm.Cond.code ({ cls := "java/util/Arrays", name := "checkLength", desc := "(II)V" } : Jvm.MethodName) jdk_65_method_131_code (2 : Nat) (Option.none : Option Jvm.ClassFile.FieldType)).before args0 about1 = true := code_word (m := ⟨15, 2⟩) (meth := k15m2) (c := k15c2) (by decide +kernel) rfl rfl rfl (by decide +kernel)
set_option maxRecDepth 65536 in
theorem w_c36 : (Jvm.Cond.code ({ cls := "com/example/sem1/sem1/store/StoreFailuresUnansweredPinLaw", name := "digits", desc := "(J)I" } : Jvm.MethodName) method_4_code (3 : Nat) (Option.some Jvm.ClassFile.FieldType.int)).before args0 about1 = true := code_word (m := ⟨1, 3⟩) (meth := k1m3) (c := k1c3) (by decide +kernel) rfl rfl rfl (by decide +kernel)
set_option maxRecDepth 65536 in
theorem w_c37 : (Jvm.Cond.code ({ cls := "com/example/sem1/sem1/store/StoreFailuresUnansweredPinLaw", name := "within", desc := "(Ljava/lang/String;I)Z" } : Jvm.MethodName) method_6_code (3 : Nat) (Option.some Jvm.ClassFile.FieldType.boolean)).before args0 about1 = true := code_word (m := ⟨1, 5⟩) (meth := k1m5) (c := k1c5) (by decide +kernel) rfl rfl rfl (by decide +kernel)
set_option maxRecDepth 65536 in
theorem w_c38 : (Jvm.Cond.code ({ cls := "com/example/sem1/sem1/store/StoreFailuresUnansweredPinLaw", name := "at", desc := "(Ljava/lang/String;ILjava/lang/String;I)Z" } : Jvm.MethodName) method_5_code (4 : Nat) (Option.some Jvm.ClassFile.FieldType.boolean)).before args0 about1 = true := code_word (m := ⟨1, 4⟩) (meth := k1m4) (c := k1c4) (by decide +kernel) rfl rfl rfl (by decide +kernel)
set_option maxRecDepth 65536 in
theorem w_c39 : (Jvm.Cond.code ({ cls := "java/lang/String", name := "charAt", desc := "(I)C" } : Jvm.MethodName) jdk_42_method_56_code (2 : Nat) (Option.some Jvm.ClassFile.FieldType.char)).before args0 about1 = true := code_word (m := ⟨7, 4⟩) (meth := k7m4) (c := k7c4) (by decide +kernel) rfl rfl rfl (by decide +kernel)
set_option maxRecDepth 65536 in
theorem w_c40 : (Jvm.Cond.code ({ cls := "java/lang/String", name := "isLatin1", desc := "()Z" } : Jvm.MethodName) jdk_42_method_154_code (1 : Nat) (Option.some Jvm.ClassFile.FieldType.boolean)).before args0 about1 = true := code_word (m := ⟨7, 11⟩) (meth := k7m11) (c := k7c11) (by decide +kernel) rfl rfl rfl (by decide +kernel)
set_option maxRecDepth 65536 in
theorem w_c41 : (Jvm.Cond.code ({ cls := "java/lang/StringLatin1", name := "charAt", desc := "([BI)C" } : Jvm.MethodName) jdk_43_method_2_code (2 : Nat) (Option.some Jvm.ClassFile.FieldType.char)).before args0 about1 = true := code_word (m := ⟨21, 1⟩) (meth := k21m1) (c := k21c1) (by decide +kernel) rfl rfl rfl (by decide +kernel)
set_option maxRecDepth 65536 in
theorem w_c42 : (Jvm.Cond.code ({ cls := "java/lang/String", name := "checkIndex", desc := "(II)V" } : Jvm.MethodName) jdk_42_method_155_code (2 : Nat) (Option.none : Option Jvm.ClassFile.FieldType)).before args0 about1 = true := code_word (m := ⟨7, 12⟩) (meth := k7m12) (c := k7c12) (by decide +kernel) rfl rfl rfl (by decide +kernel)
set_option maxRecDepth 65536 in
theorem w_c43 : (Jvm.Cond.code ({ cls := "jdk/internal/util/Preconditions", name := "checkIndex", desc := "(IILjava/util/function/BiFunction;)I" } : Jvm.MethodName) jdk_41_method_11_code (3 : Nat) (Option.some Jvm.ClassFile.FieldType.int)).before args0 about1 = true := code_word (m := ⟨22, 1⟩) (meth := k22m1) (c := k22c1) (by decide +kernel) rfl rfl rfl (by decide +kernel)
set_option maxRecDepth 65536 in
theorem w_c44 : (Jvm.Cond.code ({ cls := "com/example/sem1/sem1/store/StoreFailuresUnansweredPinLaw", name := "number", desc := "(Ljava/lang/String;IJI)Z" } : Jvm.MethodName) method_8_code (6 : Nat) (Option.some Jvm.ClassFile.FieldType.boolean)).before args0 about1 = true := code_word (m := ⟨1, 7⟩) (meth := k1m7) (c := k1c7) (by decide +kernel) rfl rfl rfl (by decide +kernel)
set_option maxRecDepth 65536 in
theorem w_c45 : (Jvm.Cond.code ({ cls := "com/example/sem1/sem1/store/StoreFailuresUnansweredPinLaw", name := "d", desc := "(Ljava/lang/String;IJII[J)Z" } : Jvm.MethodName) method_7_code (9 : Nat) (Option.some Jvm.ClassFile.FieldType.boolean)).before args0 about1 = true := code_word (m := ⟨1, 6⟩) (meth := k1m6) (c := k1c6) (by decide +kernel) rfl rfl rfl (by decide +kernel)
set_option maxRecDepth 65536 in
theorem w_c46 : (Jvm.Cond.code ({ cls := "java/lang/String", name := "valueOf", desc := "(C)Ljava/lang/String;" } : Jvm.MethodName) jdk_42_method_139_code (1 : Nat) (Option.some (Jvm.ClassFile.FieldType.object "java/lang/String"))).before args0 about1 = true := code_word (m := ⟨7, 5⟩) (meth := k7m5) (c := k7c5) (by decide +kernel) rfl rfl rfl (by decide +kernel)
set_option maxRecDepth 65536 in
theorem w_c47 : (Jvm.Cond.code ({ cls := "java/lang/StringLatin1", name := "canEncode", desc := "(C)Z" } : Jvm.MethodName) jdk_43_method_3_code (1 : Nat) (Option.some Jvm.ClassFile.FieldType.boolean)).before args0 about1 = true := code_word (m := ⟨21, 2⟩) (meth := k21m2) (c := k21c2) (by decide +kernel) rfl rfl rfl (by decide +kernel)
set_option maxRecDepth 65536 in
theorem w_c48 : (Jvm.Cond.code ({ cls := "java/lang/StringLatin1", name := "toBytes", desc := "(C)[B" } : Jvm.MethodName) jdk_43_method_46_code (1 : Nat) (Option.some (Jvm.ClassFile.FieldType.array Jvm.ClassFile.FieldType.byte))).before args0 about1 = true := code_word (m := ⟨21, 3⟩) (meth := k21m3) (c := k21c3) (by decide +kernel) rfl rfl rfl (by decide +kernel)
set_option maxRecDepth 65536 in
theorem w_c49 : (Jvm.Cond.code ({ cls := "java/lang/String", name := "<init>", desc := "([BB)V" } : Jvm.MethodName) jdk_42_method_151_code (3 : Nat) (Option.none : Option Jvm.ClassFile.FieldType)).before args0 about1 = true := code_word (m := ⟨7, 9⟩) (meth := k7m9) (c := k7c9) (by decide +kernel) rfl rfl rfl (by decide +kernel)
set_option maxRecDepth 65536 in
theorem w_c50 : (Jvm.Cond.code ({ cls := "java/lang/StringUTF16", name := "compress", desc := "([CII)[B" } : Jvm.MethodName) jdk_52_method_16_code (6 : Nat) (Option.some (Jvm.ClassFile.FieldType.array Jvm.ClassFile.FieldType.byte))).before args0 about1 = true := code_word (m := ⟨23, 2⟩) (meth := k23m2) (c := k23c2) (by decide +kernel) rfl rfl rfl (by decide +kernel)
set_option maxRecDepth 65536 in
theorem w_c51 : (Jvm.Cond.code ({ cls := "java/lang/StringUTF16", name := "compress", desc := "([CI[BII)I" } : Jvm.MethodName) jdk_52_method_21_code (7 : Nat) (Option.some Jvm.ClassFile.FieldType.int)).before args0 about1 = true := code_word (m := ⟨23, 3⟩) (meth := k23m3) (c := k23c3) (by decide +kernel) rfl rfl rfl (by decide +kernel)
set_option maxRecDepth 65536 in
theorem w_c52 : (Jvm.Cond.code ({ cls := "java/lang/StringUTF16", name := "coderFromArrayLen", desc := "([BI)B" } : Jvm.MethodName) jdk_52_method_15_code (2 : Nat) (Option.some Jvm.ClassFile.FieldType.byte)).before args0 about1 = true := code_word (m := ⟨23, 1⟩) (meth := k23m1) (c := k23c1) (by decide +kernel) rfl rfl rfl (by decide +kernel)
def codes1 : List Jvm.Cond := [Jvm.Cond.code x code maxLocals ret, Jvm.Cond.code ({ cls := "com/example/sem1/sem1/store/StoreFailuresUnansweredPinLaw", name := "pick", desc := "(ICC)Ljava/lang/String;" } : Jvm.MethodName) method_3_code (3 : Nat) (Option.some (Jvm.ClassFile.FieldType.object "java/lang/String")), Jvm.Cond.code ({ cls := "java/lang/String", name := "<init>", desc := "([C)V" } : Jvm.MethodName) jdk_42_method_3_code (2 : Nat) (Option.none : Option Jvm.ClassFile.FieldType), Jvm.Cond.code ({ cls := "java/lang/String", name := "<init>", desc := "([CIILjava/lang/Void;)V" } : Jvm.MethodName) jdk_42_method_149_code (6 : Nat) (Option.none : Option Jvm.ClassFile.FieldType), Jvm.Cond.code ({ cls := "java/lang/Object", name := "<init>", desc := "()V" } : Jvm.MethodName) object_method_1_code (1 : Nat) (Option.none : Option Jvm.ClassFile.FieldType), Jvm.Cond.code ({ cls := "com/example/sem1/sem1/store/StoreFailures", name := "unanswered", desc := "(Ljava/lang/String;JLjava/lang/String;)Ljava/lang/String;" } : Jvm.MethodName) prog_22_method_3_code (5 : Nat) (Option.some (Jvm.ClassFile.FieldType.object "java/lang/String")), Jvm.Cond.code ({ cls := "java/lang/StringBuilder", name := "<init>", desc := "()V" } : Jvm.MethodName) jdk_67_method_1_code (1 : Nat) (Option.none : Option Jvm.ClassFile.FieldType), Jvm.Cond.code ({ cls := "java/lang/AbstractStringBuilder", name := "<init>", desc := "(I)V" } : Jvm.MethodName) jdk_68_method_2_code (2 : Nat) (Option.none : Option Jvm.ClassFile.FieldType), Jvm.Cond.code ({ cls := "java/lang/StringBuilder", name := "append", desc := "(Ljava/lang/String;)Ljava/lang/StringBuilder;" } : Jvm.MethodName) jdk_67_method_7_code (2 : Nat) (Option.some (Jvm.ClassFile.FieldType.object "java/lang/StringBuilder")), Jvm.Cond.code ({ cls := "java/lang/AbstractStringBuilder", name := "append", desc := "(Ljava/lang/String;)Ljava/lang/AbstractStringBuilder;" } : Jvm.MethodName) jdk_68_method_22_code (3 : Nat) (Option.some (Jvm.ClassFile.FieldType.object "java/lang/AbstractStringBuilder")), Jvm.Cond.code ({ cls := "java/lang/String", name := "length", desc := "()I" } : Jvm.MethodName) jdk_42_method_54_code (1 : Nat) (Option.some Jvm.ClassFile.FieldType.int), Jvm.Cond.code ({ cls := "java/lang/String", name := "coder", desc := "()B" } : Jvm.MethodName) jdk_42_method_152_code (1 : Nat) (Option.some Jvm.ClassFile.FieldType.byte), Jvm.Cond.code ({ cls := "java/lang/AbstractStringBuilder", name := "ensureCapacityInternal", desc := "(I)V" } : Jvm.MethodName) jdk_68_method_9_code (3 : Nat) (Option.none : Option Jvm.ClassFile.FieldType), Jvm.Cond.code ({ cls := "java/lang/AbstractStringBuilder", name := "putStringAt", desc := "(ILjava/lang/String;)V" } : Jvm.MethodName) jdk_68_method_73_code (3 : Nat) (Option.none : Option Jvm.ClassFile.FieldType), Jvm.Cond.code ({ cls := "java/lang/AbstractStringBuilder", name := "inflateIfNeededFor", desc := "(Ljava/lang/String;)V" } : Jvm.MethodName) jdk_68_method_71_code (2 : Nat) (Option.none : Option Jvm.ClassFile.FieldType), Jvm.Cond.code ({ cls := "java/lang/String", name := "getBytes", desc := "([BIB)V" } : Jvm.MethodName) jdk_42_method_147_code (4 : Nat) (Option.none : Option Jvm.ClassFile.FieldType), Jvm.Cond.code ({ cls := "java/lang/AbstractStringBuilder", name := "newCapacity", desc := "(I)I" } : Jvm.MethodName) jdk_68_method_10_code (6 : Nat) (Option.some Jvm.ClassFile.FieldType.int), Jvm.Cond.code ({ cls := "jdk/internal/util/ArraysSupport", name := "newLength", desc := "(III)I" } : Jvm.MethodName) jdk_48_method_27_code (4 : Nat) (Option.some Jvm.ClassFile.FieldType.int), Jvm.Cond.code ({ cls := "java/lang/Math", name := "max", desc := "(II)I" } : Jvm.MethodName) jdk_29_method_65_code (2 : Nat) (Option.some Jvm.ClassFile.FieldType.int), Jvm.Cond.code ({ cls := "java/util/Arrays", name := "copyOf", desc := "([BI)[B" } : Jvm.MethodName) jdk_65_method_121_code (3 : Nat) (Option.some (Jvm.ClassFile.FieldType.array Jvm.ClassFile.FieldType.byte)), Jvm.Cond.code ({ cls := "java/lang/Math", name := "min", desc := "(II)I" } : Jvm.MethodName) jdk_29_method_69_code (2 : Nat) (Option.some Jvm.ClassFile.FieldType.int), Jvm.Cond.code ({ cls := "java/util/concurrent/TimeUnit", name := "toMillis", desc := "(J)J" } : Jvm.MethodName) jdk_2799_method_9_code (7 : Nat) (Option.some Jvm.ClassFile.FieldType.long), Jvm.Cond.code ({ cls := "java/lang/StringBuilder", name := "append", desc := "(J)Ljava/lang/StringBuilder;" } : Jvm.MethodName) jdk_67_method_16_code (3 : Nat) (Option.some (Jvm.ClassFile.FieldType.object "java/lang/StringBuilder")), Jvm.Cond.code ({ cls := "java/lang/AbstractStringBuilder", name := "append", desc := "(J)Ljava/lang/AbstractStringBuilder;" } : Jvm.MethodName) jdk_68_method_33_code (5 : Nat) (Option.some (Jvm.ClassFile.FieldType.object "java/lang/AbstractStringBuilder")), Jvm.Cond.code ({ cls := "java/lang/Long", name := "stringSize", desc := "(J)I" } : Jvm.MethodName) jdk_35_method_15_code (6 : Nat) (Option.some Jvm.ClassFile.FieldType.int), Jvm.Cond.code ({ cls := "java/lang/AbstractStringBuilder", name := "isLatin1", desc := "()Z" } : Jvm.MethodName) jdk_68_method_68_code (1 : Nat) (Option.some Jvm.ClassFile.FieldType.boolean), Jvm.Cond.code ({ cls := "java/lang/Long", name := "getChars", desc := "(JI[B)I" } : Jvm.MethodName) jdk_35_method_14_code (11 : Nat) (Option.some Jvm.ClassFile.FieldType.int), Jvm.Cond.code ({ cls := "java/lang/StringBuilder", name := "toString", desc := "()Ljava/lang/String;" } : Jvm.MethodName) jdk_67_method_42_code (1 : Nat) (Option.some (Jvm.ClassFile.FieldType.object "java/lang/String")), Jvm.Cond.code ({ cls := "java/lang/String", name := "<init>", desc := "(Ljava/lang/StringBuilder;)V" } : Jvm.MethodName) jdk_42_method_53_code (2 : Nat) (Option.none : Option Jvm.ClassFile.FieldType), Jvm.Cond.code ({ cls := "java/lang/String", name := "<init>", desc := "(Ljava/lang/AbstractStringBuilder;Ljava/lang/Void;)V" } : Jvm.MethodName) jdk_42_method_150_code (5 : Nat) (Option.none : Option Jvm.ClassFile.FieldType), Jvm.Cond.code ({ cls := "java/lang/AbstractStringBuilder", name := "getValue", desc := "()[B" } : Jvm.MethodName) jdk_68_method_64_code (1 : Nat) (Option.some (Jvm.ClassFile.FieldType.array Jvm.ClassFile.FieldType.byte)), Jvm.Cond.code ({ cls := "java/lang/StringBuilder", name := "length", desc := "()I" } : Jvm.MethodName) jdk_67_method_93_code (1 : Nat) (Option.some Jvm.ClassFile.FieldType.int), Jvm.Cond.code ({ cls := "java/lang/AbstractStringBuilder", name := "length", desc := "()I" } : Jvm.MethodName) jdk_68_method_6_code (1 : Nat) (Option.some Jvm.ClassFile.FieldType.int), Jvm.Cond.code ({ cls := "java/util/Arrays", name := "copyOfRange", desc := "([BII)[B" } : Jvm.MethodName) jdk_65_method_132_code (3 : Nat) (Option.some (Jvm.ClassFile.FieldType.array Jvm.ClassFile.FieldType.byte)), Jvm.Cond.code ({ cls := "java/util/Arrays", name := "copyOfRangeByte", desc := "([BII)[B" } : Jvm.MethodName) jdk_65_method_133_code (5 : Nat) (Option.some (Jvm.ClassFile.FieldType.array Jvm.ClassFile.FieldType.byte)), Jvm.Cond.code ({ cls := "java/util/Arrays", name := "checkLength", desc := "(II)V" } : Jvm.MethodName) jdk_65_method_131_code (2 : Nat) (Option.none : Option Jvm.ClassFile.FieldType), Jvm.Cond.code ({ cls := "com/example/sem1/sem1/store/StoreFailuresUnansweredPinLaw", name := "digits", desc := "(J)I" } : Jvm.MethodName) method_4_code (3 : Nat) (Option.some Jvm.ClassFile.FieldType.int), Jvm.Cond.code ({ cls := "com/example/sem1/sem1/store/StoreFailuresUnansweredPinLaw", name := "within", desc := "(Ljava/lang/String;I)Z" } : Jvm.MethodName) method_6_code (3 : Nat) (Option.some Jvm.ClassFile.FieldType.boolean), Jvm.Cond.code ({ cls := "com/example/sem1/sem1/store/StoreFailuresUnansweredPinLaw", name := "at", desc := "(Ljava/lang/String;ILjava/lang/String;I)Z" } : Jvm.MethodName) method_5_code (4 : Nat) (Option.some Jvm.ClassFile.FieldType.boolean), Jvm.Cond.code ({ cls := "java/lang/String", name := "charAt", desc := "(I)C" } : Jvm.MethodName) jdk_42_method_56_code (2 : Nat) (Option.some Jvm.ClassFile.FieldType.char), Jvm.Cond.code ({ cls := "java/lang/String", name := "isLatin1", desc := "()Z" } : Jvm.MethodName) jdk_42_method_154_code (1 : Nat) (Option.some Jvm.ClassFile.FieldType.boolean), Jvm.Cond.code ({ cls := "java/lang/StringLatin1", name := "charAt", desc := "([BI)C" } : Jvm.MethodName) jdk_43_method_2_code (2 : Nat) (Option.some Jvm.ClassFile.FieldType.char), Jvm.Cond.code ({ cls := "java/lang/String", name := "checkIndex", desc := "(II)V" } : Jvm.MethodName) jdk_42_method_155_code (2 : Nat) (Option.none : Option Jvm.ClassFile.FieldType), Jvm.Cond.code ({ cls := "jdk/internal/util/Preconditions", name := "checkIndex", desc := "(IILjava/util/function/BiFunction;)I" } : Jvm.MethodName) jdk_41_method_11_code (3 : Nat) (Option.some Jvm.ClassFile.FieldType.int), Jvm.Cond.code ({ cls := "com/example/sem1/sem1/store/StoreFailuresUnansweredPinLaw", name := "number", desc := "(Ljava/lang/String;IJI)Z" } : Jvm.MethodName) method_8_code (6 : Nat) (Option.some Jvm.ClassFile.FieldType.boolean), Jvm.Cond.code ({ cls := "com/example/sem1/sem1/store/StoreFailuresUnansweredPinLaw", name := "d", desc := "(Ljava/lang/String;IJII[J)Z" } : Jvm.MethodName) method_7_code (9 : Nat) (Option.some Jvm.ClassFile.FieldType.boolean), Jvm.Cond.code ({ cls := "java/lang/String", name := "valueOf", desc := "(C)Ljava/lang/String;" } : Jvm.MethodName) jdk_42_method_139_code (1 : Nat) (Option.some (Jvm.ClassFile.FieldType.object "java/lang/String")), Jvm.Cond.code ({ cls := "java/lang/StringLatin1", name := "canEncode", desc := "(C)Z" } : Jvm.MethodName) jdk_43_method_3_code (1 : Nat) (Option.some Jvm.ClassFile.FieldType.boolean), Jvm.Cond.code ({ cls := "java/lang/StringLatin1", name := "toBytes", desc := "(C)[B" } : Jvm.MethodName) jdk_43_method_46_code (1 : Nat) (Option.some (Jvm.ClassFile.FieldType.array Jvm.ClassFile.FieldType.byte)), Jvm.Cond.code ({ cls := "java/lang/String", name := "<init>", desc := "([BB)V" } : Jvm.MethodName) jdk_42_method_151_code (3 : Nat) (Option.none : Option Jvm.ClassFile.FieldType), Jvm.Cond.code ({ cls := "java/lang/StringUTF16", name := "compress", desc := "([CII)[B" } : Jvm.MethodName) jdk_52_method_16_code (6 : Nat) (Option.some (Jvm.ClassFile.FieldType.array Jvm.ClassFile.FieldType.byte)), Jvm.Cond.code ({ cls := "java/lang/StringUTF16", name := "compress", desc := "([CI[BII)I" } : Jvm.MethodName) jdk_52_method_21_code (7 : Nat) (Option.some Jvm.ClassFile.FieldType.int), Jvm.Cond.code ({ cls := "java/lang/StringUTF16", name := "coderFromArrayLen", desc := "([BI)B" } : Jvm.MethodName) jdk_52_method_15_code (2 : Nat) (Option.some Jvm.ClassFile.FieldType.byte)]
set_option maxRecDepth 65536 in
theorem codes_eq : words1.filter isCode = codes1 := rfl
theorem w_codes : ∀ c ∈ words1.filter isCode, c.before args0 about1 = true := by
  rw [codes_eq]
  intro c hc
  simp only [codes1, List.mem_cons, List.not_mem_nil, or_false] at hc
  rcases hc with rfl | rfl | rfl | rfl | rfl | rfl | rfl | rfl | rfl | rfl | rfl | rfl | rfl | rfl | rfl | rfl | rfl | rfl | rfl | rfl | rfl | rfl | rfl | rfl | rfl | rfl | rfl | rfl | rfl | rfl | rfl | rfl | rfl | rfl | rfl | rfl | rfl | rfl | rfl | rfl | rfl | rfl | rfl | rfl | rfl | rfl | rfl | rfl | rfl | rfl | rfl | rfl | rfl
  · exact w_c0
  · exact w_c1
  · exact w_c2
  · exact w_c3
  · exact w_c4
  · exact w_c5
  · exact w_c6
  · exact w_c7
  · exact w_c8
  · exact w_c9
  · exact w_c10
  · exact w_c11
  · exact w_c12
  · exact w_c13
  · exact w_c14
  · exact w_c15
  · exact w_c16
  · exact w_c17
  · exact w_c18
  · exact w_c19
  · exact w_c20
  · exact w_c21
  · exact w_c22
  · exact w_c23
  · exact w_c24
  · exact w_c25
  · exact w_c26
  · exact w_c27
  · exact w_c28
  · exact w_c29
  · exact w_c30
  · exact w_c31
  · exact w_c32
  · exact w_c33
  · exact w_c34
  · exact w_c35
  · exact w_c36
  · exact w_c37
  · exact w_c38
  · exact w_c39
  · exact w_c40
  · exact w_c41
  · exact w_c42
  · exact w_c43
  · exact w_c44
  · exact w_c45
  · exact w_c46
  · exact w_c47
  · exact w_c48
  · exact w_c49
  · exact w_c50
  · exact w_c51
  · exact w_c52
set_option maxRecDepth 65536 in
theorem w_t1 : (words1.take 24).all (fun c => isCode c || c.before args0 about1) = true := by decide +kernel
set_option maxRecDepth 65536 in
theorem w_t2 : ((words1.drop 24).take 24).all (fun c => isCode c || c.before args0 about1) = true := by decide +kernel
set_option maxRecDepth 65536 in
theorem w_t3 : (((words1.drop 24).drop 24).take 24).all (fun c => isCode c || c.before args0 about1) = true := by decide +kernel
set_option maxRecDepth 65536 in
theorem w_t4 : ((((words1.drop 24).drop 24).drop 24).take 24).all (fun c => isCode c || c.before args0 about1) = true := by decide +kernel
set_option maxRecDepth 65536 in
theorem w_t5 : (((((words1.drop 24).drop 24).drop 24).drop 24).take 24).all (fun c => isCode c || c.before args0 about1) = true := by decide +kernel
set_option maxRecDepth 65536 in
theorem w_t6 : ((((((words1.drop 24).drop 24).drop 24).drop 24).drop 24).take 24).all (fun c => isCode c || c.before args0 about1) = true := by decide +kernel
set_option maxRecDepth 65536 in
theorem w_t7 : (((((((words1.drop 24).drop 24).drop 24).drop 24).drop 24).drop 24).take 24).all (fun c => isCode c || c.before args0 about1) = true := by decide +kernel
set_option maxRecDepth 65536 in
theorem w_t8 : ((((((((words1.drop 24).drop 24).drop 24).drop 24).drop 24).drop 24).drop 24).take 24).all (fun c => isCode c || c.before args0 about1) = true := by decide +kernel
set_option maxRecDepth 65536 in
theorem w_t9 : (((((((((words1.drop 24).drop 24).drop 24).drop 24).drop 24).drop 24).drop 24).drop 24).take 24).all (fun c => isCode c || c.before args0 about1) = true := by decide +kernel
set_option maxRecDepth 65536 in
theorem w_t10 : ((((((((((words1.drop 24).drop 24).drop 24).drop 24).drop 24).drop 24).drop 24).drop 24).drop 24).take 24).all (fun c => isCode c || c.before args0 about1) = true := by decide +kernel
set_option maxRecDepth 65536 in
theorem w_t11 : (((((((((((words1.drop 24).drop 24).drop 24).drop 24).drop 24).drop 24).drop 24).drop 24).drop 24).drop 24).take 24).all (fun c => isCode c || c.before args0 about1) = true := by decide +kernel
set_option maxRecDepth 65536 in
theorem w_t12 : (((((((((((words1.drop 24).drop 24).drop 24).drop 24).drop 24).drop 24).drop 24).drop 24).drop 24).drop 24).drop 24).all (fun c => isCode c || c.before args0 about1) = true := by decide +kernel
theorem w_tables : (allAtoms (Jvm.Cond.code x code maxLocals ret :: tables_1)).before args0 about1 = true := by
  rw [allAtoms_all]
  show words1.all (fun c => c.before args0 about1) = true
  refine all_split ?_ w_codes
  rw [← List.take_append_drop 24 words1, List.all_append, w_t1, ← List.take_append_drop 24 (words1.drop 24), List.all_append, w_t2, ← List.take_append_drop 24 ((words1.drop 24).drop 24), List.all_append, w_t3, ← List.take_append_drop 24 (((words1.drop 24).drop 24).drop 24), List.all_append, w_t4, ← List.take_append_drop 24 ((((words1.drop 24).drop 24).drop 24).drop 24), List.all_append, w_t5, ← List.take_append_drop 24 (((((words1.drop 24).drop 24).drop 24).drop 24).drop 24), List.all_append, w_t6, ← List.take_append_drop 24 ((((((words1.drop 24).drop 24).drop 24).drop 24).drop 24).drop 24), List.all_append, w_t7, ← List.take_append_drop 24 (((((((words1.drop 24).drop 24).drop 24).drop 24).drop 24).drop 24).drop 24), List.all_append, w_t8, ← List.take_append_drop 24 ((((((((words1.drop 24).drop 24).drop 24).drop 24).drop 24).drop 24).drop 24).drop 24), List.all_append, w_t9, ← List.take_append_drop 24 (((((((((words1.drop 24).drop 24).drop 24).drop 24).drop 24).drop 24).drop 24).drop 24).drop 24), List.all_append, w_t10, ← List.take_append_drop 24 ((((((((((words1.drop 24).drop 24).drop 24).drop 24).drop 24).drop 24).drop 24).drop 24).drop 24).drop 24), List.all_append, w_t11, w_t12]
  rfl
set_option maxRecDepth 65536 in
theorem w_rest : rest_1_c.before args0 about1 = true := by decide +kernel
set_option maxRecDepth 65536 in
theorem w_case : (Jvm.Cond.and given_1 narrow_1).before args0 about1 = true := by decide +kernel
set_option maxRecDepth 65536 in
theorem w_consts : constsHeld consts_1 about1 := Jvm.Lit.constsHeldB_iff.mp (by decide +kernel)
theorem w_applies : (headSpec (Jvm.Cond.code x code maxLocals ret :: tables_1) room_1).applies x e0.platform about1 = true :=
  (Spec.applies_iff w_frames).mpr ⟨w_running, w_runnable, w_alone, w_named, w_hears, w_ripe, w_room, w_tables⟩
theorem atStart : AtStart classFile x code maxLocals ret World_1 tables_1 room_1 Calls_1 rest_1 Pre_1 launch0 p0 e0 about1 theMethod args0 below0 :=
  ⟨lists_1, trivial, launch0.admits_env _ _ _, launch0.least_env, fairChoices_fair.cas, fairChoices_fair.clock, w_frames, w_args, w_heap, w_applies, ⟨w_consts, trivial⟩, w_rest, w_case⟩
end start1
theorem witness_1 : WitnessClaimed_1 := ⟨start1.p0, start1.e0, start1.about1, start1.theMethod, start1.args0, start1.below0, start1.atStart⟩
end Jvm.Pilot.@@N@@
