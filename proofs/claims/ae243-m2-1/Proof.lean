import JvmDerived
import JvmDerived.Pilot.@@N@@Statement
import JvmDerived.Pilot.@@N@@Code
set_option linter.unusedVariables false
set_option linter.unusedSimpArgs false
/- laws to paste: Road.backV, Road.lenW, Road.chN, Road.eqW, Road.empW, Road.codOf (cut by pick.py; bodies as the Statement names them) -/
namespace Jvm.Pilot.@@N@@
namespace StrChars
open Jvm Sem ClassFile Op Lib Jvm.Stand Jvm.Free.XT Jvm.Free.ALB Jvm.Free.JM Jvm.Free
open Jvm.Lib.Cold (StaticIs)
/-- a char array whose places are chars -/
def Ch (a : Addr) (A : Cell) (U : State) : Prop := Arr .char a A U ∧ Typed .char A
theorem Ch.mv {a : Addr} {A : Cell} {U U' : State} (h : Ch a A U) (hal : U.vm.Alike U'.vm) (hh : U'.heap = U.heap) : Ch a A U' := ⟨h.1.mv hal hh, h.2⟩
theorem Ch.keep {a : Addr} {A : Cell} {U U' : State} (h : Ch a A U) (hal : U.vm.Alike U'.vm) (hk : U'.heap[a]? = some A) : Ch a A U' := ⟨h.1.keep hal hk, h.2⟩
/-- what place i of a char[]'s cell holds -/
def cv (A : Cell) (i : Nat) : Int32 := match A.slots[i]? with | some (.int x) => x | _ => 0
theorem Ch.get {a : Addr} {A : Cell} {U : State} (h : Ch a A U) {i : Nat} (hi : i < A.slots.size) : A.slots[i]? = some (.int (cv A i)) := by
  have e := Array.getElem?_eq_getElem hi
  have f := h.2 i _ e
  unfold cv; rw [e]
  generalize A.slots[i] = v at f
  cases v <;> simp [fits] at f ⊢
/-- the byte that i2b leaves of a char -/
def lo8 (x : Int32) : Int32 := x.toInt8.toInt32
theorem fits_lo8 (y : Int32) : fits .byte (.int (lo8 y)) = true := by
  have h1 := y.toInt8.le_toInt
  have h2 := y.toInt8.toInt_lt
  simp only [lo8, fits, Bool.and_eq_true, decide_eq_true_eq, Int32.le_iff_toInt_le, Int8.toInt_toInt32, show (-128 : Int32).toInt = -128 from by decide, show (127 : Int32).toInt = 127 from by decide]
  omega
/-- A' is A but that each place j of lo .. hi - 1 holds f j -/
def Laid (A A' : Cell) (lo hi : Nat) (f : Nat → Value) : Prop := A'.cls = A.cls ∧ A'.vm = A.vm ∧ A'.slots.size = A.slots.size ∧ ∀ i, A'.slots[i]? = if lo ≤ i ∧ i < hi then some (f i) else A.slots[i]?
theorem Laid.zero (A : Cell) (lo : Nat) (f : Nat → Value) : Laid A A lo (lo + 0) f := ⟨rfl, rfl, rfl, fun i => by rw [if_neg (by omega)]⟩
theorem Laid.step {A Ak : Cell} {lo k : Nat} {f : Nat → Value} {v : Value} (h : Laid A Ak lo k f) (hlo : lo ≤ k) (hk : k < Ak.slots.size) (hv : v = f k) : Laid A (Ak.setSlot k v) lo (k + 1) f := by
  refine ⟨h.1, h.2.1, by simpa [Cell.setSlot] using h.2.2.1, fun i => ?_⟩
  by_cases e : k = i
  · subst e; rw [Cell.slots_setSlot_self v hk, if_pos (by omega), hv]
  · rw [Cell.slots_setSlot_ne v e, h.2.2.2 i]
    by_cases q : lo ≤ i ∧ i < k
    · rw [if_pos q, if_pos (by omega)]
    · rw [if_neg q, if_neg (by omega)]
def U16 : String := "java/lang/StringUTF16"
namespace Cmp5
def yN : MethodName := ⟨"java/lang/StringUTF16", "compress", "([CI[BII)I"⟩
abbrev yB : ByteArray := jdk_52_method_21_code
theorem d0 : decode yB 0 = .ok (.iconst 0, 1) := by decide +kernel
theorem d1 : decode yB 1 = .ok (.istore 5, 2) := by decide +kernel
theorem d3 : decode yB 3 = .ok (.iload 5, 2) := by decide +kernel
theorem d5 : decode yB 5 = .ok (.iload 4, 2) := by decide +kernel
theorem d7 : decode yB 7 = .ok (.if_icmp (.ge) 37, 3) := by decide +kernel
theorem d10 : decode yB 10 = .ok (.aload_n 0, 1) := by decide +kernel
theorem d11 : decode yB 11 = .ok (.iload_n 1, 1) := by decide +kernel
theorem d12 : decode yB 12 = .ok (.caload, 1) := by decide +kernel
theorem d13 : decode yB 13 = .ok (.istore 6, 2) := by decide +kernel
theorem d15 : decode yB 15 = .ok (.iload 6, 2) := by decide +kernel
theorem d17 : decode yB 17 = .ok (.sipush 255, 3) := by decide +kernel
theorem d20 : decode yB 20 = .ok (.if_icmp (.le) 6, 3) := by decide +kernel
theorem d26 : decode yB 26 = .ok (.aload_n 2, 1) := by decide +kernel
theorem d27 : decode yB 27 = .ok (.iload_n 3, 1) := by decide +kernel
theorem d28 : decode yB 28 = .ok (.iload 6, 2) := by decide +kernel
theorem d30 : decode yB 30 = .ok (.i2b, 1) := by decide +kernel
theorem d31 : decode yB 31 = .ok (.bastore, 1) := by decide +kernel
theorem d32 : decode yB 32 = .ok (.iinc 1 1, 3) := by decide +kernel
theorem d35 : decode yB 35 = .ok (.iinc 3 1, 3) := by decide +kernel
theorem d38 : decode yB 38 = .ok (.iinc 5 1, 3) := by decide +kernel
theorem d41 : decode yB 41 = .ok (.goto (-38), 3) := by decide +kernel
theorem d44 : decode yB 44 = .ok (.iload 4, 2) := by decide +kernel
theorem d46 : decode yB 46 = .ok (.ireturn, 1) := by decide +kernel
def site : List Cond := []
def tab : Cond := tabOf yN yB 7 (some .int) site
def P (b : Addr) (A : Cell) (d : Addr) (B : Cell) (o q len : Nat) (args : Array Value) (s : State) : Prop := args = #[.ref b, .int (Int32.ofNat o), .ref d, .int (Int32.ofNat q), .int (Int32.ofNat len)] ∧ Ch b A s ∧ Arr .byte d B s ∧ b ≠ d ∧ o + len ≤ A.slots.size ∧ q + len ≤ B.slots.size ∧ ∀ i, i < len → ¬ 255 < cv A (o + i)
def E (b : Addr) (A : Cell) (d : Addr) (B : Cell) (o q len : Nat) (r : Option Value) (s u : State) : Prop := r = some (.int (Int32.ofNat len)) ∧ ∃ B', Put d B' s u ∧ Laid B B' q (q + len) (fun j => Value.int (lo8 (cv A (o + (j - q)))))
/-- no char of the range above 255: len; the places written hold each char's low byte -/
theorem law (l : Launch) (b : Addr) (A : Cell) (d : Addr) (B : Cell) (o q len : Nat) : Law l yN 5 5 0 0 yB 7 (some .int) site (P b A d B o q len) (E b A d B o q len) (copyLocs d q len) 0 0 := by
  refine Law.of_walk (plainFor_of_name (by decide +kernel)) (by decide +kernel) (by decide +kernel) (by decide) (fun _ _ h => by rw [h.1]; rfl) (fun _ U U' hal hh h => ⟨h.1, h.2.1.mv hal hh, h.2.2.1.mv hal hh, h.2.2.2⟩) (fun r U U' V V' h1 hal h2 h => ⟨h.1, h.2.elim fun B' q => ⟨B', q.1.mv h1 h2, q.2⟩⟩) ?_
  intro p e s m args below meth c s₁ X0 hexec hbytes hml hret hlk hnm hown hh0 W hP
  obtain ⟨rfl, hA, hB, hne, l1, l2, hp⟩ := hP
  have c1 : Steps p.tables e below (s₁.setTop (entryFrame m #[.ref b, .int (Int32.ofNat o), .ref d, .int (Int32.ofNat q), .int (Int32.ofNat len)] 7)) (s₁.setTop (mkF m 0 #[.val (.ref b), .val (.int (Int32.ofNat o)), .val (.ref d), .val (.int (Int32.ofNat q)), .val (.int (Int32.ofNat len)), .unset, .unset] [])) := entry rfl
  have hA0 := hA.1.mv X0.warmed.alike hh0
  have hB0 := hB.mv X0.warmed.alike hh0
  have a31 := hA.1.2.2.2
  have c2 : Steps p.tables e below (s₁.setTop (entryFrame m #[.ref b, .int (Int32.ofNat o), .ref d, .int (Int32.ofNat q), .int (Int32.ofNat len)] 7)) (s₁.setTop (mkF m 3 #[.val (.ref b), .val (.int (Int32.ofNat o)), .val (.ref d), .val (.int (Int32.ofNat q)), .val (.int (Int32.ofNat len)), .val (.int 0), .unset] [])) := c1.trans (by
    refine iconstV X0.here hexec rfl 0 (hb hbytes d0) (by decide) ?_
    refine XS.istore X0.here hexec rfl (hb hbytes d1) rfl rfl ?_
    exact Steps.refl _)
  have loop : ∀ (r i : Nat), i + r = len → ∀ (z : Slot), (z = .unset ∨ ∃ w, z = .val w ∧ w.category = 1) → ∀ (Tl : State) (Bk : Cell), Stand p l e { frames := 0, locals := 0, cells := 0, slots := 0 } s m #[.ref b, .int (Int32.ofNat o), .ref d, .int (Int32.ofNat q), .int (Int32.ofNat len)] below meth c Tl ([] ++ copyLocs d q i) 0 0 → Put d Bk s₁ Tl → Laid B Bk q (q + i) (fun j => Value.int (lo8 (cv A (o + (j - q))))) →
      Steps p.tables e below (s₁.setTop (entryFrame m #[.ref b, .int (Int32.ofNat o), .ref d, .int (Int32.ofNat q), .int (Int32.ofNat len)] 7)) (Tl.setTop (mkF m 3 #[.val (.ref b), .val (.int (Int32.ofNat (o + i))), .val (.ref d), .val (.int (Int32.ofNat (q + i))), .val (.int (Int32.ofNat len)), .val (.int (Int32.ofNat i)), z] [])) → ∃ (T' : State) (B' : Cell) (z' : Slot), Stand p l e { frames := 0, locals := 0, cells := 0, slots := 0 } s m #[.ref b, .int (Int32.ofNat o), .ref d, .int (Int32.ofNat q), .int (Int32.ofNat len)] below meth c T' ([] ++ copyLocs d q len) 0 0 ∧ Put d B' s₁ T' ∧ Laid B B' q (q + len) (fun j => Value.int (lo8 (cv A (o + (j - q))))) ∧
      Steps p.tables e below (s₁.setTop (entryFrame m #[.ref b, .int (Int32.ofNat o), .ref d, .int (Int32.ofNat q), .int (Int32.ofNat len)] 7)) (T'.setTop (mkF m 3 #[.val (.ref b), .val (.int (Int32.ofNat (o + len))), .val (.ref d), .val (.int (Int32.ofNat (q + len))), .val (.int (Int32.ofNat len)), .val (.int (Int32.ofNat len)), z'] [])) := by
    intro r
    induction r with
    | zero =>
      intro i hi z hz Tl Bk Xl pl fl cl
      have hil : i = len := by omega
      rw [hil] at Xl fl cl
      exact ⟨Tl, Bk, z, Xl, pl, fl, cl⟩
    | succ r ih =>
      intro i hi z hz Tl Bk Xl pl fl cl
      have all := X0.warmed.alike.symm.trans Xl.warmed.alike
      have hAl := hA0.keep all (pl.other hne hA0.1)
      have hBk := hB0.like all pl.1 fl.1 fl.2.1 fl.2.2.1
      have hlt : q + i < Bk.slots.size := by rw [fl.2.2.1]; omega
      have c3 : Steps p.tables e below (s₁.setTop (entryFrame m #[.ref b, .int (Int32.ofNat o), .ref d, .int (Int32.ofNat q), .int (Int32.ofNat len)] 7)) (Tl.setTop (mkF m 12 #[.val (.ref b), .val (.int (Int32.ofNat (o + i))), .val (.ref d), .val (.int (Int32.ofNat (q + i))), .val (.int (Int32.ofNat len)), .val (.int (Int32.ofNat i)), z] [.int (Int32.ofNat (o + i)), .ref b])) := cl.trans (by
        refine XS.iload Xl.here hexec rfl (hb hbytes d3) rfl ?_
        refine XS.iload Xl.here hexec rfl (hb hbytes d5) rfl ?_
        refine XS.icmpNo Xl.here hexec rfl (hb hbytes d7) rfl (ii_ge_f (lt32 (by omega) (by omega))) ?_
        refine XS.aloadN Xl.here hexec rfl (hb hbytes d10) rfl rfl ?_
        refine XS.iloadN Xl.here hexec rfl (hb hbytes d11) rfl ?_
        exact Steps.refl _)
      have c4 : Steps p.tables e below (s₁.setTop (entryFrame m #[.ref b, .int (Int32.ofNat o), .ref d, .int (Int32.ofNat q), .int (Int32.ofNat len)] 7)) (Tl.setTop (mkF m 13 #[.val (.ref b), .val (.int (Int32.ofNat (o + i))), .val (.ref d), .val (.int (Int32.ofNat (q + i))), .val (.int (Int32.ofNat len)), .val (.int (Int32.ofNat i)), z] [.int (cv A (o + i))])) := c3.trans (by
        refine Xl.aget hexec hAl rfl (hA.get (i := o + i) (by omega)) rfl rfl (hb hbytes d12) ?_
        exact Steps.refl _)
      have c5 : Steps p.tables e below (s₁.setTop (entryFrame m #[.ref b, .int (Int32.ofNat o), .ref d, .int (Int32.ofNat q), .int (Int32.ofNat len)] 7)) (Tl.setTop (mkF m 15 #[.val (.ref b), .val (.int (Int32.ofNat (o + i))), .val (.ref d), .val (.int (Int32.ofNat (q + i))), .val (.int (Int32.ofNat len)), .val (.int (Int32.ofNat i)), .val (.int (cv A (o + i)))] [])) := c4.trans (by
        refine XS.istoreS Xl.here hexec rfl (hb hbytes d13) rfl rfl hz ?_
        exact Steps.refl _)
      have c6 : Steps p.tables e below (s₁.setTop (entryFrame m #[.ref b, .int (Int32.ofNat o), .ref d, .int (Int32.ofNat q), .int (Int32.ofNat len)] 7)) (Tl.setTop (mkF m 31 #[.val (.ref b), .val (.int (Int32.ofNat (o + i))), .val (.ref d), .val (.int (Int32.ofNat (q + i))), .val (.int (Int32.ofNat len)), .val (.int (Int32.ofNat i)), .val (.int (cv A (o + i)))] [.int (lo8 (cv A (o + i))), .int (Int32.ofNat (q + i)), .ref d])) := c5.trans (by
        refine XS.iload Xl.here hexec rfl (hb hbytes d15) rfl ?_
        refine sipushV Xl.here hexec rfl 255 (hb hbytes d17) (by decide) ?_
        refine XS.icmpYes Xl.here hexec rfl (pc0 := 20) rfl (hb hbytes d20) rfl (ii_le_t (hp i (by omega))) (by decide) rfl ?_
        refine XS.aloadN Xl.here hexec rfl (hb hbytes d26) rfl rfl ?_
        refine XS.iloadN Xl.here hexec rfl (hb hbytes d27) rfl ?_
        refine XS.iload Xl.here hexec rfl (hb hbytes d28) rfl ?_
        refine i2b Xl.here hexec rfl (hb hbytes d30) rfl ?_
        exact Steps.refl _)
      obtain ⟨T7, X7, p7, st7⟩ := Xl.aput hexec hBk rfl hlt rfl (fits_lo8 (cv A (o + i))) (g := (mkF m 31 #[.val (.ref b), .val (.int (Int32.ofNat (o + i))), .val (.ref d), .val (.int (Int32.ofNat (q + i))), .val (.int (Int32.ofNat len)), .val (.int (Int32.ofNat i)), .val (.int (cv A (o + i)))] [.int (lo8 (cv A (o + i))), .int (Int32.ofNat (q + i)), .ref d])) rfl (rest := []) rfl (hb hbytes d31)
      have c8 : Steps p.tables e below (s₁.setTop (entryFrame m #[.ref b, .int (Int32.ofNat o), .ref d, .int (Int32.ofNat q), .int (Int32.ofNat len)] 7)) (T7.setTop (mkF m 32 #[.val (.ref b), .val (.int (Int32.ofNat (o + i))), .val (.ref d), .val (.int (Int32.ofNat (q + i))), .val (.int (Int32.ofNat len)), .val (.int (Int32.ofNat i)), .val (.int (cv A (o + i)))] [])) := c6.trans (st7 _ (Steps.refl _))
      have c9 : Steps p.tables e below (s₁.setTop (entryFrame m #[.ref b, .int (Int32.ofNat o), .ref d, .int (Int32.ofNat q), .int (Int32.ofNat len)] 7)) (T7.setTop (mkF m 3 #[.val (.ref b), .val (.int (Int32.ofNat (o + i) + 1)), .val (.ref d), .val (.int (Int32.ofNat (q + i) + 1)), .val (.int (Int32.ofNat len)), .val (.int (Int32.ofNat i + 1)), .val (.int (cv A (o + i)))] [])) := c8.trans (by
        refine iincV X7.here hexec rfl 1 (hb hbytes d32) (by decide) rfl rfl ?_
        refine iincV X7.here hexec rfl 1 (hb hbytes d35) (by decide) rfl rfl ?_
        refine iincV X7.here hexec rfl 1 (hb hbytes d38) (by decide) rfl rfl ?_
        refine XS.goto X7.here hexec rfl (pc0 := 41) rfl (hb hbytes d41) (by decide) rfl ?_
        exact Steps.refl _)
      have c10 : Steps p.tables e below (s₁.setTop (entryFrame m #[.ref b, .int (Int32.ofNat o), .ref d, .int (Int32.ofNat q), .int (Int32.ofNat len)] 7)) (T7.setTop (mkF m 3 #[.val (.ref b), .val (.int (Int32.ofNat (o + (i + 1)))), .val (.ref d), .val (.int (Int32.ofNat (q + (i + 1)))), .val (.int (Int32.ofNat len)), .val (.int (Int32.ofNat (i + 1))), .val (.int (cv A (o + i)))] [])) := by
        have := c9
        rw [succ32, succ32, succ32] at this
        exact this
      exact ih (i + 1) (by omega) _ (Or.inr ⟨_, rfl, rfl⟩) T7 _ (by rw [copyLocs_step, ← List.append_assoc]; exact X7) (pl.trans p7) (fl.step (by omega) hlt (by simp)) c10
  obtain ⟨T9, B9, z9, X9, p9, f9, g9⟩ := loop len 0 (by omega) .unset (Or.inl rfl) s₁ B (by simpa [copyLocs] using X0) ⟨hB0.1, fun _ _ => rfl, rfl⟩ (Laid.zero _ _ _) c2
  have c11 : Steps p.tables e below (s₁.setTop (entryFrame m #[.ref b, .int (Int32.ofNat o), .ref d, .int (Int32.ofNat q), .int (Int32.ofNat len)] 7)) (T9.setTop (mkF m 46 #[.val (.ref b), .val (.int (Int32.ofNat (o + len))), .val (.ref d), .val (.int (Int32.ofNat (q + len))), .val (.int (Int32.ofNat len)), .val (.int (Int32.ofNat len)), z9] [.int (Int32.ofNat len)])) := g9.trans (by
    refine XS.iload X9.here hexec rfl (hb hbytes d3) rfl ?_
    refine XS.iload X9.here hexec rfl (hb hbytes d5) rfl ?_
    refine XS.icmpYes X9.here hexec rfl (pc0 := 7) rfl (hb hbytes d7) rfl (ii_ge_t (nlt32 (by omega) (Nat.le_refl _))) (by decide) rfl ?_
    refine XS.iload X9.here hexec rfl (hb hbytes d44) rfl ?_
    exact Steps.refl _)
  exact ⟨T9, some (.int (Int32.ofNat len)), _, _, _, X9, by simp, rfl, rfl, (fun h => by cases h), ⟨rfl, B9, p9.from hh0, f9⟩, fun fs hl => c11.trans (X9.ireturnOut hexec hret rfl (Or.inl rfl) (hb hbytes d46) hl)⟩
end Cmp5
namespace Cmp3
def yN : MethodName := ⟨"java/lang/StringUTF16", "compress", "([CII)[B"⟩
abbrev yB : ByteArray := jdk_52_method_16_code
theorem d0 : decode yB 0 = .ok (.iload_n 2, 1) := by decide +kernel
theorem d1 : decode yB 1 = .ok (.newarray .byte, 2) := by decide +kernel
theorem d3 : decode yB 3 = .ok (.astore_n 3, 1) := by decide +kernel
theorem d4 : decode yB 4 = .ok (.aload_n 0, 1) := by decide +kernel
theorem d5 : decode yB 5 = .ok (.iload_n 1, 1) := by decide +kernel
theorem d6 : decode yB 6 = .ok (.aload_n 3, 1) := by decide +kernel
theorem d7 : decode yB 7 = .ok (.iconst 0, 1) := by decide +kernel
theorem d8 : decode yB 8 = .ok (.iload_n 2, 1) := by decide +kernel
theorem d9 : decode yB 9 = .ok (.invokestatic 115, 3) := by decide +kernel
theorem d12 : decode yB 12 = .ok (.istore 4, 2) := by decide +kernel
theorem d14 : decode yB 14 = .ok (.iload 4, 2) := by decide +kernel
theorem d16 : decode yB 16 = .ok (.iload_n 2, 1) := by decide +kernel
theorem d17 : decode yB 17 = .ok (.if_icmp (.eq) 40, 3) := by decide +kernel
theorem d57 : decode yB 57 = .ok (.aload_n 3, 1) := by decide +kernel
theorem d58 : decode yB 58 = .ok (.areturn, 1) := by decide +kernel
def site : List Cond := [.arrayClass .byte, Cmp5.tab] ++ staticW U16 115 Cmp5.yN
def tab : Cond := tabOf yN yB 6 (some (.array .byte)) site
def P (b : Addr) (A : Cell) (o len : Nat) (args : Array Value) (s : State) : Prop := args = #[.ref b, .int (Int32.ofNat o), .int (Int32.ofNat len)] ∧ Ch b A s ∧ o + len ≤ A.slots.size ∧ len ≤ 536870912 ∧ ∀ i, i < len → ¬ 255 < cv A (o + i)
def E (b : Addr) (A : Cell) (o len : Nat) (r : Option Value) (s u : State) : Prop := NewArr .byte "[B" len (fun j => .int (lo8 (cv A (o + j)))) r s u ∧ u.heap.size = s.heap.size + 1
/-- no char of the range above 255: a new byte[] of their low bytes -/
theorem law (l : Launch) (b : Addr) (A : Cell) (o len : Nat) : Law l yN 3 3 1 18 yB 6 (some (.array .byte)) site (P b A o len) (E b A o len) [] 1 len := by
  refine Law.of_walk (plainFor_of_name (by decide +kernel)) (by decide +kernel) (by decide +kernel) (by decide) (fun _ _ h => by rw [h.1]; rfl) (fun _ U U' hal hh h => ⟨h.1, h.2.1.mv hal hh, h.2.2⟩) (fun r U U' V V' h1 hal h2 h => ⟨NewArr.mv r U U' V V' h1 hal h2 h.1, by rw [h1, h2]; exact h.2⟩) ?_
  intro p e s m args below meth c s₁ X0 hexec hbytes hml hret hlk hnm hown hh0 W hP
  obtain ⟨rfl, hA, l1, l2, hp⟩ := hP
  have a31 := hA.1.2.2.2
  have c1 : Steps p.tables e below (s₁.setTop (entryFrame m #[.ref b, .int (Int32.ofNat o), .int (Int32.ofNat len)] 6)) (s₁.setTop (mkF m 0 #[.val (.ref b), .val (.int (Int32.ofNat o)), .val (.int (Int32.ofNat len)), .unset, .unset, .unset] [])) := entry rfl
  have c2 : Steps p.tables e below (s₁.setTop (entryFrame m #[.ref b, .int (Int32.ofNat o), .int (Int32.ofNat len)] 6)) (s₁.setTop (mkF m 1 #[.val (.ref b), .val (.int (Int32.ofNat o)), .val (.int (Int32.ofNat len)), .unset, .unset, .unset] [.int (Int32.ofNat len)])) := c1.trans (by
    refine XS.iloadN X0.here hexec rfl (hb hbytes d0) rfl ?_
    exact Steps.refl _)
  obtain ⟨T3, B3, X3, ba3, bs3, bv3, bh3, bf3, st3⟩ := X0.anew hexec (atype := .byte) (wk W (.arrayClass .byte)) rfl (by show len * 1 ≤ _; omega) (by omega) (g := (mkF m 1 #[.val (.ref b), .val (.int (Int32.ofNat o)), .val (.int (Int32.ofNat len)), .unset, .unset, .unset] [.int (Int32.ofNat len)])) rfl (hb hbytes d1) (rest := []) rfl (Nat.le_refl _) (by show 0 + len ≤ len; omega)
  rw [hh0] at ba3 st3
  have kp3 : XT.Kept s T3 := (XT.Kept.of_eq hh0).push bh3
  have hA3 := hA.keep X3.warmed.alike (kp3 _ _ hA.1.1)
  have hne : b ≠ s.heap.size := hA.1.ne
  have c4 : Steps p.tables e below (s₁.setTop (entryFrame m #[.ref b, .int (Int32.ofNat o), .int (Int32.ofNat len)] 6)) (T3.setTop (mkF m 3 #[.val (.ref b), .val (.int (Int32.ofNat o)), .val (.int (Int32.ofNat len)), .unset, .unset, .unset] [.ref s.heap.size])) := c2.trans (st3 _ (Steps.refl _))
  have c5 : Steps p.tables e below (s₁.setTop (entryFrame m #[.ref b, .int (Int32.ofNat o), .int (Int32.ofNat len)] 6)) (T3.setTop (mkF m 9 #[.val (.ref b), .val (.int (Int32.ofNat o)), .val (.int (Int32.ofNat len)), .val (.ref s.heap.size), .unset, .unset] [.int (Int32.ofNat len), .int 0, .ref s.heap.size, .int (Int32.ofNat o), .ref b])) := c4.trans (by
    refine XS.astoreN X3.here hexec rfl (hb hbytes d3) rfl rfl rfl ?_
    refine XS.aloadN X3.here hexec rfl (hb hbytes d4) rfl rfl ?_
    refine XS.iloadN X3.here hexec rfl (hb hbytes d5) rfl ?_
    refine XS.aloadN X3.here hexec rfl (hb hbytes d6) rfl rfl ?_
    refine iconstV X3.here hexec rfl 0 (hb hbytes d7) (by decide) ?_
    refine XS.iloadN X3.here hexec rfl (hb hbytes d8) rfl ?_
    exact Steps.refl _)
  obtain ⟨v6, T6, X6, E6, g6⟩ := X3.callS hexec (Cmp5.law l b A s.heap.size B3 o 0 len) hown (wks W (staticW U16 115 Cmp5.yN)) (wk W Cmp5.tab) (W := 0) (Nat.le_of_ble_eq_true rfl) (Nat.le_of_ble_eq_true rfl) (Nat.le_refl _) (by show 0 + len + 0 ≤ len; omega) (g := (mkF m 9 #[.val (.ref b), .val (.int (Int32.ofNat o)), .val (.int (Int32.ofNat len)), .val (.ref s.heap.size), .unset, .unset] [.int (Int32.ofNat len), .int (Int32.ofNat 0), .ref s.heap.size, .int (Int32.ofNat o), .ref b])) rfl (by rw [hml]; rfl) c5 (argsL := [.ref b, .int (Int32.ofNat o), .ref s.heap.size, .int (Int32.ofNat 0), .int (Int32.ofNat len)]) (rest := []) rfl rfl (by show 2 * 0 + 0 ≤ _; decide) (hb hbytes d9) (⟨rfl, hA3, ba3, hne, l1, by rw [bs3]; simp, hp⟩)
  obtain ⟨rfl, B6, p6, f6⟩ := E6
  have c7 : Steps p.tables e below (s₁.setTop (entryFrame m #[.ref b, .int (Int32.ofNat o), .int (Int32.ofNat len)] 6)) (T6.setTop (mkF m 12 #[.val (.ref b), .val (.int (Int32.ofNat o)), .val (.int (Int32.ofNat len)), .val (.ref s.heap.size), .unset, .unset] [.int (Int32.ofNat len)])) := g6
  have c8 : Steps p.tables e below (s₁.setTop (entryFrame m #[.ref b, .int (Int32.ofNat o), .int (Int32.ofNat len)] 6)) (T6.setTop (mkF m 58 #[.val (.ref b), .val (.int (Int32.ofNat o)), .val (.int (Int32.ofNat len)), .val (.ref s.heap.size), .val (.int (Int32.ofNat len)), .unset] [.ref s.heap.size])) := c7.trans (by
    refine XS.istore X6.here hexec rfl (hb hbytes d12) rfl rfl ?_
    refine XS.iload X6.here hexec rfl (hb hbytes d14) rfl ?_
    refine XS.iloadN X6.here hexec rfl (hb hbytes d16) rfl ?_
    refine XS.icmpYes X6.here hexec rfl (pc0 := 17) rfl (hb hbytes d17) rfl (ii_eq_t rfl) (by decide) rfl ?_
    refine XS.aloadN X6.here hexec rfl (hb hbytes d57) rfl rfl ?_
    exact Steps.refl _)
  have X8 := X6.wide (L' := []) (cells' := 1) (slots' := len) (fun x hx hlt => by
    simp only [List.nil_append, copyLocs, List.mem_map, List.mem_range] at hx
    obtain ⟨i, -, rfl⟩ := hx
    exact absurd hlt (Nat.lt_irrefl _)) (Nat.le_refl _) (by omega)
  exact ⟨T6, some (.ref s.heap.size), _, _, _, X8, rfl, rfl, rfl, (fun h => by cases h), ⟨⟨rfl, B6, ba3.like (X3.warmed.alike.symm.trans X6.warmed.alike) p6.1 f6.1 f6.2.1 f6.2.2.1, f6.2.1.trans bv3, by rw [X6.warmed.alike.findClass, f6.1]; exact bf3, by rw [f6.2.2.1, bs3]; simp, fun j hj => by rw [f6.2.2.2 j, if_pos (by omega)]; rfl, kp3.put p6 (Nat.le_refl _)⟩, by rw [p6.2.2, bh3, hh0]; simp⟩, fun fs hl => c8.trans (X8.areturnOut hexec rfl hret rfl (hb hbytes d58) hl)⟩
end Cmp3
namespace CodL
def yN : MethodName := ⟨"java/lang/StringUTF16", "coderFromArrayLen", "([BI)B"⟩
abbrev yB : ByteArray := jdk_52_method_15_code
theorem d0 : decode yB 0 = .ok (.iload_n 1, 1) := by decide +kernel
theorem d1 : decode yB 1 = .ok (.aload_n 0, 1) := by decide +kernel
theorem d2 : decode yB 2 = .ok (.arraylength, 1) := by decide +kernel
theorem d3 : decode yB 3 = .ok (.isub, 1) := by decide +kernel
theorem d4 : decode yB 4 = .ok (.bipush 31, 2) := by decide +kernel
theorem d6 : decode yB 6 = .ok (.iushr, 1) := by decide +kernel
theorem d7 : decode yB 7 = .ok (.i2b, 1) := by decide +kernel
theorem d8 : decode yB 8 = .ok (.ireturn, 1) := by decide +kernel
def site : List Cond := []
def tab : Cond := tabOf yN yB 2 (some .byte) site
def P (d : Addr) (B : Cell) (args : Array Value) (s : State) : Prop := args = #[.ref d, .int (Int32.ofNat B.slots.size)] ∧ Arr .byte d B s
def E (r : Option Value) (s u : State) : Prop := XT.PureE (some (.int 0)) r s u
/-- an array as long as the number of chars: LATIN1 -/
theorem law (l : Launch) (d : Addr) (B : Cell) : Law l yN 2 2 0 0 yB 2 (some .byte) site (P d B) E [] 0 0 := by
  refine Law.of_walk (plainFor_of_name (by decide +kernel)) (by decide +kernel) (by decide +kernel) (by decide) (fun _ _ h => by rw [h.1]; rfl) (fun _ U U' hal hh h => ⟨h.1, h.2.mv hal hh⟩) (fun r U U' V V' h1 hal h2 h => XT.PureE.mv r U U' V V' h1 hal h2 h) ?_
  intro p e s m args below meth c s₁ X0 hexec hbytes hml hret hlk hnm hown hh0 W hP
  obtain ⟨rfl, hB⟩ := hP
  have hB0 := hB.mv X0.warmed.alike hh0
  have c1 : Steps p.tables e below (s₁.setTop (entryFrame m #[.ref d, .int (Int32.ofNat B.slots.size)] 2)) (s₁.setTop (mkF m 0 #[.val (.ref d), .val (.int (Int32.ofNat B.slots.size))] [])) := entry rfl
  have c2 : Steps p.tables e below (s₁.setTop (entryFrame m #[.ref d, .int (Int32.ofNat B.slots.size)] 2)) (s₁.setTop (mkF m 2 #[.val (.ref d), .val (.int (Int32.ofNat B.slots.size))] [.ref d, .int (Int32.ofNat B.slots.size)])) := c1.trans (by
    refine XS.iloadN X0.here hexec rfl (hb hbytes d0) rfl ?_
    refine XS.aloadN X0.here hexec rfl (hb hbytes d1) rfl rfl ?_
    exact Steps.refl _)
  have c3 : Steps p.tables e below (s₁.setTop (entryFrame m #[.ref d, .int (Int32.ofNat B.slots.size)] 2)) (s₁.setTop (mkF m 8 #[.val (.ref d), .val (.int (Int32.ofNat B.slots.size))] [.int (lo8 (ushr (Int32.ofNat B.slots.size - Int32.ofNat B.slots.size) 31))])) := c2.trans (by
    refine X0.alen hexec hB0 rfl rfl (hb hbytes d2) ?_
    refine XS.isub X0.here hexec rfl (hb hbytes d3) rfl ?_
    refine bipushV X0.here hexec rfl 31 (hb hbytes d4) (by decide) ?_
    refine iushr X0.here hexec rfl (hb hbytes d6) rfl ?_
    refine i2b X0.here hexec rfl (hb hbytes d7) rfl ?_
    exact Steps.refl _)
  have e0 : lo8 (ushr (Int32.ofNat B.slots.size - Int32.ofNat B.slots.size) 31) = 0 := by rw [Int32.sub_self]; decide
  rw [e0] at c3
  exact ⟨s₁, some (.int 0), _, _, _, X0, rfl, rfl, rfl, (fun h => by cases h), ⟨rfl, hh0⟩, fun fs hl => c3.trans (X0.ireturnOut hexec hret rfl (Or.inr (Or.inr (Or.inl rfl))) (hb hbytes d8) hl)⟩
end CodL
/-- the String at a is Latin-1 over a new byte[] (the heap's one new cell): the low bytes of the len chars of A from o on; every cell but a is kept -/
def Got (a : Addr) (D : Cell) (fV fC : Field) (A : Cell) (o len : Nat) (r : Option Value) (s u : State) : Prop := r = none ∧ ∃ D' V : Cell, Blank "java/lang/String" a D' u ∧ Same D D' [fV.slot, fC.slot] ∧ D'.slots[fV.slot]? = some (.ref s.heap.size) ∧ D'.slots[fC.slot]? = some (.int 0) ∧ Arr .byte s.heap.size V u ∧ V.vm = .none ∧ u.vm.findClass "[B" = some V.cls ∧ V.slots.size = len ∧ (∀ j, j < len → V.slots[j]? = some (.int (lo8 (cv A (o + j))))) ∧ (∀ (y : Addr) (c : Cell), y ≠ a → s.heap[y]? = some c → u.heap[y]? = some c) ∧ u.heap.size = s.heap.size + 1
theorem Got.mv {a : Addr} {D A : Cell} {fV fC : Field} {o len : Nat} : ∀ r (U U' V V' : State), U'.heap = U.heap → V.vm.Alike V'.vm → V'.heap = V.heap → Got a D fV fC A o len r U V → Got a D fV fC A o len r U' V' :=
  fun r U U' V V' h1 hal h2 ⟨e0, D', X, a1, a2, a3, a4, a5, a6, a7, a8, a9, a10, a11⟩ => ⟨e0, D', X, a1.mv hal h2, a2, by rw [h1]; exact a3, a4, by rw [h1]; exact a5.mv hal h2, a6, by rw [hal.findClass]; exact a7, a8, a9, by rw [h1, h2]; exact a10, by rw [h1, h2]; exact a11⟩
namespace New4
def yN : MethodName := ⟨"java/lang/String", "<init>", "([CIILjava/lang/Void;)V"⟩
abbrev yB : ByteArray := jdk_42_method_149_code
theorem d0 : decode yB 0 = .ok (.aload_n 0, 1) := by decide +kernel
theorem d1 : decode yB 1 = .ok (.invokespecial 1, 3) := by decide +kernel
theorem d4 : decode yB 4 = .ok (.iload_n 3, 1) := by decide +kernel
theorem d5 : decode yB 5 = .ok (.ifCond (.ne) 22, 3) := by decide +kernel
theorem d27 : decode yB 27 = .ok (.getstatic 38, 3) := by decide +kernel
theorem d30 : decode yB 30 = .ok (.ifCond (.eq) 28, 3) := by decide +kernel
theorem d33 : decode yB 33 = .ok (.aload_n 1, 1) := by decide +kernel
theorem d34 : decode yB 34 = .ok (.iload_n 2, 1) := by decide +kernel
theorem d35 : decode yB 35 = .ok (.iload_n 3, 1) := by decide +kernel
theorem d36 : decode yB 36 = .ok (.invokestatic 177, 3) := by decide +kernel
theorem d39 : decode yB 39 = .ok (.astore 5, 2) := by decide +kernel
theorem d41 : decode yB 41 = .ok (.aload_n 0, 1) := by decide +kernel
theorem d42 : decode yB 42 = .ok (.aload 5, 2) := by decide +kernel
theorem d44 : decode yB 44 = .ok (.iload_n 3, 1) := by decide +kernel
theorem d45 : decode yB 45 = .ok (.invokestatic 47, 3) := by decide +kernel
theorem d48 : decode yB 48 = .ok (.putfield 15, 3) := by decide +kernel
theorem d51 : decode yB 51 = .ok (.aload_n 0, 1) := by decide +kernel
theorem d52 : decode yB 52 = .ok (.aload 5, 2) := by decide +kernel
theorem d54 : decode yB 54 = .ok (.putfield 9, 3) := by decide +kernel
theorem d57 : decode yB 57 = .ok (.return_, 1) := by decide +kernel
def site : List Cond := [.fieldLink "java/lang/String" 38 "java/lang/String" "COMPACT_STRINGS" "Z", Cmp3.tab, CodL.tab, .laysFinal "java/lang/String" "java/lang/String" "value" "[B", .fieldLink "java/lang/String" 9 "java/lang/String" "value" "[B", .laysFinal "java/lang/String" "java/lang/String" "coder" "B", .fieldLink "java/lang/String" 15 "java/lang/String" "coder" "B"] ++ objW "java/lang/String" 1 ++ staticW "java/lang/String" 177 Cmp3.yN ++ staticW "java/lang/String" 47 CodL.yN
def tab : Cond := tabOf yN yB 6 none site
def P (a : Addr) (D : Cell) (fV fC : Field) (b : Addr) (A : Cell) (z : Int32) (o len : Nat) (args : Array Value) (s : State) : Prop := args = #[.ref a, .ref b, .int (Int32.ofNat o), .int (Int32.ofNat len), .null] ∧ Blank "java/lang/String" a D s ∧ Found "java/lang/String" "value" "[B" fV s ∧ Found "java/lang/String" "coder" "B" fC s ∧ Ch b A s ∧ StaticIs s "java/lang/String" "COMPACT_STRINGS" "Z" (.int z) ∧ ¬ z = 0 ∧ 0 < len ∧ o + len ≤ A.slots.size ∧ len ≤ 536870912 ∧ ∀ i, i < len → ¬ 255 < cv A (o + i)
def E (a : Addr) (D : Cell) (fV fC : Field) (A : Cell) (o len : Nat) (r : Option Value) (s u : State) : Prop := Got a D fV fC A o len r s u
/-- len > 0, no char of the range above 255: a Latin-1 String of their low bytes -/
theorem law (l : Launch) (a : Addr) (D : Cell) (fV fC : Field) (b : Addr) (A : Cell) (z : Int32) (o len : Nat) : Law l yN 5 4 2 35 yB 6 none site (P a D fV fC b A z o len) (E a D fV fC A o len) [⟨a, fC.slot⟩, ⟨a, fV.slot⟩] 1 len := by
  refine Law.of_walk (plainFor_of_name (by decide +kernel)) (by decide +kernel) (by decide +kernel) (by decide) (fun _ _ h => by rw [h.1]; rfl) (fun _ U U' hal hh h => ⟨h.1, h.2.1.mv hal hh, h.2.2.1.al hal, h.2.2.2.1.al hal, h.2.2.2.2.1.mv hal hh, h.2.2.2.2.2.1.there hal hh, h.2.2.2.2.2.2⟩) (fun r U U' V V' h1 hal h2 h => Got.mv r U U' V V' h1 hal h2 h) ?_
  intro p e s m args below meth c s₁ X0 hexec hbytes hml hret hlk hnm hown hh0 W hP
  obtain ⟨rfl, hB, f1, f2, hA, s1, hz, l0, l1, l2, hp⟩ := hP
  have a31 := hA.1.2.2.2
  have c1 : Steps p.tables e below (s₁.setTop (entryFrame m #[.ref a, .ref b, .int (Int32.ofNat o), .int (Int32.ofNat len), .null] 6)) (s₁.setTop (mkF m 0 #[.val (.ref a), .val (.ref b), .val (.int (Int32.ofNat o)), .val (.int (Int32.ofNat len)), .val .null, .unset] [])) := entry rfl
  have c2 : Steps p.tables e below (s₁.setTop (entryFrame m #[.ref a, .ref b, .int (Int32.ofNat o), .int (Int32.ofNat len), .null] 6)) (s₁.setTop (mkF m 1 #[.val (.ref a), .val (.ref b), .val (.int (Int32.ofNat o)), .val (.int (Int32.ofNat len)), .val .null, .unset] [.ref a])) := c1.trans (by
    refine XS.aloadN X0.here hexec rfl (hb hbytes d0) rfl rfl ?_
    exact Steps.refl _)
  obtain ⟨T3, X3, q3, st3⟩ := X0.oinit hexec hown (wks W (objW "java/lang/String" 1)) (g := (mkF m 1 #[.val (.ref a), .val (.ref b), .val (.int (Int32.ofNat o)), .val (.int (Int32.ofNat len)), .val .null, .unset] [.ref a])) rfl (by rw [hml]; rfl) (rest := []) rfl (hb hbytes d1) (W := 0) (by show 2 * 0 + 0 ≤ _; decide) (Nat.le_of_ble_eq_true rfl) (Nat.le_of_ble_eq_true rfl)
  have hh3 := q3.trans hh0
  have c4 : Steps p.tables e below (s₁.setTop (entryFrame m #[.ref a, .ref b, .int (Int32.ofNat o), .int (Int32.ofNat len), .null] 6)) (T3.setTop (mkF m 27 #[.val (.ref a), .val (.ref b), .val (.int (Int32.ofNat o)), .val (.int (Int32.ofNat len)), .val .null, .unset] [])) := (c2.trans (st3 _ (Steps.refl _))).trans (by
    refine XS.iloadN X3.here hexec rfl (hb hbytes d4) rfl ?_
    refine XS.ifYes X3.here hexec rfl (pc0 := 5) rfl (hb hbytes d5) rfl (i0_ne_t (nz32 (by omega) l0)) (by decide) rfl ?_
    exact Steps.refl _)
  obtain ⟨T5, X5, q5, st5⟩ := X3.sget hexec hown (wk W (.fieldLink "java/lang/String" 38 "java/lang/String" "COMPACT_STRINGS" "Z")) s1 (fun _ _ h => by rw [hh3]; exact h) (g := (mkF m 27 #[.val (.ref a), .val (.ref b), .val (.int (Int32.ofNat o)), .val (.int (Int32.ofNat len)), .val .null, .unset] [])) rfl (hb hbytes d27)
  have hh5 := q5.trans hh3
  have c6 : Steps p.tables e below (s₁.setTop (entryFrame m #[.ref a, .ref b, .int (Int32.ofNat o), .int (Int32.ofNat len), .null] 6)) (T5.setTop (mkF m 30 #[.val (.ref a), .val (.ref b), .val (.int (Int32.ofNat o)), .val (.int (Int32.ofNat len)), .val .null, .unset] [.int z])) := c4.trans (st5 _ (Steps.refl _))
  have c7 : Steps p.tables e below (s₁.setTop (entryFrame m #[.ref a, .ref b, .int (Int32.ofNat o), .int (Int32.ofNat len), .null] 6)) (T5.setTop (mkF m 36 #[.val (.ref a), .val (.ref b), .val (.int (Int32.ofNat o)), .val (.int (Int32.ofNat len)), .val .null, .unset] [.int (Int32.ofNat len), .int (Int32.ofNat o), .ref b])) := c6.trans (by
    refine XS.ifNo X5.here hexec rfl (hb hbytes d30) rfl (i0_eq_f hz) ?_
    refine XS.aloadN X5.here hexec rfl (hb hbytes d33) rfl rfl ?_
    refine XS.iloadN X5.here hexec rfl (hb hbytes d34) rfl ?_
    refine XS.iloadN X5.here hexec rfl (hb hbytes d35) rfl ?_
    exact Steps.refl _)
  obtain ⟨v8, T8, X8, E8, g8⟩ := X5.callS hexec (Cmp3.law l b A o len) hown (wks W (staticW "java/lang/String" 177 Cmp3.yN)) (wk W Cmp3.tab) (W := 0) (Nat.le_of_ble_eq_true rfl) (Nat.le_of_ble_eq_true rfl) (Nat.le_refl _) (by show 0 + len ≤ len; omega) (g := (mkF m 36 #[.val (.ref a), .val (.ref b), .val (.int (Int32.ofNat o)), .val (.int (Int32.ofNat len)), .val .null, .unset] [.int (Int32.ofNat len), .int (Int32.ofNat o), .ref b])) rfl (by rw [hml]; rfl) c7 (argsL := [.ref b, .int (Int32.ofNat o), .int (Int32.ofNat len)]) (rest := []) rfl rfl (by show 2 * 0 + 0 ≤ _; decide) (hb hbytes d36) (⟨rfl, hA.mv X5.warmed.alike hh5, l1, l2, hp⟩)
  obtain ⟨e8, z8⟩ := E8
  obtain ⟨rfl, N, n1, n2, n3, n4, n5, n6⟩ := NewArr.mv _ T5 s _ _ hh5.symm (Vm.Alike.refl _) rfl e8
  rw [hh5] at z8
  have hB1 := hB.keep X8.warmed.alike (n6 _ _ hB.1)
  have hne : s.heap.size ≠ a := (Nat.ne_of_lt (Array.getElem?_eq_some_iff.mp hB.1).1).symm
  have c9 : Steps p.tables e below (s₁.setTop (entryFrame m #[.ref a, .ref b, .int (Int32.ofNat o), .int (Int32.ofNat len), .null] 6)) (T8.setTop (mkF m 39 #[.val (.ref a), .val (.ref b), .val (.int (Int32.ofNat o)), .val (.int (Int32.ofNat len)), .val .null, .unset] [.ref s.heap.size])) := g8
  have c10 : Steps p.tables e below (s₁.setTop (entryFrame m #[.ref a, .ref b, .int (Int32.ofNat o), .int (Int32.ofNat len), .null] 6)) (T8.setTop (mkF m 45 #[.val (.ref a), .val (.ref b), .val (.int (Int32.ofNat o)), .val (.int (Int32.ofNat len)), .val .null, .val (.ref s.heap.size)] [.int (Int32.ofNat N.slots.size), .ref s.heap.size, .ref a])) := by
    have hc : Steps p.tables e below (s₁.setTop (entryFrame m #[.ref a, .ref b, .int (Int32.ofNat o), .int (Int32.ofNat len), .null] 6)) (T8.setTop (mkF m 45 #[.val (.ref a), .val (.ref b), .val (.int (Int32.ofNat o)), .val (.int (Int32.ofNat len)), .val .null, .val (.ref s.heap.size)] [.int (Int32.ofNat len), .ref s.heap.size, .ref a])) := c9.trans (by
      refine XS.astore X8.here hexec rfl (hb hbytes d39) rfl rfl rfl ?_
      refine XS.aloadN X8.here hexec rfl (hb hbytes d41) rfl rfl ?_
      refine XS.aload X8.here hexec rfl (hb hbytes d42) rfl rfl ?_
      refine XS.iloadN X8.here hexec rfl (hb hbytes d44) rfl ?_
      exact Steps.refl _)
    rw [n4]; exact hc
  obtain ⟨v11, T11, X11, E11, g11⟩ := X8.callS hexec (CodL.law l s.heap.size N) hown (wks W (staticW "java/lang/String" 47 CodL.yN)) (wk W CodL.tab) (W := 1) (Nat.le_of_ble_eq_true rfl) (Nat.le_of_ble_eq_true rfl) (Nat.le_refl _) (by show 0 + len + 0 ≤ len; omega) (g := (mkF m 45 #[.val (.ref a), .val (.ref b), .val (.int (Int32.ofNat o)), .val (.int (Int32.ofNat len)), .val .null, .val (.ref s.heap.size)] [.int (Int32.ofNat N.slots.size), .ref s.heap.size, .ref a])) rfl (by rw [hml]; rfl) c10 (argsL := [.ref s.heap.size, .int (Int32.ofNat N.slots.size)]) (rest := [.ref a]) rfl rfl (by show 2 * 0 + (1 + 0) ≤ _; decide) (hb hbytes d45) (⟨rfl, n1⟩)
  obtain ⟨rfl, q11⟩ := E11
  have hB11 := hB1.mv (X8.warmed.alike.symm.trans X11.warmed.alike) q11
  have c12 : Steps p.tables e below (s₁.setTop (entryFrame m #[.ref a, .ref b, .int (Int32.ofNat o), .int (Int32.ofNat len), .null] 6)) (T11.setTop (mkF m 48 #[.val (.ref a), .val (.ref b), .val (.int (Int32.ofNat o)), .val (.int (Int32.ofNat len)), .val .null, .val (.ref s.heap.size)] [.int 0, .ref a])) := g11
  obtain ⟨T13, X13, p13, bl13, sl13, st13⟩ := X11.finit hexec hown (wk W (.fieldLink "java/lang/String" 15 "java/lang/String" "coder" "B")) (Or.inr ⟨_, (wk W (.laysFinal "java/lang/String" "java/lang/String" "coder" "B"))⟩) (Or.inl ⟨rfl, hnm⟩) f2 (Or.inl rfl) hB11 (t := .byte) (by decide +kernel) rfl (g := (mkF m 48 #[.val (.ref a), .val (.ref b), .val (.int (Int32.ofNat o)), .val (.int (Int32.ofNat len)), .val .null, .val (.ref s.heap.size)] [.int 0, .ref a])) rfl (rest := []) rfl (hb hbytes d48)
  have c14 : Steps p.tables e below (s₁.setTop (entryFrame m #[.ref a, .ref b, .int (Int32.ofNat o), .int (Int32.ofNat len), .null] 6)) (T13.setTop (mkF m 54 #[.val (.ref a), .val (.ref b), .val (.int (Int32.ofNat o)), .val (.int (Int32.ofNat len)), .val .null, .val (.ref s.heap.size)] [.ref s.heap.size, .ref a])) := (c12.trans (st13 _ (Steps.refl _))).trans (by
    refine XS.aloadN X13.here hexec rfl (hb hbytes d51) rfl rfl ?_
    refine XS.aload X13.here hexec rfl (hb hbytes d52) rfl rfl ?_
    exact Steps.refl _)
  obtain ⟨T15, X15, p15, bl15, sl15, st15⟩ := X13.finit hexec hown (wk W (.fieldLink "java/lang/String" 9 "java/lang/String" "value" "[B")) (Or.inr ⟨_, (wk W (.laysFinal "java/lang/String" "java/lang/String" "value" "[B"))⟩) (Or.inl ⟨rfl, hnm⟩) f1 (Or.inl rfl) bl13 (t := (.array .byte)) (by decide +kernel) rfl (g := (mkF m 54 #[.val (.ref a), .val (.ref b), .val (.int (Int32.ofNat o)), .val (.int (Int32.ofNat len)), .val .null, .val (.ref s.heap.size)] [.ref s.heap.size, .ref a])) rfl (rest := []) rfl (hb hbytes d54)
  have c16 : Steps p.tables e below (s₁.setTop (entryFrame m #[.ref a, .ref b, .int (Int32.ofNat o), .int (Int32.ofNat len), .null] 6)) (T15.setTop (mkF m 57 #[.val (.ref a), .val (.ref b), .val (.int (Int32.ofNat o)), .val (.int (Int32.ofNat len)), .val .null, .val (.ref s.heap.size)] [])) := c14.trans (st15 _ (Steps.refl _))
  have ap := apart (Or.inr ⟨_, (wk W (.laysFinal "java/lang/String" "java/lang/String" "value" "[B"))⟩) (Or.inr ⟨_, (wk W (.laysFinal "java/lang/String" "java/lang/String" "coder" "B"))⟩) f1 f2 (t₁ := .array .byte) (t₂ := .byte) (by decide +kernel) (by decide +kernel) (by decide)
  have al := X8.warmed.alike.symm.trans X15.warmed.alike
  have n7 : T11.heap[s.heap.size]? = some N := by rw [q11]; exact n1.1
  exact ⟨T15, none, _, _, _, X15, by simp, rfl, by omega, (fun _ => rfl), ⟨rfl, _, N, bl15, ((Same.refl D _).set _ (by simp)).set _ (by simp), sl15, (Cell.slots_setSlot_ne _ ap).trans sl13, n1.keep al (p15.other hne (p13.other hne n7)), n2, by rw [al.findClass]; exact n3, n4, n5, fun y c h1 h2 => p15.other h1 (p13.other h1 (by rw [q11]; exact n6 y c h2)), by rw [p15.2.2, p13.2.2, q11]; exact z8⟩, fun fs hl => c16.trans (X15.returnOut hexec hret (hb hbytes d57) hl)⟩
end New4
namespace New1
def yN : MethodName := ⟨"java/lang/String", "<init>", "([C)V"⟩
abbrev yB : ByteArray := jdk_42_method_3_code
theorem d0 : decode yB 0 = .ok (.aload_n 0, 1) := by decide +kernel
theorem d1 : decode yB 1 = .ok (.aload_n 1, 1) := by decide +kernel
theorem d2 : decode yB 2 = .ok (.iconst 0, 1) := by decide +kernel
theorem d3 : decode yB 3 = .ok (.aload_n 1, 1) := by decide +kernel
theorem d4 : decode yB 4 = .ok (.arraylength, 1) := by decide +kernel
theorem d5 : decode yB 5 = .ok (.aconst_null, 1) := by decide +kernel
theorem d6 : decode yB 6 = .ok (.invokespecial 27, 3) := by decide +kernel
theorem d9 : decode yB 9 = .ok (.return_, 1) := by decide +kernel
def site : List Cond := [New4.tab] ++ initW "java/lang/String" 27 New4.yN
def tab : Cond := tabOf yN yB 2 none site
def P (a : Addr) (D : Cell) (fV fC : Field) (b : Addr) (A : Cell) (z : Int32) (args : Array Value) (s : State) : Prop := args = #[.ref a, .ref b] ∧ Blank "java/lang/String" a D s ∧ Found "java/lang/String" "value" "[B" fV s ∧ Found "java/lang/String" "coder" "B" fC s ∧ Ch b A s ∧ StaticIs s "java/lang/String" "COMPACT_STRINGS" "Z" (.int z) ∧ ¬ z = 0 ∧ 0 < A.slots.size ∧ A.slots.size ≤ 536870912 ∧ ∀ i, i < A.slots.size → ¬ 255 < cv A i
def E (a : Addr) (D : Cell) (fV fC : Field) (A : Cell) (r : Option Value) (s u : State) : Prop := Got a D fV fC A 0 A.slots.size r s u
/-- new String(chars), not empty, no char above 255: a Latin-1 String of their low bytes -/
theorem law (l : Launch) (a : Addr) (D : Cell) (fV fC : Field) (b : Addr) (A : Cell) (z : Int32) : Law l yN 2 1 3 52 yB 2 none site (P a D fV fC b A z) (E a D fV fC A) [⟨a, fC.slot⟩, ⟨a, fV.slot⟩] 1 A.slots.size := by
  refine Law.of_walk (plainFor_of_name (by decide +kernel)) (by decide +kernel) (by decide +kernel) (by decide) (fun _ _ h => by rw [h.1]; rfl) (fun _ U U' hal hh h => ⟨h.1, h.2.1.mv hal hh, h.2.2.1.al hal, h.2.2.2.1.al hal, h.2.2.2.2.1.mv hal hh, h.2.2.2.2.2.1.there hal hh, h.2.2.2.2.2.2⟩) (fun r U U' V V' h1 hal h2 h => Got.mv r U U' V V' h1 hal h2 h) ?_
  intro p e s m args below meth c s₁ X0 hexec hbytes hml hret hlk hnm hown hh0 W hP
  obtain ⟨rfl, hB, f1, f2, hA, s1, hz, l0, l2, hp⟩ := hP
  have c1 : Steps p.tables e below (s₁.setTop (entryFrame m #[.ref a, .ref b] 2)) (s₁.setTop (mkF m 0 #[.val (.ref a), .val (.ref b)] [])) := entry rfl
  have c2 : Steps p.tables e below (s₁.setTop (entryFrame m #[.ref a, .ref b] 2)) (s₁.setTop (mkF m 6 #[.val (.ref a), .val (.ref b)] [.null, .int (Int32.ofNat A.slots.size), .int 0, .ref b, .ref a])) := c1.trans (by
    refine XS.aloadN X0.here hexec rfl (hb hbytes d0) rfl rfl ?_
    refine XS.aloadN X0.here hexec rfl (hb hbytes d1) rfl rfl ?_
    refine iconstV X0.here hexec rfl 0 (hb hbytes d2) (by decide) ?_
    refine XS.aloadN X0.here hexec rfl (hb hbytes d3) rfl rfl ?_
    refine X0.alen hexec (hA.1.mv X0.warmed.alike hh0) rfl rfl (hb hbytes d4) ?_
    refine XS.aconstNull X0.here hexec rfl (hb hbytes d5) ?_
    exact Steps.refl _)
  obtain ⟨v3, T3, X3, E3, g3⟩ := X0.callN hexec (New4.law l a D fV fC b A z 0 A.slots.size) rfl hown (wks W (initW "java/lang/String" 27 New4.yN)) (W New4.tab (by simp only [site, List.mem_cons, List.mem_append, true_or, or_true])) (W := 0) (Nat.le_of_ble_eq_true rfl) (Nat.le_of_ble_eq_true rfl) (Nat.le_refl _) (by show 0 + A.slots.size ≤ A.slots.size; omega) (g := (mkF m 6 #[.val (.ref a), .val (.ref b)] [.null, .int (Int32.ofNat A.slots.size), .int (Int32.ofNat 0), .ref b, .ref a])) rfl (by rw [hml]; rfl) c2 (argsL := [.ref b, .int (Int32.ofNat 0), .int (Int32.ofNat A.slots.size), .null]) (rest := []) rfl rfl (by show 2 * 0 + 0 ≤ _; decide) (hb hbytes d6) (⟨rfl, hB.mv X0.warmed.alike hh0, f1.al X0.warmed.alike, f2.al X0.warmed.alike, hA.mv X0.warmed.alike hh0, s1.there X0.warmed.alike hh0, hz, l0, by omega, l2, fun i hi => by rw [Nat.zero_add]; exact hp i hi⟩)
  have e0 := Got.mv _ s₁ s _ _ hh0.symm (Vm.Alike.refl _) rfl E3
  obtain rfl := e0.1
  have c4 : Steps p.tables e below (s₁.setTop (entryFrame m #[.ref a, .ref b] 2)) (T3.setTop (mkF m 9 #[.val (.ref a), .val (.ref b)] [])) := g3
  exact ⟨T3, none, _, _, _, X3, by simp, rfl, by omega, (fun _ => rfl), e0, fun fs hl => c4.trans (X3.returnOut hexec hret (hb hbytes d9) hl)⟩
theorem pays {l : Launch} {R : Room} {p : Program} {e : Env} {below : List Frame} {s : State} {sargs : Array Value} {len W : Nat} (a : Addr) (D : Cell) (fV fC : Field) (b : Addr) (A : Cell) (z : Int32) (htab : tab.before sargs s = true) (hfr : 4 ≤ R.frames) (hlo : W + 65 ≤ R.locals) :
    Back l R p e below s sargs yN len W (fun A₁ a₁ => A₁.cells + 1 ≤ R.cells ∧ A₁.slots + A.slots.size ≤ R.slots ∧ P a D fV fC b A z a₁ A₁.U) (fun A₁ _ v₁ B₁ => E a D fV fC A v₁ A₁.U B₁.U ∧ B₁.locs = A₁.locs ++ [⟨a, fC.slot⟩, ⟨a, fV.slot⟩] ∧ B₁.cells = A₁.cells + 1 ∧ B₁.slots = A₁.slots + A.slots.size) :=
  (law l a D fV fC b A z).pays htab hfr (by omega)
end New1
/-- the byte, read back as charAt reads it, is the char -/
theorem lo8_mask {x : Int32} (h0 : ¬ x < 0) (h1 : ¬ 255 < x) : lo8 x &&& 255 = x := by
  have t : ∀ k : Fin 256, lo8 (Int32.ofNat k.val) &&& 255 = Int32.ofNat k.val := by decide +kernel
  rw [Int32.lt_iff_toInt_lt] at h0 h1
  have e0 : (0 : Int32).toInt = 0 := rfl
  have e1 : (255 : Int32).toInt = 255 := rfl
  obtain ⟨k, hk⟩ : ∃ k : Nat, x.toInt = k := ⟨x.toInt.toNat, by omega⟩
  have hx : x = Int32.ofNat k := Int32.toInt_inj.mp (by rw [hk, Int32.toInt_ofNat_small (by omega)])
  rw [hx]
  exact t ⟨k, by omega⟩
end StrChars
namespace StrChars.Road
open Jvm Sem ClassFile Op Lib Jvm.Stand Jvm.Free Jvm.Free.XT
open Jvm.Lib.Cold (StaticIs)
abbrev ST : String := "java/lang/String"
/-- every table word that New1's law asks, flat -/
abbrev words : List Jvm.Cond := [.code New1.yN New1.yB 2 none, .initialized ST, .methodLink ST 27 New4.yN, .instanceMethod New4.yN,
  .code New4.yN New4.yB 6 none, .fieldLink ST 38 ST "COMPACT_STRINGS" "Z", .laysFinal ST ST "value" "[B", .fieldLink ST 9 ST "value" "[B", .laysFinal ST ST "coder" "B", .fieldLink ST 15 ST "coder" "B",
  .methodLink ST 1 Lib.objectInit, .instanceMethod Lib.objectInit, .code Lib.objectInit ⟨#[0xb1]⟩ 1 none, .methodLink ST 177 Cmp3.yN, .static Cmp3.yN, .methodLink ST 47 CodL.yN, .static CodL.yN,
  .code Cmp3.yN Cmp3.yB 6 (some (.array .byte)), .initialized U16, .arrayClass .byte, .methodLink U16 115 Cmp5.yN, .static Cmp5.yN, .code Cmp5.yN Cmp5.yB 7 (some .int), .code CodL.yN CodL.yB 2 (some .byte)]
theorem tab_of {a : Array Value} {s : State} (h : ∀ w ∈ words, w.before a s = true) : New1.tab.before a s = true := by
  have h5 : Cmp5.tab.before a s = true := unparts (wk h (.code Cmp5.yN Cmp5.yB 7 (some .int))) (wks h (.initialized Cmp5.yN.cls :: Cmp5.site))
  have hc : CodL.tab.before a s = true := unparts (wk h (.code CodL.yN CodL.yB 2 (some .byte))) (wks h (.initialized CodL.yN.cls :: CodL.site))
  have q5 : ∀ w ∈ Cmp5.tab :: words, w.before a s = true := fun w hw => (List.mem_cons.mp hw).elim (fun e => e ▸ h5) (h w)
  have h3 : Cmp3.tab.before a s = true := unparts (wk q5 (.code Cmp3.yN Cmp3.yB 6 (some (.array .byte)))) (wks q5 (.initialized Cmp3.yN.cls :: Cmp3.site))
  have q3 : ∀ w ∈ Cmp3.tab :: CodL.tab :: words, w.before a s = true := fun w hw => (List.mem_cons.mp hw).elim (fun e => e ▸ h3) fun hw => (List.mem_cons.mp hw).elim (fun e => e ▸ hc) (h w)
  have h4 : New4.tab.before a s = true := unparts (wk q3 (.code New4.yN New4.yB 6 none)) (wks q3 (.initialized New4.yN.cls :: New4.site))
  have q4 : ∀ w ∈ New4.tab :: words, w.before a s = true := fun w hw => (List.mem_cons.mp hw).elim (fun e => e ▸ h4) (h w)
  exact unparts (wk q4 (.code New1.yN New1.yB 2 none)) (wks q4 (.initialized New1.yN.cls :: New1.site))
/-- the words ride from the start Z to the walk's own state -/
theorem moved {Z s : State} {a0 args : Array Value} (hZ : Z.Warmed39 s.vm) (hw : ∀ d ∈ words, d.before a0 Z = true) : ∀ d ∈ words, d.before args s = true := fun d hd => by
  have q := hw d hd
  have t : ∀ d ∈ words, d = .arrayClass .byte ∨ (d.onTables && d.keepsFace) = true := by decide +kernel
  rcases t d hd with rfl | t
  · exact RoadKit.mvA hZ q
  · exact RoadKit.mv hZ q t
/-- WHAT COMES BACK, over the tables of the start Z: h the heap at the call, h' behind it -/
def Q (Z : State) (x : Addr) (A : Cell) (h : Heap) (v : Option Value) (h' : Heap) (L : List Loc) : Prop := v = none ∧ (∀ y ∈ L, y.base = x) ∧ RoadKit.Keep h h' [x] ∧ h'.size = h.size + 1 ∧ RoadKit.Exa Z h' x ST ∧ RoadKit.Fld Z h' x ST "value" "[B" (.ref h.size) ∧ RoadKit.Fld Z h' x ST "coder" "B" (.int 0) ∧
  (∃ V : Cell, RoadKit.Arr Z h' h.size V .byte ∧ V.vm = .none ∧ Z.vm.findClass "[B" = some V.cls ∧ V.slots.size = A.slots.size ∧ ∀ j, j < A.slots.size → V.slots[j]? = some (.int (lo8 (cv A j)))) ∧
  ∀ (O n d : String) (w : Value), RoadKit.Fld Z h x O n d w → RoadKit.slotOf Z O n d ≠ RoadKit.slotOf Z ST "value" "[B" → RoadKit.slotOf Z O n d ≠ RoadKit.slotOf Z ST "coder" "B" → RoadKit.Fld Z h' x O n d w
/-- **new String(chars) AT A CALL, IN THE ROAD'S FORM**: for specialBack behind newO: x the fresh String, b the char[] with the cell A -/
theorem back {p : Program} {l : Launch} {e : Env} {R : Room} {s : State} {args : Array Value} {below : List Frame} {len W : Nat} {Z : State} {a0 : Array Value} {h : Heap} (hZ : Z.Warmed39 s.vm) (hw : ∀ d ∈ words, d.before a0 Z = true) {kI : Nat} (wi : (Jvm.Cond.instantiable ST kI).before a0 Z = true)
    {x b : Addr} {A : Cell} {z : Int32} {v0 c0 : Value} (E : RoadKit.Exa Z h x ST) (V : RoadKit.Fld Z h x ST "value" "[B" v0) (C : RoadKit.Fld Z h x ST "coder" "B" c0) (K : RoadKit.Arr Z h b A .char) (hty : Typed .char A) (S : RoadKit.Sta Z h ST "COMPACT_STRINGS" "Z" (.int z)) (hz : ¬ z = 0)
    (l0 : 0 < A.slots.size) (l2 : A.slots.size ≤ 536870912) (hp : ∀ i, i < A.slots.size → ¬ 255 < cv A i) (hfr : 4 ≤ R.frames) (hlo : W + 65 ≤ R.locals) :
    Back l R p e below s args New1.yN len W (fun P a => a = #[.ref x, .ref b] ∧ P.U.heap = h ∧ P.cells + 1 ≤ R.cells ∧ P.slots + A.slots.size ≤ R.slots)
      (fun P _ v B => ∃ L, Q Z x A h v B.U.heap L ∧ B.locs = P.locs ++ L ∧ B.cells = P.cells + 1 ∧ B.slots = P.slots + A.slots.size) := by
  intro m meth c P g ig mk a X hg hsize hdg hW hn hp'
  obtain ⟨rfl, rfl, r1, r2⟩ := hp'
  have al : Z.vm.Alike P.U.vm := hZ.alike.trans X.warmed.alike
  obtain ⟨D, cfV, kV, iV, fV, hD, gV, stV, knV, obV, asV, slV⟩ := id V
  obtain ⟨D', cfC, kC, iC, fC, hD', gC, stC, -, -, asC, slC⟩ := id C
  cases hD.symm.trans hD'
  obtain ⟨D2, kD, e1, e2, e3, e4, e5⟩ := id E
  cases hD.symm.trans e1
  obtain ⟨c2, k2, i1, i2, i3, -⟩ := Cond.instantiable_spec wi
  cases e2.symm.trans i1
  cases e3.symm.trans i2
  obtain ⟨kU, u1, u2⟩ := al.2.2 _ _ e3
  have hB : Blank ST x D P.U := ⟨hD, ⟨knV, fun q hq => by rw [hq] at obV; cases obV⟩, by rw [al.findClass]; exact e2, kU, u1, by rw [u2]; exact i3, by rw [u2]; exact e5 i3⟩
  have F1 : Found ST "value" "[B" fV P.U := ⟨SBG.found_only al ⟨cfV, kV, iV, gV⟩, stV⟩
  have F2 : Found ST "coder" "B" fC P.U := ⟨SBG.found_only al ⟨cfC, kC, iC, gC⟩, stC⟩
  have hA : Ch b A P.U := ⟨⟨K.1, State.isArrayOf_alike al K.2.1, K.2.2, by omega⟩, hty⟩
  have hS : StaticIs P.U ST "COMPACT_STRINGS" "Z" (.int z) := by
    obtain ⟨cfS, iS, kS, fS, st, cS, t1, t2, t3, t4, t5, t6, t7⟩ := S
    exact StaticIs.there (s := { Z with heap := P.U.heap }) ⟨cfS, iS, kS, fS, st, cS, t1, t2, t3, t4, t5, (fun q => by rw [q] at t6; cases t6), t7⟩ al rfl
  obtain ⟨v, B, X', ⟨⟨hv, E', V', q1, q2, q3, q4, q5, q6, q7, q8, q9, q10, q11⟩, hl, hc, hs⟩, st⟩ := New1.pays x D fV fC b A z (tab_of (moved hZ hw)) hfr hlo m meth c P g ig mk _ X hg hsize hdg hW hn ⟨r1, r2, rfl, hB, F1, F2, hA, hS, hz, l0, l2, hp⟩
  have al' : Z.vm.Alike B.U.vm := hZ.alike.trans X'.warmed.alike
  have hsz : E'.slots.size = D.slots.size := by
    obtain ⟨-, -, -, kB, w1, w2, w3⟩ := q1
    obtain ⟨kB', y1, y2⟩ := al'.2.2 _ _ e3
    rw [q2.2.1] at w1
    cases w1.symm.trans y1
    rw [w3, e5 i3, y2]
  refine ⟨v, B, X', ⟨_, ⟨hv, ?_, ⟨by omega, fun y cy hy hn' => q10 y cy (by simpa using hn') hy, fun y cy hy => ?_⟩, q11, ⟨E', _, q1.1, by rw [q2.2.1]; exact e2, by rw [q2.2.1]; exact e3, by rw [q2.1]; exact obV, fun _ => by rw [hsz]; exact e5 i3⟩,
    ⟨E', cfV, kV, iV, fV, q1.1, gV, stV, by rw [q2.1]; exact knV, by rw [q2.1]; exact obV, by rw [q2.2.1]; exact asV, q3⟩, ⟨E', cfC, kC, iC, fC, q1.1, gC, stC, by rw [q2.1]; exact knV, by rw [q2.1]; exact obV, by rw [q2.2.1]; exact asC, q4⟩,
    ⟨V', ⟨q5.1, State.isArrayOf_alike al'.symm q5.2.1, q5.2.2.1⟩, q6, by rw [← al'.findClass]; exact q7, q8, fun j hj => by have := q9 j hj; rwa [Nat.zero_add] at this⟩, fun O n d w F n1 n2 => ?_⟩, hl, hc, hs⟩, st⟩
  · intro y hy
    simp only [List.mem_cons, List.not_mem_nil, or_false] at hy
    rcases hy with rfl | rfl <;> rfl
  · by_cases q : y = x
    · subst q
      cases hD.symm.trans hy
      exact ⟨E', q1.1, q2.2.1, q2.1, hsz⟩
    · exact ⟨cy, q10 y cy q hy, rfl, rfl, rfl⟩
  · obtain ⟨D3, cf, k, i, f, g1, g2, g3, g4, g5, g6, g7⟩ := F
    cases hD.symm.trans g1
    simp only [RoadKit.slotOf, g2, gV, gC, Option.map_some, Option.getD_some] at n1 n2
    exact ⟨E', cf, k, i, f, q1.1, g2, g3, by rw [q2.1]; exact g4, by rw [q2.1]; exact g5, by rw [q2.2.1]; exact g6, by rw [q2.2.2 f.slot (by simp [n1, n2])]; exact g7⟩
end StrChars.Road
namespace StrChars.Road
open Jvm Sem ClassFile Op Lib Jvm.Stand Jvm.Free Jvm.Free.XT
/-- WHAT COMES BACK, the byte[] as a list of values -/
def QA (Z : State) (x : Addr) (zn : Int32) (cs : List Int32) (h : Heap) (v : Option Value) (h' : Heap) (L : List Loc) : Prop := v = none ∧ (∀ y ∈ L, y.base = x) ∧ RoadKit.Keep h h' [x] ∧ h'.size = h.size + 1 ∧ RoadKit.Exa Z h' x ST ∧ RoadKit.Fld Z h' x ST "value" "[B" (.ref h.size) ∧ RoadKit.Fld Z h' x ST "coder" "B" (.int 0) ∧
  (∃ kb, Z.vm.findClass "[B" = some kb ∧ RoadKit.Arv Z h' h.size kb .byte zn (cs.map fun c => .int (lo8 c)) (.int 0)) ∧
  ∀ (O n d : String) (w : Value), RoadKit.Fld Z h x O n d w → RoadKit.slotOf Z O n d ≠ RoadKit.slotOf Z ST "value" "[B" → RoadKit.slotOf Z O n d ≠ RoadKit.slotOf Z ST "coder" "B" → RoadKit.Fld Z h' x O n d w
/-- **new String(chars) AT A CALL, THE ARRAYS AS LISTS**: the char[] at b holds cs, not empty, no char above 255 -/
theorem backArv {p : Program} {l : Launch} {e : Env} {R : Room} {s : State} {args : Array Value} {below : List Frame} {len W : Nat} {Z : State} {a0 : Array Value} {h : Heap} (hZ : Z.Warmed39 s.vm) (hw : ∀ d ∈ words, d.before a0 Z = true) {kI : Nat} (wi : (Jvm.Cond.instantiable ST kI).before a0 Z = true)
    {x b : Addr} {k : ClassId} {zn z : Int32} {cs : List Int32} {dv v0 c0 : Value} (E : RoadKit.Exa Z h x ST) (V : RoadKit.Fld Z h x ST "value" "[B" v0) (C : RoadKit.Fld Z h x ST "coder" "B" c0) (K : RoadKit.Arv Z h b k .char zn (cs.map Value.int) dv) (S : RoadKit.Sta Z h ST "COMPACT_STRINGS" "Z" (.int z)) (hz : ¬ z = 0)
    (hlen : zn.toNatClampNeg = cs.length) (h0 : 0 < cs.length) (hbig : cs.length ≤ 536870912) (hall : ∀ c ∈ cs, ¬ 255 < c) (hfr : 4 ≤ R.frames) (hlo : W + 65 ≤ R.locals) :
    Back l R p e below s args New1.yN len W (fun P a => a = #[.ref x, .ref b] ∧ P.U.heap = h ∧ P.cells + 1 ≤ R.cells ∧ P.slots + cs.length ≤ R.slots)
      (fun P _ v B => ∃ L, QA Z x zn cs h v B.U.heap L ∧ B.locs = P.locs ++ L ∧ B.cells = P.cells + 1 ∧ B.slots = P.slots + cs.length) := by
  obtain ⟨A, K1, K2, K3, K4, K5, K6⟩ := K
  have e : A.slots.size = cs.length := K3.trans hlen
  have hat : ∀ (i : Nat) (hi : i < cs.length), A.slots[i]? = some (.int cs[i]) := fun i hi => by rw [K5 i (by omega)]; simp [List.getD_eq_getElem?_getD, hi]
  have hcv : ∀ (i : Nat) (hi : i < cs.length), cv A i = cs[i] := fun i hi => by unfold cv; rw [hat i hi]
  have hty : Typed .char A := fun i v hv => by
    have hi : i < A.slots.size := (Array.getElem?_eq_some_iff.mp hv).1
    have q := K5 i hi
    rw [hv] at q
    rw [Option.some.inj q]
    exact K6 i hi
  refine Back.mono (back hZ hw wi E V C K1 hty S hz (by omega) (by omega) (fun i hi => by rw [hcv i (by omega)]; exact hall _ (List.getElem_mem _)) hfr hlo) (fun P a hp => ⟨hp.1, hp.2.1, hp.2.2.1, by rw [e]; exact hp.2.2.2⟩) (fun P a v B hp hq => ?_)
  obtain ⟨L, ⟨q1, q2, q3, q4, q5, q6, q7, ⟨V', v1, v2, v3, v4, v5⟩, q9⟩, hl, hc, hs⟩ := hq
  refine ⟨L, ⟨q1, q2, q3, q4, q5, q6, q7, ⟨V'.cls, v3, V', v1, rfl, by rw [v4, e, hlen], K4, fun i hi => ?_, fun i hi => ?_⟩, q9⟩, hl, hc, by rw [hs, e]⟩
  · have hi' : i < cs.length := by omega
    rw [v5 i (by omega), hcv i hi']; simp [List.getD_eq_getElem?_getD, hi']
  · have hi' : i < cs.length := by omega
    simp only [List.getD_eq_getElem?_getD, List.getElem?_map, List.getElem?_eq_getElem hi', Option.map_some, Option.getD_some]
    exact fits_lo8 _
end StrChars.Road
namespace StrChars.Road
open Jvm Sem ClassFile Op Lib Jvm.Stand Jvm.Free Jvm.Free.XT
/-- WHAT COMES BACK, in the writer's own shape -/
def QV (Z : State) (x : Addr) (N : Int32) (bs : List Int32) (h : Heap) (n0 : Nat) (v : Option Value) (h' : Heap) (L : List Loc) : Prop := v = none ∧ RoadKit.Fr n0 L ∧ RoadKit.Keep h h' [x] ∧ RoadKit.Exa Z h' x ST ∧ RoadKit.Fld Z h' x ST "coder" "B" (.int 0) ∧
  ∃ (t : Addr) (kb : ClassId), n0 ≤ t ∧ h.size ≤ t ∧ ¬ t = x ∧ RoadKit.Fld Z h' x ST "value" "[B" (.ref t) ∧ RoadKit.Arv Z h' t kb .byte N (bs.map Value.int) (.int 0)
/-- **new String(chars) AT A CALL, FOR THE WRITER**: a char[] of n known ints, each 0 to 255 -/
theorem backV {p : Program} {l : Launch} {e : Env} {R : Room} {s : State} {args : Array Value} {below : List Frame} {len W : Nat} {Z : State} {a0 : Array Value} {h : Heap} (hZ : Z.Warmed39 s.vm) (hw : ∀ d ∈ words, d.before a0 Z = true) {kI : Nat} (wi : (Jvm.Cond.instantiable ST kI).before a0 Z = true)
    {x b : Addr} {kC : ClassId} {cs bs : List Int32} {d v0 c0 : Value} {z N : Int32} {n n0 : Nat} (hx0 : n0 ≤ x) (hh0 : n0 ≤ h.size) (E : RoadKit.Exa Z h x ST) (V : RoadKit.Fld Z h x ST "value" "[B" v0) (C : RoadKit.Fld Z h x ST "coder" "B" c0) (K : RoadKit.Arv Z h b kC .char N (cs.map Value.int) d) (S : RoadKit.Sta Z h ST "COMPACT_STRINGS" "Z" (.int z)) (hz : ¬ z = 0)
    (hn : cs.length = n) (hN : N = Int32.ofNat n) (l0 : 0 < n) (l2 : n ≤ 4000) (hp : ∀ c ∈ cs, ¬ c < 0 ∧ ¬ (255 : Int32) < c) (hb : bs = cs.map (fun c => c.toInt8.toInt32)) (hfr : 4 ≤ R.frames) (hlo : W + 65 ≤ R.locals) :
    Back l R p e below s args (⟨"java/lang/String", "<init>", "([C)V"⟩ : MethodName) len W (fun P a => a = #[.ref x, .ref b] ∧ P.U.heap = h ∧ P.cells + 1 ≤ R.cells ∧ P.slots + n ≤ R.slots)
      (fun P _ v B => ∃ L, QV Z x N bs h n0 v B.U.heap L ∧ B.locs = P.locs ++ L ∧ B.cells = P.cells + 1 ∧ B.slots = P.slots + n) := by
  subst hn hN hb
  refine Back.mono (backArv hZ hw wi E V C K S hz (n32 (by omega)) l0 (by omega) (fun c hc => (hp c hc).2) hfr hlo) (fun P a hp => hp) (fun P a v B hp hq => ?_)
  obtain ⟨L, ⟨q1, q2, q3, q4, q5, q6, q7, ⟨kb, v1, v2⟩, q9⟩, hl, hc, hs⟩ := hq
  exact ⟨L, ⟨q1, fun y hy => by rw [q2 y hy]; exact hx0, q3, q5, q7, h.size, kb, hh0, Nat.le_refl _, Nat.ne_of_gt E.lt, q6, by rw [List.map_map]; exact v2⟩, hl, hc, hs⟩
end StrChars.Road
namespace StrChars
open Jvm Sem ClassFile Op Lib Jvm.Stand Jvm.Free.XT Jvm.Free.ALB Jvm.Free.JM Jvm.Free
open Jvm.Lib.Cold (StaticIs)
def hi8 (x : Int32) : Int32 := lo8 (x >>> ((8 : Int32) &&& 31))
/-- what StringUTF16.getChar makes of two bytes -/
def pairCh (u v : Int32) : Int32 := (((u &&& 255) <<< ((0 : Int32) &&& 31)) ||| ((v &&& 255) <<< ((8 : Int32) &&& 31))).toUInt32.toUInt16.toUInt32.toInt32
theorem shr0 (c : Int32) : c >>> ((0 : Int32) &&& 31) = c := by
  have e : ((0 : Int32) &&& 31) = 0 := by decide
  rw [e]
  apply Int32.toBitVec_inj.mp
  rw [Int32.toBitVec_shiftRight]
  have e1 : ((0 : Int32).toBitVec.smod 32) = 0#32 := by decide
  rw [e1, BitVec.sshiftRight_eq']
  exact BitVec.sshiftRight_zero
theorem lo8_and (x : Int32) : (lo8 x &&& 255).toBitVec.toNat = x.toBitVec.toNat % 256 := by
  have h : (lo8 x).toBitVec = (x.toBitVec.signExtend 8).signExtend 32 := by rw [lo8, Int8.toBitVec_toInt32, Int32.toBitVec_toInt8]
  rw [Int32.toBitVec_and, BitVec.toNat_and, h]
  have e : ((x.toBitVec.signExtend 8).signExtend 32).toNat % 256 = x.toBitVec.toNat % 256 := by
    rw [BitVec.toNat_signExtend]
    have hlt := x.toBitVec.isLt
    simp only [BitVec.toNat_setWidth, BitVec.toNat_signExtend]
    split <;> split <;> omega
  rw [← e]
  exact Nat.and_two_pow_sub_one_eq_mod _ 8
theorem pair_says {c : Int32} (h0 : ¬ c < 0) (h1 : ¬ 65535 < c) : pairCh (lo8 c) (hi8 c) = c := by
  rw [Int32.lt_iff_toInt_lt] at h0 h1
  have e0 : (0 : Int32).toInt = 0 := rfl
  have e1 : (65535 : Int32).toInt = 65535 := rfl
  have hc : c.toInt = c.toBitVec.toNat := by
    have := c.toBitVec.isLt
    have e : c.toInt = c.toBitVec.toInt := rfl
    rw [e] at h0 h1
    rw [e]
    rw [BitVec.toInt_eq_toNat_cond] at h0 h1 ⊢
    split at h0 <;> split <;> omega
  have hn : c.toBitVec.toNat < 65536 := by omega
  have a1 := lo8_and c
  have a2 : (hi8 c &&& 255).toBitVec.toNat = c.toBitVec.toNat / 256 := by
    rw [hi8, lo8_and]
    have e : ((8 : Int32) &&& 31) = 8 := by decide
    rw [e, Int32.toBitVec_shiftRight]
    have e2 : ((8 : Int32).toBitVec.smod 32) = 8#32 := by decide
    rw [e2, BitVec.sshiftRight_eq', BitVec.toNat_sshiftRight_of_msb_false (by rw [BitVec.msb_eq_false_iff_two_mul_lt]; omega)]
    show c.toBitVec.toNat >>> 8 % 256 = _
    rw [Nat.shiftRight_eq_div_pow]
    omega
  unfold pairCh
  apply Int32.toBitVec_inj.mp
  apply BitVec.eq_of_toNat_eq
  have f0 : ((0 : Int32) &&& 31) = 0 := by decide
  have f8 : ((8 : Int32) &&& 31) = 8 := by decide
  rw [f0, f8]
  have g : (((lo8 c &&& 255) <<< (0 : Int32)) ||| ((hi8 c &&& 255) <<< (8 : Int32))).toBitVec.toNat = c.toBitVec.toNat := by
    rw [Int32.toBitVec_or, Int32.toBitVec_shiftLeft, Int32.toBitVec_shiftLeft]
    have s0 : ((0 : Int32).toBitVec.smod 32) = 0#32 := by decide
    have s8 : ((8 : Int32).toBitVec.smod 32) = 8#32 := by decide
    rw [s0, s8, BitVec.toNat_or]
    simp only [BitVec.shiftLeft_eq', BitVec.toNat_shiftLeft, a1, a2]
    show (c.toBitVec.toNat % 256) <<< 0 % 2 ^ 32 ||| (c.toBitVec.toNat / 256) <<< 8 % 2 ^ 32 = _
    rw [Nat.shiftLeft_zero, Nat.mod_eq_of_lt (show c.toBitVec.toNat % 256 < 2 ^ 32 by omega), Nat.mod_eq_of_lt (show (c.toBitVec.toNat / 256) <<< 8 < 2 ^ 32 by rw [Nat.shiftLeft_eq]; omega), Nat.or_comm, ← Nat.shiftLeft_add_eq_or_of_lt (by omega), Nat.shiftLeft_eq]
    omega
  show BitVec.toNat (((((lo8 c &&& 255) <<< (0 : Int32)) ||| ((hi8 c &&& 255) <<< (8 : Int32))).toBitVec.setWidth 16).setWidth 32) = _
  rw [BitVec.toNat_setWidth, BitVec.toNat_setWidth, g]
  omega
end StrChars
namespace StrChars
open Jvm Sem ClassFile Op Lib Jvm.Stand Jvm.Free.XT Jvm.Free.ALB Jvm.Free.JM Jvm.Free
open Jvm.Lib.Cold (StaticIs)
theorem shr1 {n : Nat} (h : 2 * n < 2 ^ 31) : Int32.ofNat (2 * n) >>> ((1 : Int32) &&& 31) = Int32.ofNat n := by
  have e : ((1 : Int32) &&& 31) = 1 := by decide
  rw [e]
  apply Int32.toBitVec_inj.mp
  rw [Int32.toBitVec_shiftRight]
  have e1 : ((1 : Int32).toBitVec.smod 32) = 1#32 := by decide
  have hm : (BitVec.ofNat 32 (2 * n)).toNat = 2 * n := by rw [BitVec.toNat_ofNat, Nat.mod_eq_of_lt (by omega)]
  rw [e1, BitVec.sshiftRight_eq']
  apply BitVec.eq_of_toNat_eq
  show ((BitVec.ofNat 32 (2 * n)).sshiftRight 1).toNat = (BitVec.ofNat 32 n).toNat
  rw [BitVec.toNat_sshiftRight_of_msb_false (by rw [BitVec.msb_eq_false_iff_two_mul_lt, hm]; omega), hm, BitVec.toNat_ofNat, Nat.shiftRight_eq_div_pow]
  omega
/-- charAt's cast of a byte read back -/
def chr8 (u : Int32) : Int32 := (u &&& 255).toUInt32.toUInt16.toUInt32.toInt32
theorem chr8_lo8 {c : Int32} (h0 : ¬ c < 0) (h1 : ¬ 255 < c) : chr8 (lo8 c) = c := by
  have t : ∀ k : Fin 256, (Int32.ofNat k.val).toUInt32.toUInt16.toUInt32.toInt32 = Int32.ofNat k.val := by decide +kernel
  unfold chr8
  rw [lo8_mask h0 h1]
  rw [Int32.lt_iff_toInt_lt] at h0 h1
  have e0 : (0 : Int32).toInt = 0 := rfl
  have e1 : (255 : Int32).toInt = 255 := rfl
  obtain ⟨k, hk⟩ : ∃ k : Nat, c.toInt = k := ⟨c.toInt.toNat, by omega⟩
  have hx : c = Int32.ofNat k := Int32.toInt_inj.mp (by rw [hk, Int32.toInt_ofNat_small (by omega)])
  rw [hx]
  exact t ⟨k, by omega⟩
theorem narrow_ch {c : Int32} (h0 : ¬ c < 0) (h1 : ¬ 65535 < c) : narrow .char (.int c) = .int c := by
  have q : narrow .char (.int (pairCh (lo8 c) (hi8 c))) = .int (pairCh (lo8 c) (hi8 c)) := narrow_c _
  rwa [pair_says h0 h1] at q
/-- the array's cell V codes the n chars f 0 .. f (n - 1) by the coder cd, as the JDK does: coder 1 just where some char is above 255 -/
def Cod (cd : Int32) (n : Nat) (f : Nat → Int32) (V : Cell) : Prop := (cd = 0 ∧ V.slots.size = n ∧ ∀ j, j < n → V.slots[j]? = some (.int (lo8 (f j))) ∧ ¬ 255 < f j) ∨ (cd = 1 ∧ V.slots.size = 2 * n ∧ (∀ j, j < n → V.slots[2 * j]? = some (.int (lo8 (f j))) ∧ V.slots[2 * j + 1]? = some (.int (hi8 (f j)))) ∧ ∃ j, j < n ∧ 255 < f j)
theorem Cod.cd {cd : Int32} {n : Nat} {f : Nat → Int32} {V : Cell} (h : Cod cd n f V) : cd = 0 ∨ cd = 1 := h.imp (fun q => q.1) fun q => q.1
theorem Cod.len {cd : Int32} {n : Nat} {f : Nat → Int32} {V : Cell} (h : Cod cd n f V) (hs : V.slots.size < 2 ^ 31) : Int32.ofNat V.slots.size >>> (cd &&& 31) = Int32.ofNat n := by
  rcases h with ⟨rfl, h, -⟩ | ⟨rfl, h, -⟩
  · rw [shr0, h]
  · rw [h, shr1 (by omega)]
/-- **x is a String of the n chars f 0 .. f (n - 1)**, Latin-1 or UTF-16; its array at t has the cell V -/
def Txt (x t : Addr) (V : Cell) (cd : Int32) (n : Nat) (f : Nat → Int32) (U : State) : Prop := Exact "java/lang/String" x U ∧ Has x "java/lang/String" "value" "[B" (.ref t) U ∧ Has x "java/lang/String" "coder" "B" (.int cd) U ∧ XT.Arr .byte t V U ∧ Cod cd n f V ∧ ∀ j, j < n → ¬ f j < 0 ∧ ¬ 65535 < f j
theorem Txt.mv {x t : Addr} {V : Cell} {cd : Int32} {n : Nat} {f : Nat → Int32} {U U' : State} (h : Txt x t V cd n f U) (hal : U.vm.Alike U'.vm) (hh : U'.heap = U.heap) : Txt x t V cd n f U' := ⟨h.1.mv hal hh, h.2.1.mv hal hh, h.2.2.1.mv hal hh, h.2.2.2.1.mv hal hh, h.2.2.2.2⟩
namespace Cdr
def yN : MethodName := ⟨"java/lang/String", "coder", "()B"⟩
abbrev yB : ByteArray := jdk_42_method_152_code
theorem d0 : decode yB 0 = .ok (.getstatic 38, 3) := by decide +kernel
theorem d3 : decode yB 3 = .ok (.ifCond (.eq) 10, 3) := by decide +kernel
theorem d6 : decode yB 6 = .ok (.aload_n 0, 1) := by decide +kernel
theorem d7 : decode yB 7 = .ok (.getfield 15, 3) := by decide +kernel
theorem d10 : decode yB 10 = .ok (.goto 4, 3) := by decide +kernel
theorem d14 : decode yB 14 = .ok (.ireturn, 1) := by decide +kernel
def site : List Cond := [.fieldLink "java/lang/String" 38 "java/lang/String" "COMPACT_STRINGS" "Z", .fieldLink "java/lang/String" 15 "java/lang/String" "coder" "B"]
def tab : Cond := tabOf yN yB 1 (some .byte) site
def P (x : Addr) (cd z : Int32) (args : Array Value) (s : State) : Prop := args = #[.ref x] ∧ Has x "java/lang/String" "coder" "B" (.int cd) s ∧ (cd = 0 ∨ cd = 1) ∧ StaticIs s "java/lang/String" "COMPACT_STRINGS" "Z" (.int z) ∧ ¬ z = 0
def E (cd : Int32) (r : Option Value) (s u : State) : Prop := XT.PureE (some (.int cd)) r s u
theorem law (l : Launch) (x : Addr) (cd z : Int32) : Law l yN 1 0 0 0 yB 1 (some .byte) site (P x cd z) (E cd) [] 0 0 := by
  refine Law.of_walk (plainFor_of_name (by decide +kernel)) (by decide +kernel) (by decide +kernel) (by decide) (fun _ _ h => by rw [h.1]; rfl) (fun _ U U' hal hh h => ⟨h.1, h.2.1.mv hal hh, h.2.2.1, h.2.2.2.1.there hal hh, h.2.2.2.2⟩) (fun r U U' V V' h1 hal h2 h => XT.PureE.mv r U U' V V' h1 hal h2 h) ?_
  intro p e s m args below meth c s₁ X0 hexec hbytes hml hret hlk hnm hown hh0 W hP
  obtain ⟨rfl, hx, hc, s1, hz⟩ := hP
  have c1 : Steps p.tables e below (s₁.setTop (entryFrame m #[.ref x] 1)) (s₁.setTop (mkF m 0 #[.val (.ref x)] [])) := entry rfl
  obtain ⟨T2, X2, q2, st2⟩ := X0.sget hexec hown (wk W (.fieldLink "java/lang/String" 38 "java/lang/String" "COMPACT_STRINGS" "Z")) s1 (fun _ _ h => by rw [hh0]; exact h) (g := (mkF m 0 #[.val (.ref x)] [])) rfl (hb hbytes d0)
  have hh2 := q2.trans hh0
  have c3 : Steps p.tables e below (s₁.setTop (entryFrame m #[.ref x] 1)) (T2.setTop (mkF m 7 #[.val (.ref x)] [.ref x])) := (c1.trans (st2 _ (Steps.refl _))).trans (by
    refine XS.ifNo X2.here hexec rfl (hb hbytes d3) rfl (i0_eq_f hz) ?_
    refine XS.aloadN X2.here hexec rfl (hb hbytes d6) rfl rfl ?_
    exact Steps.refl _)
  obtain ⟨T4, X4, q4, st4⟩ := X2.hget hexec hown (wk W (.fieldLink "java/lang/String" 15 "java/lang/String" "coder" "B")) (hx.mv X2.warmed.alike hh2) (g := (mkF m 7 #[.val (.ref x)] [.ref x])) rfl (rest := []) rfl (hb hbytes d7)
  have c5 : Steps p.tables e below (s₁.setTop (entryFrame m #[.ref x] 1)) (T4.setTop (mkF m 14 #[.val (.ref x)] [.int cd])) := (c3.trans (st4 _ (Steps.refl _))).trans (by
    refine XS.goto X4.here hexec rfl (pc0 := 10) rfl (hb hbytes d10) (by decide) rfl ?_
    exact Steps.refl _)
  exact ⟨T4, some (.int cd), _, _, _, X4, rfl, rfl, rfl, (fun h => by cases h), ⟨rfl, q4.trans hh2⟩, fun fs hl => c5.trans (X4.ireturnOut hexec hret (by rcases hc with rfl | rfl <;> rfl) (Or.inr (Or.inr (Or.inl rfl))) (hb hbytes d14) hl)⟩
end Cdr
namespace Len
def yN : MethodName := ⟨"java/lang/String", "length", "()I"⟩
abbrev yB : ByteArray := jdk_42_method_54_code
theorem d0 : decode yB 0 = .ok (.aload_n 0, 1) := by decide +kernel
theorem d1 : decode yB 1 = .ok (.getfield 9, 3) := by decide +kernel
theorem d4 : decode yB 4 = .ok (.arraylength, 1) := by decide +kernel
theorem d5 : decode yB 5 = .ok (.aload_n 0, 1) := by decide +kernel
theorem d6 : decode yB 6 = .ok (.invokevirtual 335, 3) := by decide +kernel
theorem d9 : decode yB 9 = .ok (.ishr, 1) := by decide +kernel
theorem d10 : decode yB 10 = .ok (.ireturn, 1) := by decide +kernel
def site : List Cond := [.fieldLink "java/lang/String" 9 "java/lang/String" "value" "[B", Cdr.tab] ++ virtW "java/lang/String" 335 "java/lang/String" Cdr.yN Cdr.yN
def tab : Cond := tabOf yN yB 1 (some .int) site
def P (x t : Addr) (V : Cell) (cd : Int32) (n : Nat) (f : Nat → Int32) (z : Int32) (args : Array Value) (s : State) : Prop := args = #[.ref x] ∧ Txt x t V cd n f s ∧ StaticIs s "java/lang/String" "COMPACT_STRINGS" "Z" (.int z) ∧ ¬ z = 0
def E (n : Nat) (r : Option Value) (s u : State) : Prop := XT.PureE (some (.int (Int32.ofNat n))) r s u
/-- length() of a String of n chars, in either coding -/
theorem law (l : Launch) (x t : Addr) (V : Cell) (cd : Int32) (n : Nat) (f : Nat → Int32) (z : Int32) : Law l yN 1 0 1 13 yB 1 (some .int) site (P x t V cd n f z) (E n) [] 0 0 := by
  refine Law.of_walk (plainFor_of_name (by decide +kernel)) (by decide +kernel) (by decide +kernel) (by decide) (fun _ _ h => by rw [h.1]; rfl) (fun _ U U' hal hh h => ⟨h.1, h.2.1.mv hal hh, h.2.2.1.there hal hh, h.2.2.2⟩) (fun r U U' V V' h1 hal h2 h => XT.PureE.mv r U U' V V' h1 hal h2 h) ?_
  intro p e s m args below meth c s₁ X0 hexec hbytes hml hret hlk hnm hown hh0 W hP
  obtain ⟨rfl, hx, s1, hz⟩ := hP
  have v31 := hx.2.2.2.1.2.2.2
  have c1 : Steps p.tables e below (s₁.setTop (entryFrame m #[.ref x] 1)) (s₁.setTop (mkF m 1 #[.val (.ref x)] [.ref x])) := Steps.trans (entry rfl) (by
    show Steps p.tables e below (s₁.setTop (mkF m 0 #[.val (.ref x)] [])) _
    refine XS.aloadN X0.here hexec rfl (hb hbytes d0) rfl rfl ?_
    exact Steps.refl _)
  obtain ⟨T2, X2, q2, st2⟩ := X0.hget hexec hown (wk W (.fieldLink "java/lang/String" 9 "java/lang/String" "value" "[B")) (hx.mv X0.warmed.alike hh0).2.1 (g := (mkF m 1 #[.val (.ref x)] [.ref x])) rfl (rest := []) rfl (hb hbytes d1)
  have hh2 := q2.trans hh0
  have hx2 := hx.mv X2.warmed.alike hh2
  have c3 : Steps p.tables e below (s₁.setTop (entryFrame m #[.ref x] 1)) (T2.setTop (mkF m 6 #[.val (.ref x)] [.ref x, .int (Int32.ofNat V.slots.size)])) := (c1.trans (st2 _ (Steps.refl _))).trans (by
    refine X2.alen hexec hx2.2.2.2.1 rfl rfl (hb hbytes d4) ?_
    refine XS.aloadN X2.here hexec rfl (hb hbytes d5) rfl rfl ?_
    exact Steps.refl _)
  obtain ⟨v4, T4, X4, E4, g4⟩ := X2.callV hexec (Cdr.law l x cd z) hown (wks W (virtW "java/lang/String" 335 "java/lang/String" Cdr.yN Cdr.yN)) rfl (by decide) (wk W Cdr.tab) (W := 1) (Nat.le_of_ble_eq_true rfl) (Nat.le_of_ble_eq_true rfl) (Nat.le_refl _) (Nat.le_refl _) (hx2.1.fc X2.warmed.alike) hx2.1.is (g := (mkF m 6 #[.val (.ref x)] [.ref x, .int (Int32.ofNat V.slots.size)])) rfl (by rw [hml]; rfl) c3 (argsL := []) (rest := [.int (Int32.ofNat V.slots.size)]) rfl rfl (by show 2 * 0 + (1 + 0) ≤ _; decide) (hb hbytes d6) (⟨rfl, hx2.2.2.1, hx.2.2.2.2.1.cd, s1.there X2.warmed.alike hh2, hz⟩)
  obtain ⟨rfl, q4⟩ := E4
  have c5 : Steps p.tables e below (s₁.setTop (entryFrame m #[.ref x] 1)) (T4.setTop (mkF m 10 #[.val (.ref x)] [.int (Int32.ofNat V.slots.size >>> (cd &&& 31))])) := Steps.trans g4 (by
    refine ishr X4.here hexec rfl (hb hbytes d9) rfl ?_
    exact Steps.refl _)
  rw [hx.2.2.2.2.1.len v31] at c5
  exact ⟨T4, some (.int (Int32.ofNat n)), _, _, _, X4, rfl, rfl, rfl, (fun h => by cases h), ⟨rfl, q4.trans hh2⟩, fun fs hl => c5.trans (X4.ireturnOut hexec hret rfl (Or.inl rfl) (hb hbytes d10) hl)⟩
theorem pays {l : Launch} {R : Room} {p : Program} {e : Env} {below : List Frame} {s : State} {sargs : Array Value} {len W : Nat} (x t : Addr) (V : Cell) (cd : Int32) (n : Nat) (f : Nat → Int32) (z : Int32) (htab : tab.before sargs s = true) (hfr : 2 ≤ R.frames) (hlo : W + 25 ≤ R.locals) :
    Back l R p e below s sargs yN len W (fun A₁ a₁ => A₁.cells + 0 ≤ R.cells ∧ A₁.slots + 0 ≤ R.slots ∧ P x t V cd n f z a₁ A₁.U) (fun A₁ _ v₁ B₁ => E n v₁ A₁.U B₁.U ∧ B₁.locs = A₁.locs ++ [] ∧ B₁.cells = A₁.cells + 0 ∧ B₁.slots = A₁.slots + 0) :=
  (law l x t V cd n f z).pays htab hfr (by omega)
end Len
namespace IsL
def yN : MethodName := ⟨"java/lang/String", "isLatin1", "()Z"⟩
abbrev yB : ByteArray := jdk_42_method_154_code
theorem d0 : decode yB 0 = .ok (.getstatic 38, 3) := by decide +kernel
theorem d3 : decode yB 3 = .ok (.ifCond (.eq) 14, 3) := by decide +kernel
theorem d6 : decode yB 6 = .ok (.aload_n 0, 1) := by decide +kernel
theorem d7 : decode yB 7 = .ok (.getfield 15, 3) := by decide +kernel
theorem d10 : decode yB 10 = .ok (.ifCond (.ne) 7, 3) := by decide +kernel
theorem d13 : decode yB 13 = .ok (.iconst 1, 1) := by decide +kernel
theorem d14 : decode yB 14 = .ok (.goto 4, 3) := by decide +kernel
theorem d17 : decode yB 17 = .ok (.iconst 0, 1) := by decide +kernel
theorem d18 : decode yB 18 = .ok (.ireturn, 1) := by decide +kernel
def site : List Cond := [.fieldLink "java/lang/String" 38 "java/lang/String" "COMPACT_STRINGS" "Z", .fieldLink "java/lang/String" 15 "java/lang/String" "coder" "B"]
def tab : Cond := tabOf yN yB 1 (some .boolean) site
def P (x : Addr) (cd z : Int32) (args : Array Value) (s : State) : Prop := args = #[.ref x] ∧ Has x "java/lang/String" "coder" "B" (.int cd) s ∧ (cd = 0 ∨ cd = 1) ∧ StaticIs s "java/lang/String" "COMPACT_STRINGS" "Z" (.int z) ∧ ¬ z = 0
def E (cd : Int32) (r : Option Value) (s u : State) : Prop := XT.PureE (some (.int (1 - cd))) r s u
theorem law (l : Launch) (x : Addr) (cd z : Int32) : Law l yN 1 0 0 0 yB 1 (some .boolean) site (P x cd z) (E cd) [] 0 0 := by
  refine Law.of_walk (plainFor_of_name (by decide +kernel)) (by decide +kernel) (by decide +kernel) (by decide) (fun _ _ h => by rw [h.1]; rfl) (fun _ U U' hal hh h => ⟨h.1, h.2.1.mv hal hh, h.2.2.1, h.2.2.2.1.there hal hh, h.2.2.2.2⟩) (fun r U U' V V' h1 hal h2 h => XT.PureE.mv r U U' V V' h1 hal h2 h) ?_
  intro p e s m args below meth c s₁ X0 hexec hbytes hml hret hlk hnm hown hh0 W hP
  obtain ⟨rfl, hx, hc, s1, hz⟩ := hP
  have c1 : Steps p.tables e below (s₁.setTop (entryFrame m #[.ref x] 1)) (s₁.setTop (mkF m 0 #[.val (.ref x)] [])) := entry rfl
  obtain ⟨T2, X2, q2, st2⟩ := X0.sget hexec hown (wk W (.fieldLink "java/lang/String" 38 "java/lang/String" "COMPACT_STRINGS" "Z")) s1 (fun _ _ h => by rw [hh0]; exact h) (g := (mkF m 0 #[.val (.ref x)] [])) rfl (hb hbytes d0)
  have hh2 := q2.trans hh0
  have c3 : Steps p.tables e below (s₁.setTop (entryFrame m #[.ref x] 1)) (T2.setTop (mkF m 7 #[.val (.ref x)] [.ref x])) := (c1.trans (st2 _ (Steps.refl _))).trans (by
    refine XS.ifNo X2.here hexec rfl (hb hbytes d3) rfl (i0_eq_f hz) ?_
    refine XS.aloadN X2.here hexec rfl (hb hbytes d6) rfl rfl ?_
    exact Steps.refl _)
  obtain ⟨T4, X4, q4, st4⟩ := X2.hget hexec hown (wk W (.fieldLink "java/lang/String" 15 "java/lang/String" "coder" "B")) (hx.mv X2.warmed.alike hh2) (g := (mkF m 7 #[.val (.ref x)] [.ref x])) rfl (rest := []) rfl (hb hbytes d7)
  have c5 : Steps p.tables e below (s₁.setTop (entryFrame m #[.ref x] 1)) (T4.setTop (mkF m 10 #[.val (.ref x)] [.int cd])) := c3.trans (st4 _ (Steps.refl _))
  have c6 : Steps p.tables e below (s₁.setTop (entryFrame m #[.ref x] 1)) (T4.setTop (mkF m 18 #[.val (.ref x)] [.int (1 - cd)])) := by
    rcases hc with rfl | rfl
    · exact c5.trans (by
        refine XS.ifNo X4.here hexec rfl (hb hbytes d10) rfl (i0_ne_f rfl) ?_
        refine iconstV X4.here hexec rfl 1 (hb hbytes d13) (by decide) ?_
        refine XS.goto X4.here hexec rfl (pc0 := 14) rfl (hb hbytes d14) (by decide) rfl ?_
        exact Steps.refl _)
    · exact c5.trans (by
        refine XS.ifYes X4.here hexec rfl (pc0 := 10) rfl (hb hbytes d10) rfl (i0_ne_t (by decide)) (by decide) rfl ?_
        refine iconstV X4.here hexec rfl 0 (hb hbytes d17) (by decide) ?_
        exact Steps.refl _)
  exact ⟨T4, some (.int (1 - cd)), _, _, _, X4, rfl, rfl, rfl, (fun h => by cases h), ⟨rfl, q4.trans hh2⟩, fun fs hl => c6.trans (X4.ireturnOut hexec hret (by rcases hc with rfl | rfl <;> rfl) (Or.inr (Or.inl rfl)) (hb hbytes d18) hl)⟩
end IsL
namespace LChA
def yN : MethodName := ⟨"java/lang/StringLatin1", "charAt", "([BI)C"⟩
abbrev yB : ByteArray := jdk_43_method_2_code
theorem d0 : decode yB 0 = .ok (.iload_n 1, 1) := by decide +kernel
theorem d1 : decode yB 1 = .ok (.aload_n 0, 1) := by decide +kernel
theorem d2 : decode yB 2 = .ok (.arraylength, 1) := by decide +kernel
theorem d3 : decode yB 3 = .ok (.invokestatic 9, 3) := by decide +kernel
theorem d6 : decode yB 6 = .ok (.aload_n 0, 1) := by decide +kernel
theorem d7 : decode yB 7 = .ok (.iload_n 1, 1) := by decide +kernel
theorem d8 : decode yB 8 = .ok (.baload, 1) := by decide +kernel
theorem d9 : decode yB 9 = .ok (.sipush 255, 3) := by decide +kernel
theorem d12 : decode yB 12 = .ok (.iand, 1) := by decide +kernel
theorem d13 : decode yB 13 = .ok (.i2c, 1) := by decide +kernel
theorem d14 : decode yB 14 = .ok (.ireturn, 1) := by decide +kernel
def site : List Cond := [JO.Str_checkIndex.tab] ++ staticW "java/lang/StringLatin1" 9 JO.Str_checkIndex.yN
def tab : Cond := tabOf yN yB 2 (some .char) site
def P (t : Addr) (V : Cell) (i : Nat) (u : Int32) (fm : Value) (args : Array Value) (s : State) : Prop := args = #[.ref t, .int (Int32.ofNat i)] ∧ XT.Arr .byte t V s ∧ V.slots[i]? = some (.int u) ∧ (StaticIs s "jdk/internal/util/Preconditions" "SIOOBE_FORMATTER" "Ljava/util/function/BiFunction;" fm ∧ fm.isRef = true)
def E (u : Int32) (r : Option Value) (s w : State) : Prop := XT.PureE (some (.int (chr8 u))) r s w
theorem law (l : Launch) (t : Addr) (V : Cell) (i : Nat) (u : Int32) (fm : Value) : Law l yN 2 2 2 27 yB 2 (some .char) site (P t V i u fm) (E u) [] 0 0 := by
  refine Law.of_walk (plainFor_of_name (by decide +kernel)) (by decide +kernel) (by decide +kernel) (by decide) (fun _ _ h => by rw [h.1]; rfl) (fun _ U U' hal hh h => ⟨h.1, h.2.1.mv hal hh, h.2.2.1, h.2.2.2.1.there hal hh, h.2.2.2.2⟩) (fun r U U' V V' h1 hal h2 h => XT.PureE.mv r U U' V V' h1 hal h2 h) ?_
  intro p e s m args below meth c s₁ X0 hexec hbytes hml hret hlk hnm hown hh0 W hP
  obtain ⟨rfl, hV, hu, s1, rf⟩ := hP
  have v31 := hV.2.2.2
  have hi : i < V.slots.size := (Array.getElem?_eq_some_iff.mp hu).1
  have c1 : Steps p.tables e below (s₁.setTop (entryFrame m #[.ref t, .int (Int32.ofNat i)] 2)) (s₁.setTop (mkF m 0 #[.val (.ref t), .val (.int (Int32.ofNat i))] [])) := entry rfl
  have c2 : Steps p.tables e below (s₁.setTop (entryFrame m #[.ref t, .int (Int32.ofNat i)] 2)) (s₁.setTop (mkF m 3 #[.val (.ref t), .val (.int (Int32.ofNat i))] [.int (Int32.ofNat V.slots.size), .int (Int32.ofNat i)])) := c1.trans (by
    refine XS.iloadN X0.here hexec rfl (hb hbytes d0) rfl ?_
    refine XS.aloadN X0.here hexec rfl (hb hbytes d1) rfl rfl ?_
    refine X0.alen hexec (hV.mv X0.warmed.alike hh0) rfl rfl (hb hbytes d2) ?_
    exact Steps.refl _)
  obtain ⟨v3, T3, X3, E3, g3⟩ := X0.callS hexec (JO.Str_checkIndex.law l (Int32.ofNat i) (Int32.ofNat V.slots.size) fm) hown (wks W (staticW "java/lang/StringLatin1" 9 JO.Str_checkIndex.yN)) (wk W JO.Str_checkIndex.tab) (W := 0) (Nat.le_of_ble_eq_true rfl) (Nat.le_of_ble_eq_true rfl) (Nat.le_refl _) (Nat.le_refl _) (g := (mkF m 3 #[.val (.ref t), .val (.int (Int32.ofNat i))] [.int (Int32.ofNat V.slots.size), .int (Int32.ofNat i)])) rfl (by rw [hml]; rfl) c2 (argsL := [.int (Int32.ofNat i), .int (Int32.ofNat V.slots.size)]) (rest := []) rfl rfl (by show 2 * 0 + 0 ≤ _; decide) (hb hbytes d3) (⟨rfl, rf, s1.there X0.warmed.alike hh0, Int32.ofNat_not_neg (by omega), lt32 v31 hi⟩)
  obtain ⟨rfl, q3⟩ := E3
  have hh3 := q3.trans hh0
  have c4 : Steps p.tables e below (s₁.setTop (entryFrame m #[.ref t, .int (Int32.ofNat i)] 2)) (T3.setTop (mkF m 14 #[.val (.ref t), .val (.int (Int32.ofNat i))] [.int (chr8 u)])) := Steps.trans g3 (by
    refine XS.aloadN X3.here hexec rfl (hb hbytes d6) rfl rfl ?_
    refine XS.iloadN X3.here hexec rfl (hb hbytes d7) rfl ?_
    refine X3.aget hexec (hV.mv X3.warmed.alike hh3) rfl hu rfl rfl (hb hbytes d8) ?_
    refine sipushV X3.here hexec rfl 255 (hb hbytes d9) (by decide) ?_
    refine XS.iand X3.here hexec rfl (hb hbytes d12) rfl ?_
    refine i2c X3.here hexec rfl (hb hbytes d13) rfl ?_
    exact Steps.refl _)
  exact ⟨T3, some (.int (chr8 u)), _, _, _, X3, rfl, rfl, rfl, (fun h => by cases h), ⟨rfl, hh3⟩, fun fs hl => c4.trans (X3.ireturnOut hexec hret (narrow_c _) (Or.inr (Or.inr (Or.inr (Or.inl rfl)))) (hb hbytes d14) hl)⟩
end LChA
end StrChars
namespace StrChars.Road
open Jvm Sem ClassFile Op Lib Jvm.Stand Jvm.Free Jvm.Free.XT
open Jvm.Lib.Cold (StaticIs)
theorem consq {a : Array Value} {s : State} {c : Jvm.Cond} {L : List Jvm.Cond} (h0 : c.before a s = true) (h : ∀ w ∈ L, w.before a s = true) : ∀ w ∈ c :: L, w.before a s = true := fun w hw => (List.mem_cons.mp hw).elim (fun e => e ▸ h0) (h w)
/-- the words of String.length(), either coding -/
abbrev wordsLen : List Jvm.Cond := [.code Len.yN Len.yB 1 (some .int), .initialized ST, .fieldLink ST 9 ST "value" "[B", .fieldLink ST 38 ST "COMPACT_STRINGS" "Z", .fieldLink ST 15 ST "coder" "B", .code Cdr.yN Cdr.yB 1 (some .byte), .methodLink ST 335 Cdr.yN, .declares Cdr.yN, .selects ST Cdr.yN Cdr.yN, .instanceMethod Cdr.yN]
theorem tabLen_of {a : Array Value} {s : State} (h : ∀ w ∈ wordsLen, w.before a s = true) : Len.tab.before a s = true := by
  have hc : Cdr.tab.before a s = true := unparts (wk h (.code Cdr.yN Cdr.yB 1 (some .byte))) (wks h (.initialized Cdr.yN.cls :: Cdr.site))
  have q := consq hc h
  exact unparts (wk q (.code Len.yN Len.yB 1 (some .int))) (wks q (.initialized Len.yN.cls :: Len.site))
theorem movedLen {Z s : State} {a0 args : Array Value} (hZ : Z.Warmed39 s.vm) (hw : ∀ d ∈ wordsLen, d.before a0 Z = true) : ∀ d ∈ wordsLen, d.before args s = true := fun d hd => by
  have q := hw d hd
  have t : ∀ d ∈ wordsLen, d = .arrayClass .byte ∨ (d.onTables && d.keepsFace) = true := by decide +kernel
  rcases t d hd with rfl | t
  · exact RoadKit.mvA hZ q
  · exact RoadKit.mv hZ q t
/-- the bytes of the chars cs, low before high -/
def wideBytes : List Int32 → List Value
  | [] => []
  | c :: cs => .int (lo8 c) :: .int (hi8 c) :: wideBytes cs
theorem wide_lo (d : Value) : ∀ (cs : List Int32) (j : Nat), j < cs.length → (wideBytes cs).getD (2 * j) d = .int (lo8 (cs.getD j 0))
  | [], j, h => absurd h (Nat.not_lt_zero j)
  | c :: cs, 0, _ => rfl
  | c :: cs, j + 1, h => by
    have q := wide_lo d cs j (by simpa using h)
    rw [show 2 * (j + 1) = 2 * j + 1 + 1 from by omega]
    simpa [wideBytes] using q
theorem wide_hi (d : Value) : ∀ (cs : List Int32) (j : Nat), j < cs.length → (wideBytes cs).getD (2 * j + 1) d = .int (hi8 (cs.getD j 0))
  | [], j, h => absurd h (Nat.not_lt_zero j)
  | c :: cs, 0, _ => rfl
  | c :: cs, j + 1, h => by
    have q := wide_hi d cs j (by simpa using h)
    rw [show 2 * (j + 1) + 1 = 2 * j + 1 + 1 + 1 from by omega]
    simpa [wideBytes] using q
theorem low_at (d : Value) (cs : List Int32) (j : Nat) (h : j < cs.length) : (cs.map fun c => Value.int (lo8 c)).getD j d = .int (lo8 (cs.getD j 0)) := by
  simp [List.getD_eq_getElem?_getD, h]
/-- an array of N2 bytes vs codes the chars cs by the coder cd -/
def CodA (cs : List Int32) (cd N2 : Int32) (vs : List Value) : Prop := (cd = 0 ∧ N2 = Int32.ofNat cs.length ∧ vs = (cs.map fun c => Value.int (lo8 c)) ∧ ∀ c ∈ cs, ¬ 255 < c) ∨ (cd = 1 ∧ N2 = Int32.ofNat (2 * cs.length) ∧ vs = wideBytes cs ∧ ∃ c ∈ cs, 255 < c)
theorem CodA.cod {cs : List Int32} {cd N2 : Int32} {vs : List Value} {V : Cell} (h : CodA cs cd N2 vs) (hn : 2 * cs.length < 2 ^ 31) (hs : V.slots.size = N2.toNatClampNeg) (hv : RoadKit.Has V vs (.int 0)) : Cod cd cs.length (fun j => cs.getD j 0) V := by
  rcases h with ⟨rfl, rfl, rfl, h⟩ | ⟨rfl, rfl, rfl, c, hc, hw⟩
  · rw [n32 (by omega)] at hs
    exact Or.inl ⟨rfl, hs, fun j hj => ⟨by rw [hv j (by omega), low_at _ _ _ hj], by
      have e : cs.getD j 0 = cs[j] := by simp [List.getD_eq_getElem?_getD, hj]
      show ¬ 255 < cs.getD j 0
      rw [e]; exact h _ (List.getElem_mem _)⟩⟩
  · rw [n32 (by omega)] at hs
    obtain ⟨j, hj, rfl⟩ := List.getElem_of_mem hc
    exact Or.inr ⟨rfl, hs, fun j hj => ⟨by rw [hv _ (by omega), wide_lo _ _ _ hj], by rw [hv _ (by omega), wide_hi _ _ _ hj]⟩, j, hj, by
      have e : cs.getD j 0 = cs[j] := by simp [List.getD_eq_getElem?_getD, hj]
      show 255 < cs.getD j 0
      rw [e]; exact hw⟩
/-- an object of exactly java/lang/String, its two fields found: as the laws ask it -/
theorem strObj {Z U : State} {a0 : Array Value} {kI : Nat} (wi : (Jvm.Cond.instantiable ST kI).before a0 Z = true) (al : Z.vm.Alike U.vm) {x : Addr} {v0 c0 : Value} (E : RoadKit.Exa Z U.heap x ST) (V : RoadKit.Fld Z U.heap x ST "value" "[B" v0) (C : RoadKit.Fld Z U.heap x ST "coder" "B" c0) :
    ∃ (D : Cell) (fV fC : Field), Blank ST x D U ∧ Found ST "value" "[B" fV U ∧ Found ST "coder" "B" fC U ∧ D.slots[fV.slot]? = some v0 ∧ D.slots[fC.slot]? = some c0 ∧ RoadKit.slotOf Z ST "value" "[B" = fV.slot ∧ RoadKit.slotOf Z ST "coder" "B" = fC.slot := by
  obtain ⟨D, cfV, kV, iV, fV, hD, gV, stV, knV, obV, asV, slV⟩ := V
  obtain ⟨D', cfC, kC, iC, fC, hD', gC, stC, -, -, asC, slC⟩ := C
  cases hD.symm.trans hD'
  obtain ⟨D2, kD, e1, e2, e3, e4, e5⟩ := E
  cases hD.symm.trans e1
  obtain ⟨c2, k2, i1, i2, i3, -⟩ := Cond.instantiable_spec wi
  cases e2.symm.trans i1
  cases e3.symm.trans i2
  obtain ⟨kU, u1, u2⟩ := al.2.2 _ _ e3
  exact ⟨D, fV, fC, ⟨hD, ⟨knV, fun q hq => by rw [hq] at obV; cases obV⟩, by rw [al.findClass]; exact e2, kU, u1, by rw [u2]; exact i3, by rw [u2]; exact e5 i3⟩, ⟨SBG.found_only al ⟨cfV, kV, iV, gV⟩, stV⟩, ⟨SBG.found_only al ⟨cfC, kC, iC, gC⟩, stC⟩, slV, slC, by simp [RoadKit.slotOf, gV], by simp [RoadKit.slotOf, gC]⟩
theorem sta_is {Z U : State} (al : Z.vm.Alike U.vm) {C n d : String} {v : Value} (S : RoadKit.Sta Z U.heap C n d v) : StaticIs U C n d v := by
  obtain ⟨cfS, iS, kS, fS, st, cS, t1, t2, t3, t4, t5, t6, t7⟩ := S
  exact StaticIs.there (s := { Z with heap := U.heap }) ⟨cfS, iS, kS, fS, st, cS, t1, t2, t3, t4, t5, (fun q => by rw [q] at t6; cases t6), t7⟩ al rfl
/-- **length() OF SUCH A STRING** -/
theorem lenW {p : Program} {l : Launch} {e : Env} {R : Room} {s : State} {args : Array Value} {below : List Frame} {len W : Nat} {Z : State} {a0 : Array Value} {h : Heap} (hZ : Z.Warmed39 s.vm) (hw : ∀ d ∈ wordsLen, d.before a0 Z = true) {kI : Nat} (wi : (Jvm.Cond.instantiable ST kI).before a0 Z = true)
    {x t : Addr} {kb : ClassId} {cs : List Int32} {cd N2 z : Int32} {vs : List Value} (E : RoadKit.Exa Z h x ST) (V : RoadKit.Fld Z h x ST "value" "[B" (.ref t)) (C : RoadKit.Fld Z h x ST "coder" "B" (.int cd)) (K : RoadKit.Arv Z h t kb .byte N2 vs (.int 0)) (hc : CodA cs cd N2 vs) (hb : ∀ c ∈ cs, ¬ c < 0 ∧ ¬ (65535 : Int32) < c)
    (S : RoadKit.Sta Z h ST "COMPACT_STRINGS" "Z" (.int z)) (hz : ¬ z = 0) (l2 : cs.length ≤ 4000) (hfr : 2 ≤ R.frames) (hlo : W + 25 ≤ R.locals) :
    Back l R p e below s args (⟨"java/lang/String", "length", "()I"⟩ : MethodName) len W (fun P a => a = #[.ref x] ∧ P.U.heap = h ∧ P.cells + 0 ≤ R.cells ∧ P.slots + 0 ≤ R.slots)
      (fun P _ v B => ∃ L, (v = some (.int (Int32.ofNat cs.length)) ∧ L = [] ∧ B.U.heap = h) ∧ B.locs = P.locs ++ L ∧ B.cells = P.cells + 0 ∧ B.slots = P.slots + 0) := by
  obtain ⟨A, K1, K2, K3, K4, K5, K6⟩ := K
  have hcod := hc.cod (by omega) K3 K5
  intro m meth c P g ig mk a X hg hsize hdg hW hn hp'
  obtain ⟨rfl, rfl, r1, r2⟩ := hp'
  have al : Z.vm.Alike P.U.vm := hZ.alike.trans X.warmed.alike
  obtain ⟨D, fV, fC, hB, F1, F2, g1, g2, -, -⟩ := strObj wi al E V C
  have hx : Txt x t A cd cs.length (fun j => cs.getD j 0) P.U := ⟨⟨_, hB.2.2.1, D, hB.1, rfl, by cases q : D.vm <;> first | rfl | exact absurd q (hB.2.1.2 _)⟩, Has.of hB F1 g1, Has.of hB F2 g2, ⟨K1.1, State.isArrayOf_alike al K1.2.1, K1.2.2, by rcases hcod with ⟨-, q, -⟩ | ⟨-, q, -⟩ <;> omega⟩, hcod, fun j hj => by
    have e : cs.getD j 0 = cs[j] := by simp [List.getD_eq_getElem?_getD, hj]
    show ¬ cs.getD j 0 < 0 ∧ ¬ 65535 < cs.getD j 0
    rw [e]; exact hb _ (List.getElem_mem _)⟩
  obtain ⟨v, B, X', ⟨⟨hv, hh⟩, hl, hk, hs⟩, st⟩ := Len.pays x t A cd cs.length (fun j => cs.getD j 0) z (tabLen_of (movedLen hZ hw)) hfr hlo m meth c P g ig mk _ X hg hsize hdg hW hn ⟨r1, r2, rfl, hx, sta_is al S, hz⟩
  exact ⟨v, B, X', ⟨[], ⟨hv, rfl, hh⟩, hl, hk, hs⟩, st⟩
end StrChars.Road
namespace StrChars
open Jvm Sem ClassFile Op Lib Jvm.Stand Jvm.Free.XT Jvm.Free.ALB Jvm.Free.JM Jvm.Free
open Jvm.Lib.Cold (StaticIs)
namespace Emp
def yN : MethodName := ⟨"java/lang/String", "isEmpty", "()Z"⟩
abbrev yB : ByteArray := jdk_42_method_55_code
theorem d0 : decode yB 0 = .ok (.aload_n 0, 1) := by decide +kernel
theorem d1 : decode yB 1 = .ok (.getfield 9, 3) := by decide +kernel
theorem d4 : decode yB 4 = .ok (.arraylength, 1) := by decide +kernel
theorem d5 : decode yB 5 = .ok (.ifCond (.ne) 7, 3) := by decide +kernel
theorem d8 : decode yB 8 = .ok (.iconst 1, 1) := by decide +kernel
theorem d9 : decode yB 9 = .ok (.goto 4, 3) := by decide +kernel
theorem d12 : decode yB 12 = .ok (.iconst 0, 1) := by decide +kernel
theorem d13 : decode yB 13 = .ok (.ireturn, 1) := by decide +kernel
def site : List Cond := [.fieldLink "java/lang/String" 9 "java/lang/String" "value" "[B"]
def tab : Cond := tabOf yN yB 1 (some .boolean) site
def P (x t : Addr) (V : Cell) (cd : Int32) (n : Nat) (f : Nat → Int32) (args : Array Value) (s : State) : Prop := args = #[.ref x] ∧ Txt x t V cd n f s
def E (n : Nat) (r : Option Value) (s u : State) : Prop := XT.PureE (some (.int (if n = 0 then 1 else 0))) r s u
/-- isEmpty() of a String of n chars -/
theorem law (l : Launch) (x t : Addr) (V : Cell) (cd : Int32) (n : Nat) (f : Nat → Int32) : Law l yN 1 0 0 0 yB 1 (some .boolean) site (P x t V cd n f) (E n) [] 0 0 := by
  refine Law.of_walk (plainFor_of_name (by decide +kernel)) (by decide +kernel) (by decide +kernel) (by decide) (fun _ _ h => by rw [h.1]; rfl) (fun _ U U' hal hh h => ⟨h.1, h.2.mv hal hh⟩) (fun r U U' V V' h1 hal h2 h => XT.PureE.mv r U U' V V' h1 hal h2 h) ?_
  intro p e s m args below meth c s₁ X0 hexec hbytes hml hret hlk hnm hown hh0 W hP
  obtain ⟨rfl, hx⟩ := hP
  have v31 := hx.2.2.2.1.2.2.2
  have c1 : Steps p.tables e below (s₁.setTop (entryFrame m #[.ref x] 1)) (s₁.setTop (mkF m 1 #[.val (.ref x)] [.ref x])) := Steps.trans (entry rfl) (by
    show Steps p.tables e below (s₁.setTop (mkF m 0 #[.val (.ref x)] [])) _
    refine XS.aloadN X0.here hexec rfl (hb hbytes d0) rfl rfl ?_
    exact Steps.refl _)
  obtain ⟨T2, X2, q2, st2⟩ := X0.hget hexec hown (wk W (.fieldLink "java/lang/String" 9 "java/lang/String" "value" "[B")) (hx.mv X0.warmed.alike hh0).2.1 (g := (mkF m 1 #[.val (.ref x)] [.ref x])) rfl (rest := []) rfl (hb hbytes d1)
  have hh2 := q2.trans hh0
  have hx2 := hx.mv X2.warmed.alike hh2
  have c3 : Steps p.tables e below (s₁.setTop (entryFrame m #[.ref x] 1)) (T2.setTop (mkF m 5 #[.val (.ref x)] [.int (Int32.ofNat V.slots.size)])) := (c1.trans (st2 _ (Steps.refl _))).trans (by
    refine X2.alen hexec hx2.2.2.2.1 rfl rfl (hb hbytes d4) ?_
    exact Steps.refl _)
  have hz : V.slots.size = 0 ↔ n = 0 := by
    rcases hx.2.2.2.2.1 with ⟨-, q, -⟩ | ⟨-, q, -⟩ <;> omega
  by_cases h0 : n = 0
  · have c4 : Steps p.tables e below (s₁.setTop (entryFrame m #[.ref x] 1)) (T2.setTop (mkF m 13 #[.val (.ref x)] [.int 1])) := c3.trans (by
      refine XS.ifNo X2.here hexec rfl (hb hbytes d5) rfl (i0_ne_f (by rw [hz.mpr h0]; rfl)) ?_
      refine iconstV X2.here hexec rfl 1 (hb hbytes d8) (by decide) ?_
      refine XS.goto X2.here hexec rfl (pc0 := 9) rfl (hb hbytes d9) (by decide) rfl ?_
      exact Steps.refl _)
    exact ⟨T2, some (.int 1), _, _, _, X2, rfl, rfl, rfl, (fun h => by cases h), ⟨by rw [if_pos h0], hh2⟩, fun fs hl => c4.trans (X2.ireturnOut hexec hret rfl (Or.inr (Or.inl rfl)) (hb hbytes d13) hl)⟩
  · have c4 : Steps p.tables e below (s₁.setTop (entryFrame m #[.ref x] 1)) (T2.setTop (mkF m 13 #[.val (.ref x)] [.int 0])) := c3.trans (by
      refine XS.ifYes X2.here hexec rfl (pc0 := 5) rfl (hb hbytes d5) rfl (i0_ne_t (nz32 v31 (by omega))) (by decide) rfl ?_
      refine iconstV X2.here hexec rfl 0 (hb hbytes d12) (by decide) ?_
      exact Steps.refl _)
    exact ⟨T2, some (.int 0), _, _, _, X2, rfl, rfl, rfl, (fun h => by cases h), ⟨by rw [if_neg h0], hh2⟩, fun fs hl => c4.trans (X2.ireturnOut hexec hret rfl (Or.inr (Or.inl rfl)) (hb hbytes d13) hl)⟩
theorem pays {l : Launch} {R : Room} {p : Program} {e : Env} {below : List Frame} {s : State} {sargs : Array Value} {len W : Nat} (x t : Addr) (V : Cell) (cd : Int32) (n : Nat) (f : Nat → Int32) (htab : tab.before sargs s = true) (hfr : 1 ≤ R.frames) (hlo : W + 12 ≤ R.locals) :
    Back l R p e below s sargs yN len W (fun A₁ a₁ => A₁.cells + 0 ≤ R.cells ∧ A₁.slots + 0 ≤ R.slots ∧ P x t V cd n f a₁ A₁.U) (fun A₁ _ v₁ B₁ => E n v₁ A₁.U B₁.U ∧ B₁.locs = A₁.locs ++ [] ∧ B₁.cells = A₁.cells + 0 ∧ B₁.slots = A₁.slots + 0) :=
  (law l x t V cd n f).pays htab hfr (by omega)
end Emp
/-- what place i of a byte[]'s cell holds -/
def yv (A : Cell) (i : Nat) : Int32 := match A.slots[i]? with | some (.int x) => x | _ => 0
theorem yv_get {a : Addr} {A : Cell} {U : State} (h : XT.Arr .byte a A U) (ht : Typed .byte A) {i : Nat} (hi : i < A.slots.size) : A.slots[i]? = some (.int (yv A i)) := by
  have e := Array.getElem?_eq_getElem hi
  have f := ht i _ e
  unfold yv; rw [e]
  generalize A.slots[i] = v at f
  cases v <;> simp [fits] at f ⊢
/-- the two arrays are equal, place for place -/
def EqC (A B : Cell) : Prop := A.slots.size = B.slots.size ∧ ∀ i, i < A.slots.size → yv A i = yv B i
/-- a boolean that says whether p -/
def Says01 (q : Prop) (r : Option Value) (s u : State) : Prop := ∃ v : Int32, r = some (.int v) ∧ u.heap = s.heap ∧ ((v = 1 ∧ q) ∨ (v = 0 ∧ ¬ q))
theorem Says01.mv {q : Prop} : ∀ r (U U' V V' : State), U'.heap = U.heap → V.vm.Alike V'.vm → V'.heap = V.heap → Says01 q r U V → Says01 q r U' V' :=
  fun r U U' V V' h1 _ h2 ⟨v, a, b, c⟩ => ⟨v, a, by rw [h1, h2]; exact b, c⟩
namespace LEq
def yN : MethodName := ⟨"java/lang/StringLatin1", "equals", "([B[B)Z"⟩
abbrev yB : ByteArray := jdk_43_method_13_code
theorem d0 : decode yB 0 = .ok (.aload_n 0, 1) := by decide +kernel
theorem d1 : decode yB 1 = .ok (.arraylength, 1) := by decide +kernel
theorem d2 : decode yB 2 = .ok (.aload_n 1, 1) := by decide +kernel
theorem d3 : decode yB 3 = .ok (.arraylength, 1) := by decide +kernel
theorem d4 : decode yB 4 = .ok (.if_icmp (.ne) 30, 3) := by decide +kernel
theorem d7 : decode yB 7 = .ok (.iconst 0, 1) := by decide +kernel
theorem d8 : decode yB 8 = .ok (.istore_n 2, 1) := by decide +kernel
theorem d9 : decode yB 9 = .ok (.iload_n 2, 1) := by decide +kernel
theorem d10 : decode yB 10 = .ok (.aload_n 0, 1) := by decide +kernel
theorem d11 : decode yB 11 = .ok (.arraylength, 1) := by decide +kernel
theorem d12 : decode yB 12 = .ok (.if_icmp (.ge) 20, 3) := by decide +kernel
theorem d15 : decode yB 15 = .ok (.aload_n 0, 1) := by decide +kernel
theorem d16 : decode yB 16 = .ok (.iload_n 2, 1) := by decide +kernel
theorem d17 : decode yB 17 = .ok (.baload, 1) := by decide +kernel
theorem d18 : decode yB 18 = .ok (.aload_n 1, 1) := by decide +kernel
theorem d19 : decode yB 19 = .ok (.iload_n 2, 1) := by decide +kernel
theorem d20 : decode yB 20 = .ok (.baload, 1) := by decide +kernel
theorem d21 : decode yB 21 = .ok (.if_icmp (.eq) 5, 3) := by decide +kernel
theorem d24 : decode yB 24 = .ok (.iconst 0, 1) := by decide +kernel
theorem d25 : decode yB 25 = .ok (.ireturn, 1) := by decide +kernel
theorem d26 : decode yB 26 = .ok (.iinc 2 1, 3) := by decide +kernel
theorem d29 : decode yB 29 = .ok (.goto (-20), 3) := by decide +kernel
theorem d32 : decode yB 32 = .ok (.iconst 1, 1) := by decide +kernel
theorem d33 : decode yB 33 = .ok (.ireturn, 1) := by decide +kernel
theorem d34 : decode yB 34 = .ok (.iconst 0, 1) := by decide +kernel
theorem d35 : decode yB 35 = .ok (.ireturn, 1) := by decide +kernel
def site : List Cond := []
def tab : Cond := tabOf yN yB 3 (some .boolean) site
def P (a : Addr) (A : Cell) (b : Addr) (B : Cell) (args : Array Value) (s : State) : Prop := args = #[.ref a, .ref b] ∧ XT.Arr .byte a A s ∧ Typed .byte A ∧ XT.Arr .byte b B s ∧ Typed .byte B
/-- whether two byte[] are equal, place for place -/
theorem law (l : Launch) (a : Addr) (A : Cell) (b : Addr) (B : Cell) : Law l yN 2 2 0 0 yB 3 (some .boolean) site (P a A b B) (Says01 (EqC A B)) [] 0 0 := by
  refine Law.of_walk (plainFor_of_name (by decide +kernel)) (by decide +kernel) (by decide +kernel) (by decide) (fun _ _ h => by rw [h.1]; rfl) (fun _ U U' hal hh h => ⟨h.1, h.2.1.mv hal hh, h.2.2.1, h.2.2.2.1.mv hal hh, h.2.2.2.2⟩) (fun r U U' V V' h1 hal h2 h => Says01.mv r U U' V V' h1 hal h2 h) ?_
  intro p e s m args below meth c s₁ X0 hexec hbytes hml hret hlk hnm hown hh0 W hP
  obtain ⟨rfl, hA, tA, hB, tB⟩ := hP
  have a31 := hA.2.2.2
  have b31 := hB.2.2.2
  have hA0 := hA.mv X0.warmed.alike hh0
  have hB0 := hB.mv X0.warmed.alike hh0
  have c1 : Steps p.tables e below (s₁.setTop (entryFrame m #[.ref a, .ref b] 3)) (s₁.setTop (mkF m 0 #[.val (.ref a), .val (.ref b), .unset] [])) := entry rfl
  have c2 : Steps p.tables e below (s₁.setTop (entryFrame m #[.ref a, .ref b] 3)) (s₁.setTop (mkF m 4 #[.val (.ref a), .val (.ref b), .unset] [.int (Int32.ofNat B.slots.size), .int (Int32.ofNat A.slots.size)])) := c1.trans (by
    refine XS.aloadN X0.here hexec rfl (hb hbytes d0) rfl rfl ?_
    refine X0.alen hexec hA0 rfl rfl (hb hbytes d1) ?_
    refine XS.aloadN X0.here hexec rfl (hb hbytes d2) rfl rfl ?_
    refine X0.alen hexec hB0 rfl rfl (hb hbytes d3) ?_
    exact Steps.refl _)
  by_cases hs : A.slots.size = B.slots.size
  · have c3 : Steps p.tables e below (s₁.setTop (entryFrame m #[.ref a, .ref b] 3)) (s₁.setTop (mkF m 9 #[.val (.ref a), .val (.ref b), .val (.int 0)] [])) := c2.trans (by
      refine XS.icmpNo X0.here hexec rfl (hb hbytes d4) rfl (ii_ne_f (by rw [hs])) ?_
      refine iconstV X0.here hexec rfl 0 (hb hbytes d7) (by decide) ?_
      refine XS.istoreN X0.here hexec rfl (hb hbytes d8) rfl rfl ?_
      exact Steps.refl _)
    have loop : ∀ (r i : Nat), i + r = A.slots.size → (∀ j, j < i → yv A j = yv B j) → Steps p.tables e below (s₁.setTop (entryFrame m #[.ref a, .ref b] 3)) (s₁.setTop (mkF m 9 #[.val (.ref a), .val (.ref b), .val (.int (Int32.ofNat i))] [])) → ∃ (pc : Nat) (Ls : Array Slot) (v : Int32), (pc = 25 ∨ pc = 33) ∧ ((v = 1 ∧ EqC A B) ∨ (v = 0 ∧ ¬ EqC A B)) ∧ Steps p.tables e below (s₁.setTop (entryFrame m #[.ref a, .ref b] 3)) (s₁.setTop (mkF m pc Ls [.int v])) := by
      intro r
      induction r with
      | zero =>
        intro i hi he cl
        exact ⟨33, _, 1, Or.inr rfl, Or.inl ⟨rfl, hs, fun j hj => he j (by omega)⟩, cl.trans (by
          refine XS.iloadN X0.here hexec rfl (hb hbytes d9) rfl ?_
          refine XS.aloadN X0.here hexec rfl (hb hbytes d10) rfl rfl ?_
          refine X0.alen hexec hA0 rfl rfl (hb hbytes d11) ?_
          refine XS.icmpYes X0.here hexec rfl (pc0 := 12) rfl (hb hbytes d12) rfl (ii_ge_t (nlt32 (by omega) (by omega))) (by decide) rfl ?_
          refine iconstV X0.here hexec rfl 1 (hb hbytes d32) (by decide) ?_
          exact Steps.refl _)⟩
      | succ r ih =>
        intro i hi he cl
        have c4 : Steps p.tables e below (s₁.setTop (entryFrame m #[.ref a, .ref b] 3)) (s₁.setTop (mkF m 21 #[.val (.ref a), .val (.ref b), .val (.int (Int32.ofNat i))] [.int (yv B i), .int (yv A i)])) := cl.trans (by
          refine XS.iloadN X0.here hexec rfl (hb hbytes d9) rfl ?_
          refine XS.aloadN X0.here hexec rfl (hb hbytes d10) rfl rfl ?_
          refine X0.alen hexec hA0 rfl rfl (hb hbytes d11) ?_
          refine XS.icmpNo X0.here hexec rfl (hb hbytes d12) rfl (ii_ge_f (lt32 (by omega) (by omega))) ?_
          refine XS.aloadN X0.here hexec rfl (hb hbytes d15) rfl rfl ?_
          refine XS.iloadN X0.here hexec rfl (hb hbytes d16) rfl ?_
          refine X0.aget hexec hA0 rfl (yv_get hA tA (i := i) (by omega)) rfl rfl (hb hbytes d17) ?_
          refine XS.aloadN X0.here hexec rfl (hb hbytes d18) rfl rfl ?_
          refine XS.iloadN X0.here hexec rfl (hb hbytes d19) rfl ?_
          refine X0.aget hexec hB0 rfl (yv_get hB tB (i := i) (by omega)) rfl rfl (hb hbytes d20) ?_
          exact Steps.refl _)
        by_cases hv : yv A i = yv B i
        · have c5 : Steps p.tables e below (s₁.setTop (entryFrame m #[.ref a, .ref b] 3)) (s₁.setTop (mkF m 9 #[.val (.ref a), .val (.ref b), .val (.int (Int32.ofNat i + 1))] [])) := c4.trans (by
            refine XS.icmpYes X0.here hexec rfl (pc0 := 21) rfl (hb hbytes d21) rfl (ii_eq_t hv) (by decide) rfl ?_
            refine iincV X0.here hexec rfl 1 (hb hbytes d26) (by decide) rfl rfl ?_
            refine XS.goto X0.here hexec rfl (pc0 := 29) rfl (hb hbytes d29) (by decide) rfl ?_
            exact Steps.refl _)
          rw [succ32] at c5
          exact ih (i + 1) (by omega) (fun j hj => by
            by_cases e : j = i
            · rw [e]; exact hv
            · exact he j (by omega)) c5
        · exact ⟨25, _, 0, Or.inl rfl, Or.inr ⟨rfl, fun q => hv (q.2 i (by omega))⟩, c4.trans (by
            refine XS.icmpNo X0.here hexec rfl (hb hbytes d21) rfl (ii_eq_f hv) ?_
            refine iconstV X0.here hexec rfl 0 (hb hbytes d24) (by decide) ?_
            exact Steps.refl _)⟩
    obtain ⟨pc, Ls, v, hpc, hv, cz⟩ := loop A.slots.size 0 (by omega) (fun j hj => absurd hj (Nat.not_lt_zero j)) c3
    have nv : narrow .boolean (.int v) = .int v := by rcases hv with ⟨rfl, -⟩ | ⟨rfl, -⟩ <;> rfl
    rcases hpc with rfl | rfl
    · exact ⟨s₁, some (.int v), _, _, _, X0, rfl, rfl, rfl, (fun h => by cases h), ⟨v, rfl, hh0, hv⟩, fun fs hl => cz.trans (X0.ireturnOut hexec hret nv (Or.inr (Or.inl rfl)) (hb hbytes d25) hl)⟩
    · exact ⟨s₁, some (.int v), _, _, _, X0, rfl, rfl, rfl, (fun h => by cases h), ⟨v, rfl, hh0, hv⟩, fun fs hl => cz.trans (X0.ireturnOut hexec hret nv (Or.inr (Or.inl rfl)) (hb hbytes d33) hl)⟩
  · have c3 : Steps p.tables e below (s₁.setTop (entryFrame m #[.ref a, .ref b] 3)) (s₁.setTop (mkF m 35 #[.val (.ref a), .val (.ref b), .unset] [.int 0])) := c2.trans (by
      refine XS.icmpYes X0.here hexec rfl (pc0 := 4) rfl (hb hbytes d4) rfl (ii_ne_t (ne32 a31 b31 hs)) (by decide) rfl ?_
      refine iconstV X0.here hexec rfl 0 (hb hbytes d34) (by decide) ?_
      exact Steps.refl _)
    exact ⟨s₁, some (.int 0), _, _, _, X0, rfl, rfl, rfl, (fun h => by cases h), ⟨0, rfl, hh0, Or.inr ⟨rfl, fun q => hs q.1⟩⟩, fun fs hl => c3.trans (X0.ireturnOut hexec hret rfl (Or.inr (Or.inl rfl)) (hb hbytes d35) hl)⟩
end LEq
theorem Cod.ty {cd : Int32} {n : Nat} {f : Nat → Int32} {V : Cell} (h : Cod cd n f V) : Typed .byte V := fun i v hv => by
  have hi : i < V.slots.size := (Array.getElem?_eq_some_iff.mp hv).1
  rcases h with ⟨-, k1, k2⟩ | ⟨-, k1, k2, -⟩
  · rw [(k2 i (by omega)).1] at hv; cases hv; exact fits_lo8 _
  · rcases Nat.mod_two_eq_zero_or_one i with e | e
    · obtain ⟨j, rfl⟩ : ∃ j, i = 2 * j := ⟨i / 2, by omega⟩
      rw [(k2 j (by omega)).1] at hv; cases hv; exact fits_lo8 _
    · obtain ⟨j, rfl⟩ : ∃ j, i = 2 * j + 1 := ⟨i / 2, by omega⟩
      rw [(k2 j (by omega)).2] at hv; cases hv; exact fits_lo8 _
/-- the same text -/
def SameT (n : Nat) (f : Nat → Int32) (k : Nat) (g : Nat → Int32) : Prop := n = k ∧ ∀ j, j < n → f j = g j
theorem lo8_inj {x y : Int32} (h0 : ¬ x < 0) (h1 : ¬ 255 < x) (k0 : ¬ y < 0) (k1 : ¬ 255 < y) (h : lo8 x = lo8 y) : x = y := by
  rw [← lo8_mask h0 h1, ← lo8_mask k0 k1, h]
/-- arrays coded by one coder are equal just where the texts are -/
theorem Cod.eqv {cd : Int32} {n k : Nat} {f g : Nat → Int32} {V V' : Cell} (h : Cod cd n f V) (h' : Cod cd k g V') (hf : ∀ j, j < n → ¬ f j < 0 ∧ ¬ 65535 < f j) (hg : ∀ j, j < k → ¬ g j < 0 ∧ ¬ 65535 < g j) : EqC V V' ↔ SameT n f k g := by
  have yvv : ∀ {W : Cell} {i : Nat} {x : Int32}, W.slots[i]? = some (.int x) → yv W i = x := fun q => by unfold yv; rw [q]
  rcases h with ⟨rfl, k1, k2⟩ | ⟨rfl, k1, k2, -⟩
  · rcases h' with ⟨-, m1, m2⟩ | ⟨e, -⟩
    · constructor
      · rintro ⟨e1, e2⟩
        refine ⟨by omega, fun j hj => ?_⟩
        have q := e2 j (by omega)
        rw [yvv (k2 j hj).1, yvv (m2 j (by omega)).1] at q
        exact lo8_inj (hf j hj).1 (k2 j hj).2 (hg j (by omega)).1 (m2 j (by omega)).2 q
      · rintro ⟨rfl, e2⟩
        refine ⟨by omega, fun j hj => ?_⟩
        rw [yvv (k2 j (by omega)).1, yvv (m2 j (by omega)).1, e2 j (by omega)]
    · exact absurd e (by decide)
  · rcases h' with ⟨e, -⟩ | ⟨-, m1, m2, -⟩
    · exact absurd e (by decide)
    · constructor
      · rintro ⟨e1, e2⟩
        refine ⟨by omega, fun j hj => ?_⟩
        have q1 := e2 (2 * j) (by omega)
        have q2 := e2 (2 * j + 1) (by omega)
        rw [yvv (k2 j hj).1, yvv (m2 j (by omega)).1] at q1
        rw [yvv (k2 j hj).2, yvv (m2 j (by omega)).2] at q2
        rw [← pair_says (hf j hj).1 (hf j hj).2, ← pair_says (hg j (by omega)).1 (hg j (by omega)).2, q1, q2]
      · rintro ⟨rfl, e2⟩
        refine ⟨by omega, fun i hi => ?_⟩
        rcases Nat.mod_two_eq_zero_or_one i with e | e
        · obtain ⟨j, rfl⟩ : ∃ j, i = 2 * j := ⟨i / 2, by omega⟩
          rw [yvv (k2 j (by omega)).1, yvv (m2 j (by omega)).1, e2 j (by omega)]
        · obtain ⟨j, rfl⟩ : ∃ j, i = 2 * j + 1 := ⟨i / 2, by omega⟩
          rw [yvv (k2 j (by omega)).2, yvv (m2 j (by omega)).2, e2 j (by omega)]
/-- two codings differ: so do the texts -/
theorem Cod.dif {cd cd' : Int32} {n k : Nat} {f g : Nat → Int32} {V V' : Cell} (h : Cod cd n f V) (h' : Cod cd' k g V') (hne : ¬ cd = cd') : ¬ SameT n f k g := by
  rintro ⟨rfl, e⟩
  rcases h with ⟨rfl, -, k2⟩ | ⟨rfl, -, -, j, hj, hw⟩
  · rcases h' with ⟨rfl, -⟩ | ⟨-, -, -, j, hj, hw⟩
    · exact hne rfl
    · exact (k2 j hj).2 (by rw [e j hj]; exact hw)
  · rcases h' with ⟨-, -, m2⟩ | ⟨rfl, -⟩
    · exact (m2 j hj).2 (by rw [← e j hj]; exact hw)
    · exact hne rfl
/-- an object of exactly C is an instance of C -/
theorem cinst {p : Program} {l : Launch} {e : Env} {R : Room} {s : State} {m : MethodId} {args : Array Value} {below : List Frame} {meth : Method} {c : Code} {T : State} {locs : List Loc} {cells slots : Nat} (X : Stand p l e R s m args below meth c T locs cells slots) (hexec : p.tables.exec = Jvm.exec) {own C : String} {index : Nat} (hown : s.vm.findClass own = some m.cls) (hlink : (Cond.classLink own index C).before args s = true) {a : Addr} (hE : Exact C a T)
    {g : JFrame} (hg : g.method = m) {rest : List Value} (hstack : g.stack = .ref a :: rest) (hdg : decode c.code g.pc = .ok (.instanceof index, 3)) :
    ∃ T', Stand p l e R s m args below meth c T' locs cells slots ∧ T'.heap = T.heap ∧ ∀ target, Steps p.tables e below (T'.setTop { g with pc := g.pc + 3, stack := .int 1 :: rest }) target → Steps p.tables e below (T.setTop g) target := by
  obtain ⟨cB, h1, D, h2, h3, h4⟩ := hE
  have h1' : s.vm.findClass C = some cB := by rw [← X.warmed.alike.findClass]; exact h1
  obtain ⟨vm', X', st⟩ := X.instanceofYes hexec hown hlink h2 h4 h1' (by rw [h3]; exact Jvm.Free.SB.assignable_self _ _) hg hstack hdg
  exact ⟨_, X', rfl, st⟩
theorem cself {p : Program} {l : Launch} {e : Env} {R : Room} {s : State} {m : MethodId} {args : Array Value} {below : List Frame} {meth : Method} {c : Code} {T : State} {locs : List Loc} {cells slots : Nat} (X : Stand p l e R s m args below meth c T locs cells slots) (hexec : p.tables.exec = Jvm.exec) {own C : String} {index : Nat} (hown : s.vm.findClass own = some m.cls) (hlink : (Cond.classLink own index C).before args s = true) {a : Addr} (hE : Exact C a T)
    {g : JFrame} (hg : g.method = m) {rest : List Value} (hstack : g.stack = .ref a :: rest) (hdg : decode c.code g.pc = .ok (.checkcast index, 3)) :
    ∃ T', Stand p l e R s m args below meth c T' locs cells slots ∧ T'.heap = T.heap ∧ ∀ target, Steps p.tables e below (T'.setTop { g with pc := g.pc + 3, stack := .ref a :: rest }) target → Steps p.tables e below (T.setTop g) target := by
  obtain ⟨cB, h1, D, h2, h3, h4⟩ := hE
  have h1' : s.vm.findClass C = some cB := by rw [← X.warmed.alike.findClass]; exact h1
  obtain ⟨vm', X', st⟩ := X.checkcastYes hexec hown hlink h2 h4 h1' (by rw [h3]; exact Jvm.Free.SB.assignable_self _ _) hg hstack hdg
  exact ⟨_, X', rfl, fun t h => st t (by rw [← hstack] at h; exact h)⟩
namespace SEq
def yN : MethodName := ⟨"java/lang/String", "equals", "(Ljava/lang/Object;)Z"⟩
abbrev yB : ByteArray := jdk_42_method_66_code
theorem d0 : decode yB 0 = .ok (.aload_n 0, 1) := by decide +kernel
theorem d1 : decode yB 1 = .ok (.aload_n 1, 1) := by decide +kernel
theorem d2 : decode yB 2 = .ok (.if_acmp (.ne) 5, 3) := by decide +kernel
theorem d5 : decode yB 5 = .ok (.iconst 1, 1) := by decide +kernel
theorem d6 : decode yB 6 = .ok (.ireturn, 1) := by decide +kernel
theorem d7 : decode yB 7 = .ok (.aload_n 1, 1) := by decide +kernel
theorem d8 : decode yB 8 = .ok (.instanceof 10, 3) := by decide +kernel
theorem d11 : decode yB 11 = .ok (.ifCond (.eq) 43, 3) := by decide +kernel
theorem d14 : decode yB 14 = .ok (.aload_n 1, 1) := by decide +kernel
theorem d15 : decode yB 15 = .ok (.checkcast 10, 3) := by decide +kernel
theorem d18 : decode yB 18 = .ok (.astore_n 2, 1) := by decide +kernel
theorem d19 : decode yB 19 = .ok (.getstatic 38, 3) := by decide +kernel
theorem d22 : decode yB 22 = .ok (.ifCond (.eq) 14, 3) := by decide +kernel
theorem d25 : decode yB 25 = .ok (.aload_n 0, 1) := by decide +kernel
theorem d26 : decode yB 26 = .ok (.getfield 15, 3) := by decide +kernel
theorem d29 : decode yB 29 = .ok (.aload_n 2, 1) := by decide +kernel
theorem d30 : decode yB 30 = .ok (.getfield 15, 3) := by decide +kernel
theorem d33 : decode yB 33 = .ok (.if_icmp (.ne) 21, 3) := by decide +kernel
theorem d36 : decode yB 36 = .ok (.aload_n 0, 1) := by decide +kernel
theorem d37 : decode yB 37 = .ok (.getfield 9, 3) := by decide +kernel
theorem d40 : decode yB 40 = .ok (.aload_n 2, 1) := by decide +kernel
theorem d41 : decode yB 41 = .ok (.getfield 9, 3) := by decide +kernel
theorem d44 : decode yB 44 = .ok (.invokestatic 541, 3) := by decide +kernel
theorem d47 : decode yB 47 = .ok (.ifCond (.eq) 7, 3) := by decide +kernel
theorem d50 : decode yB 50 = .ok (.iconst 1, 1) := by decide +kernel
theorem d51 : decode yB 51 = .ok (.goto 4, 3) := by decide +kernel
theorem d54 : decode yB 54 = .ok (.iconst 0, 1) := by decide +kernel
theorem d55 : decode yB 55 = .ok (.ireturn, 1) := by decide +kernel
def site : List Cond := [.classLink "java/lang/String" 10 "java/lang/String", .fieldLink "java/lang/String" 38 "java/lang/String" "COMPACT_STRINGS" "Z", .fieldLink "java/lang/String" 15 "java/lang/String" "coder" "B", .fieldLink "java/lang/String" 9 "java/lang/String" "value" "[B", LEq.tab] ++ staticW "java/lang/String" 541 LEq.yN
def tab : Cond := tabOf yN yB 3 (some .boolean) site
def P (x t : Addr) (V : Cell) (cd : Int32) (n : Nat) (f : Nat → Int32) (y t' : Addr) (V' : Cell) (cd' : Int32) (k : Nat) (g : Nat → Int32) (z : Int32) (args : Array Value) (s : State) : Prop := args = #[.ref x, .ref y] ∧ Txt x t V cd n f s ∧ Txt y t' V' cd' k g s ∧ StaticIs s "java/lang/String" "COMPACT_STRINGS" "Z" (.int z) ∧ ¬ z = 0
/-- equals(Object) of two Strings: whether the texts are the same -/
theorem law (l : Launch) (x t : Addr) (V : Cell) (cd : Int32) (n : Nat) (f : Nat → Int32) (y t' : Addr) (V' : Cell) (cd' : Int32) (k : Nat) (g : Nat → Int32) (z : Int32) : Law l yN 2 1 1 14 yB 3 (some .boolean) site (P x t V cd n f y t' V' cd' k g z) (Says01 (SameT n f k g)) [] 0 0 := by
  refine Law.of_walk (plainFor_of_name (by decide +kernel)) (by decide +kernel) (by decide +kernel) (by decide) (fun _ _ h => by rw [h.1]; rfl) (fun _ U U' hal hh h => ⟨h.1, h.2.1.mv hal hh, h.2.2.1.mv hal hh, h.2.2.2.1.there hal hh, h.2.2.2.2⟩) (fun r U U' V V' h1 hal h2 h => Says01.mv r U U' V V' h1 hal h2 h) ?_
  intro p e s m args below meth c s₁ X0 hexec hbytes hml hret hlk hnm hown hh0 W hP
  obtain ⟨rfl, hx, hy, s1, hz⟩ := hP
  have c1 : Steps p.tables e below (s₁.setTop (entryFrame m #[.ref x, .ref y] 3)) (s₁.setTop (mkF m 2 #[.val (.ref x), .val (.ref y), .unset] [.ref y, .ref x])) := Steps.trans (entry rfl) (by
    show Steps p.tables e below (s₁.setTop (mkF m 0 #[.val (.ref x), .val (.ref y), .unset] [])) _
    refine XS.aloadN X0.here hexec rfl (hb hbytes d0) rfl rfl ?_
    refine XS.aloadN X0.here hexec rfl (hb hbytes d1) rfl rfl ?_
    exact Steps.refl _)
  by_cases hxy : x = y
  · have c2 : Steps p.tables e below (s₁.setTop (entryFrame m #[.ref x, .ref y] 3)) (s₁.setTop (mkF m 6 #[.val (.ref x), .val (.ref y), .unset] [.int 1])) := c1.trans (by
      refine acmpNo X0.here hexec rfl (hb hbytes d2) rfl rfl rfl (by simp [acmp, hxy]) ?_
      refine iconstV X0.here hexec rfl 1 (hb hbytes d5) (by decide) ?_
      exact Steps.refl _)
    subst hxy
    have ec : cd = cd' := by
      obtain ⟨D, fd, a1, a2, a3⟩ := hx.2.2.1
      obtain ⟨D', fd', b1, b2, b3⟩ := hy.2.2.1
      cases a1.symm.trans b1
      obtain ⟨q1, q2, q3, q4⟩ := a2.1
      obtain ⟨r1, r2, r3, r4⟩ := b2.1
      cases q4.symm.trans r4
      cases a3.symm.trans b3; rfl
    have et : t = t' := by
      obtain ⟨D, fd, a1, a2, a3⟩ := hx.2.1
      obtain ⟨D', fd', b1, b2, b3⟩ := hy.2.1
      cases a1.symm.trans b1
      obtain ⟨q1, q2, q3, q4⟩ := a2.1
      obtain ⟨r1, r2, r3, r4⟩ := b2.1
      cases q4.symm.trans r4
      cases a3.symm.trans b3; rfl
    subst ec et
    have ev : V = V' := by cases hx.2.2.2.1.1.symm.trans hy.2.2.2.1.1; rfl
    subst ev
    have hs : SameT n f k g := (Cod.eqv hx.2.2.2.2.1 hy.2.2.2.2.1 hx.2.2.2.2.2 hy.2.2.2.2.2).mp ⟨rfl, fun _ _ => rfl⟩
    exact ⟨s₁, some (.int 1), _, _, _, X0, rfl, rfl, rfl, (fun h => by cases h), ⟨1, rfl, hh0, Or.inl ⟨rfl, hs⟩⟩, fun fs hl => c2.trans (X0.ireturnOut hexec hret rfl (Or.inr (Or.inl rfl)) (hb hbytes d6) hl)⟩
  · have c2 : Steps p.tables e below (s₁.setTop (entryFrame m #[.ref x, .ref y] 3)) (s₁.setTop (mkF m 8 #[.val (.ref x), .val (.ref y), .unset] [.ref y])) := c1.trans (by
      refine acmpYes X0.here hexec rfl (pc0 := 2) rfl (hb hbytes d2) rfl rfl rfl (by simp [acmp, hxy]) (by decide) rfl ?_
      refine XS.aloadN X0.here hexec rfl (hb hbytes d7) rfl rfl ?_
      exact Steps.refl _)
    obtain ⟨T3, X3, q3, st3⟩ := cinst X0 hexec hown (wk W (.classLink "java/lang/String" 10 "java/lang/String")) (hy.mv X0.warmed.alike hh0).1 (g := (mkF m 8 #[.val (.ref x), .val (.ref y), .unset] [.ref y])) rfl (rest := []) rfl (hb hbytes d8)
    have hh3 := q3.trans hh0
    have c4 : Steps p.tables e below (s₁.setTop (entryFrame m #[.ref x, .ref y] 3)) (T3.setTop (mkF m 15 #[.val (.ref x), .val (.ref y), .unset] [.ref y])) := (c2.trans (st3 _ (Steps.refl _))).trans (by
      refine XS.ifNo X3.here hexec rfl (hb hbytes d11) rfl (i0_eq_f (by decide)) ?_
      refine XS.aloadN X3.here hexec rfl (hb hbytes d14) rfl rfl ?_
      exact Steps.refl _)
    obtain ⟨T5, X5, q5, st5⟩ := cself X3 hexec hown (wk W (.classLink "java/lang/String" 10 "java/lang/String")) (hy.mv X3.warmed.alike hh3).1 (g := (mkF m 15 #[.val (.ref x), .val (.ref y), .unset] [.ref y])) rfl (rest := []) rfl (hb hbytes d15)
    have hh5 := q5.trans hh3
    have c6 : Steps p.tables e below (s₁.setTop (entryFrame m #[.ref x, .ref y] 3)) (T5.setTop (mkF m 19 #[.val (.ref x), .val (.ref y), .val (.ref y)] [])) := (c4.trans (st5 _ (Steps.refl _))).trans (by
      refine XS.astoreN X5.here hexec rfl (hb hbytes d18) rfl rfl rfl ?_
      exact Steps.refl _)
    obtain ⟨T7, X7, q7, st7⟩ := X5.sget hexec hown (wk W (.fieldLink "java/lang/String" 38 "java/lang/String" "COMPACT_STRINGS" "Z")) s1 (fun _ _ h => by rw [hh5]; exact h) (g := (mkF m 19 #[.val (.ref x), .val (.ref y), .val (.ref y)] [])) rfl (hb hbytes d19)
    have hh7 := q7.trans hh5
    have c8 : Steps p.tables e below (s₁.setTop (entryFrame m #[.ref x, .ref y] 3)) (T7.setTop (mkF m 26 #[.val (.ref x), .val (.ref y), .val (.ref y)] [.ref x])) := (c6.trans (st7 _ (Steps.refl _))).trans (by
      refine XS.ifNo X7.here hexec rfl (hb hbytes d22) rfl (i0_eq_f hz) ?_
      refine XS.aloadN X7.here hexec rfl (hb hbytes d25) rfl rfl ?_
      exact Steps.refl _)
    obtain ⟨T9, X9, q9, st9⟩ := X7.hget hexec hown (wk W (.fieldLink "java/lang/String" 15 "java/lang/String" "coder" "B")) (hx.mv X7.warmed.alike hh7).2.2.1 (g := (mkF m 26 #[.val (.ref x), .val (.ref y), .val (.ref y)] [.ref x])) rfl (rest := []) rfl (hb hbytes d26)
    have hh9 := q9.trans hh7
    have c10 : Steps p.tables e below (s₁.setTop (entryFrame m #[.ref x, .ref y] 3)) (T9.setTop (mkF m 30 #[.val (.ref x), .val (.ref y), .val (.ref y)] [.ref y, .int cd])) := (c8.trans (st9 _ (Steps.refl _))).trans (by
      refine XS.aloadN X9.here hexec rfl (hb hbytes d29) rfl rfl ?_
      exact Steps.refl _)
    obtain ⟨T11, X11, q11, st11⟩ := X9.hget hexec hown (wk W (.fieldLink "java/lang/String" 15 "java/lang/String" "coder" "B")) (hy.mv X9.warmed.alike hh9).2.2.1 (g := (mkF m 30 #[.val (.ref x), .val (.ref y), .val (.ref y)] [.ref y, .int cd])) rfl (rest := [.int cd]) rfl (hb hbytes d30)
    have hh11 := q11.trans hh9
    have c12 : Steps p.tables e below (s₁.setTop (entryFrame m #[.ref x, .ref y] 3)) (T11.setTop (mkF m 33 #[.val (.ref x), .val (.ref y), .val (.ref y)] [.int cd', .int cd])) := c10.trans (st11 _ (Steps.refl _))
    by_cases hcd : cd = cd'
    · subst hcd
      have c13 : Steps p.tables e below (s₁.setTop (entryFrame m #[.ref x, .ref y] 3)) (T11.setTop (mkF m 37 #[.val (.ref x), .val (.ref y), .val (.ref y)] [.ref x])) := c12.trans (by
        refine XS.icmpNo X11.here hexec rfl (hb hbytes d33) rfl (ii_ne_f rfl) ?_
        refine XS.aloadN X11.here hexec rfl (hb hbytes d36) rfl rfl ?_
        exact Steps.refl _)
      obtain ⟨T14, X14, q14, st14⟩ := X11.hget hexec hown (wk W (.fieldLink "java/lang/String" 9 "java/lang/String" "value" "[B")) (hx.mv X11.warmed.alike hh11).2.1 (g := (mkF m 37 #[.val (.ref x), .val (.ref y), .val (.ref y)] [.ref x])) rfl (rest := []) rfl (hb hbytes d37)
      have hh14 := q14.trans hh11
      have c15 : Steps p.tables e below (s₁.setTop (entryFrame m #[.ref x, .ref y] 3)) (T14.setTop (mkF m 41 #[.val (.ref x), .val (.ref y), .val (.ref y)] [.ref y, .ref t])) := (c13.trans (st14 _ (Steps.refl _))).trans (by
        refine XS.aloadN X14.here hexec rfl (hb hbytes d40) rfl rfl ?_
        exact Steps.refl _)
      obtain ⟨T16, X16, q16, st16⟩ := X14.hget hexec hown (wk W (.fieldLink "java/lang/String" 9 "java/lang/String" "value" "[B")) (hy.mv X14.warmed.alike hh14).2.1 (g := (mkF m 41 #[.val (.ref x), .val (.ref y), .val (.ref y)] [.ref y, .ref t])) rfl (rest := [.ref t]) rfl (hb hbytes d41)
      have hh16 := q16.trans hh14
      have c17 : Steps p.tables e below (s₁.setTop (entryFrame m #[.ref x, .ref y] 3)) (T16.setTop (mkF m 44 #[.val (.ref x), .val (.ref y), .val (.ref y)] [.ref t', .ref t])) := c15.trans (st16 _ (Steps.refl _))
      obtain ⟨v18, T18, X18, E18, g18⟩ := X16.callS hexec (LEq.law l t V t' V') hown (wks W (staticW "java/lang/String" 541 LEq.yN)) (wk W LEq.tab) (W := 0) (Nat.le_of_ble_eq_true rfl) (Nat.le_of_ble_eq_true rfl) (Nat.le_refl _) (Nat.le_refl _) (g := (mkF m 44 #[.val (.ref x), .val (.ref y), .val (.ref y)] [.ref t', .ref t])) rfl (by rw [hml]; rfl) c17 (argsL := [.ref t, .ref t']) (rest := []) rfl rfl (by show 2 * 0 + 0 ≤ _; decide) (hb hbytes d44) (⟨rfl, hx.2.2.2.1.mv X16.warmed.alike hh16, hx.2.2.2.2.1.ty, hy.2.2.2.1.mv X16.warmed.alike hh16, hy.2.2.2.2.1.ty⟩)
      obtain ⟨v, rfl, q18, hv⟩ := E18
      have iff := Cod.eqv hx.2.2.2.2.1 hy.2.2.2.2.1 hx.2.2.2.2.2 hy.2.2.2.2.2
      rcases hv with ⟨rfl, he⟩ | ⟨rfl, he⟩
      · have c19 : Steps p.tables e below (s₁.setTop (entryFrame m #[.ref x, .ref y] 3)) (T18.setTop (mkF m 55 #[.val (.ref x), .val (.ref y), .val (.ref y)] [.int 1])) := Steps.trans g18 (by
          refine XS.ifNo X18.here hexec rfl (hb hbytes d47) rfl (i0_eq_f (by decide)) ?_
          refine iconstV X18.here hexec rfl 1 (hb hbytes d50) (by decide) ?_
          refine XS.goto X18.here hexec rfl (pc0 := 51) rfl (hb hbytes d51) (by decide) rfl ?_
          exact Steps.refl _)
        exact ⟨T18, some (.int 1), _, _, _, X18, rfl, rfl, rfl, (fun h => by cases h), ⟨1, rfl, q18.trans hh16, Or.inl ⟨rfl, iff.mp he⟩⟩, fun fs hl => c19.trans (X18.ireturnOut hexec hret rfl (Or.inr (Or.inl rfl)) (hb hbytes d55) hl)⟩
      · have c19 : Steps p.tables e below (s₁.setTop (entryFrame m #[.ref x, .ref y] 3)) (T18.setTop (mkF m 55 #[.val (.ref x), .val (.ref y), .val (.ref y)] [.int 0])) := Steps.trans g18 (by
          refine XS.ifYes X18.here hexec rfl (pc0 := 47) rfl (hb hbytes d47) rfl (i0_eq_t rfl) (by decide) rfl ?_
          refine iconstV X18.here hexec rfl 0 (hb hbytes d54) (by decide) ?_
          exact Steps.refl _)
        exact ⟨T18, some (.int 0), _, _, _, X18, rfl, rfl, rfl, (fun h => by cases h), ⟨0, rfl, q18.trans hh16, Or.inr ⟨rfl, fun q => he (iff.mpr q)⟩⟩, fun fs hl => c19.trans (X18.ireturnOut hexec hret rfl (Or.inr (Or.inl rfl)) (hb hbytes d55) hl)⟩
    · have c13 : Steps p.tables e below (s₁.setTop (entryFrame m #[.ref x, .ref y] 3)) (T11.setTop (mkF m 55 #[.val (.ref x), .val (.ref y), .val (.ref y)] [.int 0])) := c12.trans (by
        refine XS.icmpYes X11.here hexec rfl (pc0 := 33) rfl (hb hbytes d33) rfl (ii_ne_t hcd) (by decide) rfl ?_
        refine iconstV X11.here hexec rfl 0 (hb hbytes d54) (by decide) ?_
        exact Steps.refl _)
      exact ⟨T11, some (.int 0), _, _, _, X11, rfl, rfl, rfl, (fun h => by cases h), ⟨0, rfl, hh11, Or.inr ⟨rfl, Cod.dif hx.2.2.2.2.1 hy.2.2.2.2.1 hcd⟩⟩, fun fs hl => c13.trans (X11.ireturnOut hexec hret rfl (Or.inr (Or.inl rfl)) (hb hbytes d55) hl)⟩
theorem pays {l : Launch} {R : Room} {p : Program} {e : Env} {below : List Frame} {s : State} {sargs : Array Value} {len W : Nat} (x t : Addr) (V : Cell) (cd : Int32) (n : Nat) (f : Nat → Int32) (y t' : Addr) (V' : Cell) (cd' : Int32) (k : Nat) (g : Nat → Int32) (z : Int32) (htab : tab.before sargs s = true) (hfr : 2 ≤ R.frames) (hlo : W + 28 ≤ R.locals) :
    Back l R p e below s sargs yN len W (fun A₁ a₁ => A₁.cells + 0 ≤ R.cells ∧ A₁.slots + 0 ≤ R.slots ∧ P x t V cd n f y t' V' cd' k g z a₁ A₁.U) (fun A₁ _ v₁ B₁ => Says01 (SameT n f k g) v₁ A₁.U B₁.U ∧ B₁.locs = A₁.locs ++ [] ∧ B₁.cells = A₁.cells + 0 ∧ B₁.slots = A₁.slots + 0) :=
  (law l x t V cd n f y t' V' cd' k g z).pays htab hfr (by omega)
end SEq
end StrChars
namespace StrChars.Road
open Jvm Sem ClassFile Op Lib Jvm.Stand Jvm.Free Jvm.Free.XT
open Jvm.Lib.Cold (StaticIs)
/-- the words of String.isEmpty() -/
abbrev wordsEmp : List Jvm.Cond := [.code Emp.yN Emp.yB 1 (some .boolean), .initialized ST, .fieldLink ST 9 ST "value" "[B"]
theorem tabEmp_of {a : Array Value} {s : State} (h : ∀ w ∈ wordsEmp, w.before a s = true) : Emp.tab.before a s = true := unparts (wk h (.code Emp.yN Emp.yB 1 (some .boolean))) (wks h (.initialized Emp.yN.cls :: Emp.site))
theorem movedEmp {Z s : State} {a0 args : Array Value} (hZ : Z.Warmed39 s.vm) (hw : ∀ d ∈ wordsEmp, d.before a0 Z = true) : ∀ d ∈ wordsEmp, d.before args s = true := fun d hd => by
  have t : ∀ d ∈ wordsEmp, (d.onTables && d.keepsFace) = true := by decide +kernel
  exact RoadKit.mv hZ (hw d hd) (t d hd)
/-- the words of String.equals(Object) -/
abbrev wordsEq : List Jvm.Cond := [.code SEq.yN SEq.yB 3 (some .boolean), .initialized ST, .classLink ST 10 ST, .fieldLink ST 38 ST "COMPACT_STRINGS" "Z", .fieldLink ST 15 ST "coder" "B", .fieldLink ST 9 ST "value" "[B", .methodLink ST 541 LEq.yN, .static LEq.yN, .code LEq.yN LEq.yB 3 (some .boolean), .initialized "java/lang/StringLatin1"]
theorem tabEq_of {a : Array Value} {s : State} (h : ∀ w ∈ wordsEq, w.before a s = true) : SEq.tab.before a s = true := by
  have hl : LEq.tab.before a s = true := unparts (wk h (.code LEq.yN LEq.yB 3 (some .boolean))) (wks h (.initialized LEq.yN.cls :: LEq.site))
  have q := consq hl h
  exact unparts (wk q (.code SEq.yN SEq.yB 3 (some .boolean))) (wks q (.initialized SEq.yN.cls :: SEq.site))
theorem movedEq {Z s : State} {a0 args : Array Value} (hZ : Z.Warmed39 s.vm) (hw : ∀ d ∈ wordsEq, d.before a0 Z = true) : ∀ d ∈ wordsEq, d.before args s = true := fun d hd => by
  have t : ∀ d ∈ wordsEq, (d.onTables && d.keepsFace) = true := by decide +kernel
  exact RoadKit.mv hZ (hw d hd) (t d hd)
/-- the road's facts of a String, as the laws ask it -/
theorem txt_of {Z U : State} {a0 : Array Value} {kI : Nat} (wi : (Jvm.Cond.instantiable ST kI).before a0 Z = true) (al : Z.vm.Alike U.vm) {x t : Addr} {kb : ClassId} {cs : List Int32} {cd N2 : Int32} {vs : List Value} (E : RoadKit.Exa Z U.heap x ST) (V : RoadKit.Fld Z U.heap x ST "value" "[B" (.ref t)) (C : RoadKit.Fld Z U.heap x ST "coder" "B" (.int cd)) (K : RoadKit.Arv Z U.heap t kb .byte N2 vs (.int 0)) (hc : CodA cs cd N2 vs) (hb : ∀ c ∈ cs, ¬ c < 0 ∧ ¬ (65535 : Int32) < c) (l2 : cs.length ≤ 4000) :
    ∃ A, Txt x t A cd cs.length (fun j => cs.getD j 0) U := by
  obtain ⟨A, K1, K2, K3, K4, K5, K6⟩ := K
  have hcod := hc.cod (by omega) K3 K5
  obtain ⟨D, fV, fC, hB, F1, F2, g1, g2, -, -⟩ := strObj wi al E V C
  exact ⟨A, ⟨_, hB.2.2.1, D, hB.1, rfl, by cases q : D.vm <;> first | rfl | exact absurd q (hB.2.1.2 _)⟩, Has.of hB F1 g1, Has.of hB F2 g2, ⟨K1.1, State.isArrayOf_alike al K1.2.1, K1.2.2, by rcases hcod with ⟨-, q, -⟩ | ⟨-, q, -⟩ <;> omega⟩, hcod, fun j hj => by
    have e : cs.getD j 0 = cs[j] := by simp [List.getD_eq_getElem?_getD, hj]
    show ¬ cs.getD j 0 < 0 ∧ ¬ 65535 < cs.getD j 0
    rw [e]; exact hb _ (List.getElem_mem _)⟩
theorem same_list (cs ds : List Int32) : SameT cs.length (fun j => cs.getD j 0) ds.length (fun j => ds.getD j 0) ↔ cs = ds := by
  constructor
  · rintro ⟨e, q⟩
    refine List.ext_getElem e fun j h1 h2 => ?_
    have := q j h1
    simpa [List.getD_eq_getElem?_getD, h1, h2] using this
  · rintro rfl
    exact ⟨rfl, fun _ _ => rfl⟩
/-- **isEmpty() OF SUCH A STRING** -/
theorem empW {p : Program} {l : Launch} {e : Env} {R : Room} {s : State} {args : Array Value} {below : List Frame} {len W : Nat} {Z : State} {a0 : Array Value} {h : Heap} (hZ : Z.Warmed39 s.vm) (hw : ∀ d ∈ wordsEmp, d.before a0 Z = true) {kI : Nat} (wi : (Jvm.Cond.instantiable ST kI).before a0 Z = true)
    {x t : Addr} {kb : ClassId} {cs : List Int32} {cd N2 : Int32} {vs : List Value} (E : RoadKit.Exa Z h x ST) (V : RoadKit.Fld Z h x ST "value" "[B" (.ref t)) (C : RoadKit.Fld Z h x ST "coder" "B" (.int cd)) (K : RoadKit.Arv Z h t kb .byte N2 vs (.int 0)) (hc : CodA cs cd N2 vs) (hb : ∀ c ∈ cs, ¬ c < 0 ∧ ¬ (65535 : Int32) < c) (l2 : cs.length ≤ 4000) (hfr : 1 ≤ R.frames) (hlo : W + 12 ≤ R.locals) :
    Back l R p e below s args (⟨"java/lang/String", "isEmpty", "()Z"⟩ : MethodName) len W (fun P a => a = #[.ref x] ∧ P.U.heap = h ∧ P.cells + 0 ≤ R.cells ∧ P.slots + 0 ≤ R.slots)
      (fun P _ v B => ∃ L, (v = some (.int (if cs.length = 0 then 1 else 0)) ∧ L = [] ∧ B.U.heap = h) ∧ B.locs = P.locs ++ L ∧ B.cells = P.cells + 0 ∧ B.slots = P.slots + 0) := by
  intro m meth c P g ig mk a X hg hsize hdg hW hn hp'
  obtain ⟨rfl, rfl, r1, r2⟩ := hp'
  have al : Z.vm.Alike P.U.vm := hZ.alike.trans X.warmed.alike
  obtain ⟨A, hx⟩ := txt_of wi al E V C K hc hb l2
  obtain ⟨v, B, X', ⟨⟨hv, hh⟩, hl, hk, hs⟩, st⟩ := Emp.pays x t A cd cs.length (fun j => cs.getD j 0) (tabEmp_of (movedEmp hZ hw)) hfr hlo m meth c P g ig mk _ X hg hsize hdg hW hn ⟨r1, r2, rfl, hx⟩
  exact ⟨v, B, X', ⟨[], ⟨hv, rfl, hh⟩, hl, hk, hs⟩, st⟩
/-- **equals(Object) OF TWO SUCH STRINGS**: 1 just where the chars are the same -/
theorem eqW {p : Program} {l : Launch} {e : Env} {R : Room} {s : State} {args : Array Value} {below : List Frame} {len W : Nat} {Z : State} {a0 : Array Value} {h : Heap} (hZ : Z.Warmed39 s.vm) (hw : ∀ d ∈ wordsEq, d.before a0 Z = true) {kI : Nat} (wi : (Jvm.Cond.instantiable ST kI).before a0 Z = true)
    {x t : Addr} {kb : ClassId} {cs : List Int32} {cd N2 : Int32} {vs : List Value} (E : RoadKit.Exa Z h x ST) (V : RoadKit.Fld Z h x ST "value" "[B" (.ref t)) (C : RoadKit.Fld Z h x ST "coder" "B" (.int cd)) (K : RoadKit.Arv Z h t kb .byte N2 vs (.int 0)) (hc : CodA cs cd N2 vs) (hb : ∀ c ∈ cs, ¬ c < 0 ∧ ¬ (65535 : Int32) < c) (l2 : cs.length ≤ 4000)
    {y t' : Addr} {kb' : ClassId} {ds : List Int32} {cd' N2' : Int32} {vs' : List Value} (E' : RoadKit.Exa Z h y ST) (V' : RoadKit.Fld Z h y ST "value" "[B" (.ref t')) (C' : RoadKit.Fld Z h y ST "coder" "B" (.int cd')) (K' : RoadKit.Arv Z h t' kb' .byte N2' vs' (.int 0)) (hc' : CodA ds cd' N2' vs') (hb' : ∀ c ∈ ds, ¬ c < 0 ∧ ¬ (65535 : Int32) < c) (l2' : ds.length ≤ 4000)
    {z : Int32} (S : RoadKit.Sta Z h ST "COMPACT_STRINGS" "Z" (.int z)) (hz : ¬ z = 0) (hfr : 2 ≤ R.frames) (hlo : W + 28 ≤ R.locals) :
    Back l R p e below s args (⟨"java/lang/String", "equals", "(Ljava/lang/Object;)Z"⟩ : MethodName) len W (fun P a => a = #[.ref x, .ref y] ∧ P.U.heap = h ∧ P.cells + 0 ≤ R.cells ∧ P.slots + 0 ≤ R.slots)
      (fun P _ v B => ∃ L, (((v = some (.int 1) ∧ cs = ds) ∨ (v = some (.int 0) ∧ ¬ cs = ds)) ∧ L = [] ∧ B.U.heap = h) ∧ B.locs = P.locs ++ L ∧ B.cells = P.cells + 0 ∧ B.slots = P.slots + 0) := by
  intro m meth c P g ig mk a X hg hsize hdg hW hn hp'
  obtain ⟨rfl, rfl, r1, r2⟩ := hp'
  have al : Z.vm.Alike P.U.vm := hZ.alike.trans X.warmed.alike
  obtain ⟨A, hx⟩ := txt_of wi al E V C K hc hb l2
  obtain ⟨A', hy⟩ := txt_of wi al E' V' C' K' hc' hb' l2'
  obtain ⟨v, B, X', ⟨⟨w, hv, hh, hq⟩, hl, hk, hs⟩, st⟩ := SEq.pays x t A cd cs.length (fun j => cs.getD j 0) y t' A' cd' ds.length (fun j => ds.getD j 0) z (tabEq_of (movedEq hZ hw)) hfr hlo m meth c P g ig mk _ X hg hsize hdg hW hn ⟨r1, r2, rfl, hx, hy, sta_is al S, hz⟩
  refine ⟨v, B, X', ⟨[], ⟨?_, rfl, hh⟩, hl, hk, hs⟩, st⟩
  rcases hq with ⟨rfl, q⟩ | ⟨rfl, q⟩
  · exact Or.inl ⟨hv, (same_list cs ds).mp q⟩
  · exact Or.inr ⟨hv, fun e => q ((same_list cs ds).mpr e)⟩
end StrChars.Road
namespace StrChars
open Jvm Sem ClassFile Op Lib Jvm.Stand Jvm.Free.XT Jvm.Free.ALB Jvm.Free.JM Jvm.Free
open Jvm.Lib.Cold (StaticIs)
namespace ChN
def yN : MethodName := ⟨"java/lang/String", "charAt", "(I)C"⟩
abbrev yB : ByteArray := jdk_42_method_56_code
theorem d0 : decode yB 0 = .ok (.aload_n 0, 1) := by decide +kernel
theorem d1 : decode yB 1 = .ok (.invokevirtual 492, 3) := by decide +kernel
theorem d4 : decode yB 4 = .ok (.ifCond (.eq) 12, 3) := by decide +kernel
theorem d7 : decode yB 7 = .ok (.aload_n 0, 1) := by decide +kernel
theorem d8 : decode yB 8 = .ok (.getfield 9, 3) := by decide +kernel
theorem d11 : decode yB 11 = .ok (.iload_n 1, 1) := by decide +kernel
theorem d12 : decode yB 12 = .ok (.invokestatic 495, 3) := by decide +kernel
theorem d15 : decode yB 15 = .ok (.ireturn, 1) := by decide +kernel
def site : List Cond := [.fieldLink "java/lang/String" 9 "java/lang/String" "value" "[B", IsL.tab, LChA.tab] ++ virtW "java/lang/String" 492 "java/lang/String" IsL.yN IsL.yN ++ staticW "java/lang/String" 495 LChA.yN
def tab : Cond := tabOf yN yB 2 (some .char) site
def P (x t : Addr) (V : Cell) (n : Nat) (f : Nat → Int32) (z : Int32) (fm : Value) (i : Nat) (args : Array Value) (s : State) : Prop := args = #[.ref x, .int (Int32.ofNat i)] ∧ Txt x t V 0 n f s ∧ i < n ∧ StaticIs s "java/lang/String" "COMPACT_STRINGS" "Z" (.int z) ∧ ¬ z = 0 ∧ StaticIs s "jdk/internal/util/Preconditions" "SIOOBE_FORMATTER" "Ljava/util/function/BiFunction;" fm ∧ fm.isRef = true
def E (f : Nat → Int32) (i : Nat) (r : Option Value) (s u : State) : Prop := XT.PureE (some (.int (f i))) r s u
/-- charAt(i) of a Latin-1 String of n chars, i < n: f i -/
theorem law (l : Launch) (x t : Addr) (V : Cell) (n : Nat) (f : Nat → Int32) (z : Int32) (fm : Value) (i : Nat) : Law l yN 2 1 3 40 yB 2 (some .char) site (P x t V n f z fm i) (E f i) [] 0 0 := by
  refine Law.of_walk (plainFor_of_name (by decide +kernel)) (by decide +kernel) (by decide +kernel) (by decide) (fun _ _ h => by rw [h.1]; rfl) (fun _ U U' hal hh h => ⟨h.1, h.2.1.mv hal hh, h.2.2.1, h.2.2.2.1.there hal hh, h.2.2.2.2.1, h.2.2.2.2.2.1.there hal hh, h.2.2.2.2.2.2⟩) (fun r U U' V V' h1 hal h2 h => XT.PureE.mv r U U' V V' h1 hal h2 h) ?_
  intro p e s m args below meth c s₁ X0 hexec hbytes hml hret hlk hnm hown hh0 W hP
  obtain ⟨rfl, hx, hi, s1, hz, s3, rf⟩ := hP
  have v31 := hx.2.2.2.1.2.2.2
  have hr := hx.2.2.2.2.2 i hi
  have hx0 := hx.mv X0.warmed.alike hh0
  have c1 : Steps p.tables e below (s₁.setTop (entryFrame m #[.ref x, .int (Int32.ofNat i)] 2)) (s₁.setTop (mkF m 1 #[.val (.ref x), .val (.int (Int32.ofNat i))] [.ref x])) := Steps.trans (entry rfl) (by
    show Steps p.tables e below (s₁.setTop (mkF m 0 #[.val (.ref x), .val (.int (Int32.ofNat i))] [])) _
    refine XS.aloadN X0.here hexec rfl (hb hbytes d0) rfl rfl ?_
    exact Steps.refl _)
  obtain ⟨v2, T2, X2, E2, g2⟩ := X0.callV hexec (IsL.law l x 0 z) hown (wks W (virtW "java/lang/String" 492 "java/lang/String" IsL.yN IsL.yN)) rfl (by decide) (wk W IsL.tab) (W := 0) (Nat.le_of_ble_eq_true rfl) (Nat.le_of_ble_eq_true rfl) (Nat.le_refl _) (Nat.le_refl _) (hx0.1.fc X0.warmed.alike) hx0.1.is (g := (mkF m 1 #[.val (.ref x), .val (.int (Int32.ofNat i))] [.ref x])) rfl (by rw [hml]; rfl) c1 (argsL := []) (rest := []) rfl rfl (by show 2 * 0 + 0 ≤ _; decide) (hb hbytes d1) (⟨rfl, hx0.2.2.1, hx.2.2.2.2.1.cd, s1.there X0.warmed.alike hh0, hz⟩)
  obtain ⟨rfl, q2⟩ := E2
  have hh2 := q2.trans hh0
  have hx2 := hx.mv X2.warmed.alike hh2
  obtain ⟨-, k1, k2⟩ | ⟨k0, -⟩ := hx.2.2.2.2.1
  · have c3 : Steps p.tables e below (s₁.setTop (entryFrame m #[.ref x, .int (Int32.ofNat i)] 2)) (T2.setTop (mkF m 8 #[.val (.ref x), .val (.int (Int32.ofNat i))] [.ref x])) := Steps.trans g2 (by
      refine XS.ifNo X2.here hexec rfl (hb hbytes d4) rfl (i0_eq_f (by decide)) ?_
      refine XS.aloadN X2.here hexec rfl (hb hbytes d7) rfl rfl ?_
      exact Steps.refl _)
    obtain ⟨T4, X4, q4, st4⟩ := X2.hget hexec hown (wk W (.fieldLink "java/lang/String" 9 "java/lang/String" "value" "[B")) hx2.2.1 (g := (mkF m 8 #[.val (.ref x), .val (.int (Int32.ofNat i))] [.ref x])) rfl (rest := []) rfl (hb hbytes d8)
    have hh4 := q4.trans hh2
    have c5 : Steps p.tables e below (s₁.setTop (entryFrame m #[.ref x, .int (Int32.ofNat i)] 2)) (T4.setTop (mkF m 12 #[.val (.ref x), .val (.int (Int32.ofNat i))] [.int (Int32.ofNat i), .ref t])) := (c3.trans (st4 _ (Steps.refl _))).trans (by
      refine XS.iloadN X4.here hexec rfl (hb hbytes d11) rfl ?_
      exact Steps.refl _)
    obtain ⟨v6, T6, X6, E6, g6⟩ := X4.callS hexec (LChA.law l t V i (lo8 (f i)) fm) hown (wks W (staticW "java/lang/String" 495 LChA.yN)) (wk W LChA.tab) (W := 0) (Nat.le_of_ble_eq_true rfl) (Nat.le_of_ble_eq_true rfl) (Nat.le_refl _) (Nat.le_refl _) (g := (mkF m 12 #[.val (.ref x), .val (.int (Int32.ofNat i))] [.int (Int32.ofNat i), .ref t])) rfl (by rw [hml]; rfl) c5 (argsL := [.ref t, .int (Int32.ofNat i)]) (rest := []) rfl rfl (by show 2 * 0 + 0 ≤ _; decide) (hb hbytes d12) (⟨rfl, hx.2.2.2.1.mv X4.warmed.alike hh4, (k2 i hi).1, s3.there X4.warmed.alike hh4, rf⟩)
    obtain ⟨rfl, q6⟩ := E6
    rw [chr8_lo8 hr.1 (k2 i hi).2] at g6
    exact ⟨T6, some (.int (f i)), _, _, _, X6, rfl, rfl, rfl, (fun h => by cases h), ⟨rfl, q6.trans hh4⟩, fun fs hl => Steps.trans g6 (X6.ireturnOut hexec hret (narrow_ch hr.1 hr.2) (Or.inr (Or.inr (Or.inr (Or.inl rfl)))) (hb hbytes d15) hl)⟩
  · exact absurd k0 (by decide)
theorem pays {l : Launch} {R : Room} {p : Program} {e : Env} {below : List Frame} {s : State} {sargs : Array Value} {len W : Nat} (x t : Addr) (V : Cell) (n : Nat) (f : Nat → Int32) (z : Int32) (fm : Value) (i : Nat) (htab : tab.before sargs s = true) (hfr : 4 ≤ R.frames) (hlo : W + 53 ≤ R.locals) :
    Back l R p e below s sargs yN len W (fun A₁ a₁ => A₁.cells + 0 ≤ R.cells ∧ A₁.slots + 0 ≤ R.slots ∧ P x t V n f z fm i a₁ A₁.U) (fun A₁ _ v₁ B₁ => E f i v₁ A₁.U B₁.U ∧ B₁.locs = A₁.locs ++ [] ∧ B₁.cells = A₁.cells + 0 ∧ B₁.slots = A₁.slots + 0) :=
  (law l x t V n f z fm i).pays htab hfr (by omega)
end ChN
end StrChars
namespace StrChars.Road
open Jvm Sem ClassFile Op Lib Jvm.Stand Jvm.Free Jvm.Free.XT
open Jvm.Lib.Cold (StaticIs)
/-- the words of String.charAt(int), the Latin-1 road alone -/
abbrev wordsChN : List Jvm.Cond := [.code ChN.yN ChN.yB 2 (some .char), .initialized ST, .fieldLink ST 9 ST "value" "[B", .fieldLink ST 38 ST "COMPACT_STRINGS" "Z", .fieldLink ST 15 ST "coder" "B", .code IsL.yN IsL.yB 1 (some .boolean), .methodLink ST 492 IsL.yN, .declares IsL.yN, .selects ST IsL.yN IsL.yN, .instanceMethod IsL.yN,
  .methodLink ST 495 LChA.yN, .static LChA.yN, .code LChA.yN LChA.yB 2 (some .char), .initialized "java/lang/StringLatin1", .methodLink "java/lang/StringLatin1" 9 JO.Str_checkIndex.yN, .static JO.Str_checkIndex.yN, .code JO.Str_checkIndex.yN JO.Str_checkIndex.yB 2 none,
  .fieldLink ST 1053 "jdk/internal/util/Preconditions" "SIOOBE_FORMATTER" "Ljava/util/function/BiFunction;", .methodLink ST 1059 JC.PreCheck.yN, .static JC.PreCheck.yN, .code JC.PreCheck.yN JC.PreCheck.yB 3 (some .int), .initialized "jdk/internal/util/Preconditions"]
theorem tabChN_of {a : Array Value} {s : State} (h : ∀ w ∈ wordsChN, w.before a s = true) : ChN.tab.before a s = true := by
  have hp : JC.PreCheck.tab.before a s = true := unparts (wk h (.code JC.PreCheck.yN JC.PreCheck.yB 3 (some .int))) (wks h (.initialized JC.PreCheck.yN.cls :: JC.PreCheck.site))
  have qk := consq hp h
  have hk : JO.Str_checkIndex.tab.before a s = true := unparts (wk qk (.code JO.Str_checkIndex.yN JO.Str_checkIndex.yB 2 none)) (wks qk (.initialized JO.Str_checkIndex.yN.cls :: JO.Str_checkIndex.site))
  have ql := consq hk h
  have hl : LChA.tab.before a s = true := unparts (wk ql (.code LChA.yN LChA.yB 2 (some .char))) (wks ql (.initialized LChA.yN.cls :: LChA.site))
  have hi : IsL.tab.before a s = true := unparts (wk h (.code IsL.yN IsL.yB 1 (some .boolean))) (wks h (.initialized IsL.yN.cls :: IsL.site))
  have q := consq hi (consq hl h)
  exact unparts (wk q (.code ChN.yN ChN.yB 2 (some .char))) (wks q (.initialized ChN.yN.cls :: ChN.site))
theorem movedChN {Z s : State} {a0 args : Array Value} (hZ : Z.Warmed39 s.vm) (hw : ∀ d ∈ wordsChN, d.before a0 Z = true) : ∀ d ∈ wordsChN, d.before args s = true := fun d hd => by
  have t : ∀ d ∈ wordsChN, (d.onTables && d.keepsFace) = true := by decide +kernel
  exact RoadKit.mv hZ (hw d hd) (t d hd)
/-- **charAt(i) OF A LATIN-1 STRING**, i < n: the char -/
theorem chN {p : Program} {l : Launch} {e : Env} {R : Room} {s : State} {args : Array Value} {below : List Frame} {len W : Nat} {Z : State} {a0 : Array Value} {h : Heap} (hZ : Z.Warmed39 s.vm) (hw : ∀ d ∈ wordsChN, d.before a0 Z = true) {kI : Nat} (wi : (Jvm.Cond.instantiable ST kI).before a0 Z = true)
    {x t : Addr} {kb : ClassId} {cs : List Int32} {N2 z : Int32} {vs : List Value} {fm : Value} {i : Nat} {j : Int32} (E : RoadKit.Exa Z h x ST) (V : RoadKit.Fld Z h x ST "value" "[B" (.ref t)) (C : RoadKit.Fld Z h x ST "coder" "B" (.int 0)) (K : RoadKit.Arv Z h t kb .byte N2 vs (.int 0)) (hc : CodA cs 0 N2 vs) (hb : ∀ c ∈ cs, ¬ c < 0 ∧ ¬ (65535 : Int32) < c)
    (S : RoadKit.Sta Z h ST "COMPACT_STRINGS" "Z" (.int z)) (hz : ¬ z = 0) (F : RoadKit.Sta Z h "jdk/internal/util/Preconditions" "SIOOBE_FORMATTER" "Ljava/util/function/BiFunction;" fm) (rf : fm.isRef = true) (l2 : cs.length ≤ 4000) (hi : i < cs.length) (hj : j = Int32.ofNat i) (hfr : 4 ≤ R.frames) (hlo : W + 53 ≤ R.locals) :
    Back l R p e below s args (⟨"java/lang/String", "charAt", "(I)C"⟩ : MethodName) len W (fun P a => a = #[.ref x, .int j] ∧ P.U.heap = h ∧ P.cells + 0 ≤ R.cells ∧ P.slots + 0 ≤ R.slots)
      (fun P _ v B => ∃ L, (v = some (.int (cs.getD i 0)) ∧ L = [] ∧ B.U.heap = h) ∧ B.locs = P.locs ++ L ∧ B.cells = P.cells + 0 ∧ B.slots = P.slots + 0) := by
  subst hj
  intro m meth c P g ig mk a X hg hsize hdg hW hn hp'
  obtain ⟨rfl, rfl, r1, r2⟩ := hp'
  have al : Z.vm.Alike P.U.vm := hZ.alike.trans X.warmed.alike
  obtain ⟨A, hx⟩ := txt_of wi al E V C K hc hb l2
  obtain ⟨v, B, X', ⟨⟨hv, hh⟩, hl, hk, hs⟩, st⟩ := ChN.pays x t A cs.length (fun j => cs.getD j 0) z fm i (tabChN_of (movedChN hZ hw)) hfr hlo m meth c P g ig mk _ X hg hsize hdg hW hn ⟨r1, r2, rfl, hx, hi, sta_is al S, hz, sta_is al F, rf⟩
  exact ⟨v, B, X', ⟨[], ⟨hv, rfl, hh⟩, hl, hk, hs⟩, st⟩
/-- what backV says of its String, as the contracts of this text ask it: cs's low bytes, coder 0 -/
theorem codOf {cs : List Int32} {n : Nat} (hn : cs.length = n) (hb : ∀ c ∈ cs, ¬ 255 < c) : CodA cs 0 (Int32.ofNat n) ((cs.map lo8).map Value.int) := Or.inl ⟨rfl, by rw [hn], by simp [List.map_map, Function.comp_def], hb⟩
end StrChars.Road
end Jvm.Pilot.@@N@@
namespace Jvm.Pilot.@@N@@
open Jvm Jvm.ClassFile Sem Op Lib Jvm.Free Jvm.Stand Jvm.LawKit Jvm.RoadKit Bundle Jvm.Pilot.@@N@@.Jvm.D
section OwnKit
variable {p : Program} {l : Launch} {e : Env} {R : Room} {s : State} {m : MethodId} {args : Array Value} {below : List Frame} {meth : Method} {c : Code} {T T' : State} {locs : List Loc} {cells slots : Nat} {Z : State} {a0 : Array Value} {h h' : Heap} {EL : List (String × Nat)} {n0 k0 : Nat} {ws ws' sf : List Addr} {own : String} {vm0 vm1 : Vm} {Q : Outcome → State → Prop} {a b x : Addr} {v : Value} {sl : Nat}
/-- the run goes on from t to an end that Q takes -/
def Go (p : Program) (e : Env) (below : List Frame) (Q : Outcome → State → Prop) (t : State) : Prop := ∃ s₂ o, Steps p.tables e below t s₂ ∧ s₂.status = .running ∧ Ended s₂ below o ∧ Q o s₂
theorem Go.of {t t' : State} (k : ∀ z, Steps p.tables e below t' z → Steps p.tables e below t z) (g : Go p e below Q t') : Go p e below Q t := by
  obtain ⟨a, o, st, r⟩ := g
  exact ⟨a, o, k _ st, r⟩
theorem Go.on {t t' : State} (st : Steps p.tables e below t t') (g : Go p e below Q t') : Go p e below Q t := by
  obtain ⟨a, o, st', r⟩ := g
  exact ⟨a, o, st.trans st', r⟩
/-- where a walk stands: the tables at hand, the places written, all hidden -/
def Wk (p : Program) (l : Launch) (e : Env) (R : Room) (s : State) (m : MethodId) (args : Array Value) (below : List Frame) (meth : Method) (c : Code) (Z : State) (EL : List (String × Nat)) (n0 : Nat) (ws : List Addr) (own : String) (sf : List Addr) (T : State) (cells slots : Nat) (h : Heap) : Prop :=
  ∃ (vm0 : Vm) (locs : List Loc) (k0 : Nat), Stand p l e R (s.setVm vm0) m args below meth c T locs cells slots ∧ T.heap = h ∧ s.Since vm0 k0 ∧ k0 ≤ h.size ∧ Z.Warmed39 vm0 ∧ vm0.findClass own = some m.cls ∧ CHr Z EL s.vm s.heap vm0 h ∧ Fr n0 locs ∧ Keep s.heap h ws ∧ Old Z n0 h ∧ ∀ x ∈ sf, Safe Z EL vm0 h x ∧ x < h.size
abbrev Wkk (p : Program) (l : Launch) (e : Env) (R : Room) (s : State) (m : MethodId) (args : Array Value) (below : List Frame) (meth : Method) (c : Code) (Z : State) (EL : List (String × Nat)) (n0 : Nat) (ws : List Addr) (own : String) (sf : List Addr) (cells slots : Nat) (h : Heap) (T : State) : Prop := Wk p l e R s m args below meth c Z EL n0 ws own sf T cells slots h
theorem wk_wr (X : Stand p l e R (s.setVm vm0) m args below meth c T' (locs ++ [⟨a, sl⟩]) cells slots) (e' : T'.heap = h') (W : Wr h h' a sl v) (hS : s.Since vm0 k0) (hk : k0 ≤ h.size) (hZ : Z.Warmed39 vm0) (hown : vm0.findClass own = some m.cls) (hC : CHr Z EL s.vm s.heap vm0 h) (N : Fr n0 locs) (K : Keep s.heap h ws) (O : Old Z n0 h)
    (F : ∀ x ∈ sf, Safe Z EL vm0 h x ∧ x < h.size) (S : Safe Z EL vm0 h a) (ga : n0 ≤ a) (gw : a ∈ ws ∨ s.heap.size ≤ a) : Wk p l e R s m args below meth c Z EL n0 ws own sf T' cells slots h' :=
  ⟨vm0, _, k0, X, e', hS, by rw [Wr.size W]; exact hk, hZ, hown, hC.trans (CHr.wr W S hC.1), Fr.snoc X N ga, K.wr W gw, O.wr W ga, fun y hy => ⟨Safe.wr W S hC.1 (F y hy).1, by rw [Wr.size W]; exact (F y hy).2⟩⟩
theorem wk_ext (X : Stand p l e R (s.setVm vm0) m args below meth c T' locs cells slots) (e' : T'.heap = h') (E : Ext h h') (hS : s.Since vm0 k0) (hk : k0 ≤ h.size) (hZ : Z.Warmed39 vm0) (hown : vm0.findClass own = some m.cls) (hC : CHr Z EL s.vm s.heap vm0 h) (N : Fr n0 locs) (K : Keep s.heap h ws) (O : Old Z n0 h)
    (F : ∀ x ∈ sf, Safe Z EL vm0 h x ∧ x < h.size) : Wk p l e R s m args below meth c Z EL n0 ws own sf T' cells slots h' :=
  ⟨vm0, locs, k0, X, e', hS, Nat.le_trans hk E.1, hZ, hown, hC.trans (CHr.ext E hC.1), N, K.ext E, O.ext E, fun y hy => ⟨Safe.ext E hC.1 (F y hy).1, Nat.lt_of_lt_of_le (F y hy).2 E.1⟩⟩
theorem wk_new (X : Stand p l e R (s.setVm vm0) m args below meth c T' locs cells slots) (e' : T'.heap = h') (E : Ext h h') (hlt : h.size < h'.size) (hS : s.Since vm0 k0) (hk : k0 ≤ h.size) (hZ : Z.Warmed39 vm0) (hown : vm0.findClass own = some m.cls) (hC : CHr Z EL s.vm s.heap vm0 h) (N : Fr n0 locs) (K : Keep s.heap h ws) (O : Old Z n0 h)
    (F : ∀ x ∈ sf, Safe Z EL vm0 h x ∧ x < h.size) : Wk p l e R s m args below meth c Z EL n0 ws own (h.size :: sf) T' cells slots h' :=
  ⟨vm0, locs, k0, X, e', hS, Nat.le_trans hk E.1, hZ, hown, hC.trans (CHr.ext E hC.1), N, K.ext E, O.ext E, fun y hy => by
    rcases List.mem_cons.mp hy with rfl | hy
    · exact ⟨Safe.ext E hC.1 (Safe.new (Nat.le_refl _)), hlt⟩
    · exact ⟨Safe.ext E hC.1 (F y hy).1, Nat.lt_of_lt_of_le (F y hy).2 E.1⟩⟩
theorem Wk.here (W : Wk p l e R s m args below meth c Z EL n0 ws own sf T cells slots h) : At T m c below := by
  obtain ⟨_, _, _, X, _⟩ := W
  exact X.here
theorem Wk.n0le (W : Wk p l e R s m args below meth c Z EL n0 ws own sf T cells slots h) : n0 ≤ h.size := by
  obtain ⟨_, _, _, _, _, _, _, _, _, _, _, _, O, _⟩ := W
  exact O.1 ▸ O.2.1
theorem Wk.s0le (W : Wk p l e R s m args below meth c Z EL n0 ws own sf T cells slots h) : s.heap.size ≤ h.size := by
  obtain ⟨_, _, _, _, _, _, _, _, _, _, _, K, _, _⟩ := W
  exact K.1
theorem Wk.old (W : Wk p l e R s m args below meth c Z EL n0 ws own sf T cells slots h) : Old Z n0 h := by
  obtain ⟨_, _, _, _, _, _, _, _, _, _, _, _, O, _⟩ := W
  exact O
theorem Wk.more (W : Wk p l e R s m args below meth c Z EL n0 ws own sf T cells slots h) {cells' slots' : Nat} (hc : cells ≤ cells') (hs : slots ≤ slots') : Wk p l e R s m args below meth c Z EL n0 ws own sf T cells' slots' h := by
  obtain ⟨vm0, locs, k0, X, r⟩ := W
  exact ⟨vm0, locs, k0, X.more hc hs, r⟩
theorem Wk.sub {sf' : List Addr} (W : Wk p l e R s m args below meth c Z EL n0 ws own sf T cells slots h) (hs : ∀ x ∈ sf', x ∈ sf) : Wk p l e R s m args below meth c Z EL n0 ws own sf' T cells slots h := by
  obtain ⟨vm0, locs, k0, X, eT, hS, hk, hZ, hown, hC, N, K, O, F⟩ := W
  exact ⟨vm0, locs, k0, X, eT, hS, hk, hZ, hown, hC, N, K, O, fun y hy => F y (hs y hy)⟩
/-! single steps -/
theorem Wk.getF (W : Wk p l e R s m args below meth c Z EL n0 ws own sf T cells slots h) (hx : p.tables.exec = Jvm.exec) {R0 O n d host : String} {index : Nat} (w : (Cond.fieldLink own index R0 n d).before a0 Z = true ∨ (Cond.fieldLinkNest own index R0 n d host).before a0 Z = true) (via : Via Z R0 O n d)
    (F : Fld Z h a O n d v) {g : JFrame} (hg : g.method = m) {rest : List Value} (hs : g.stack = .ref a :: rest) (hd : decode c.code g.pc = .ok (.getfield index, 3))
    (k : ∀ T', Wk p l e R s m args below meth c Z EL n0 ws own sf T' cells slots h → Go p e below Q (T'.setTop { g with pc := g.pc + 3, stack := v :: rest })) : Go p e below Q (T.setTop g) := by
  obtain ⟨vm0, locs, k0, X, eT, hS, hk, hZ, hown, r⟩ := W
  obtain ⟨T', X', e', st⟩ := RoadKit.getF X hx hZ hown w via eT F hg hs hd
  exact Go.of st (k T' ⟨vm0, locs, k0, X', e', hS, hk, hZ, hown, r⟩)
theorem Wk.getS (W : Wk p l e R s m args below meth c Z EL n0 ws own sf T cells slots h) (hx : p.tables.exec = Jvm.exec) {R0 O n d host : String} {index : Nat} (w : (Cond.fieldLink own index R0 n d).before a0 Z = true ∨ (Cond.fieldLinkNest own index R0 n d host).before a0 Z = true) (via : Via Z R0 O n d)
    (F : Sta Z Z.heap O n d v) {g : JFrame} (hg : g.method = m) (hd : decode c.code g.pc = .ok (.getstatic index, 3))
    (k : ∀ T', Wk p l e R s m args below meth c Z EL n0 ws own sf T' cells slots h → Go p e below Q (T'.setTop { g with pc := g.pc + 3, stack := v :: g.stack })) : Go p e below Q (T.setTop g) := by
  have F' := F.ext W.old.2
  obtain ⟨vm0, locs, k0, X, eT, hS, hk, hZ, hown, r⟩ := W
  obtain ⟨T', X', e', st⟩ := RoadKit.getS2 X hx hZ hown w via eT F' hg hd
  exact Go.of st (k T' ⟨vm0, locs, k0, X', e', hS, hk, hZ, hown, r⟩)
theorem Wk.castY (W : Wk p l e R s m args below meth c Z EL n0 ws own sf T cells slots h) (hx : p.tables.exec = Jvm.exec) {K : String} {index : Nat} (w : (Cond.classLink own index K).before a0 Z = true) (F : Ins Z h a K true) {g : JFrame} (hg : g.method = m) {rest : List Value} (hs : g.stack = .ref a :: rest) (hd : decode c.code g.pc = .ok (.checkcast index, 3))
    (k : ∀ T', Wk p l e R s m args below meth c Z EL n0 ws own sf T' cells slots h → Go p e below Q (T'.setTop { g with pc := g.pc + 3 })) : Go p e below Q (T.setTop g) := by
  obtain ⟨vm0, locs, k0, X, eT, hS, hk, hZ, hown, r⟩ := W
  obtain ⟨T', X', e', st⟩ := RoadKit.castY X hx hZ hown w eT F hg hs hd
  exact Go.of st (k T' ⟨vm0, locs, k0, X', e', hS, hk, hZ, hown, r⟩)
theorem Wk.instY (W : Wk p l e R s m args below meth c Z EL n0 ws own sf T cells slots h) (hx : p.tables.exec = Jvm.exec) {K : String} {index : Nat} (w : (Cond.classLink own index K).before a0 Z = true) (F : Ins Z h a K true) {g : JFrame} (hg : g.method = m) {rest : List Value} (hs : g.stack = .ref a :: rest) (hd : decode c.code g.pc = .ok (.instanceof index, 3))
    (k : ∀ T', Wk p l e R s m args below meth c Z EL n0 ws own sf T' cells slots h → Go p e below Q (T'.setTop { g with pc := g.pc + 3, stack := .int 1 :: rest })) : Go p e below Q (T.setTop g) := by
  obtain ⟨vm0, locs, k0, X, eT, hS, hk, hZ, hown, r⟩ := W
  obtain ⟨T', X', e', st⟩ := RoadKit.instY X hx hZ hown w eT F hg hs hd
  exact Go.of st (k T' ⟨vm0, locs, k0, X', e', hS, hk, hZ, hown, r⟩)
theorem Wk.instNo (W : Wk p l e R s m args below meth c Z EL n0 ws own sf T cells slots h) (hx : p.tables.exec = Jvm.exec) {K C : String} {index : Nat} (w : (Cond.classLink own index K).before a0 Z = true) (E : Exa Z h a C) (F : ∃ c t, Z.vm.findClass C = some c ∧ Z.vm.findClass K = some t ∧ Z.vm.assignable c t = false) {g : JFrame} (hg : g.method = m) {rest : List Value} (hs : g.stack = .ref a :: rest) (hd : decode c.code g.pc = .ok (.instanceof index, 3))
    (k : ∀ T', Wk p l e R s m args below meth c Z EL n0 ws own sf T' cells slots h → Go p e below Q (T'.setTop { g with pc := g.pc + 3, stack := .int 0 :: rest })) : Go p e below Q (T.setTop g) := by
  obtain ⟨vm0, locs, k0, X, eT, hS, hk, hZ, hown, r⟩ := W
  obtain ⟨T', X', e', st⟩ := RoadKit.instNo X hx hZ hown w eT E F hg hs hd
  exact Go.of st (k T' ⟨vm0, locs, k0, X', e', hS, hk, hZ, hown, r⟩)
theorem Wk.instNull (W : Wk p l e R s m args below meth c Z EL n0 ws own sf T cells slots h) (hx : p.tables.exec = Jvm.exec) {index : Nat} {g : JFrame} (hg : g.method = m) {rest : List Value} (hs : g.stack = .null :: rest) (hd : decode c.code g.pc = .ok (.instanceof index, 3))
    (k : Go p e below Q (T.setTop { g with pc := g.pc + 3, stack := .int 0 :: rest })) : Go p e below Q (T.setTop g) := by
  obtain ⟨vm0, locs, k0, X, eT, hS, hk, hZ, hown, r⟩ := W
  exact Go.of (X.instanceofNull hx hg hs hd) k
theorem Wk.initO (W : Wk p l e R s m args below meth c Z EL n0 ws own sf T cells slots h) (hx : p.tables.exec = Jvm.exec) {idx : Nat} (w1 : (Cond.methodLink own idx Lib.objectInit).before a0 Z = true) (w2 : (Cond.instanceMethod Lib.objectInit).before a0 Z = true)
    (w3 : (Cond.code Lib.objectInit ⟨#[0xb1]⟩ 1 none).before a0 Z = true) {g : JFrame} (hg : g.method = m) (hsize : g.locals.size = c.maxLocals) {rest : List Value} (hs : g.stack = .ref a :: rest) (hd : decode c.code g.pc = .ok (.invokespecial idx, 3))
    (hf : 1 ≤ R.frames) {Wd : Nat} (hW : 2 * g.monitorRoom + (rest.map fun v => v.category).sum ≤ Wd) (hl : Wd + 12 ≤ R.locals)
    (k : ∀ T', Wk p l e R s m args below meth c Z EL n0 ws own sf T' cells slots h → Go p e below Q (T'.setTop { g with pc := g.pc + 3, stack := rest })) : Go p e below Q (T.setTop g) := by
  obtain ⟨vm0, locs, k0, X, eT, hS, hk, hZ, hown, r⟩ := W
  obtain ⟨T', X', e', st⟩ := RoadKit.initO X hx hZ hown w1 w2 w3 eT hg hsize hs hd hf hW hl
  exact Go.of st (k T' ⟨vm0, locs, k0, X', e', hS, hk, hZ, hown, r⟩)
theorem Wk.newO (W : Wk p l e R s m args below meth c Z EL n0 ws own sf T cells slots h) (hx : p.tables.exec = Jvm.exec) {C : String} {index n : Nat} (w : (Cond.classLink own index C).before a0 Z = true) (wi : (Cond.instantiable C n).before a0 Z = true) (wz : (Cond.initialized C).before a0 Z = true)
    {g : JFrame} (hg : g.method = m) (hd : decode c.code g.pc = .ok (.new index, 3)) (hc : cells + 1 ≤ R.cells) (hl : slots + n ≤ R.slots)
    (k : ∀ T' h' b, b = h.size → n0 ≤ b ∧ s.heap.size ≤ b → Wk p l e R s m args below meth c Z EL n0 ws own (b :: sf) T' (cells + 1) (slots + n) h' → Keep h h' [] → Exa Z h' b C → (∀ {O nm d : String} {ty : FieldType}, Laid Z a0 C O nm d → parseFieldDescriptor d = some ty → Fld Z h' b O nm d (defaultValue ty)) →
      Go p e below Q (T'.setTop { g with pc := g.pc + 3, stack := .ref b :: g.stack })) : Go p e below Q (T.setTop g) := by
  have hle := W.n0le
  have hle' := W.s0le
  obtain ⟨vm0, locs, k0, X, eT, hS, hk, hZ, hown, hC, N, K, O, F⟩ := W
  obtain ⟨T', h', X', e', E, A, D, -, st⟩ := RoadKit.newO X hx hZ hown w wi wz eT hg hd hc hl
  exact Go.of st (k T' h' h.size rfl ⟨hle, hle'⟩ (wk_new X' e' E A.lt hS hk hZ hown hC N K O F) ((Keep.refl h []).ext E) A D)
theorem Wk.newP (W : Wk p l e R s m args below meth c Z EL n0 ws own sf T cells slots h) (hx : p.tables.exec = Jvm.exec) {aty : ArrayType} (w : (Cond.arrayClass (newarray.typeOf aty)).before a0 Z = true)
    {g : JFrame} (hg : g.method = m) (hd : decode c.code g.pc = .ok (.newarray aty, 2)) {n : Int32} {rest : List Value} (hs : g.stack = .int n :: rest)
    (hn : ¬ n < 0) {cap : Nat} (hcap : n.toNatClampNeg ≤ cap) (hb : cap * 8 ≤ 536870912) (hc : cells + 1 ≤ R.cells) (hl : slots + cap ≤ R.slots)
    (k : ∀ T' h' b kc, b = h.size → n0 ≤ b ∧ s.heap.size ≤ b → Wk p l e R s m args below meth c Z EL n0 ws own (b :: sf) T' (cells + 1) (slots + cap) h' → Keep h h' [] → Arv Z h' b kc (newarray.typeOf aty) n (List.replicate cap (defaultValue (newarray.typeOf aty))) (defaultValue (newarray.typeOf aty)) →
      Go p e below Q (T'.setTop { g with pc := g.pc + 2, stack := .ref b :: rest })) : Go p e below Q (T.setTop g) := by
  have hle := W.n0le
  have hle' := W.s0le
  obtain ⟨vm0, locs, k0, X, eT, hS, hk, hZ, hown, hC, N, K, O, F⟩ := W
  obtain ⟨T', h', kc, X', e', E, A, st⟩ := RoadKit.newP X hx hZ w eT hg hd hs hn hcap hb hc hl
  exact Go.of st (k T' h' h.size kc rfl ⟨hle, hle'⟩ (wk_new X' e' E A.lt hS hk hZ hown hC N K O F) ((Keep.refl h []).ext E) ((Arv.new A hn).pad (pad_rep [] _ cap)))
theorem Wk.putF (W : Wk p l e R s m args below meth c Z EL n0 ws own sf T cells slots h) (hx : p.tables.exec = Jvm.exec) {R0 O n d host C : String} {index kk : Nat} {ty : FieldType} (w : (Cond.fieldLink own index R0 n d).before a0 Z = true ∨ (Cond.fieldLinkNest own index R0 n d host).before a0 Z = true) (via : Via Z R0 O n d)
    {old : Value} (F : Fld Z h a O n d old) (E : Exa Z h a C) (L : (Cond.lays C O n d).before a0 Z = true ∨ ((Cond.laysFinal C O n d).before a0 Z = true ∧ own = O ∧ meth.name = "<init>")) (wi : (Cond.instantiable C kk).before a0 Z = true)
    (hty : parseFieldDescriptor d = some ty) (hn : narrow ty v = v) (hf : fits ty v = true) (ga : n0 ≤ a) (gw : a ∈ ws ∨ s.heap.size ≤ a) (sa : a ∈ sf ∨ (C ≠ "java/lang/String" ∧ C ≠ "[B")) {g : JFrame} (hg : g.method = m) {rest : List Value} (hs : g.stack = v :: .ref a :: rest) (hd : decode c.code g.pc = .ok (.putfield index, 3))
    (k : ∀ T' h', Wk p l e R s m args below meth c Z EL n0 ws own sf T' cells slots h' → Wr h h' a (RoadKit.slotOf Z O n d) v → Go p e below Q (T'.setTop { g with pc := g.pc + 3, stack := rest })) : Go p e below Q (T.setTop g) := by
  obtain ⟨vm0, locs, k0, X, eT, hS, hk, hZ, hown, hC, N, K, Ol, Fs⟩ := W
  have S : Safe Z EL vm0 h a := by
    rcases sa with q | ⟨q1, q2⟩
    · exact (Fs a q).1
    · exact Safe.exa hZ.alike E q1 q2
  obtain ⟨T', h', X', e', W', st⟩ := RoadKit.putF X hx hZ hown w via eT F E L wi hty hn hf hg hs hd
  exact Go.of st (k T' h' (wk_wr X' e' W' hS hk hZ hown hC N K Ol Fs S ga gw) W')
theorem Wk.stC (W : Wk p l e R s m args below meth c Z EL n0 ws own sf T cells slots h) (hx : p.tables.exec = Jvm.exec) {kc : ClassId} {z j y : Int32} {vs : List Value} {dv : Value} (V : Arv Z h a kc .char z vs dv) (hj : ¬ j < 0 ∧ j < z) (i : Nat) (hji : j.toNatClampNeg = i) (hi : i < vs.length) (ga : n0 ≤ a) (gw : a ∈ ws ∨ s.heap.size ≤ a)
    {g : JFrame} (hg : g.method = m) {rest : List Value} (hs : g.stack = .int y :: .int j :: .ref a :: rest) (hd : decode c.code g.pc = .ok (.castore, 1))
    (k : ∀ T' h', Wk p l e R s m args below meth c Z EL n0 ws own sf T' cells slots h' → Keep h h' [a] → Arv Z h' a kc .char z (vs.set i (.int (nar .char y))) dv → Go p e below Q (T'.setTop { g with pc := g.pc + 1, stack := rest })) : Go p e below Q (T.setTop g) := by
  obtain ⟨vm0, locs, k0, X, eT, hS, hk, hZ, hown, hC, N, K, Ol, Fs⟩ := W
  obtain ⟨cl, A, q1, S1, q3, H, G⟩ := V
  obtain ⟨T', h', X', e', W', st⟩ := RoadKit.stC X hx hZ eT A (j := j) (inb_of S1 hj) hg hs hd
  exact Go.of st (k T' h' (wk_wr X' e' W' hS hk hZ hown hC N K Ol Fs (Safe.arr hZ.alike A (by decide)) ga gw) (Keep.of_wr W') (Arv.set A q1 S1 q3 H G (fits_nar_char _) W' i hji hi))
theorem Wk.stB (W : Wk p l e R s m args below meth c Z EL n0 ws own sf T cells slots h) (hx : p.tables.exec = Jvm.exec) {kc : ClassId} {z j y : Int32} {vs : List Value} {dv : Value} (V : Arv Z h a kc .byte z vs dv) (hj : ¬ j < 0 ∧ j < z) (i : Nat) (hji : j.toNatClampNeg = i) (hi : i < vs.length) (ga : n0 ≤ a) (gw : a ∈ ws ∨ s.heap.size ≤ a) (sa : a ∈ sf)
    {g : JFrame} (hg : g.method = m) {rest : List Value} (hs : g.stack = .int y :: .int j :: .ref a :: rest) (hd : decode c.code g.pc = .ok (.bastore, 1))
    (k : ∀ T' h', Wk p l e R s m args below meth c Z EL n0 ws own sf T' cells slots h' → Keep h h' [a] → Arv Z h' a kc .byte z (vs.set i (.int (nar .byte y))) dv → Go p e below Q (T'.setTop { g with pc := g.pc + 1, stack := rest })) : Go p e below Q (T.setTop g) := by
  obtain ⟨vm0, locs, k0, X, eT, hS, hk, hZ, hown, hC, N, K, Ol, Fs⟩ := W
  obtain ⟨cl, A, q1, S1, q3, H, G⟩ := V
  obtain ⟨T', h', X', e', W', st⟩ := RoadKit.stB X hx hZ eT A (j := j) (inb_of S1 hj) hg hs hd
  exact Go.of st (k T' h' (wk_wr X' e' W' hS hk hZ hown hC N K Ol Fs (Fs a sa).1 ga gw) (Keep.of_wr W') (Arv.set A q1 S1 q3 H G (fits_nar_byte _) W' i hji hi))
theorem Wk.caload (W : Wk p l e R s m args below meth c Z EL n0 ws own sf T cells slots h) (hx : p.tables.exec = Jvm.exec) {kc : ClassId} {z j : Int32} {vs : List Value} {dv : Value} (V : Arv Z h a kc .char z vs dv) (hj : ¬ j < 0 ∧ j < z) (hv : vs.getD j.toNatClampNeg dv = v)
    {g : JFrame} (hg : g.method = m) {rest : List Value} (hs : g.stack = .int j :: .ref a :: rest) (hd : decode c.code g.pc = .ok (.caload, 1)) (k : Go p e below Q (T.setTop { g with pc := g.pc + 1, stack := v :: rest })) : Go p e below Q (T.setTop g) := by
  obtain ⟨vm0, locs, k0, X, eT, hS, hk, hZ, hown, r⟩ := W
  obtain ⟨cl, A, q1, S1, q3, H, G⟩ := V
  exact Go.of (fun t q => X.caload hx (by rw [eT]; exact A.1) (State.isArrayOf_alike hZ.alike A.2.1) A.2.2 (inb_of S1 hj) (H.at (inb_of S1 hj) hv) hg hs hd t q) k
theorem Wk.baload (W : Wk p l e R s m args below meth c Z EL n0 ws own sf T cells slots h) (hx : p.tables.exec = Jvm.exec) {kc : ClassId} {z j : Int32} {vs : List Value} {dv : Value} (V : Arv Z h a kc .byte z vs dv) (hj : ¬ j < 0 ∧ j < z) (hv : vs.getD j.toNatClampNeg dv = v)
    {g : JFrame} (hg : g.method = m) {rest : List Value} (hs : g.stack = .int j :: .ref a :: rest) (hd : decode c.code g.pc = .ok (.baload, 1)) (k : Go p e below Q (T.setTop { g with pc := g.pc + 1, stack := v :: rest })) : Go p e below Q (T.setTop g) := by
  obtain ⟨vm0, locs, k0, X, eT, hS, hk, hZ, hown, r⟩ := W
  obtain ⟨cl, A, q1, S1, q3, H, G⟩ := V
  exact Go.of (fun t q => X.baloadBytes hx (by rw [eT]; exact A.1) (State.isArrayOf_alike hZ.alike A.2.1) A.2.2 (inb_of S1 hj) (H.at (inb_of S1 hj) hv) hg hs hd t q) k
theorem Wk.alen (W : Wk p l e R s m args below meth c Z EL n0 ws own sf T cells slots h) (hx : p.tables.exec = Jvm.exec) {kc : ClassId} {z : Int32} {ty : FieldType} {vs : List Value} {dv : Value} (V : Arv Z h a kc ty z vs dv)
    {g : JFrame} (hg : g.method = m) {rest : List Value} (hs : g.stack = .ref a :: rest) (hd : decode c.code g.pc = .ok (.arraylength, 1)) (k : Go p e below Q (T.setTop { g with pc := g.pc + 1, stack := .int z :: rest })) : Go p e below Q (T.setTop g) := by
  obtain ⟨vm0, locs, k0, X, eT, hS, hk, hZ, hown, r⟩ := W
  obtain ⟨cl, A, q1, S1, q3, H, G⟩ := V
  exact Go.of (fun t q => X.arraylength hx (by rw [eT]; exact A.1) (State.isArrayOf_alike hZ.alike A.2.1) hg hs hd t (by rw [len_of S1 q3]; exact q)) k
theorem Wk.ldcI (W : Wk p l e R s m args below meth c Z EL n0 ws own sf T cells slots h) (hx : p.tables.exec = Jvm.exec) {index : Nat} {z : Int32} (w : (Cond.constant own index z).before a0 Z = true)
    {g : JFrame} (hg : g.method = m) (hd : decode c.code g.pc = .ok (.ldc index, 2)) (k : Go p e below Q (T.setTop { g with pc := g.pc + 2, stack := .int z :: g.stack })) : Go p e below Q (T.setTop g) := by
  obtain ⟨vm0, locs, k0, X, eT, hS, hk, hZ, hown, r⟩ := W
  exact Go.of (fun t q => X.ldcInt hx hown (mvT (s := s.setVm vm0) hZ w) hg hd t q) k
theorem Wk.ldcJ (W : Wk p l e R s m args below meth c Z EL n0 ws own sf T cells slots h) (hx : p.tables.exec = Jvm.exec) {index : Nat} {z : Int64} (w : (Cond.constantLong own index z).before a0 Z = true)
    {g : JFrame} (hg : g.method = m) (hd : decode c.code g.pc = .ok (.ldc2_w index, 3)) (k : Go p e below Q (T.setTop { g with pc := g.pc + 3, stack := .long z :: g.stack })) : Go p e below Q (T.setTop g) := by
  obtain ⟨vm0, locs, k0, X, eT, hS, hk, hZ, hown, r⟩ := W
  exact Go.of (fun t q => X.ldc2Long hx hown (mvT (s := s.setVm vm0) hZ w) hg hd t q) k
/-! String constants -/
theorem wk_tab {k1 : Nat} (X : Stand p l e R (s.setVm vm1) m args below meth c T' locs cells slots) (e' : T'.heap = h') (E : Keep h h' ws') (gws : ∀ x ∈ ws', n0 ≤ x ∧ (x ∈ ws ∨ s.heap.size ≤ x)) (hS : s.Since vm1 k1) (hk : k1 ≤ h'.size) (hZ : Z.Warmed39 vm1) (hown : vm1.findClass own = some m.cls) (A : CHr Z EL vm0 h vm1 h') (hC : CHr Z EL s.vm s.heap vm0 h) (N : Fr n0 locs) (K : Keep s.heap h ws) (O : Old Z n0 h)
    (F : ∀ x ∈ sf, Safe Z EL vm0 h x ∧ x < h.size) : Wk p l e R s m args below meth c Z EL n0 ws own sf T' cells slots h' :=
  ⟨vm1, locs, k1, X, e', hS, hk, hZ, hown, hC.trans A, N, K.trans E fun y hy => (gws y hy).2, O.keep E fun y hy => (gws y hy).1, fun y hy => ⟨CHr.safe A (F y hy).2 (F y hy).1, Nat.lt_of_lt_of_le (F y hy).2 E.1⟩⟩
theorem Wk.ldcO (W : Wk p l e R s m args below meth c Z EL n0 ws own sf T cells slots h) (hx : p.tables.exec = Jvm.exec) (hEL : EW Z a0 EL) {text : String} {index : Nat} (w : (Cond.stringLink own index text).before a0 Z = true) (wS : ∀ a ∈ Bundle.stringAtoms, a.before a0 Z = true)
    {g : JFrame} (hg : g.method = m) (hd : decode c.code g.pc = .ok (.ldc index, 2)) {n : Nat} (hn : 4 * text.toList.length ≤ n) (hbig : n ≤ 536870912) (hc : cells + 2 ≤ R.cells) (hl : slots + (n + 4) ≤ R.slots)
    (k : ∀ T' h' b, Wk p l e R s m args below meth c Z EL n0 ws own sf T' (cells + 2) (slots + (n + 4)) h' → Keep h h' [] → Go p e below Q (T'.setTop { g with pc := g.pc + 2, stack := .ref b :: g.stack })) : Go p e below Q (T.setTop g) := by
  obtain ⟨vm0, locs, k0, X, eT, hS, hk, hZ, hown, hC, N, K, Ol, Fs⟩ := W
  obtain ⟨b, T', h', k1, X', e', E, hS', hk', hZ', hown', A, -, st⟩ := ldcOH X hx hZ hown w wS eT hS hk hEL hC.1 hg hd hn hbig hc hl
  have K1 : Keep h h' [] := (Keep.refl h []).ext E
  exact Go.of st (k T' h' b (wk_tab X' e' K1 all0 hS' hk' hZ' hown' A hC N K Ol Fs) K1)
theorem Wk.ldcC (W : Wk p l e R s m args below meth c Z EL n0 ws own sf T cells slots h) (hx : p.tables.exec = Jvm.exec) (hEL : EW Z a0 EL) {text : String} {index : Nat} (hmem : (own, index) ∈ EL) (w : (Cond.stringLink own index text).before a0 Z = true) (wS : ∀ a ∈ Bundle.stringAtoms, a.before a0 Z = true)
    (vs : List Value) (z : Int32) (ht : (∀ c ∈ text.toList, c.toNat < 256) ∧ text.toList.map (fun c => Value.int (Jvm.Lit.byteI c.toNat.toUInt16)) = vs) (hz : ¬ z < 0) (hl : z.toNatClampNeg = vs.length)
    {g : JFrame} (hg : g.method = m) (hd : decode c.code g.pc = .ok (.ldc index, 2)) {n : Nat} (hn : 4 * text.toList.length ≤ n) (hbig : n ≤ 536870912) (hc : cells + 2 ≤ R.cells) (hsl : slots + (n + 4) ≤ R.slots)
    (k : ∀ T' h' b t kb, Wk p l e R s m args below meth c Z EL n0 ws own sf T' (cells + 2) (slots + (n + 4)) h' → Keep h h' [] → Exa Z h' b "java/lang/String" → Fld Z h' b "java/lang/String" "value" "[B" (.ref t) → Fld Z h' b "java/lang/String" "coder" "B" (.int 0) → Arv Z h' t kb .byte z vs (.int 0) → (∀ x ∈ sf, x ≠ b ∧ x ≠ t) → Go p e below Q (T'.setTop { g with pc := g.pc + 2, stack := .ref b :: g.stack })) : Go p e below Q (T.setTop g) := by
  obtain ⟨vm0, locs, k0, X, eT, hS, hk, hZ, hown, hC, N, K, Ol, Fs⟩ := W
  obtain ⟨b, T', h', k1, t, kb, X', e', E, hS', hk', hZ', hown', E1, F1, F2, A1, -, -, A, -, hne, st⟩ := ldcCH X hx hZ hown w wS eT hS hk hEL hmem hC.1 ht hz hl hg hd hn hbig hc hsl
  have K1 : Keep h h' [] := (Keep.refl h []).ext E
  exact Go.of st (k T' h' b t kb (wk_tab X' e' K1 all0 hS' hk' hZ' hown' A hC N K Ol Fs) K1 E1 F2 F1 A1 (fun x hx => hne x (CHr.safe A (Fs x hx).2 (Fs x hx).1)))
/-! contracts -/
def Met (l : Launch) (Z : State) (EL : List (String × Nat)) (n0 : Nat) (y : MethodName) (bytes : ByteArray) (maxL : Nat) (ret : Option FieldType) (wl : List Cond) (rm : Room) (as' : Array Value) (h : Heap) (ws sf : List Addr) (Qv : Option Value → Heap → Prop) : Prop :=
  MetFree l y (head1 (Cond.code y bytes maxL ret :: wl) rm) (fun a U => a = as' ∧ Z.Warmed39 U.vm ∧ U.heap = h ∧ CHv Z EL U.vm h ∧ ∀ x ∈ sf, Safe Z EL U.vm h x ∧ x < h.size) (fun _ _ _ _ _ => True)
    (fun _ U o U' => ∃ v L, o = .returned v ∧ (Qv v U'.heap ∧ Fr n0 L ∧ Keep h U'.heap ws) ∧ CHr Z EL U.vm U.heap U'.vm U'.heap ∧ ReturnedEndW U o U' L rm.cells rm.slots)
def Fend (Z : State) (EL : List (String × Nat)) (n0 : Nat) (s : State) (h : Heap) (ws : List Addr) (Qv : Option Value → Heap → Prop) (rm : Room) (o : Outcome) (t : State) : Prop :=
  ∃ v L, o = .returned v ∧ (Qv v t.heap ∧ Fr n0 L ∧ Keep h t.heap ws) ∧ CHr Z EL s.vm s.heap t.vm t.heap ∧ ReturnedEndW s o t L rm.cells rm.slots
variable {y : MethodName} {bytes : ByteArray} {maxL : Nat} {ret : Option FieldType} {wl : List Cond} {rm : Room} {as' : Array Value} {Qv : Option Value → Heap → Prop}
theorem Met.of (hy : plainFor y = true) (O : Old Z n0 h) (body : ∀ (p : Program) (e : Env) (s : State) (m : MethodId) (below : List Frame) (meth : Method) (c : Code) (T : State), p.tables.exec = Jvm.exec → c.code = bytes → c.maxLocals = maxL → meth.sig.returnType = ret → meth.locks = false → meth.name = y.name → s.heap = h →
      Wk p l e rm s m as' below meth c Z EL n0 ws y.cls sf T 0 0 h → Go p e below (Fend Z EL n0 s h ws Qv rm) (T.setTop (entryFrame m as' maxL))) : Met l Z EL n0 y bytes maxL ret wl rm as' h ws sf Qv := by
  refine MetFree.of_bodySF hy hisR ?_
  intro p e s m args below meth c s₁ Bd hml0 hP hK
  obtain ⟨rfl, hZ, hh, hC, hF⟩ := hP
  subst hh
  have e0 : s₁.heap = s.heap := by rw [Bd.state]; rfl
  have hown := findClass_of_methodNamed Bd.named
  have X0 : Stand p l e rm s m args below meth c s₁ [] 0 0 := Stand.of_body Bd
  obtain ⟨s₂, o, st, r1, r2, q⟩ := body p e s m below meth c s₁ Bd.exec Bd.bytes hml0 Bd.returns Bd.notSynchronized (name_of_methodNamed Bd.named Bd.method).1 rfl ⟨s.vm, [], 0, X0, e0, (State.WarmedH.refl s).since 0, Nat.zero_le _, hZ, hown, CHr.refl hC, Fr.nil n0, Keep.refl _ _, O, hF⟩
  exact ⟨s₂, o, st, r1, r2, q⟩
theorem Wk.fin {g : JFrame} (W : Wk p l e rm s m args below meth c Z EL n0 ws own sf T cells slots h') (hEL : EW Z a0 EL) (hs : s.heap = h) (hlk : meth.locks = false) (hc : cells ≤ rm.cells) (hl : slots ≤ rm.slots) {w : Option Value} (hv : meth.sig.returnType = none → w = none) (hq : Qv w h')
    (k : ∀ (vm0 : Vm) (locs : List Loc) (fs : List Frame), Stand p l e rm (s.setVm vm0) m args below meth c T locs cells slots → (∀ (f : JFrame) (acts : List Action), f.method = m → f.locked = none → f.entered = [] → (doReturn e (T.setTop f) acts w).1 = T.setFrames fs) → Steps p.tables e below (T.setTop g) (T.setFrames fs)) : Go p e below (Fend Z EL n0 s h ws Qv rm) (T.setTop g) := by
  obtain ⟨vm0, locs, k0, X, eT, hS, hk, hZ, hown, hC, N, K, Ol, Fs⟩ := W
  subst hs eT
  obtain ⟨fs, hr, hrun, hended, q1, q2, q3, q4⟩ := X.leaveW hS hk hv hlk
  refine ⟨T.setFrames fs, .returned w, k vm0 locs fs X hr, hrun, hended, w, locs, rfl, ⟨hq, N, K⟩, (show CHr Z EL s.vm s.heap T.vm T.heap from hC.trans (CHv.at X hZ hEL hC.1)), q1, q2, q3, q4.mono hc hl⟩
theorem Wk.retG (W : Wk p l e rm s m args below meth c Z EL n0 ws own sf T cells slots h') (hx : p.tables.exec = Jvm.exec) (hEL : EW Z a0 EL) (hs : s.heap = h) (hlk : meth.locks = false) (hc : cells ≤ rm.cells) (hl : slots ≤ rm.slots) {pc : Nat} {Ls : Array Slot} {w : Value} {t : FieldType} {i : Instr} {rest : List Value} (hret : meth.sig.returnType = some t) (hn : narrow t w = w)
    (hi : (i = .ireturn ∧ (t = .int ∨ t = .boolean ∨ t = .byte ∨ t = .char ∨ t = .short) ∧ ∃ z, w = .int z) ∨ (i = .lreturn ∧ t = .long ∧ ∃ z, w = .long z) ∨ (i = .dreturn ∧ t = .double ∧ ∃ z, w = .double z) ∨ (i = .freturn ∧ t = .float ∧ ∃ z, w = .float z) ∨ (i = .areturn ∧ t.isReference = true ∧ w.isRef = true))
    (hd : decode c.code pc = .ok (i, 1)) (hq : Qv (some w) h') : Go p e below (Fend Z EL n0 s h ws Qv rm) (T.setTop (mkF m pc Ls (w :: rest))) :=
  W.fin hEL hs hlk hc hl (w := some w) (fun q => by rw [hret] at q; cases q) hq (fun vm0 locs fs X hr => RoadKit.retOut X hx hret hn hi hd hr)
theorem Wk.retI (W : Wk p l e rm s m args below meth c Z EL n0 ws own sf T cells slots h') (hx : p.tables.exec = Jvm.exec) (hEL : EW Z a0 EL) (hs : s.heap = h) (hlk : meth.locks = false) (hc : cells ≤ rm.cells) (hl : slots ≤ rm.slots) {pc : Nat} {Ls : Array Slot} {w : Int32} {t : FieldType} {rest : List Value} (hret : meth.sig.returnType = some t) (ht : t = .int ∨ t = .boolean ∨ t = .byte ∨ t = .char ∨ t = .short) (hn : narrow t (.int w) = .int w)
    (hd : decode c.code pc = .ok (.ireturn, 1)) (hq : Qv (some (.int w)) h') : Go p e below (Fend Z EL n0 s h ws Qv rm) (T.setTop (mkF m pc Ls (.int w :: rest))) :=
  W.retG hx hEL hs hlk hc hl hret hn (Or.inl ⟨rfl, ht, w, rfl⟩) hd hq
theorem Wk.retA (W : Wk p l e rm s m args below meth c Z EL n0 ws own sf T cells slots h') (hx : p.tables.exec = Jvm.exec) (hEL : EW Z a0 EL) (hs : s.heap = h) (hlk : meth.locks = false) (hc : cells ≤ rm.cells) (hl : slots ≤ rm.slots) {pc : Nat} {Ls : Array Slot} {w : Value} {t : FieldType} {rest : List Value} (hret : meth.sig.returnType = some t) (ht : t.isReference = true) (hw : w.isRef = true)
    (hd : decode c.code pc = .ok (.areturn, 1)) (hq : Qv (some w) h') : Go p e below (Fend Z EL n0 s h ws Qv rm) (T.setTop (mkF m pc Ls (w :: rest))) :=
  W.retG hx hEL hs hlk hc hl hret (by cases t <;> cases w <;> first | rfl | cases ht | cases hw) (Or.inr (Or.inr (Or.inr (Or.inr ⟨rfl, ht, hw⟩)))) hd hq
theorem Wk.retL (W : Wk p l e rm s m args below meth c Z EL n0 ws own sf T cells slots h') (hx : p.tables.exec = Jvm.exec) (hEL : EW Z a0 EL) (hs : s.heap = h) (hlk : meth.locks = false) (hc : cells ≤ rm.cells) (hl : slots ≤ rm.slots) {pc : Nat} {Ls : Array Slot} {w : Int64} {rest : List Value} (hret : meth.sig.returnType = some .long)
    (hd : decode c.code pc = .ok (.lreturn, 1)) (hq : Qv (some (.long w)) h') : Go p e below (Fend Z EL n0 s h ws Qv rm) (T.setTop (mkF m pc Ls (.long w :: rest))) :=
  W.retG hx hEL hs hlk hc hl hret rfl (Or.inr (Or.inl ⟨rfl, rfl, w, rfl⟩)) hd hq
theorem Wk.retV (W : Wk p l e rm s m args below meth c Z EL n0 ws own sf T cells slots h') (hx : p.tables.exec = Jvm.exec) (hEL : EW Z a0 EL) (hs : s.heap = h) (hlk : meth.locks = false) (hc : cells ≤ rm.cells) (hl : slots ≤ rm.slots) {pc : Nat} {Ls : Array Slot} (hret : meth.sig.returnType = none)
    (hd : decode c.code pc = .ok (.return_, 1)) (hq : Qv none h') : Go p e below (Fend Z EL n0 s h ws Qv rm) (T.setTop (mkF m pc Ls [])) :=
  W.fin hEL hs hlk hc hl (w := none) (fun _ => rfl) hq (fun vm0 locs fs X hr => X.returnOut hx hret hd hr)
/-! calls of what has a contract -/
theorem wk_call {U : State} {L : List Loc} {rcells rslots : Nat} (X : Stand p l e R (s.setVm vm0) m args below meth c T locs cells slots) (X' : Stand p l e R ((s.setVm vm0).setVm U.vm) m args below meth c U (locs ++ L) (cells + rcells) (slots + rslots)) (hS' : (s.setVm vm0).Since U.vm U.heap.size) (hle : T.heap.size ≤ U.heap.size) (eT : T.heap = h) (N' : Fr n0 L) (K' : Keep h U.heap ws') (A : CHr Z EL vm0 h U.vm U.heap) (gws : ∀ x ∈ ws', n0 ≤ x ∧ (x ∈ ws ∨ s.heap.size ≤ x))
    (hS : s.Since vm0 k0) (hk : k0 ≤ h.size) (hZ : Z.Warmed39 vm0) (hown : vm0.findClass own = some m.cls) (hC : CHr Z EL s.vm s.heap vm0 h) (N : Fr n0 locs) (K : Keep s.heap h ws) (O : Old Z n0 h) (F : ∀ x ∈ sf, Safe Z EL vm0 h x ∧ x < h.size) : Wk p l e R s m args below meth c Z EL n0 ws own sf U (cells + rcells) (slots + rslots) U.heap :=
  wk_tab (T' := U) (h' := U.heap) (vm1 := U.vm) (locs := locs ++ L) X' rfl K' gws (hS.trans hS' (Nat.le_trans hk (eT ▸ hle))) (Nat.le_refl _) (State.Warmed39.trans (t := s.setVm vm0) hZ hS'.1) ((hS'.1.alike.findClass _ _).trans hown) A hC (N.app N') K O F
theorem Met.pay {sf' : List Addr} {len Wd : Nat} (M : Met l Z EL n0 y bytes maxL ret [] rm as' h ws' sf' Qv) (hZ : Z.Warmed39 vm0) (wc : (Cond.code y bytes maxL ret).before a0 Z = true) (wz : (Cond.initialized y.cls).before a0 Z = true) (hf : rm.frames + 1 ≤ R.frames) (hl : Wd + (maxL + 11) + rm.locals ≤ R.locals) (hEL : EW Z a0 EL) (H : CHv Z EL vm0 h) (HS : ∀ x ∈ sf', Safe Z EL vm0 h x ∧ x < h.size) :
    BackS l R p e below (s.setVm vm0) args y len Wd (fun A a => a = as' ∧ A.U.heap = h ∧ A.cells + rm.cells ≤ R.cells ∧ A.slots + rm.slots ≤ R.slots)
      (fun A _ v B => ∃ L, (Qv v B.U.heap ∧ Fr n0 L ∧ Keep h B.U.heap ws') ∧ B.locs = A.locs ++ L ∧ B.cells = A.cells + rm.cells ∧ B.slots = A.slots + rm.slots ∧ CHr Z EL vm0 h B.U.vm B.U.heap) := by
  refine BackS.of_freeW (bytes := bytes) (maxL := maxL) (ret := ret) (E := fun _ first o t L k n => k = rm.cells ∧ n = rm.slots ∧ (∃ v, o = .returned v ∧ (Qv v t.heap ∧ Fr n0 L ∧ Keep h t.heap ws')) ∧ CHr Z EL first.vm first.heap t.vm t.heap) M hf hl ?_ ?_ (fun _ _ _ _ _ _ _ _ _ => trivial) ?_ ?_
  · intro m meth c A a Y hp
    have hU : Z.Warmed39 A.U.vm := wtrans (s := s.setVm vm0) hZ Y.warmed
    exact ⟨by show (Cond.and _ .tt).before a A.U = true; rw [Cond.before_and, mv hU wc]; rfl, mv hU wc, mv hU wz, hp.2.2.1, hp.2.2.2⟩
  · intro m meth c A a g mk Y hp
    have C0 := CHv.at Y hZ hEL H
    exact ⟨hp.1, wtrans (s := s.setVm vm0) hZ Y.warmed, hp.2.1, C0.1, fun x hx => ⟨C0.safe (HS x hx).2 (HS x hx).1, (HS x hx).2⟩⟩
  · rintro _ _ _ _ ⟨v, L, h1, h2, h3, h4⟩
    exact ⟨L, _, _, h4, rfl, rfl, ⟨v, h1, h2⟩, h3⟩
  · rintro m meth c A a g mk v t L k n Y hp _ _ ⟨e1, e2, ⟨v', e3, e4⟩, e5⟩
    cases e3; subst e1 e2
    refine ⟨L, e4, rfl, rfl, rfl, (CHv.at Y hZ hEL H).trans ?_⟩
    rw [← hp.2.1]; exact e5
theorem Wk.callS (W : Wk p l e R s m args below meth c Z EL n0 ws own sf T cells slots h) (hx : p.tables.exec = Jvm.exec) (hEL : EW Z a0 EL) {index : Nat} (w1 : (Cond.methodLink own index y).before a0 Z = true) (w2 : (Cond.static y).before a0 Z = true) (w3 : (Cond.initialized y.cls).before a0 Z = true) (w4 : (Cond.code y bytes maxL ret).before a0 Z = true)
    (hy : y.cls ≠ "java/lang/invoke/MethodHandle" ∧ y.cls ≠ "java/lang/invoke/VarHandle") {argsL rest : List Value} {sf' : List Addr} (M : Met l Z EL n0 y bytes maxL ret [] rm argsL.toArray h ws' sf' Qv) (hsf : ∀ x ∈ sf', x ∈ sf) (hf : rm.frames + 1 ≤ R.frames) {Wd : Nat} (hl : Wd + (maxL + 11) + rm.locals ≤ R.locals) (hc : cells + rm.cells ≤ R.cells) (hsl : slots + rm.slots ≤ R.slots)
    (gws : ∀ x ∈ ws', n0 ≤ x ∧ (x ∈ ws ∨ s.heap.size ≤ x)) {g : JFrame} (hg : g.method = m) (hsize : g.locals.size = c.maxLocals) (hlen : ∀ sig, parseMethodDescriptor y.desc = some sig → argsL.length = sig.parameters.length) (hstack : g.stack = argsL.reverse ++ rest) (hW : 2 * g.monitorRoom + (rest.map fun v => v.category).sum ≤ Wd)
    (hd : decode c.code g.pc = .ok (.invokestatic index, 3)) (k : ∀ T' h' v, Wk p l e R s m args below meth c Z EL n0 ws own sf T' (cells + rm.cells) (slots + rm.slots) h' → Keep h h' ws' → Qv v h' → Go p e below Q (T'.setTop { g with pc := g.pc + 3, stack := v.toList ++ rest })) : Go p e below Q (T.setTop g) := by
  obtain ⟨vm0, locs, k0, X, eT, hS, hk, hZ, hown, hC, N, K, Ol, Fs⟩ := W
  obtain ⟨v, vm₁, ⟨U, Lb, kb, nb⟩, hw, X', hS', hle, ⟨L, ⟨q, N', K'⟩, e1, e2, e3, A⟩, st⟩ := callSS X hx hown (mvT (s := s.setVm vm0) hZ w1) (mvT (s := s.setVm vm0) hZ w2) (mvT (s := s.setVm vm0) hZ w3) (mvT (s := s.setVm vm0) hZ w4) hy (Met.pay (s := s) (Wd := Wd) M hZ w4 w3 hf hl hEL hC.1 (fun x hx => Fs x (hsf x hx))) hg hsize hlen hstack hW hd (fun _ _ => ⟨rfl, eT, hc, hsl⟩)
  dsimp only [Pt.U, Pt.locs, Pt.cells, Pt.slots] at X' hS' hle q K' e1 e2 e3 A st
  subst e1 e2 e3
  exact Go.on st (k U U.heap v (wk_call X X' hS' hle eT N' K' A gws hS hk hZ hown hC N K Ol Fs) K' q)
theorem Wk.callP (W : Wk p l e R s m args below meth c Z EL n0 ws own sf T cells slots h) (hx : p.tables.exec = Jvm.exec) (hEL : EW Z a0 EL) {index : Nat} (hy1 : y.name = "<init>") (w1 : (Cond.methodLink own index y).before a0 Z = true) (w2 : (Cond.instanceMethod y).before a0 Z = true) (w3 : (Cond.initialized y.cls).before a0 Z = true) (w4 : (Cond.code y bytes maxL none).before a0 Z = true)
    (hy : y.cls ≠ "java/lang/invoke/MethodHandle" ∧ y.cls ≠ "java/lang/invoke/VarHandle") {argsL rest : List Value} {sf' : List Addr} (M : Met l Z EL n0 y bytes maxL none [] rm (.ref a :: argsL).toArray h ws' sf' Qv) (hsf : ∀ x ∈ sf', x ∈ sf) (hf : rm.frames + 1 ≤ R.frames) {Wd : Nat} (hl : Wd + (maxL + 11) + rm.locals ≤ R.locals) (hc : cells + rm.cells ≤ R.cells) (hsl : slots + rm.slots ≤ R.slots)
    (gws : ∀ x ∈ ws', n0 ≤ x ∧ (x ∈ ws ∨ s.heap.size ≤ x)) {g : JFrame} (hg : g.method = m) (hsize : g.locals.size = c.maxLocals) (hlen : ∀ sig, parseMethodDescriptor y.desc = some sig → argsL.length = sig.parameters.length) (hstack : g.stack = argsL.reverse ++ .ref a :: rest) (hW : 2 * g.monitorRoom + (rest.map fun v => v.category).sum ≤ Wd)
    (hd : decode c.code g.pc = .ok (.invokespecial index, 3)) (k : ∀ T' h' v, Wk p l e R s m args below meth c Z EL n0 ws own sf T' (cells + rm.cells) (slots + rm.slots) h' → Keep h h' ws' → Qv v h' → Go p e below Q (T'.setTop { g with pc := g.pc + 3, stack := v.toList ++ rest })) : Go p e below Q (T.setTop g) := by
  obtain ⟨vm0, locs, k0, X, eT, hS, hk, hZ, hown, hC, N, K, Ol, Fs⟩ := W
  obtain ⟨v, vm₁, ⟨U, Lb, kb, nb⟩, hw, X', hS', hle, ⟨L, ⟨q, N', K'⟩, e1, e2, e3, A⟩, st⟩ := X.specialBackS hx hy1 hown (mvT (s := s.setVm vm0) hZ w1) (mvT (s := s.setVm vm0) hZ w2) (mvT (s := s.setVm vm0) hZ w4) hy (Met.pay (s := s) (Wd := Wd) M hZ w4 w3 hf hl hEL hC.1 (fun x hx => Fs x (hsf x hx))) hg hsize (Steps.refl _) hlen hstack hW hd (fun _ _ => ⟨rfl, eT, hc, hsl⟩)
  dsimp only [Pt.U, Pt.locs, Pt.cells, Pt.slots] at X' hS' hle q K' e1 e2 e3 A st
  subst e1 e2 e3
  exact Go.on st (k U U.heap v (wk_call X X' hS' hle eT N' K' A gws hS hk hZ hown hC N K Ol Fs) K' q)
theorem Wk.callV (W : Wk p l e R s m args below meth c Z EL n0 ws own sf T cells slots h) (hx : p.tables.exec = Jvm.exec) (hEL : EW Z a0 EL) {index : Nat} {C : String} (w1 : (Cond.methodLink own index y).before a0 Z = true) (w2 : (Cond.declares y).before a0 Z = true) (w5 : (Cond.selects C y y).before a0 Z = true) (w6 : (Cond.instanceMethod y).before a0 Z = true) (w3 : (Cond.initialized y.cls).before a0 Z = true) (w4 : (Cond.code y bytes maxL ret).before a0 Z = true)
    (hy : y.cls ≠ "java/lang/invoke/MethodHandle" ∧ y.cls ≠ "java/lang/invoke/VarHandle") (Ea : Exa Z h a C) {argsL rest : List Value} {sf' : List Addr} (M : Met l Z EL n0 y bytes maxL ret [] rm (.ref a :: argsL).toArray h ws' sf' Qv) (hsf : ∀ x ∈ sf', x ∈ sf) (hf : rm.frames + 1 ≤ R.frames) {Wd : Nat} (hl : Wd + (maxL + 11) + rm.locals ≤ R.locals) (hc : cells + rm.cells ≤ R.cells) (hsl : slots + rm.slots ≤ R.slots)
    (gws : ∀ x ∈ ws', n0 ≤ x ∧ (x ∈ ws ∨ s.heap.size ≤ x)) {g : JFrame} (hg : g.method = m) (hsize : g.locals.size = c.maxLocals) (hlen : ∀ sig, parseMethodDescriptor y.desc = some sig → argsL.length = sig.parameters.length) (hstack : g.stack = argsL.reverse ++ .ref a :: rest) (hW : 2 * g.monitorRoom + (rest.map fun v => v.category).sum ≤ Wd)
    (hd : decode c.code g.pc = .ok (.invokevirtual index, 3)) (k : ∀ T' h' v, Wk p l e R s m args below meth c Z EL n0 ws own sf T' (cells + rm.cells) (slots + rm.slots) h' → Keep h h' ws' → Qv v h' → Go p e below Q (T'.setTop { g with pc := g.pc + 3, stack := v.toList ++ rest })) : Go p e below Q (T.setTop g) := by
  obtain ⟨vm0, locs, k0, X, eT, hS, hk, hZ, hown, hC, N, K, Ol, Fs⟩ := W
  obtain ⟨cB, kB, qa, qb, qc⟩ := isOf (s := s.setVm vm0) hZ eT Ea
  obtain ⟨v, vm₁, ⟨U, Lb, kb, nb⟩, hw, X', hS', hle, ⟨L, ⟨q, N', K'⟩, e1, e2, e3, A⟩, st⟩ := X.virtualBackS hx (z := y) hown (mvT (s := s.setVm vm0) hZ w1) (mvT (s := s.setVm vm0) hZ w2) (notFace_of_selects (args := #[]) (mvT (s := s.setVm vm0) hZ w5)) (mvT (s := s.setVm vm0) hZ w5) (mvT (s := s.setVm vm0) hZ w6) hy (Met.pay (s := s) (Wd := Wd) M hZ w4 w3 hf hl hEL hC.1 (fun x hx => Fs x (hsf x hx))) qa qc hg hsize (Steps.refl _) hlen hstack hW hd (fun _ _ => ⟨rfl, eT, hc, hsl⟩)
  dsimp only [Pt.U, Pt.locs, Pt.cells, Pt.slots] at X' hS' hle q K' e1 e2 e3 A st
  subst e1 e2 e3
  exact Go.on st (k U U.heap v (wk_call X X' hS' hle eT N' K' A gws hS hk hZ hown hC N K Ol Fs) K' q)
/-! calls that a law of the JDK pays -/
theorem wk_keep (X : Stand p l e R (s.setVm vm0) m args below meth c T' locs cells slots) (e' : T'.heap = h') (E : Keep h h' ws') (gws : ∀ x ∈ ws', n0 ≤ x ∧ (x ∈ ws ∨ s.heap.size ≤ x)) (sws : ∀ x ∈ ws', x ∈ sf) (hS : s.Since vm0 k0) (hk : k0 ≤ h.size) (hZ : Z.Warmed39 vm0) (hown : vm0.findClass own = some m.cls) (hC : CHr Z EL s.vm s.heap vm0 h) (N : Fr n0 locs) (K : Keep s.heap h ws) (O : Old Z n0 h)
    (F : ∀ x ∈ sf, Safe Z EL vm0 h x ∧ x < h.size) : Wk p l e R s m args below meth c Z EL n0 ws own sf T' cells slots h' :=
  wk_tab X e' E gws hS (Nat.le_trans hk E.1) hZ hown (CHr.keep E (fun y hy => (F y (sws y hy)).1) hC.1) hC N K O F
variable {Q1 : Option Value → Heap → List Loc → Prop} {kk nn : Nat}
theorem Wk.specB (W : Wk p l e R s m args below meth c Z EL n0 ws own sf T cells slots h) (hx : p.tables.exec = Jvm.exec) {index : Nat} (hy1 : y.name = "<init>") (w1 : (Cond.methodLink own index y).before a0 Z = true) (w2 : (Cond.instanceMethod y).before a0 Z = true) (w4 : (Cond.code y bytes maxL none).before a0 Z = true)
    (hy : y.cls ≠ "java/lang/invoke/MethodHandle" ∧ y.cls ≠ "java/lang/invoke/VarHandle") {argsL rest : List Value} {Wd : Nat} (hK : ∀ s' : State, Z.Warmed39 s'.vm → Back l R p e below s' args y 3 Wd (fun A as => as = (.ref a :: argsL).toArray ∧ A.U.heap = h ∧ A.cells + kk ≤ R.cells ∧ A.slots + nn ≤ R.slots) (fun A _ v B => ∃ L, Q1 v B.U.heap L ∧ B.locs = A.locs ++ L ∧ B.cells = A.cells + kk ∧ B.slots = A.slots + nn))
    (hq : ∀ v h' L, Q1 v h' L → Fr n0 L ∧ Keep h h' ws' ∧ Qv v h') (hc : cells + kk ≤ R.cells) (hsl : slots + nn ≤ R.slots)
    (gws : ∀ x ∈ ws', n0 ≤ x ∧ (x ∈ ws ∨ s.heap.size ≤ x)) (sws : ∀ x ∈ ws', x ∈ sf) {g : JFrame} (hg : g.method = m) (hsize : g.locals.size = c.maxLocals) (hlen : ∀ sig, parseMethodDescriptor y.desc = some sig → argsL.length = sig.parameters.length) (hstack : g.stack = argsL.reverse ++ .ref a :: rest) (hW : 2 * g.monitorRoom + (rest.map fun v => v.category).sum ≤ Wd)
    (hd : decode c.code g.pc = .ok (.invokespecial index, 3)) (k : ∀ T' h' v, Wk p l e R s m args below meth c Z EL n0 ws own sf T' (cells + kk) (slots + nn) h' → Keep h h' ws' → Qv v h' → Go p e below Q (T'.setTop { g with pc := g.pc + 3, stack := v.toList ++ rest })) : Go p e below Q (T.setTop g) := by
  obtain ⟨vm0, locs, k0, X, eT, hS, hk, hZ, hown, hC, N, K, Ol, Fs⟩ := W
  obtain ⟨v, vm₁, ⟨U, Lb, kb, nb⟩, hw, X', ⟨L, q, e1, e2, e3⟩, st⟩ := X.specialBack hx hy1 hown (mvT (s := s.setVm vm0) hZ w1) (mvT (s := s.setVm vm0) hZ w2) (mvT (s := s.setVm vm0) hZ w4) hy (hK (s.setVm vm0) hZ) hg hsize (Steps.refl _) hlen hstack hW hd (fun _ _ => ⟨rfl, eT, hc, hsl⟩)
  dsimp only [Pt.U, Pt.locs, Pt.cells, Pt.slots] at X' q e1 e2 e3 st
  subst e1 e2 e3
  obtain ⟨N', K', q'⟩ := hq _ _ _ q
  exact Go.on st (k U U.heap v (wk_keep X' rfl K' gws sws hS hk hZ hown hC (N.app N') K Ol Fs) K' q')
theorem Wk.virtB (W : Wk p l e R s m args below meth c Z EL n0 ws own sf T cells slots h) (hx : p.tables.exec = Jvm.exec) {index : Nat} {C : String} (w1 : (Cond.methodLink own index y).before a0 Z = true) (w2 : (Cond.declares y).before a0 Z = true) (w5 : (Cond.selects C y y).before a0 Z = true) (w6 : (Cond.instanceMethod y).before a0 Z = true)
    (hy : y.cls ≠ "java/lang/invoke/MethodHandle" ∧ y.cls ≠ "java/lang/invoke/VarHandle") (Ea : Exa Z h a C) {argsL rest : List Value} {Wd : Nat} (hK : ∀ s' : State, Z.Warmed39 s'.vm → Back l R p e below s' args y 3 Wd (fun A as => as = (.ref a :: argsL).toArray ∧ A.U.heap = h ∧ A.cells + kk ≤ R.cells ∧ A.slots + nn ≤ R.slots) (fun A _ v B => ∃ L, Q1 v B.U.heap L ∧ B.locs = A.locs ++ L ∧ B.cells = A.cells + kk ∧ B.slots = A.slots + nn))
    (hq : ∀ v h' L, Q1 v h' L → Fr n0 L ∧ Keep h h' ws' ∧ Qv v h') (hc : cells + kk ≤ R.cells) (hsl : slots + nn ≤ R.slots)
    (gws : ∀ x ∈ ws', n0 ≤ x ∧ (x ∈ ws ∨ s.heap.size ≤ x)) (sws : ∀ x ∈ ws', x ∈ sf) {g : JFrame} (hg : g.method = m) (hsize : g.locals.size = c.maxLocals) (hlen : ∀ sig, parseMethodDescriptor y.desc = some sig → argsL.length = sig.parameters.length) (hstack : g.stack = argsL.reverse ++ .ref a :: rest) (hW : 2 * g.monitorRoom + (rest.map fun v => v.category).sum ≤ Wd)
    (hd : decode c.code g.pc = .ok (.invokevirtual index, 3)) (k : ∀ T' h' v, Wk p l e R s m args below meth c Z EL n0 ws own sf T' (cells + kk) (slots + nn) h' → Keep h h' ws' → Qv v h' → Go p e below Q (T'.setTop { g with pc := g.pc + 3, stack := v.toList ++ rest })) : Go p e below Q (T.setTop g) := by
  obtain ⟨vm0, locs, k0, X, eT, hS, hk, hZ, hown, hC, N, K, Ol, Fs⟩ := W
  obtain ⟨cB, kB, qa, qb, qc⟩ := isOf (s := s.setVm vm0) hZ eT Ea
  obtain ⟨v, vm₁, ⟨U, Lb, kb, nb⟩, hw, X', ⟨L, q, e1, e2, e3⟩, st⟩ := X.virtualBack hx (z := y) hown (mvT (s := s.setVm vm0) hZ w1) (mvT (s := s.setVm vm0) hZ w2) (notFace_of_selects (args := #[]) (mvT (s := s.setVm vm0) hZ w5)) (mvT (s := s.setVm vm0) hZ w5) (mvT (s := s.setVm vm0) hZ w6) hy (hK (s.setVm vm0) hZ) qa qc hg hsize (Steps.refl _) hlen hstack hW hd (fun _ _ => ⟨rfl, eT, hc, hsl⟩)
  dsimp only [Pt.U, Pt.locs, Pt.cells, Pt.slots] at X' q e1 e2 e3 st
  subst e1 e2 e3
  obtain ⟨N', K', q'⟩ := hq _ _ _ q
  exact Go.on st (k U U.heap v (wk_keep X' rfl K' gws sws hS hk hZ hown hC (N.app N') K Ol Fs) K' q')
theorem Wk.cp (W : Wk p l e R s m args below meth c Z EL n0 ws own sf T cells slots h) (hx : p.tables.exec = Jvm.exec) {index : Nat} (w1 : (Cond.methodLink own index Jvm.Stand.acN).before a0 Z = true) (w2 : (Cond.native Jvm.Stand.acN).before a0 Z = true) (w3 : (Cond.static Jvm.Stand.acN).before a0 Z = true) (w4 : (Cond.initialized "java/lang/System").before a0 Z = true)
    {k1 k2 : ClassId} {ty : FieldType} {z z' sp dp nn : Int32} {vs vd us : List Value} {dv dd : Value} (A : Arv Z h a k1 ty z vs dv) (B : Arv Z h b k2 ty z' vd dd) (hty : refKind ty = false) (h1 : ¬ sp < 0) (h2 : ¬ dp < 0) (h3 : ¬ nn < 0) (h4 : sp.toNatClampNeg + nn.toNatClampNeg ≤ z.toNatClampNeg) (h5 : dp.toNatClampNeg + nn.toNatClampNeg ≤ z'.toNatClampNeg)
    (hus : us = (List.range nn.toNatClampNeg).map fun i => vs.getD (sp.toNatClampNeg + i) dv) (hl : dp.toNatClampNeg + nn.toNatClampNeg ≤ vd.length) (ga : n0 ≤ b) (gw : b ∈ ws ∨ s.heap.size ≤ b) (sb : b ∈ sf)
    {g : JFrame} (hg : g.method = m) (hsize : g.locals.size = c.maxLocals) {rest : List Value} (hs : g.stack = .int nn :: .int dp :: .ref b :: .int sp :: .ref a :: rest) (hd : decode c.code g.pc = .ok (.invokestatic index, 3))
    (hf : 1 ≤ R.frames) {Wd : Nat} (hW : 2 * g.monitorRoom + (rest.map fun v => v.category).sum ≤ Wd) (hlo : Wd + (nativeFrameWords "java/lang/System" "arraycopy" 5 + 11) ≤ R.locals)
    (k : ∀ T' h', Wk p l e R s m args below meth c Z EL n0 ws own sf T' cells slots h' → Keep h h' [b] → Arv Z h' b k2 ty z' (vd.take dp.toNatClampNeg ++ us ++ vd.drop (dp.toNatClampNeg + nn.toNatClampNeg)) dd → Go p e below Q (T'.setTop { g with pc := g.pc + 3, stack := rest })) : Go p e below Q (T.setTop g) := by
  obtain ⟨vm0, locs, k0, X, eT, hS, hk, hZ, hown, hC, N, K, Ol, Fs⟩ := W
  obtain ⟨T', h', L, X', e', N', K', A', st⟩ := RoadKit.cpA X hx hZ hown w1 w2 w3 w4 eT A B (Or.inl ⟨rfl, hty⟩) h1 h2 h3 h4 h5 hus hl N ga hg hsize hs hd hf hW hlo
  exact Go.of st (k T' h' (wk_keep X' e' K' (allS ⟨ga, gw⟩ all0) (allS sb all0) hS hk hZ hown hC N' K Ol Fs) K' A')
theorem Wk.aaload (W : Wk p l e R s m args below meth c Z EL n0 ws own sf T cells slots h) (hx : p.tables.exec = Jvm.exec) {kc : ClassId} {ty : FieldType} {z j : Int32} {vs : List Value} {dv : Value} (V : Arv Z h a kc ty z vs dv) (hty : ty.isReference = true) (hj : ¬ j < 0 ∧ j < z) (hv : vs.getD j.toNatClampNeg dv = v)
    {g : JFrame} (hg : g.method = m) {rest : List Value} (hs : g.stack = .int j :: .ref a :: rest) (hd : decode c.code g.pc = .ok (.aaload, 1)) (k : Go p e below Q (T.setTop { g with pc := g.pc + 1, stack := v :: rest })) : Go p e below Q (T.setTop g) := by
  obtain ⟨vm0, locs, k0, X, eT, hS, hk, hZ, hown, r⟩ := W
  obtain ⟨cl, A, q1, S1, q3, H, G⟩ := V
  exact Go.of (fun t q => X.aaload hx (by rw [eT]; exact A.1) (State.isArrayOf_alike hZ.alike A.2.1) hty A.2.2 (inb_of S1 hj) (H.at (inb_of S1 hj) hv) hg hs hd t q) k
theorem Wk.cloneV (W : Wk p l e R s m args below meth c Z EL n0 ws own sf T cells slots h) (hx : p.tables.exec = Jvm.exec) {ad : String} {index : Nat} (w1 : (Cond.methodLink own index ⟨ad, "clone", "()Ljava/lang/Object;"⟩).before a0 Z = true) (w2 : (Cond.sameMethod ad "java/lang/Object" "clone" "()Ljava/lang/Object;").before a0 Z = true) (w3 : (Cond.native ⟨"java/lang/Object", "clone", "()Ljava/lang/Object;"⟩).before a0 Z = true)
    (w4 : (Cond.instanceMethod ⟨"java/lang/Object", "clone", "()Ljava/lang/Object;"⟩).before a0 Z = true) (w5 : (Cond.selects ad ⟨ad, "clone", "()Ljava/lang/Object;"⟩ ⟨"java/lang/Object", "clone", "()Ljava/lang/Object;"⟩).before a0 Z = true) (w6 : (Cond.castable ad "java/lang/Cloneable").before a0 Z = true)
    {kc : ClassId} {ty : FieldType} {z : Int32} {vs : List Value} {dv : Value} (V : Arv Z h a kc ty z vs dv) (E : Exa Z h a ad) (F : ∀ cl : Cell, Arr Z h a cl ty → FitC Z cl) {g : JFrame} (hg : g.method = m) (hsize : g.locals.size = c.maxLocals) {rest : List Value} (hs : g.stack = .ref a :: rest) (hd : decode c.code g.pc = .ok (.invokevirtual index, 3))
    (hf : 1 ≤ R.frames) {Wd cap : Nat} (hW : 2 * g.monitorRoom + (rest.map fun v => v.category).sum ≤ Wd) (hl : Wd + 14 ≤ R.locals) (hcap : z.toNatClampNeg ≤ cap) (hc : cells + 1 ≤ R.cells) (hsl : slots + cap ≤ R.slots)
    (k : ∀ T' h' b, b = h.size → n0 ≤ b ∧ s.heap.size ≤ b → Wk p l e R s m args below meth c Z EL n0 ws own (b :: sf) T' (cells + 1) (slots + cap) h' → Keep h h' [] → Arv Z h' b kc ty z vs dv → Exa Z h' b ad → Go p e below Q (T'.setTop { g with pc := g.pc + 3, stack := .ref b :: rest })) : Go p e below Q (T.setTop g) := by
  have hle := W.n0le
  have hle' := W.s0le
  obtain ⟨vm0, locs, k0, X, eT, hS, hk, hZ, hown, hC, N, K, O, Fs⟩ := W
  obtain ⟨cl, A, q1, S1, q3, H, G⟩ := V
  obtain ⟨T', h', X', e', Ex, A', E', st⟩ := RoadKit.cloneA X hx hZ hown w1 w2 w3 w4 w5 w6 eT A E (F cl A) hg hsize hs hd hf hW hl (by rw [S1]; exact hcap) hc hsl
  exact Go.of st (k T' h' h.size rfl ⟨hle, hle'⟩ (wk_new X' e' Ex A'.lt hS hk hZ hown hC N K O Fs) ((Keep.refl h []).ext Ex) ⟨cloneOf cl, A', q1, S1, q3, H, G⟩ E')
theorem ne_of_born {h h1 : Heap} (hb : h.size ≤ b) (hlt : a < h1.size) (hle : h1.size ≤ h.size) : a ≠ b := Nat.ne_of_lt (Nat.lt_of_lt_of_le hlt (Nat.le_trans hle hb))
theorem nin1 (q : a ≠ b) : a ∉ [b] := ninS q nin0
theorem all1 {P : Addr → Prop} (q : P a) : ∀ x ∈ [a], P x := allS q all0
theorem all0i {P : Int32 → Prop} : ∀ x ∈ ([] : List Int32), P x := fun _ q => nomatch q
theorem allSi {P : Int32 → Prop} {y : Int32} {L : List Int32} (q : P y) (r : ∀ x ∈ L, P x) : ∀ x ∈ y :: L, P x := fun x z => (List.mem_cons.mp z).elim (fun u => u ▸ q) (r x)
theorem fin256 {P : Int32 → Prop} (t : ∀ k : Fin 256, P (Int32.ofNat k.val)) {q : Int32} (hq : ¬ q < 0 ∧ ¬ (255 : Int32) < q) : P q := by
  have h0 : ¬ q.toInt < 0 := fun z => hq.1 (by rw [Int32.lt_iff_toInt_lt]; exact z)
  have h1 : ¬ 255 < q.toInt := fun z => hq.2 (by rw [Int32.lt_iff_toInt_lt]; exact z)
  have e : q = Int32.ofNat q.toInt.toNat := by
    apply Int32.toInt_inj.mp
    rw [Int32.toInt_ofNat_of_lt (by omega)]
    omega
  rw [e]
  exact t ⟨q.toInt.toNat, by omega⟩
theorem and255 (x : Int32) : ¬ (x &&& (255 : Int32)) < 0 ∧ ¬ (255 : Int32) < (x &&& (255 : Int32)) := by
  have t : ∀ k : Fin 256, ¬ (Int32.ofNat k.val) < 0 ∧ ¬ (255 : Int32) < (Int32.ofNat k.val) := by decide +kernel
  have h : (x &&& 255).toBitVec.toNat < 256 := by
    simp only [Int32.toBitVec_and, BitVec.toNat_and]
    exact Nat.lt_succ_of_le Nat.and_le_right
  have e : (x &&& 255) = Int32.ofNat (x &&& 255).toBitVec.toNat := by
    apply Int32.toBitVec_inj.mp
    show _ = BitVec.ofNat 32 _
    rw [BitVec.ofNat_toNat]; simp
  rw [e]
  exact t ⟨_, h⟩
theorem snd255 {cs : List Int32} (h : ∀ c ∈ cs, ¬ c < 0 ∧ ¬ (255 : Int32) < c) : ∀ c ∈ cs, ¬ (255 : Int32) < c := fun c hc => (h c hc).2
theorem char_id {q : Int32} (hq : ¬ q < 0 ∧ ¬ (255 : Int32) < q) : q.toUInt32.toUInt16.toUInt32.toInt32 = q := fin256 (P := fun q => q.toUInt32.toUInt16.toUInt32.toInt32 = q) (by decide +kernel) hq
theorem char255 (x : Int32) : ∃ q : Int32, (x &&& (255 : Int32)).toUInt32.toUInt16.toUInt32.toInt32 = q ∧ (¬ q < 0 ∧ ¬ (255 : Int32) < q) ∧ q = x &&& (255 : Int32) := ⟨x &&& 255, char_id (and255 x), and255 x, rfl⟩
theorem nar_char {q : Int32} (hq : ¬ q < 0 ∧ ¬ (255 : Int32) < q) : nar .char q = q := fin256 (P := fun q => nar .char q = q) (by decide +kernel) hq
theorem and1 (x : Int32) : (x &&& (1 : Int32)) = (0 : Int32) ∨ (x &&& (1 : Int32)) = (1 : Int32) := by
  have t : ∀ k : Fin 2, (Int32.ofNat k.val) = (0 : Int32) ∨ (Int32.ofNat k.val) = (1 : Int32) := by decide +kernel
  have h : (x &&& 1).toBitVec.toNat < 2 := by
    simp only [Int32.toBitVec_and, BitVec.toNat_and]
    exact Nat.lt_succ_of_le Nat.and_le_right
  have e : (x &&& 1) = Int32.ofNat (x &&& 1).toBitVec.toNat := by
    apply Int32.toBitVec_inj.mp
    show _ = BitVec.ofNat 32 _
    rw [BitVec.ofNat_toNat]; simp
  rw [e]
  exact t ⟨_, h⟩
theorem and3 (x : Int32) : (x &&& (3 : Int32)) = (0 : Int32) ∨ (x &&& (3 : Int32)) = (1 : Int32) ∨ (x &&& (3 : Int32)) = (2 : Int32) ∨ (x &&& (3 : Int32)) = (3 : Int32) := by
  have t : ∀ k : Fin 4, (Int32.ofNat k.val) = (0 : Int32) ∨ (Int32.ofNat k.val) = (1 : Int32) ∨ (Int32.ofNat k.val) = (2 : Int32) ∨ (Int32.ofNat k.val) = (3 : Int32) := by decide +kernel
  have h : (x &&& 3).toBitVec.toNat < 4 := by
    simp only [Int32.toBitVec_and, BitVec.toNat_and]
    exact Nat.lt_succ_of_le Nat.and_le_right
  have e : (x &&& 3) = Int32.ofNat (x &&& 3).toBitVec.toNat := by
    apply Int32.toBitVec_inj.mp
    show _ = BitVec.ofNat 32 _
    rw [BitVec.ofNat_toNat]; simp
  rw [e]
  exact t ⟨_, h⟩
theorem and7 (x : Int32) : (x &&& (7 : Int32)) = (0 : Int32) ∨ (x &&& (7 : Int32)) = (1 : Int32) ∨ (x &&& (7 : Int32)) = (2 : Int32) ∨ (x &&& (7 : Int32)) = (3 : Int32) ∨ (x &&& (7 : Int32)) = (4 : Int32) ∨ (x &&& (7 : Int32)) = (5 : Int32) ∨ (x &&& (7 : Int32)) = (6 : Int32) ∨ (x &&& (7 : Int32)) = (7 : Int32) := by
  have t : ∀ k : Fin 8, (Int32.ofNat k.val) = (0 : Int32) ∨ (Int32.ofNat k.val) = (1 : Int32) ∨ (Int32.ofNat k.val) = (2 : Int32) ∨ (Int32.ofNat k.val) = (3 : Int32) ∨ (Int32.ofNat k.val) = (4 : Int32) ∨ (Int32.ofNat k.val) = (5 : Int32) ∨ (Int32.ofNat k.val) = (6 : Int32) ∨ (Int32.ofNat k.val) = (7 : Int32) := by decide +kernel
  have h : (x &&& 7).toBitVec.toNat < 8 := by
    simp only [Int32.toBitVec_and, BitVec.toNat_and]
    exact Nat.lt_succ_of_le Nat.and_le_right
  have e : (x &&& 7) = Int32.ofNat (x &&& 7).toBitVec.toNat := by
    apply Int32.toBitVec_inj.mp
    show _ = BitVec.ofNat 32 _
    rw [BitVec.ofNat_toNat]; simp
  rw [e]
  exact t ⟨_, h⟩
theorem and3_cap (x : Int32) : ¬ (x &&& (3 : Int32)) < 0 ∧ (x &&& (3 : Int32)).toNatClampNeg ≤ 3 := by
  rcases and3 x with e | e | e | e <;> rw [e] <;> decide
theorem nar_byte (x : Int32) : nar .byte (x.toInt8.toInt32) = x.toInt8.toInt32 := by
  show x.toInt8.toInt32.toInt8.toInt32 = x.toInt8.toInt32
  simp
theorem ne_tys {c1 c2 : Cell} {t1 t2 : FieldType} (F : Arr Z h a c1 t1) (G : Arr Z h b c2 t2) (hn : t1 ≠ t2) : a ≠ b := fun q => by
  subst q
  cases F.1.symm.trans G.1
  obtain ⟨-, k1, e1, p1, r1⟩ := F.2.1
  obtain ⟨-, k2, e2, p2, r2⟩ := G.2.1
  cases e1.symm.trans e2
  cases r1.symm.trans r2
  exact hn rfl
end OwnKit
end Jvm.Pilot.@@N@@
namespace Jvm.Pilot.@@N@@
open Jvm Jvm.ClassFile Sem Op Lib Jvm.Free Jvm.Stand Jvm.LawKit Jvm.RoadKit Bundle Jvm.Pilot.@@N@@.Jvm.D
section OwnStr
variable {p : Program} {l : Launch} {e : Env} {R : Room} {s : State} {m : MethodId} {args : Array Value} {below : List Frame} {meth : Method} {c : Code} {T T' : State} {locs : List Loc} {cells slots : Nat} {Z : State} {a0 : Array Value} {h h' : Heap} {EL : List (String × Nat)} {n0 k0 : Nat} {ws ws' sf : List Addr} {own : String} {Q : Outcome → State → Prop} {a b x : Addr} {v : Value} {sl : Nat}
variable {y : MethodName} {bytes : ByteArray} {maxL : Nat} {zc : Int32} {cs ds : List Int32} {kC : ClassId} {N : Int32} {d : Value} {n : Nat} {v0 c0 : Value} {index : Nat} {Wd : Nat} {g : JFrame} {rest : List Value}
/-- a String at x that spells cs -/
def Str (Z : State) (h : Heap) (x : Addr) (cs : List Int32) : Prop := ∃ (t : Addr) (kb : ClassId) (cd N2 : Int32) (vs : List Value), Exa Z h x "java/lang/String" ∧ Fld Z h x "java/lang/String" "value" "[B" (.ref t) ∧ Fld Z h x "java/lang/String" "coder" "B" (.int cd) ∧ Arv Z h t kb .byte N2 vs (.int 0) ∧ StrChars.Road.CodA cs cd N2 vs ∧ (∀ c ∈ cs, ¬ c < 0 ∧ ¬ (65535 : Int32) < c) ∧ cs.length ≤ 4000
theorem Str.exa (S : Str Z h x cs) : Exa Z h x "java/lang/String" := by
  obtain ⟨_, _, _, _, _, E, _⟩ := S
  exact E
theorem Str.keep0 (S : Str Z h x cs) (K : Keep h h' []) : Str Z h' x cs := by
  obtain ⟨t, kb, cd, N2, vs, E, V, C, A, r⟩ := S
  exact ⟨t, kb, cd, N2, vs, E.keep K, V.keep K nin0, C.keep K nin0, A.keep K nin0, r⟩
/-- carried over a step that may have written the one object b, no String of hers and no array -/
theorem Str.keepE {C : String} {kI : Nat} (S : Str Z h x cs) (K : Keep h h' [b]) (Eb : Exa Z h b C) (wi : (Cond.instantiable C kI).before a0 Z = true) (hne : x ≠ b) : Str Z h' x cs := by
  obtain ⟨t, kb, cd, N2, vs, E, V, D, A, r⟩ := S
  have ht : t ≠ b := by
    obtain ⟨cl, A1, -⟩ := A
    exact (ne_arr Eb wi A1).symm
  exact ⟨t, kb, cd, N2, vs, E.keep K, V.keep K (nin1 hne), D.keep K (nin1 hne), A.keep K (nin1 ht), r⟩
theorem Str.keepC {C : String} {kI : Nat} (S : Str Z h x cs) (K : Keep h h' [b]) (Eb : Exa Z h b C) (wi : (Cond.instantiable C kI).before a0 Z = true) (hC : "java/lang/String" ≠ C) : Str Z h' x cs := S.keepE K Eb wi (ne_exa S.exa Eb hC)
/-- carried over a step that may have written one array of another kind than byte -/
theorem Str.keepA {kc : ClassId} {ty : FieldType} {z : Int32} {vs : List Value} {dv : Value} (S : Str Z h x cs) (K : Keep h h' [b]) (V : Arv Z h b kc ty z vs dv) (wi : (Cond.instantiable "java/lang/String" 4).before a0 Z = true) (ht : ∀ t : Addr, t < h.size → ∀ (kb : ClassId) (N2 : Int32) (us : List Value), Arv Z h t kb .byte N2 us (.int 0) → t ≠ b) : Str Z h' x cs := by
  obtain ⟨t, kb, cd, N2, us, E, V1, D, A, r⟩ := S
  have hx : x ≠ b := by
    obtain ⟨cl, A1, -⟩ := V
    exact ne_arr E wi A1
  have ht := ht t A.lt kb N2 us A
  exact ⟨t, kb, cd, N2, us, E.keep K, V1.keep K (nin1 hx), D.keep K (nin1 hx), A.keep K (nin1 ht), r⟩
theorem Str.keepT {kc : ClassId} {ty : FieldType} {z : Int32} {vs : List Value} {dv : Value} (S : Str Z h x cs) (K : Keep h h' [b]) (V : Arv Z h b kc ty z vs dv) (wi : (Cond.instantiable "java/lang/String" 4).before a0 Z = true) (ht : FieldType.byte ≠ ty) : Str Z h' x cs :=
  S.keepA K V wi fun t _ kb N2 us A => by
    obtain ⟨c1, A1, -⟩ := A
    obtain ⟨c2, A2, -⟩ := V
    exact ne_tys A1 A2 ht
theorem Str.open_ (S : Str Z h x cs) (hlat : ∀ c ∈ cs, ¬ (255 : Int32) < c) : ∃ (t : Addr) (kb : ClassId), Exa Z h x "java/lang/String" ∧ Fld Z h x "java/lang/String" "value" "[B" (.ref t) ∧ Fld Z h x "java/lang/String" "coder" "B" (.int 0) ∧ Arv Z h t kb .byte (Int32.ofNat cs.length) (cs.map fun c => Value.int (StrChars.lo8 c)) (.int 0) := by
  obtain ⟨t, kb, cd, N2, vs, E, V, C, A, hc, -, -⟩ := S
  rcases hc with ⟨rfl, rfl, rfl, -⟩ | ⟨-, -, -, c, hc, hw⟩
  · exact ⟨t, kb, E, V, C, A⟩
  · exact absurd hw (hlat c hc)
theorem up255 (h : ∀ c ∈ cs, ¬ c < 0 ∧ ¬ (255 : Int32) < c) : ∀ c ∈ cs, ¬ c < 0 ∧ ¬ (65535 : Int32) < c := fun c hc => ⟨(h c hc).1, fun q => (h c hc).2 (by rw [Int32.lt_iff_toInt_lt] at q ⊢; have e1 : (65535 : Int32).toInt = 65535 := rfl; have e2 : (255 : Int32).toInt = 255 := rfl; omega)⟩
theorem pdChars : parseMethodDescriptor "([C)V" = some ⟨[.array .char], none⟩ := by decide +kernel
theorem Wk.newStr (W : Wk p l e R s m args below meth c Z EL n0 ws own sf T cells slots h) (hx : p.tables.exec = Jvm.exec) (hws : ∀ d ∈ StrChars.Road.words, d.before a0 Z = true) (wi : (Cond.instantiable "java/lang/String" 4).before a0 Z = true) (SC : Sta Z Z.heap "java/lang/String" "COMPACT_STRINGS" "Z" (.int zc)) (hz : ¬ zc = 0)
    (w1 : (Cond.methodLink own index ⟨"java/lang/String", "<init>", "([C)V"⟩).before a0 Z = true) (w2 : (Cond.instanceMethod ⟨"java/lang/String", "<init>", "([C)V"⟩).before a0 Z = true) (w4 : (Cond.code ⟨"java/lang/String", "<init>", "([C)V"⟩ bytes maxL none).before a0 Z = true)
    (Ex : Exa Z h x "java/lang/String") (V : Fld Z h x "java/lang/String" "value" "[B" v0) (C : Fld Z h x "java/lang/String" "coder" "B" c0) (A : Arv Z h b kC .char N (cs.map Value.int) d) (hn : cs.length = n) (hN : N = Int32.ofNat n) (l0 : 0 < n) (l2 : n ≤ 4000) (hp : ∀ c ∈ cs, ¬ c < 0 ∧ ¬ (255 : Int32) < c) (gx : n0 ≤ x) (gw : x ∈ ws ∨ s.heap.size ≤ x) (sx : x ∈ sf)
    (hfr : 4 ≤ R.frames) (hlo : Wd + 65 ≤ R.locals) (hc : cells + 1 ≤ R.cells) (hsl : slots + n ≤ R.slots) (hg : g.method = m) (hsize : g.locals.size = c.maxLocals) (hstack : g.stack = .ref b :: .ref x :: rest) (hW : 2 * g.monitorRoom + (rest.map fun v => v.category).sum ≤ Wd) (hd : decode c.code g.pc = .ok (.invokespecial index, 3))
    (k : ∀ T' h', Wk p l e R s m args below meth c Z EL n0 ws own sf T' (cells + 1) (slots + n) h' → Keep h h' [x] → Str Z h' x cs → Go p e below Q (T'.setTop { g with pc := g.pc + 3, stack := rest })) : Go p e below Q (T.setTop g) := by
  have hle := W.n0le
  have hO := W.old
  refine W.specB hx (y := ⟨"java/lang/String", "<init>", "([C)V"⟩) rfl w1 w2 w4 (by decide) (kk := 1) (nn := n) (ws' := [x]) (a := x) (Qv := fun v h' => v = none ∧ Str Z h' x cs) (Q1 := fun v h' L => StrChars.Road.QV Z x N (cs.map fun c => c.toInt8.toInt32) h n0 v h' L) (argsL := [.ref b]) (rest := rest) (Wd := Wd)
    (fun s' hZ' => StrChars.Road.backV (W := Wd) hZ' hws wi gx hle Ex V C A (SC.ext hO.2) hz hn hN l0 l2 hp rfl hfr hlo) (fun v h' L q => ?_) hc hsl (all1 ⟨gx, gw⟩) (all1 sx) hg hsize (lenOf pdChars rfl) hstack hW hd (fun T' h' v W' K' q => ?_)
  · obtain ⟨rfl, q1, q2, q3, q4, t, kb, -, -, -, q5, q6⟩ := q
    refine ⟨q1, q2, rfl, t, kb, 0, N, _, q3, q5, q4, q6, ?_, up255 hp, by omega⟩
    subst hN
    exact StrChars.Road.codOf hn (fun c hc => (hp c hc).2)
  · obtain ⟨rfl, S⟩ := q
    exact k T' h' W' K' S
end OwnStr
end Jvm.Pilot.@@N@@
namespace Jvm.Pilot.@@N@@
open Jvm Jvm.ClassFile Sem Op Lib Jvm.Free Jvm.Stand Jvm.LawKit Jvm.RoadKit Bundle Jvm.Pilot.@@N@@.Jvm.D
section OwnStrMore
variable {p : Program} {l : Launch} {e : Env} {R : Room} {s : State} {m : MethodId} {args : Array Value} {below : List Frame} {meth : Method} {c : Code} {T T' : State} {cells slots : Nat} {Z : State} {a0 : Array Value} {h h' : Heap} {EL : List (String × Nat)} {n0 : Nat} {ws sf : List Addr} {own : String} {Q : Outcome → State → Prop} {a b x y : Addr}
variable {zc : Int32} {cs ds : List Int32} {n : Nat} {index : Nat} {Wd : Nat} {g : JFrame} {rest : List Value} {fm : Value}
theorem pdStrLen : parseMethodDescriptor "()I" = some ⟨[], some .int⟩ := by decide +kernel
theorem Wk.strLen (W : Wk p l e R s m args below meth c Z EL n0 ws own sf T cells slots h) (hx : p.tables.exec = Jvm.exec) (hsw : ∀ d ∈ StrChars.Road.wordsLen, d.before a0 Z = true) (wi : (Cond.instantiable "java/lang/String" 4).before a0 Z = true) (SC : Sta Z Z.heap "java/lang/String" "COMPACT_STRINGS" "Z" (.int zc)) (hz : ¬ zc = 0) (S : Str Z h x cs)
    (w1 : (Cond.methodLink own index ⟨"java/lang/String", "length", "()I"⟩).before a0 Z = true) (w2 : (Cond.declares ⟨"java/lang/String", "length", "()I"⟩).before a0 Z = true) (w5 : (Cond.selects "java/lang/String" ⟨"java/lang/String", "length", "()I"⟩ ⟨"java/lang/String", "length", "()I"⟩).before a0 Z = true) (w6 : (Cond.instanceMethod ⟨"java/lang/String", "length", "()I"⟩).before a0 Z = true)
    (hfr : 2 ≤ R.frames) (hlo : Wd + 25 ≤ R.locals) (hc : cells ≤ R.cells) (hsl : slots ≤ R.slots) (hg : g.method = m) (hsize : g.locals.size = c.maxLocals) (hstack : g.stack = .ref x :: rest) (hW : 2 * g.monitorRoom + (rest.map fun v => v.category).sum ≤ Wd) (hd : decode c.code g.pc = .ok (.invokevirtual index, 3))
    (k : ∀ T', Wk p l e R s m args below meth c Z EL n0 ws own sf T' cells slots h → Go p e below Q (T'.setTop { g with pc := g.pc + 3, stack := (.int (Int32.ofNat cs.length)) :: rest })) : Go p e below Q (T.setTop g) := by
  have hO := W.old
  have hEx := S.exa
  obtain ⟨t, kb, cd, N2, vs, E1, V1, C1, A1, hcd, hbd, hln⟩ := S
  refine W.virtB hx w1 w2 w5 w6 (by decide) hEx (kk := 0) (nn := 0) (ws' := []) (Qv := fun v h' => v = some (.int (Int32.ofNat cs.length)) ∧ h = h') (Q1 := fun v h' L => v = some (.int (Int32.ofNat cs.length)) ∧ L = [] ∧ h' = h) (argsL := []) (rest := rest) (Wd := Wd)
    (fun s' hZ' => StrChars.Road.lenW (W := Wd) hZ' hsw wi E1 V1 C1 A1 hcd hbd (SC.ext hO.2) hz hln hfr hlo) (fun v h' L q => ?_) hc hsl all0 all0 hg hsize (lenOf pdStrLen rfl) hstack hW hd (fun T' h' v W' K' q => ?_)
  · obtain ⟨q1, rfl, rfl⟩ := q
    exact ⟨Fr.nil n0, Keep.refl _ _, q1, rfl⟩
  · obtain ⟨q1, rfl⟩ := q
    subst q1
    exact k T' W'
end OwnStrMore
end Jvm.Pilot.@@N@@
namespace Jvm.Pilot.@@N@@
open Jvm Jvm.ClassFile Sem Op Lib Jvm.Free Jvm.Stand Jvm.LawKit Jvm.RoadKit Bundle Jvm.Pilot.@@N@@.Jvm.D
section OwnStrMore
variable {p : Program} {l : Launch} {e : Env} {R : Room} {s : State} {m : MethodId} {args : Array Value} {below : List Frame} {meth : Method} {c : Code} {T T' : State} {cells slots : Nat} {Z : State} {a0 : Array Value} {h h' : Heap} {EL : List (String × Nat)} {n0 : Nat} {ws sf : List Addr} {own : String} {Q : Outcome → State → Prop} {a b x y : Addr}
variable {zc : Int32} {cs ds : List Int32} {n : Nat} {index : Nat} {Wd : Nat} {g : JFrame} {rest : List Value} {fm : Value}
theorem lat0 {cd N2 : Int32} {vs : List Value} {i : Nat} (hlat : ∀ c ∈ cs, ¬ (255 : Int32) < c) (hc : StrChars.Road.CodA cs cd N2 vs) (hi : i < cs.length) : cd = 0 := by
  rcases hc with ⟨h1, -⟩ | ⟨-, -, -, c, hc, hw⟩
  · exact h1
  · exact absurd hw (hlat c hc)
theorem pdStrChar : parseMethodDescriptor "(I)C" = some ⟨[.int], some .char⟩ := by decide +kernel
theorem Wk.strChar (W : Wk p l e R s m args below meth c Z EL n0 ws own sf T cells slots h) (hx : p.tables.exec = Jvm.exec) (hsw : ∀ d ∈ StrChars.Road.wordsChN, d.before a0 Z = true) (wi : (Cond.instantiable "java/lang/String" 4).before a0 Z = true) (SC : Sta Z Z.heap "java/lang/String" "COMPACT_STRINGS" "Z" (.int zc)) (hz : ¬ zc = 0) (SF : Sta Z Z.heap "jdk/internal/util/Preconditions" "SIOOBE_FORMATTER" "Ljava/util/function/BiFunction;" fm) (rf : fm.isRef = true) (S : Str Z h x cs) (hlat : ∀ c ∈ cs, ¬ (255 : Int32) < c) {i : Nat} {j : Int32} (hi : i < cs.length) (hj : j = Int32.ofNat i)
    (w1 : (Cond.methodLink own index ⟨"java/lang/String", "charAt", "(I)C"⟩).before a0 Z = true) (w2 : (Cond.declares ⟨"java/lang/String", "charAt", "(I)C"⟩).before a0 Z = true) (w5 : (Cond.selects "java/lang/String" ⟨"java/lang/String", "charAt", "(I)C"⟩ ⟨"java/lang/String", "charAt", "(I)C"⟩).before a0 Z = true) (w6 : (Cond.instanceMethod ⟨"java/lang/String", "charAt", "(I)C"⟩).before a0 Z = true)
    (hfr : 4 ≤ R.frames) (hlo : Wd + 53 ≤ R.locals) (hc : cells ≤ R.cells) (hsl : slots ≤ R.slots) (hg : g.method = m) (hsize : g.locals.size = c.maxLocals) (hstack : g.stack = .int j :: .ref x :: rest) (hW : 2 * g.monitorRoom + (rest.map fun v => v.category).sum ≤ Wd) (hd : decode c.code g.pc = .ok (.invokevirtual index, 3))
    (k : ∀ T', Wk p l e R s m args below meth c Z EL n0 ws own sf T' cells slots h → Go p e below Q (T'.setTop { g with pc := g.pc + 3, stack := (.int (cs.getD i 0)) :: rest })) : Go p e below Q (T.setTop g) := by
  have hO := W.old
  have hEx := S.exa
  obtain ⟨t, kb, cd, N2, vs, E1, V1, C1, A1, hcd, hbd, hln⟩ := S
  obtain rfl : cd = 0 := lat0 hlat hcd hi
  refine W.virtB hx w1 w2 w5 w6 (by decide) hEx (kk := 0) (nn := 0) (ws' := []) (Qv := fun v h' => v = some (.int (cs.getD i 0)) ∧ h = h') (Q1 := fun v h' L => v = some (.int (cs.getD i 0)) ∧ L = [] ∧ h' = h) (argsL := [.int j]) (rest := rest) (Wd := Wd)
    (fun s' hZ' => StrChars.Road.chN (W := Wd) (i := i) (j := j) hZ' hsw wi E1 V1 C1 A1 hcd hbd (SC.ext hO.2) hz (SF.ext hO.2) rf hln hi hj hfr hlo) (fun v h' L q => ?_) hc hsl all0 all0 hg hsize (lenOf pdStrChar rfl) hstack hW hd (fun T' h' v W' K' q => ?_)
  · obtain ⟨q1, rfl, rfl⟩ := q
    exact ⟨Fr.nil n0, Keep.refl _ _, q1, rfl⟩
  · obtain ⟨q1, rfl⟩ := q
    subst q1
    exact k T' W'
end OwnStrMore
end Jvm.Pilot.@@N@@
namespace Jvm.Pilot.@@N@@
open Jvm Jvm.ClassFile Sem Op Lib Jvm.Free Jvm.Stand Jvm.LawKit Jvm.RoadKit Bundle Jvm.Pilot.@@N@@.Jvm.D
section OwnStrMore
variable {p : Program} {l : Launch} {e : Env} {R : Room} {s : State} {m : MethodId} {args : Array Value} {below : List Frame} {meth : Method} {c : Code} {T T' : State} {cells slots : Nat} {Z : State} {a0 : Array Value} {h h' : Heap} {EL : List (String × Nat)} {n0 : Nat} {ws sf : List Addr} {own : String} {Q : Outcome → State → Prop} {a b x y : Addr}
variable {zc : Int32} {cs ds : List Int32} {n : Nat} {index : Nat} {Wd : Nat} {g : JFrame} {rest : List Value} {fm : Value}
theorem pdStrEq : parseMethodDescriptor "(Ljava/lang/Object;)Z" = some ⟨[.object "java/lang/Object"], some .boolean⟩ := by decide +kernel
theorem Wk.strEq (W : Wk p l e R s m args below meth c Z EL n0 ws own sf T cells slots h) (hx : p.tables.exec = Jvm.exec) (hsw : ∀ d ∈ StrChars.Road.wordsEq, d.before a0 Z = true) (wi : (Cond.instantiable "java/lang/String" 4).before a0 Z = true) (SC : Sta Z Z.heap "java/lang/String" "COMPACT_STRINGS" "Z" (.int zc)) (hz : ¬ zc = 0) (S : Str Z h x cs) (S' : Str Z h y ds)
    (w1 : (Cond.methodLink own index ⟨"java/lang/String", "equals", "(Ljava/lang/Object;)Z"⟩).before a0 Z = true) (w2 : (Cond.declares ⟨"java/lang/String", "equals", "(Ljava/lang/Object;)Z"⟩).before a0 Z = true) (w5 : (Cond.selects "java/lang/String" ⟨"java/lang/String", "equals", "(Ljava/lang/Object;)Z"⟩ ⟨"java/lang/String", "equals", "(Ljava/lang/Object;)Z"⟩).before a0 Z = true) (w6 : (Cond.instanceMethod ⟨"java/lang/String", "equals", "(Ljava/lang/Object;)Z"⟩).before a0 Z = true)
    (hfr : 2 ≤ R.frames) (hlo : Wd + 28 ≤ R.locals) (hc : cells ≤ R.cells) (hsl : slots ≤ R.slots) (hg : g.method = m) (hsize : g.locals.size = c.maxLocals) (hstack : g.stack = .ref y :: .ref x :: rest) (hW : 2 * g.monitorRoom + (rest.map fun v => v.category).sum ≤ Wd) (hd : decode c.code g.pc = .ok (.invokevirtual index, 3))
    (k : ∀ T' (r : Int32), (r = 1 ∧ cs = ds ∨ r = 0 ∧ ¬ cs = ds) → Wk p l e R s m args below meth c Z EL n0 ws own sf T' cells slots h → Go p e below Q (T'.setTop { g with pc := g.pc + 3, stack := .int r :: rest })) : Go p e below Q (T.setTop g) := by
  have hO := W.old
  have hEx := S.exa
  obtain ⟨t, kb, cd, N2, vs, E1, V1, C1, A1, hcd, hbd, hln⟩ := S
  obtain ⟨t', kb', cd', N2', vs', E1', V1', C1', A1', hcd', hbd', hln'⟩ := S'
  refine W.virtB hx w1 w2 w5 w6 (by decide) hEx (kk := 0) (nn := 0) (ws' := []) (Qv := fun v h' => ((v = some (.int 1) ∧ cs = ds) ∨ (v = some (.int 0) ∧ ¬ cs = ds)) ∧ h = h') (Q1 := fun v h' L => ((v = some (.int 1) ∧ cs = ds) ∨ (v = some (.int 0) ∧ ¬ cs = ds)) ∧ L = [] ∧ h' = h) (argsL := [.ref y]) (rest := rest) (Wd := Wd)
    (fun s' hZ' => StrChars.Road.eqW (W := Wd) hZ' hsw wi E1 V1 C1 A1 hcd hbd hln E1' V1' C1' A1' hcd' hbd' hln' (SC.ext hO.2) hz hfr hlo) (fun v h' L q => ?_) hc hsl all0 all0 hg hsize (lenOf pdStrEq rfl) hstack hW hd (fun T' h' v W' K' q => ?_)
  · obtain ⟨q1, rfl, rfl⟩ := q
    exact ⟨Fr.nil n0, Keep.refl _ _, q1, rfl⟩
  · obtain ⟨q1, rfl⟩ := q
    rcases q1 with ⟨rfl, q1⟩ | ⟨rfl, q1⟩
    · exact k T' 1 (Or.inl ⟨rfl, q1⟩) W'
    · exact k T' 0 (Or.inr ⟨rfl, q1⟩) W'
end OwnStrMore
end Jvm.Pilot.@@N@@
namespace Jvm.Pilot.@@N@@
open Jvm Jvm.ClassFile Sem Op Lib Jvm.Free Jvm.Stand Jvm.LawKit Jvm.RoadKit Bundle Jvm.Pilot.@@N@@.Jvm.D
section OwnStrMore
variable {p : Program} {l : Launch} {e : Env} {R : Room} {s : State} {m : MethodId} {args : Array Value} {below : List Frame} {meth : Method} {c : Code} {T T' : State} {cells slots : Nat} {Z : State} {a0 : Array Value} {h h' : Heap} {EL : List (String × Nat)} {n0 : Nat} {ws sf : List Addr} {own : String} {Q : Outcome → State → Prop} {a b x y : Addr}
variable {zc : Int32} {cs ds : List Int32} {n : Nat} {index : Nat} {Wd : Nat} {g : JFrame} {rest : List Value} {fm : Value}
theorem pdStrEmp : parseMethodDescriptor "()Z" = some ⟨[], some .boolean⟩ := by decide +kernel
theorem Wk.strEmp (W : Wk p l e R s m args below meth c Z EL n0 ws own sf T cells slots h) (hx : p.tables.exec = Jvm.exec) (hsw : ∀ d ∈ StrChars.Road.wordsEmp, d.before a0 Z = true) (wi : (Cond.instantiable "java/lang/String" 4).before a0 Z = true) (S : Str Z h x cs)
    (w1 : (Cond.methodLink own index ⟨"java/lang/String", "isEmpty", "()Z"⟩).before a0 Z = true) (w2 : (Cond.declares ⟨"java/lang/String", "isEmpty", "()Z"⟩).before a0 Z = true) (w5 : (Cond.selects "java/lang/String" ⟨"java/lang/String", "isEmpty", "()Z"⟩ ⟨"java/lang/String", "isEmpty", "()Z"⟩).before a0 Z = true) (w6 : (Cond.instanceMethod ⟨"java/lang/String", "isEmpty", "()Z"⟩).before a0 Z = true)
    (hfr : 1 ≤ R.frames) (hlo : Wd + 12 ≤ R.locals) (hc : cells ≤ R.cells) (hsl : slots ≤ R.slots) (hg : g.method = m) (hsize : g.locals.size = c.maxLocals) (hstack : g.stack = .ref x :: rest) (hW : 2 * g.monitorRoom + (rest.map fun v => v.category).sum ≤ Wd) (hd : decode c.code g.pc = .ok (.invokevirtual index, 3))
    (k : ∀ T', Wk p l e R s m args below meth c Z EL n0 ws own sf T' cells slots h → Go p e below Q (T'.setTop { g with pc := g.pc + 3, stack := (.int (if cs.length = 0 then 1 else 0)) :: rest })) : Go p e below Q (T.setTop g) := by
  have hO := W.old
  have hEx := S.exa
  obtain ⟨t, kb, cd, N2, vs, E1, V1, C1, A1, hcd, hbd, hln⟩ := S
  refine W.virtB hx w1 w2 w5 w6 (by decide) hEx (kk := 0) (nn := 0) (ws' := []) (Qv := fun v h' => v = some (.int (if cs.length = 0 then 1 else 0)) ∧ h = h') (Q1 := fun v h' L => v = some (.int (if cs.length = 0 then 1 else 0)) ∧ L = [] ∧ h' = h) (argsL := []) (rest := rest) (Wd := Wd)
    (fun s' hZ' => StrChars.Road.empW (W := Wd) hZ' hsw wi E1 V1 C1 A1 hcd hbd hln hfr hlo) (fun v h' L q => ?_) hc hsl all0 all0 hg hsize (lenOf pdStrEmp rfl) hstack hW hd (fun T' h' v W' K' q => ?_)
  · obtain ⟨q1, rfl, rfl⟩ := q
    exact ⟨Fr.nil n0, Keep.refl _ _, q1, rfl⟩
  · obtain ⟨q1, rfl⟩ := q
    subst q1
    exact k T' W'
end OwnStrMore
end Jvm.Pilot.@@N@@
namespace Jvm.Pilot.@@N@@
open Jvm Jvm.ClassFile Sem Op Lib Jvm.Free Jvm.Stand Jvm.LawKit Jvm.RoadKit Bundle Jvm.Pilot.@@N@@.Jvm.D
open Jvm.Free.XT (cmpL)
abbrev EL0 : List (String × Nat) := [("com/example/sem1/sem1/internal/LockNames", 14), ("com/example/sem1/sem1/internal/LockNames", 22), ("com/example/sem1/sem1/internal/LockNames", 30), ("com/example/sem1/sem1/internal/LockNamesRequireValidPinLaw", 19), ("com/example/sem1/sem1/internal/LockNamesRequireValidPinLaw", 25)]
set_option maxRecDepth 65536 in
theorem sa_in : ∀ d ∈ Bundle.stringAtoms, d ∈ tables_1 := by decide +kernel
set_option maxRecDepth 65536 in
theorem ws_in : ∀ d ∈ StrChars.Road.words, d ∈ tables_1 := by decide +kernel
set_option maxRecDepth 65536 in
theorem ln_in : ∀ d ∈ StrChars.Road.wordsLen, d ∈ tables_1 := by decide +kernel
set_option maxRecDepth 65536 in
theorem ch_in : ∀ d ∈ StrChars.Road.wordsChN, d ∈ tables_1 := by decide +kernel
set_option maxRecDepth 65536 in
theorem eq_in : ∀ d ∈ StrChars.Road.wordsEq, d ∈ tables_1 := by decide +kernel
set_option maxRecDepth 65536 in
theorem em_in : ∀ d ∈ StrChars.Road.wordsEmp, d ∈ tables_1 := by decide +kernel
abbrev Alw (c : Int32) : Prop := (¬ c < (65 : Int32) ∧ ¬ (90 : Int32) < c) ∨ (¬ c < (97 : Int32) ∧ ¬ (122 : Int32) < c) ∨ (¬ c < (48 : Int32) ∧ ¬ (57 : Int32) < c) ∨ c = (46 : Int32) ∨ c = (95 : Int32) ∨ c = (45 : Int32) ∨ c = (58 : Int32)
theorem fin66 {P : Int32 → Prop} (t : ∀ k : Fin 66, P (Int32.ofNat k.val)) {q : Int32} (hq : ¬ q < 0 ∧ ¬ (65 : Int32) < q) : P q := by
  have h0 : ¬ q.toInt < 0 := fun z => hq.1 (by rw [Int32.lt_iff_toInt_lt]; exact z)
  have h1 : ¬ 65 < q.toInt := fun z => hq.2 (by rw [Int32.lt_iff_toInt_lt]; exact z)
  have e : q = Int32.ofNat q.toInt.toNat := by
    apply Int32.toInt_inj.mp
    rw [Int32.toInt_ofNat_of_lt (by omega)]
    omega
  rw [e]
  exact t ⟨q.toInt.toNat, by omega⟩
theorem rem66 (x : Int32) : ∃ k : Int32, ((x &&& (2147483647 : Int32)) % (66 : Int32)) = k ∧ (¬ k < 0 ∧ ¬ (65 : Int32) < k) := by
  refine ⟨_, rfl, ?_⟩
  have h : 0 ≤ (x &&& (2147483647 : Int32)).toInt := by
    have h1 : ¬ (x &&& (2147483647 : Int32)) < 0 := by
      rw [XT.and_neg32]
      exact fun q => absurd q.2 (by decide)
    have h2 : ¬ (x &&& (2147483647 : Int32)).toInt < 0 := fun z => h1 (by rw [Int32.lt_iff_toInt_lt]; exact z)
    omega
  have e : ((x &&& (2147483647 : Int32)) % (66 : Int32)).toInt = (x &&& (2147483647 : Int32)).toInt.tmod 66 := by rw [Int32.toInt_mod]; rfl
  have e1 : (x &&& (2147483647 : Int32)).toInt.tmod 66 = (x &&& (2147483647 : Int32)).toInt % 66 := Int.tmod_eq_emod_of_nonneg h
  have e2 := Int.emod_nonneg (x &&& (2147483647 : Int32)).toInt (show (66 : Int) ≠ 0 by decide)
  have e3 := Int.emod_lt_of_pos (x &&& (2147483647 : Int32)).toInt (show (0 : Int) < 66 by decide)
  have z0 : (0 : Int32).toInt = 0 := rfl
  have z1 : (65 : Int32).toInt = 65 := rfl
  constructor <;> rw [Int32.lt_iff_toInt_lt] <;> omega
theorem pn0 : plainName "com/example/sem1/sem1/internal/LockNamesRequireValidPinLaw" = true := by first | (simp [plainName, overriddenIn]; done) | decide +kernel
theorem pn1 : plainName "com/example/sem1/sem1/internal/LockNames" = true := by first | (simp [plainName, overriddenIn]; done) | decide +kernel
theorem pd0 : parseMethodDescriptor "(C)Z" = some ⟨[.char], (some .boolean)⟩ := by decide +kernel
theorem pd1 : parseMethodDescriptor "(Ljava/lang/String;Ljava/lang/String;I)V" = some ⟨[(.object "java/lang/String"), (.object "java/lang/String"), .int], none⟩ := by decide +kernel
theorem pd2 : parseMethodDescriptor "(I)C" = some ⟨[.int], (some .char)⟩ := by decide +kernel
theorem pd3 : parseMethodDescriptor "(Ljava/lang/String;)Ljava/lang/String;" = some ⟨[(.object "java/lang/String")], (some (.object "java/lang/String"))⟩ := by decide +kernel
theorem d1_0 : decode method_2_code 0 = .ok (.iload_n 0, 1) := by decide +kernel
theorem d1_1 : decode method_2_code 1 = .ok (.ldc 7, 2) := by decide +kernel
theorem d1_3 : decode method_2_code 3 = .ok (.iand, 1) := by decide +kernel
theorem d1_4 : decode method_2_code 4 = .ok (.bipush 66, 2) := by decide +kernel
theorem d1_6 : decode method_2_code 6 = .ok (.irem, 1) := by decide +kernel
theorem d1_7 : decode method_2_code 7 = .ok (.istore_n 1, 1) := by decide +kernel
theorem d1_8 : decode method_2_code 8 = .ok (.iload_n 1, 1) := by decide +kernel
theorem d1_9 : decode method_2_code 9 = .ok (.bipush 26, 2) := by decide +kernel
theorem d1_11 : decode method_2_code 11 = .ok (.if_icmp .ge 9, 3) := by decide +kernel
theorem d1_14 : decode method_2_code 14 = .ok (.bipush 65, 2) := by decide +kernel
theorem d1_16 : decode method_2_code 16 = .ok (.iload_n 1, 1) := by decide +kernel
theorem d1_17 : decode method_2_code 17 = .ok (.iadd, 1) := by decide +kernel
theorem d1_18 : decode method_2_code 18 = .ok (.i2c, 1) := by decide +kernel
theorem d1_19 : decode method_2_code 19 = .ok (.ireturn, 1) := by decide +kernel
theorem d1_20 : decode method_2_code 20 = .ok (.iload_n 1, 1) := by decide +kernel
theorem d1_21 : decode method_2_code 21 = .ok (.bipush 52, 2) := by decide +kernel
theorem d1_23 : decode method_2_code 23 = .ok (.if_icmp .ge 12, 3) := by decide +kernel
theorem d1_26 : decode method_2_code 26 = .ok (.bipush 97, 2) := by decide +kernel
theorem d1_28 : decode method_2_code 28 = .ok (.iload_n 1, 1) := by decide +kernel
theorem d1_29 : decode method_2_code 29 = .ok (.bipush 26, 2) := by decide +kernel
theorem d1_31 : decode method_2_code 31 = .ok (.isub, 1) := by decide +kernel
theorem d1_32 : decode method_2_code 32 = .ok (.iadd, 1) := by decide +kernel
theorem d1_33 : decode method_2_code 33 = .ok (.i2c, 1) := by decide +kernel
theorem d1_34 : decode method_2_code 34 = .ok (.ireturn, 1) := by decide +kernel
theorem d1_35 : decode method_2_code 35 = .ok (.iload_n 1, 1) := by decide +kernel
theorem d1_36 : decode method_2_code 36 = .ok (.bipush 62, 2) := by decide +kernel
theorem d1_38 : decode method_2_code 38 = .ok (.if_icmp .ge 12, 3) := by decide +kernel
theorem d1_41 : decode method_2_code 41 = .ok (.bipush 48, 2) := by decide +kernel
theorem d1_43 : decode method_2_code 43 = .ok (.iload_n 1, 1) := by decide +kernel
theorem d1_44 : decode method_2_code 44 = .ok (.bipush 52, 2) := by decide +kernel
theorem d1_46 : decode method_2_code 46 = .ok (.isub, 1) := by decide +kernel
theorem d1_47 : decode method_2_code 47 = .ok (.iadd, 1) := by decide +kernel
theorem d1_48 : decode method_2_code 48 = .ok (.i2c, 1) := by decide +kernel
theorem d1_49 : decode method_2_code 49 = .ok (.ireturn, 1) := by decide +kernel
theorem d1_50 : decode method_2_code 50 = .ok (.iload_n 1, 1) := by decide +kernel
theorem d1_51 : decode method_2_code 51 = .ok (.bipush 62, 2) := by decide +kernel
theorem d1_53 : decode method_2_code 53 = .ok (.if_icmp .ne 6, 3) := by decide +kernel
theorem d1_56 : decode method_2_code 56 = .ok (.bipush 46, 2) := by decide +kernel
theorem d1_58 : decode method_2_code 58 = .ok (.ireturn, 1) := by decide +kernel
theorem d1_59 : decode method_2_code 59 = .ok (.iload_n 1, 1) := by decide +kernel
theorem d1_60 : decode method_2_code 60 = .ok (.bipush 63, 2) := by decide +kernel
theorem d1_62 : decode method_2_code 62 = .ok (.if_icmp .ne 6, 3) := by decide +kernel
theorem d1_65 : decode method_2_code 65 = .ok (.bipush 95, 2) := by decide +kernel
theorem d1_67 : decode method_2_code 67 = .ok (.ireturn, 1) := by decide +kernel
theorem d1_68 : decode method_2_code 68 = .ok (.iload_n 1, 1) := by decide +kernel
theorem d1_69 : decode method_2_code 69 = .ok (.bipush 64, 2) := by decide +kernel
theorem d1_71 : decode method_2_code 71 = .ok (.if_icmp .ne 6, 3) := by decide +kernel
theorem d1_74 : decode method_2_code 74 = .ok (.bipush 45, 2) := by decide +kernel
theorem d1_76 : decode method_2_code 76 = .ok (.ireturn, 1) := by decide +kernel
theorem d1_77 : decode method_2_code 77 = .ok (.bipush 58, 2) := by decide +kernel
theorem d1_79 : decode method_2_code 79 = .ok (.ireturn, 1) := by decide +kernel
theorem ef1 (m : MethodId) (x0 : Int32)  : entryFrame m #[(.int x0)] 2 = mkF m 0 #[.val (.int x0), .unset] [] := by first | (simp [entryFrame, mkF, argsToLocals, Value.category]; done) | rfl | rfl
set_option maxRecDepth 65536 in
set_option maxHeartbeats 40000000 in
theorem rm1 (l : Launch) (Z : State) (a0 : Array Value) (hw : ∀ d ∈ tables_1, d.before a0 Z = true) (hEL : EW Z a0 EL0) (zc : Int32) (SC : Sta Z Z.heap "java/lang/String" "COMPACT_STRINGS" "Z" (.int zc)) (hzc : ¬ zc = 0) (fm : Value) (SF : Sta Z Z.heap "jdk/internal/util/Preconditions" "SIOOBE_FORMATTER" "Ljava/util/function/BiFunction;" fm) (rfm : fm.isRef = true) (x1 : Int32) (h0 : Heap) {n0 : Nat} (O0 : Old Z n0 h0)  :
    Met l Z EL0 n0 (⟨"com/example/sem1/sem1/internal/LockNamesRequireValidPinLaw", "allowed", "(I)C"⟩ : MethodName) method_2_code 2 (some .char) [] ({ frames := 0, cells := 0, slots := 0, locals := 0 } : Room) #[(.int x1)] h0 [] [] (fun v h' => ∃ q : Int32, v = some (.int q) ∧ (¬ q < 0 ∧ ¬ (255 : Int32) < q) ∧ Alw q ∧ h0 = h') := by
  refine Met.of (plainFor_of_name pn0) O0 ?_
  intro p e s m below meth c T0 hx hby hml hret hlk hnm hs W0
  have W0 : Wk p l e _ s m _ below meth c Z EL0 n0 [] "com/example/sem1/sem1/internal/LockNamesRequireValidPinLaw" [] T0 0 0 h0 := W0
  have hSA := fun d hd => hw d (sa_in d hd)
  have hws := fun d hd => hw d (ws_in d hd)
  have hln := fun d hd => hw d (ln_in d hd)
  have hch := fun d hd => hw d (ch_in d hd)
  have heq := fun d hd => hw d (eq_in d hd)
  have hem := fun d hd => hw d (em_in d hd)
  refine Go.of (fun _ kk => castTop (ef1 m x1) kk) ?_
  show Go p e below _ (T0.setTop (mkF m 0 #[.val (.int x1), .unset] []))
  refine Go.of (t' := T0.setTop (mkF m 1 #[.val (.int x1), .unset] [(.int x1)])) (fun _ kk => XS.iloadN W0.here hx rfl (hb hby d1_0) rfl kk) ?_
  refine W0.ldcI hx (hw _ (List.mem_of_getElem? (i := 4) rfl)) rfl (hb hby d1_1) ?_
  show Go p e below _ (T0.setTop (mkF m 3 #[.val (.int x1), .unset] [(.int (2147483647 : Int32)), (.int x1)]))
  refine Go.of (t' := T0.setTop (mkF m 4 #[.val (.int x1), .unset] [(.int (x1 &&& (2147483647 : Int32)))])) (fun _ kk => XS.iand W0.here hx rfl (hb hby d1_3) rfl kk) ?_
  refine Go.of (t' := T0.setTop (mkF m 6 #[.val (.int x1), .unset] [(.int (66 : Int32)), (.int (x1 &&& (2147483647 : Int32)))])) (fun _ kk => XS.bipush W0.here hx rfl (hb hby d1_4) kk) ?_
  refine Go.of (t' := T0.setTop (mkF m 7 #[.val (.int x1), .unset] [(.int ((x1 &&& (2147483647 : Int32)) % (66 : Int32)))])) (fun _ kk => XS.irem W0.here hx rfl (hb hby d1_6) rfl (by decide +kernel) (by rw [irem_eq_mod]; exact kk)) ?_
  obtain ⟨k1, hk1, ck1⟩ := rem66 x1
  rw [hk1]
  show Go p e below _ (T0.setTop (mkF m 7 #[.val (.int x1), .unset] [(.int k1)]))
  refine Go.of (t' := T0.setTop (mkF m 8 #[.val (.int x1), .val (.int k1)] [])) (fun _ kk => XS.istoreN W0.here hx rfl (hb hby d1_7) rfl (l' := #[.val (.int x1), .val (.int k1)]) rfl kk) ?_
  refine Go.of (t' := T0.setTop (mkF m 9 #[.val (.int x1), .val (.int k1)] [(.int k1)])) (fun _ kk => XS.iloadN W0.here hx rfl (hb hby d1_8) rfl kk) ?_
  refine Go.of (t' := T0.setTop (mkF m 11 #[.val (.int x1), .val (.int k1)] [(.int (26 : Int32)), (.int k1)])) (fun _ kk => XS.bipush W0.here hx rfl (hb hby d1_9) kk) ?_
  by_cases c1 : k1 < (26 : Int32)
  · refine Go.of (t' := T0.setTop (mkF m 14 #[.val (.int x1), .val (.int k1)] [])) (fun _ kk => XS.icmpNo W0.here hx rfl (hb hby d1_11) rfl (XT.ii_ge_f c1) kk) ?_
    refine Go.of (t' := T0.setTop (mkF m 16 #[.val (.int x1), .val (.int k1)] [(.int (65 : Int32))])) (fun _ kk => XS.bipush W0.here hx rfl (hb hby d1_14) kk) ?_
    refine Go.of (t' := T0.setTop (mkF m 17 #[.val (.int x1), .val (.int k1)] [(.int k1), (.int (65 : Int32))])) (fun _ kk => XS.iloadN W0.here hx rfl (hb hby d1_16) rfl kk) ?_
    refine Go.of (t' := T0.setTop (mkF m 18 #[.val (.int x1), .val (.int k1)] [(.int ((65 : Int32) + k1))])) (fun _ kk => XS.iadd W0.here hx rfl (hb hby d1_17) rfl kk) ?_
    refine Go.of (t' := T0.setTop (mkF m 19 #[.val (.int x1), .val (.int k1)] [(.int (((65 : Int32) + k1).toUInt32.toUInt16.toUInt32.toInt32))])) (fun _ kk => XS.i2c W0.here hx rfl (hb hby d1_18) rfl kk) ?_
    have pq := fin66 (P := fun k => k < (26 : Int32) → (¬ (((65 : Int32) + k).toUInt32.toUInt16.toUInt32.toInt32) < 0 ∧ ¬ (255 : Int32) < (((65 : Int32) + k).toUInt32.toUInt16.toUInt32.toInt32)) ∧ Alw (((65 : Int32) + k).toUInt32.toUInt16.toUInt32.toInt32)) (by decide +kernel) ck1 c1
    exact W0.retI hx hEL hs hlk (by decide +kernel) (by decide +kernel) hret (by simp) (fin66 (P := fun k => narrow .char (.int (((65 : Int32) + k).toUInt32.toUInt16.toUInt32.toInt32)) = .int (((65 : Int32) + k).toUInt32.toUInt16.toUInt32.toInt32)) (by decide +kernel) ck1) (hb hby d1_19) ⟨_, rfl, pq.1, pq.2, rfl⟩
  · refine Go.of (t' := T0.setTop (mkF m 20 #[.val (.int x1), .val (.int k1)] [])) (fun _ kk => XS.icmpYes W0.here hx rfl (pc0 := 11) (pc' := 20) rfl (hb hby d1_11) rfl (XT.ii_ge_t c1) (by decide +kernel) (by decide +kernel) kk) ?_
    refine Go.of (t' := T0.setTop (mkF m 21 #[.val (.int x1), .val (.int k1)] [(.int k1)])) (fun _ kk => XS.iloadN W0.here hx rfl (hb hby d1_20) rfl kk) ?_
    refine Go.of (t' := T0.setTop (mkF m 23 #[.val (.int x1), .val (.int k1)] [(.int (52 : Int32)), (.int k1)])) (fun _ kk => XS.bipush W0.here hx rfl (hb hby d1_21) kk) ?_
    by_cases c2 : k1 < (52 : Int32)
    · refine Go.of (t' := T0.setTop (mkF m 26 #[.val (.int x1), .val (.int k1)] [])) (fun _ kk => XS.icmpNo W0.here hx rfl (hb hby d1_23) rfl (XT.ii_ge_f c2) kk) ?_
      refine Go.of (t' := T0.setTop (mkF m 28 #[.val (.int x1), .val (.int k1)] [(.int (97 : Int32))])) (fun _ kk => XS.bipush W0.here hx rfl (hb hby d1_26) kk) ?_
      refine Go.of (t' := T0.setTop (mkF m 29 #[.val (.int x1), .val (.int k1)] [(.int k1), (.int (97 : Int32))])) (fun _ kk => XS.iloadN W0.here hx rfl (hb hby d1_28) rfl kk) ?_
      refine Go.of (t' := T0.setTop (mkF m 31 #[.val (.int x1), .val (.int k1)] [(.int (26 : Int32)), (.int k1), (.int (97 : Int32))])) (fun _ kk => XS.bipush W0.here hx rfl (hb hby d1_29) kk) ?_
      refine Go.of (t' := T0.setTop (mkF m 32 #[.val (.int x1), .val (.int k1)] [(.int (k1 - (26 : Int32))), (.int (97 : Int32))])) (fun _ kk => XS.isub W0.here hx rfl (hb hby d1_31) rfl kk) ?_
      refine Go.of (t' := T0.setTop (mkF m 33 #[.val (.int x1), .val (.int k1)] [(.int ((97 : Int32) + (k1 - (26 : Int32))))])) (fun _ kk => XS.iadd W0.here hx rfl (hb hby d1_32) rfl kk) ?_
      refine Go.of (t' := T0.setTop (mkF m 34 #[.val (.int x1), .val (.int k1)] [(.int (((97 : Int32) + (k1 - (26 : Int32))).toUInt32.toUInt16.toUInt32.toInt32))])) (fun _ kk => XS.i2c W0.here hx rfl (hb hby d1_33) rfl kk) ?_
      have pq := fin66 (P := fun k => ¬ k < (26 : Int32) → k < (52 : Int32) → (¬ (((97 : Int32) + (k - (26 : Int32))).toUInt32.toUInt16.toUInt32.toInt32) < 0 ∧ ¬ (255 : Int32) < (((97 : Int32) + (k - (26 : Int32))).toUInt32.toUInt16.toUInt32.toInt32)) ∧ Alw (((97 : Int32) + (k - (26 : Int32))).toUInt32.toUInt16.toUInt32.toInt32)) (by decide +kernel) ck1 c1 c2
      exact W0.retI hx hEL hs hlk (by decide +kernel) (by decide +kernel) hret (by simp) (fin66 (P := fun k => narrow .char (.int (((97 : Int32) + (k - (26 : Int32))).toUInt32.toUInt16.toUInt32.toInt32)) = .int (((97 : Int32) + (k - (26 : Int32))).toUInt32.toUInt16.toUInt32.toInt32)) (by decide +kernel) ck1) (hb hby d1_34) ⟨_, rfl, pq.1, pq.2, rfl⟩
    · refine Go.of (t' := T0.setTop (mkF m 35 #[.val (.int x1), .val (.int k1)] [])) (fun _ kk => XS.icmpYes W0.here hx rfl (pc0 := 23) (pc' := 35) rfl (hb hby d1_23) rfl (XT.ii_ge_t c2) (by decide +kernel) (by decide +kernel) kk) ?_
      refine Go.of (t' := T0.setTop (mkF m 36 #[.val (.int x1), .val (.int k1)] [(.int k1)])) (fun _ kk => XS.iloadN W0.here hx rfl (hb hby d1_35) rfl kk) ?_
      refine Go.of (t' := T0.setTop (mkF m 38 #[.val (.int x1), .val (.int k1)] [(.int (62 : Int32)), (.int k1)])) (fun _ kk => XS.bipush W0.here hx rfl (hb hby d1_36) kk) ?_
      by_cases c3 : k1 < (62 : Int32)
      · refine Go.of (t' := T0.setTop (mkF m 41 #[.val (.int x1), .val (.int k1)] [])) (fun _ kk => XS.icmpNo W0.here hx rfl (hb hby d1_38) rfl (XT.ii_ge_f c3) kk) ?_
        refine Go.of (t' := T0.setTop (mkF m 43 #[.val (.int x1), .val (.int k1)] [(.int (48 : Int32))])) (fun _ kk => XS.bipush W0.here hx rfl (hb hby d1_41) kk) ?_
        refine Go.of (t' := T0.setTop (mkF m 44 #[.val (.int x1), .val (.int k1)] [(.int k1), (.int (48 : Int32))])) (fun _ kk => XS.iloadN W0.here hx rfl (hb hby d1_43) rfl kk) ?_
        refine Go.of (t' := T0.setTop (mkF m 46 #[.val (.int x1), .val (.int k1)] [(.int (52 : Int32)), (.int k1), (.int (48 : Int32))])) (fun _ kk => XS.bipush W0.here hx rfl (hb hby d1_44) kk) ?_
        refine Go.of (t' := T0.setTop (mkF m 47 #[.val (.int x1), .val (.int k1)] [(.int (k1 - (52 : Int32))), (.int (48 : Int32))])) (fun _ kk => XS.isub W0.here hx rfl (hb hby d1_46) rfl kk) ?_
        refine Go.of (t' := T0.setTop (mkF m 48 #[.val (.int x1), .val (.int k1)] [(.int ((48 : Int32) + (k1 - (52 : Int32))))])) (fun _ kk => XS.iadd W0.here hx rfl (hb hby d1_47) rfl kk) ?_
        refine Go.of (t' := T0.setTop (mkF m 49 #[.val (.int x1), .val (.int k1)] [(.int (((48 : Int32) + (k1 - (52 : Int32))).toUInt32.toUInt16.toUInt32.toInt32))])) (fun _ kk => XS.i2c W0.here hx rfl (hb hby d1_48) rfl kk) ?_
        have pq := fin66 (P := fun k => ¬ k < (26 : Int32) → ¬ k < (52 : Int32) → k < (62 : Int32) → (¬ (((48 : Int32) + (k - (52 : Int32))).toUInt32.toUInt16.toUInt32.toInt32) < 0 ∧ ¬ (255 : Int32) < (((48 : Int32) + (k - (52 : Int32))).toUInt32.toUInt16.toUInt32.toInt32)) ∧ Alw (((48 : Int32) + (k - (52 : Int32))).toUInt32.toUInt16.toUInt32.toInt32)) (by decide +kernel) ck1 c1 c2 c3
        exact W0.retI hx hEL hs hlk (by decide +kernel) (by decide +kernel) hret (by simp) (fin66 (P := fun k => narrow .char (.int (((48 : Int32) + (k - (52 : Int32))).toUInt32.toUInt16.toUInt32.toInt32)) = .int (((48 : Int32) + (k - (52 : Int32))).toUInt32.toUInt16.toUInt32.toInt32)) (by decide +kernel) ck1) (hb hby d1_49) ⟨_, rfl, pq.1, pq.2, rfl⟩
      · refine Go.of (t' := T0.setTop (mkF m 50 #[.val (.int x1), .val (.int k1)] [])) (fun _ kk => XS.icmpYes W0.here hx rfl (pc0 := 38) (pc' := 50) rfl (hb hby d1_38) rfl (XT.ii_ge_t c3) (by decide +kernel) (by decide +kernel) kk) ?_
        refine Go.of (t' := T0.setTop (mkF m 51 #[.val (.int x1), .val (.int k1)] [(.int k1)])) (fun _ kk => XS.iloadN W0.here hx rfl (hb hby d1_50) rfl kk) ?_
        refine Go.of (t' := T0.setTop (mkF m 53 #[.val (.int x1), .val (.int k1)] [(.int (62 : Int32)), (.int k1)])) (fun _ kk => XS.bipush W0.here hx rfl (hb hby d1_51) kk) ?_
        by_cases c4 : k1 = (62 : Int32)
        · refine Go.of (t' := T0.setTop (mkF m 56 #[.val (.int x1), .val (.int k1)] [])) (fun _ kk => XS.icmpNo W0.here hx rfl (hb hby d1_53) rfl (XT.ii_ne_f c4) kk) ?_
          refine Go.of (t' := T0.setTop (mkF m 58 #[.val (.int x1), .val (.int k1)] [(.int (46 : Int32))])) (fun _ kk => XS.bipush W0.here hx rfl (hb hby d1_56) kk) ?_
          exact W0.retI hx hEL hs hlk (by decide +kernel) (by decide +kernel) hret (by simp) rfl (hb hby d1_58) ⟨(46 : Int32), rfl, ⟨by decide, by decide⟩, by decide, rfl⟩
        · refine Go.of (t' := T0.setTop (mkF m 59 #[.val (.int x1), .val (.int k1)] [])) (fun _ kk => XS.icmpYes W0.here hx rfl (pc0 := 53) (pc' := 59) rfl (hb hby d1_53) rfl (XT.ii_ne_t c4) (by decide +kernel) (by decide +kernel) kk) ?_
          refine Go.of (t' := T0.setTop (mkF m 60 #[.val (.int x1), .val (.int k1)] [(.int k1)])) (fun _ kk => XS.iloadN W0.here hx rfl (hb hby d1_59) rfl kk) ?_
          refine Go.of (t' := T0.setTop (mkF m 62 #[.val (.int x1), .val (.int k1)] [(.int (63 : Int32)), (.int k1)])) (fun _ kk => XS.bipush W0.here hx rfl (hb hby d1_60) kk) ?_
          by_cases c5 : k1 = (63 : Int32)
          · refine Go.of (t' := T0.setTop (mkF m 65 #[.val (.int x1), .val (.int k1)] [])) (fun _ kk => XS.icmpNo W0.here hx rfl (hb hby d1_62) rfl (XT.ii_ne_f c5) kk) ?_
            refine Go.of (t' := T0.setTop (mkF m 67 #[.val (.int x1), .val (.int k1)] [(.int (95 : Int32))])) (fun _ kk => XS.bipush W0.here hx rfl (hb hby d1_65) kk) ?_
            exact W0.retI hx hEL hs hlk (by decide +kernel) (by decide +kernel) hret (by simp) rfl (hb hby d1_67) ⟨(95 : Int32), rfl, ⟨by decide, by decide⟩, by decide, rfl⟩
          · refine Go.of (t' := T0.setTop (mkF m 68 #[.val (.int x1), .val (.int k1)] [])) (fun _ kk => XS.icmpYes W0.here hx rfl (pc0 := 62) (pc' := 68) rfl (hb hby d1_62) rfl (XT.ii_ne_t c5) (by decide +kernel) (by decide +kernel) kk) ?_
            refine Go.of (t' := T0.setTop (mkF m 69 #[.val (.int x1), .val (.int k1)] [(.int k1)])) (fun _ kk => XS.iloadN W0.here hx rfl (hb hby d1_68) rfl kk) ?_
            refine Go.of (t' := T0.setTop (mkF m 71 #[.val (.int x1), .val (.int k1)] [(.int (64 : Int32)), (.int k1)])) (fun _ kk => XS.bipush W0.here hx rfl (hb hby d1_69) kk) ?_
            by_cases c6 : k1 = (64 : Int32)
            · refine Go.of (t' := T0.setTop (mkF m 74 #[.val (.int x1), .val (.int k1)] [])) (fun _ kk => XS.icmpNo W0.here hx rfl (hb hby d1_71) rfl (XT.ii_ne_f c6) kk) ?_
              refine Go.of (t' := T0.setTop (mkF m 76 #[.val (.int x1), .val (.int k1)] [(.int (45 : Int32))])) (fun _ kk => XS.bipush W0.here hx rfl (hb hby d1_74) kk) ?_
              exact W0.retI hx hEL hs hlk (by decide +kernel) (by decide +kernel) hret (by simp) rfl (hb hby d1_76) ⟨(45 : Int32), rfl, ⟨by decide, by decide⟩, by decide, rfl⟩
            · refine Go.of (t' := T0.setTop (mkF m 77 #[.val (.int x1), .val (.int k1)] [])) (fun _ kk => XS.icmpYes W0.here hx rfl (pc0 := 71) (pc' := 77) rfl (hb hby d1_71) rfl (XT.ii_ne_t c6) (by decide +kernel) (by decide +kernel) kk) ?_
              refine Go.of (t' := T0.setTop (mkF m 79 #[.val (.int x1), .val (.int k1)] [(.int (58 : Int32))])) (fun _ kk => XS.bipush W0.here hx rfl (hb hby d1_77) kk) ?_
              exact W0.retI hx hEL hs hlk (by decide +kernel) (by decide +kernel) hret (by simp) rfl (hb hby d1_79) ⟨(58 : Int32), rfl, ⟨by decide, by decide⟩, by decide, rfl⟩
theorem d2_0 : decode prog_9_method_4_code 0 = .ok (.iload_n 0, 1) := by decide +kernel
theorem d2_1 : decode prog_9_method_4_code 1 = .ok (.bipush 65, 2) := by decide +kernel
theorem d2_3 : decode prog_9_method_4_code 3 = .ok (.if_icmp .lt 9, 3) := by decide +kernel
theorem d2_6 : decode prog_9_method_4_code 6 = .ok (.iload_n 0, 1) := by decide +kernel
theorem d2_7 : decode prog_9_method_4_code 7 = .ok (.bipush 90, 2) := by decide +kernel
theorem d2_9 : decode prog_9_method_4_code 9 = .ok (.if_icmp .le 51, 3) := by decide +kernel
theorem d2_12 : decode prog_9_method_4_code 12 = .ok (.iload_n 0, 1) := by decide +kernel
theorem d2_13 : decode prog_9_method_4_code 13 = .ok (.bipush 97, 2) := by decide +kernel
theorem d2_15 : decode prog_9_method_4_code 15 = .ok (.if_icmp .lt 9, 3) := by decide +kernel
theorem d2_18 : decode prog_9_method_4_code 18 = .ok (.iload_n 0, 1) := by decide +kernel
theorem d2_19 : decode prog_9_method_4_code 19 = .ok (.bipush 122, 2) := by decide +kernel
theorem d2_21 : decode prog_9_method_4_code 21 = .ok (.if_icmp .le 39, 3) := by decide +kernel
theorem d2_24 : decode prog_9_method_4_code 24 = .ok (.iload_n 0, 1) := by decide +kernel
theorem d2_25 : decode prog_9_method_4_code 25 = .ok (.bipush 48, 2) := by decide +kernel
theorem d2_27 : decode prog_9_method_4_code 27 = .ok (.if_icmp .lt 9, 3) := by decide +kernel
theorem d2_30 : decode prog_9_method_4_code 30 = .ok (.iload_n 0, 1) := by decide +kernel
theorem d2_31 : decode prog_9_method_4_code 31 = .ok (.bipush 57, 2) := by decide +kernel
theorem d2_33 : decode prog_9_method_4_code 33 = .ok (.if_icmp .le 27, 3) := by decide +kernel
theorem d2_36 : decode prog_9_method_4_code 36 = .ok (.iload_n 0, 1) := by decide +kernel
theorem d2_37 : decode prog_9_method_4_code 37 = .ok (.bipush 46, 2) := by decide +kernel
theorem d2_39 : decode prog_9_method_4_code 39 = .ok (.if_icmp .eq 21, 3) := by decide +kernel
theorem d2_42 : decode prog_9_method_4_code 42 = .ok (.iload_n 0, 1) := by decide +kernel
theorem d2_43 : decode prog_9_method_4_code 43 = .ok (.bipush 95, 2) := by decide +kernel
theorem d2_45 : decode prog_9_method_4_code 45 = .ok (.if_icmp .eq 15, 3) := by decide +kernel
theorem d2_48 : decode prog_9_method_4_code 48 = .ok (.iload_n 0, 1) := by decide +kernel
theorem d2_49 : decode prog_9_method_4_code 49 = .ok (.bipush 45, 2) := by decide +kernel
theorem d2_51 : decode prog_9_method_4_code 51 = .ok (.if_icmp .eq 9, 3) := by decide +kernel
theorem d2_54 : decode prog_9_method_4_code 54 = .ok (.iload_n 0, 1) := by decide +kernel
theorem d2_55 : decode prog_9_method_4_code 55 = .ok (.bipush 58, 2) := by decide +kernel
theorem d2_57 : decode prog_9_method_4_code 57 = .ok (.if_icmp .ne 7, 3) := by decide +kernel
theorem d2_60 : decode prog_9_method_4_code 60 = .ok (.iconst 1, 1) := by decide +kernel
theorem d2_61 : decode prog_9_method_4_code 61 = .ok (.goto 4, 3) := by decide +kernel
theorem d2_64 : decode prog_9_method_4_code 64 = .ok (.iconst 0, 1) := by decide +kernel
theorem d2_65 : decode prog_9_method_4_code 65 = .ok (.ireturn, 1) := by decide +kernel
theorem ef2 (m : MethodId) (x0 : Int32)  : entryFrame m #[(.int x0)] 1 = mkF m 0 #[.val (.int x0)] [] := by first | (simp [entryFrame, mkF, argsToLocals, Value.category]; done) | rfl | rfl
set_option maxRecDepth 65536 in
set_option maxHeartbeats 40000000 in
theorem rm2 (l : Launch) (Z : State) (a0 : Array Value) (hw : ∀ d ∈ tables_1, d.before a0 Z = true) (hEL : EW Z a0 EL0) (zc : Int32) (SC : Sta Z Z.heap "java/lang/String" "COMPACT_STRINGS" "Z" (.int zc)) (hzc : ¬ zc = 0) (fm : Value) (SF : Sta Z Z.heap "jdk/internal/util/Preconditions" "SIOOBE_FORMATTER" "Ljava/util/function/BiFunction;" fm) (rfm : fm.isRef = true) (q1 : Int32) (h0 : Heap) {n0 : Nat} (O0 : Old Z n0 h0) (aq1 : Alw q1) :
    Met l Z EL0 n0 (⟨"com/example/sem1/sem1/internal/LockNames", "isAllowed", "(C)Z"⟩ : MethodName) prog_9_method_4_code 1 (some .boolean) [] ({ frames := 0, cells := 0, slots := 0, locals := 0 } : Room) #[(.int q1)] h0 [] [] (fun v h' => v = some (.int 1) ∧ h0 = h') := by
  refine Met.of (plainFor_of_name pn1) O0 ?_
  intro p e s m below meth c T0 hx hby hml hret hlk hnm hs W0
  have W0 : Wk p l e _ s m _ below meth c Z EL0 n0 [] "com/example/sem1/sem1/internal/LockNames" [] T0 0 0 h0 := W0
  have hSA := fun d hd => hw d (sa_in d hd)
  have hws := fun d hd => hw d (ws_in d hd)
  have hln := fun d hd => hw d (ln_in d hd)
  have hch := fun d hd => hw d (ch_in d hd)
  have heq := fun d hd => hw d (eq_in d hd)
  have hem := fun d hd => hw d (em_in d hd)
  refine Go.of (fun _ kk => castTop (ef2 m q1) kk) ?_
  show Go p e below _ (T0.setTop (mkF m 0 #[.val (.int q1)] []))
  refine Go.of (t' := T0.setTop (mkF m 1 #[.val (.int q1)] [(.int q1)])) (fun _ kk => XS.iloadN W0.here hx rfl (hb hby d2_0) rfl kk) ?_
  refine Go.of (t' := T0.setTop (mkF m 3 #[.val (.int q1)] [(.int (65 : Int32)), (.int q1)])) (fun _ kk => XS.bipush W0.here hx rfl (hb hby d2_1) kk) ?_
  by_cases c1 : q1 < (65 : Int32)
  · refine Go.of (t' := T0.setTop (mkF m 12 #[.val (.int q1)] [])) (fun _ kk => XS.icmpYes W0.here hx rfl (pc0 := 3) (pc' := 12) rfl (hb hby d2_3) rfl (XT.ii_lt_t c1) (by decide +kernel) (by decide +kernel) kk) ?_
    refine Go.of (t' := T0.setTop (mkF m 13 #[.val (.int q1)] [(.int q1)])) (fun _ kk => XS.iloadN W0.here hx rfl (hb hby d2_12) rfl kk) ?_
    refine Go.of (t' := T0.setTop (mkF m 15 #[.val (.int q1)] [(.int (97 : Int32)), (.int q1)])) (fun _ kk => XS.bipush W0.here hx rfl (hb hby d2_13) kk) ?_
    by_cases c2 : q1 < (97 : Int32)
    · refine Go.of (t' := T0.setTop (mkF m 24 #[.val (.int q1)] [])) (fun _ kk => XS.icmpYes W0.here hx rfl (pc0 := 15) (pc' := 24) rfl (hb hby d2_15) rfl (XT.ii_lt_t c2) (by decide +kernel) (by decide +kernel) kk) ?_
      refine Go.of (t' := T0.setTop (mkF m 25 #[.val (.int q1)] [(.int q1)])) (fun _ kk => XS.iloadN W0.here hx rfl (hb hby d2_24) rfl kk) ?_
      refine Go.of (t' := T0.setTop (mkF m 27 #[.val (.int q1)] [(.int (48 : Int32)), (.int q1)])) (fun _ kk => XS.bipush W0.here hx rfl (hb hby d2_25) kk) ?_
      by_cases c3 : q1 < (48 : Int32)
      · refine Go.of (t' := T0.setTop (mkF m 36 #[.val (.int q1)] [])) (fun _ kk => XS.icmpYes W0.here hx rfl (pc0 := 27) (pc' := 36) rfl (hb hby d2_27) rfl (XT.ii_lt_t c3) (by decide +kernel) (by decide +kernel) kk) ?_
        refine Go.of (t' := T0.setTop (mkF m 37 #[.val (.int q1)] [(.int q1)])) (fun _ kk => XS.iloadN W0.here hx rfl (hb hby d2_36) rfl kk) ?_
        refine Go.of (t' := T0.setTop (mkF m 39 #[.val (.int q1)] [(.int (46 : Int32)), (.int q1)])) (fun _ kk => XS.bipush W0.here hx rfl (hb hby d2_37) kk) ?_
        by_cases c4 : q1 = (46 : Int32)
        · refine Go.of (t' := T0.setTop (mkF m 60 #[.val (.int q1)] [])) (fun _ kk => XS.icmpYes W0.here hx rfl (pc0 := 39) (pc' := 60) rfl (hb hby d2_39) rfl (XT.ii_eq_t c4) (by decide +kernel) (by decide +kernel) kk) ?_
          refine Go.of (t' := T0.setTop (mkF m 61 #[.val (.int q1)] [(.int (1 : Int32))])) (fun _ kk => XS.iconst W0.here hx rfl (hb hby d2_60) kk) ?_
          refine Go.of (t' := T0.setTop (mkF m 65 #[.val (.int q1)] [(.int (1 : Int32))])) (fun _ kk => XS.goto W0.here hx rfl (pc0 := 61) (pc' := 65) rfl (hb hby d2_61) (by decide +kernel) (by decide +kernel) kk) ?_
          exact W0.retI hx hEL hs hlk (by decide +kernel) (by decide +kernel) hret (by simp) rfl (hb hby d2_65) ⟨rfl, rfl⟩
        · refine Go.of (t' := T0.setTop (mkF m 42 #[.val (.int q1)] [])) (fun _ kk => XS.icmpNo W0.here hx rfl (hb hby d2_39) rfl (XT.ii_eq_f c4) kk) ?_
          refine Go.of (t' := T0.setTop (mkF m 43 #[.val (.int q1)] [(.int q1)])) (fun _ kk => XS.iloadN W0.here hx rfl (hb hby d2_42) rfl kk) ?_
          refine Go.of (t' := T0.setTop (mkF m 45 #[.val (.int q1)] [(.int (95 : Int32)), (.int q1)])) (fun _ kk => XS.bipush W0.here hx rfl (hb hby d2_43) kk) ?_
          by_cases c5 : q1 = (95 : Int32)
          · refine Go.of (t' := T0.setTop (mkF m 60 #[.val (.int q1)] [])) (fun _ kk => XS.icmpYes W0.here hx rfl (pc0 := 45) (pc' := 60) rfl (hb hby d2_45) rfl (XT.ii_eq_t c5) (by decide +kernel) (by decide +kernel) kk) ?_
            refine Go.of (t' := T0.setTop (mkF m 61 #[.val (.int q1)] [(.int (1 : Int32))])) (fun _ kk => XS.iconst W0.here hx rfl (hb hby d2_60) kk) ?_
            refine Go.of (t' := T0.setTop (mkF m 65 #[.val (.int q1)] [(.int (1 : Int32))])) (fun _ kk => XS.goto W0.here hx rfl (pc0 := 61) (pc' := 65) rfl (hb hby d2_61) (by decide +kernel) (by decide +kernel) kk) ?_
            exact W0.retI hx hEL hs hlk (by decide +kernel) (by decide +kernel) hret (by simp) rfl (hb hby d2_65) ⟨rfl, rfl⟩
          · refine Go.of (t' := T0.setTop (mkF m 48 #[.val (.int q1)] [])) (fun _ kk => XS.icmpNo W0.here hx rfl (hb hby d2_45) rfl (XT.ii_eq_f c5) kk) ?_
            refine Go.of (t' := T0.setTop (mkF m 49 #[.val (.int q1)] [(.int q1)])) (fun _ kk => XS.iloadN W0.here hx rfl (hb hby d2_48) rfl kk) ?_
            refine Go.of (t' := T0.setTop (mkF m 51 #[.val (.int q1)] [(.int (45 : Int32)), (.int q1)])) (fun _ kk => XS.bipush W0.here hx rfl (hb hby d2_49) kk) ?_
            by_cases c6 : q1 = (45 : Int32)
            · refine Go.of (t' := T0.setTop (mkF m 60 #[.val (.int q1)] [])) (fun _ kk => XS.icmpYes W0.here hx rfl (pc0 := 51) (pc' := 60) rfl (hb hby d2_51) rfl (XT.ii_eq_t c6) (by decide +kernel) (by decide +kernel) kk) ?_
              refine Go.of (t' := T0.setTop (mkF m 61 #[.val (.int q1)] [(.int (1 : Int32))])) (fun _ kk => XS.iconst W0.here hx rfl (hb hby d2_60) kk) ?_
              refine Go.of (t' := T0.setTop (mkF m 65 #[.val (.int q1)] [(.int (1 : Int32))])) (fun _ kk => XS.goto W0.here hx rfl (pc0 := 61) (pc' := 65) rfl (hb hby d2_61) (by decide +kernel) (by decide +kernel) kk) ?_
              exact W0.retI hx hEL hs hlk (by decide +kernel) (by decide +kernel) hret (by simp) rfl (hb hby d2_65) ⟨rfl, rfl⟩
            · refine Go.of (t' := T0.setTop (mkF m 54 #[.val (.int q1)] [])) (fun _ kk => XS.icmpNo W0.here hx rfl (hb hby d2_51) rfl (XT.ii_eq_f c6) kk) ?_
              refine Go.of (t' := T0.setTop (mkF m 55 #[.val (.int q1)] [(.int q1)])) (fun _ kk => XS.iloadN W0.here hx rfl (hb hby d2_54) rfl kk) ?_
              refine Go.of (t' := T0.setTop (mkF m 57 #[.val (.int q1)] [(.int (58 : Int32)), (.int q1)])) (fun _ kk => XS.bipush W0.here hx rfl (hb hby d2_55) kk) ?_
              by_cases c7 : q1 = (58 : Int32)
              · refine Go.of (t' := T0.setTop (mkF m 60 #[.val (.int q1)] [])) (fun _ kk => XS.icmpNo W0.here hx rfl (hb hby d2_57) rfl (XT.ii_ne_f c7) kk) ?_
                refine Go.of (t' := T0.setTop (mkF m 61 #[.val (.int q1)] [(.int (1 : Int32))])) (fun _ kk => XS.iconst W0.here hx rfl (hb hby d2_60) kk) ?_
                refine Go.of (t' := T0.setTop (mkF m 65 #[.val (.int q1)] [(.int (1 : Int32))])) (fun _ kk => XS.goto W0.here hx rfl (pc0 := 61) (pc' := 65) rfl (hb hby d2_61) (by decide +kernel) (by decide +kernel) kk) ?_
                exact W0.retI hx hEL hs hlk (by decide +kernel) (by decide +kernel) hret (by simp) rfl (hb hby d2_65) ⟨rfl, rfl⟩
              · refine Go.of (t' := T0.setTop (mkF m 64 #[.val (.int q1)] [])) (fun _ kk => XS.icmpYes W0.here hx rfl (pc0 := 57) (pc' := 64) rfl (hb hby d2_57) rfl (XT.ii_ne_t c7) (by decide +kernel) (by decide +kernel) kk) ?_
                refine Go.of (t' := T0.setTop (mkF m 65 #[.val (.int q1)] [(.int (0 : Int32))])) (fun _ kk => XS.iconst W0.here hx rfl (hb hby d2_64) kk) ?_
                exact W0.retI hx hEL hs hlk (by decide +kernel) (by decide +kernel) hret (by simp) rfl (hb hby d2_65) (absurd aq1 (by simp only [Alw, not_or, not_and, Decidable.not_not]; simp [c1, c2, c3, c4, c5, c6, c7]))
      · refine Go.of (t' := T0.setTop (mkF m 30 #[.val (.int q1)] [])) (fun _ kk => XS.icmpNo W0.here hx rfl (hb hby d2_27) rfl (XT.ii_lt_f c3) kk) ?_
        refine Go.of (t' := T0.setTop (mkF m 31 #[.val (.int q1)] [(.int q1)])) (fun _ kk => XS.iloadN W0.here hx rfl (hb hby d2_30) rfl kk) ?_
        refine Go.of (t' := T0.setTop (mkF m 33 #[.val (.int q1)] [(.int (57 : Int32)), (.int q1)])) (fun _ kk => XS.bipush W0.here hx rfl (hb hby d2_31) kk) ?_
        by_cases c8 : (57 : Int32) < q1
        · refine Go.of (t' := T0.setTop (mkF m 36 #[.val (.int q1)] [])) (fun _ kk => XS.icmpNo W0.here hx rfl (hb hby d2_33) rfl (XT.ii_le_f c8) kk) ?_
          refine Go.of (t' := T0.setTop (mkF m 37 #[.val (.int q1)] [(.int q1)])) (fun _ kk => XS.iloadN W0.here hx rfl (hb hby d2_36) rfl kk) ?_
          refine Go.of (t' := T0.setTop (mkF m 39 #[.val (.int q1)] [(.int (46 : Int32)), (.int q1)])) (fun _ kk => XS.bipush W0.here hx rfl (hb hby d2_37) kk) ?_
          by_cases c9 : q1 = (46 : Int32)
          · refine Go.of (t' := T0.setTop (mkF m 60 #[.val (.int q1)] [])) (fun _ kk => XS.icmpYes W0.here hx rfl (pc0 := 39) (pc' := 60) rfl (hb hby d2_39) rfl (XT.ii_eq_t c9) (by decide +kernel) (by decide +kernel) kk) ?_
            refine Go.of (t' := T0.setTop (mkF m 61 #[.val (.int q1)] [(.int (1 : Int32))])) (fun _ kk => XS.iconst W0.here hx rfl (hb hby d2_60) kk) ?_
            refine Go.of (t' := T0.setTop (mkF m 65 #[.val (.int q1)] [(.int (1 : Int32))])) (fun _ kk => XS.goto W0.here hx rfl (pc0 := 61) (pc' := 65) rfl (hb hby d2_61) (by decide +kernel) (by decide +kernel) kk) ?_
            exact W0.retI hx hEL hs hlk (by decide +kernel) (by decide +kernel) hret (by simp) rfl (hb hby d2_65) ⟨rfl, rfl⟩
          · refine Go.of (t' := T0.setTop (mkF m 42 #[.val (.int q1)] [])) (fun _ kk => XS.icmpNo W0.here hx rfl (hb hby d2_39) rfl (XT.ii_eq_f c9) kk) ?_
            refine Go.of (t' := T0.setTop (mkF m 43 #[.val (.int q1)] [(.int q1)])) (fun _ kk => XS.iloadN W0.here hx rfl (hb hby d2_42) rfl kk) ?_
            refine Go.of (t' := T0.setTop (mkF m 45 #[.val (.int q1)] [(.int (95 : Int32)), (.int q1)])) (fun _ kk => XS.bipush W0.here hx rfl (hb hby d2_43) kk) ?_
            by_cases c10 : q1 = (95 : Int32)
            · refine Go.of (t' := T0.setTop (mkF m 60 #[.val (.int q1)] [])) (fun _ kk => XS.icmpYes W0.here hx rfl (pc0 := 45) (pc' := 60) rfl (hb hby d2_45) rfl (XT.ii_eq_t c10) (by decide +kernel) (by decide +kernel) kk) ?_
              refine Go.of (t' := T0.setTop (mkF m 61 #[.val (.int q1)] [(.int (1 : Int32))])) (fun _ kk => XS.iconst W0.here hx rfl (hb hby d2_60) kk) ?_
              refine Go.of (t' := T0.setTop (mkF m 65 #[.val (.int q1)] [(.int (1 : Int32))])) (fun _ kk => XS.goto W0.here hx rfl (pc0 := 61) (pc' := 65) rfl (hb hby d2_61) (by decide +kernel) (by decide +kernel) kk) ?_
              exact W0.retI hx hEL hs hlk (by decide +kernel) (by decide +kernel) hret (by simp) rfl (hb hby d2_65) ⟨rfl, rfl⟩
            · refine Go.of (t' := T0.setTop (mkF m 48 #[.val (.int q1)] [])) (fun _ kk => XS.icmpNo W0.here hx rfl (hb hby d2_45) rfl (XT.ii_eq_f c10) kk) ?_
              refine Go.of (t' := T0.setTop (mkF m 49 #[.val (.int q1)] [(.int q1)])) (fun _ kk => XS.iloadN W0.here hx rfl (hb hby d2_48) rfl kk) ?_
              refine Go.of (t' := T0.setTop (mkF m 51 #[.val (.int q1)] [(.int (45 : Int32)), (.int q1)])) (fun _ kk => XS.bipush W0.here hx rfl (hb hby d2_49) kk) ?_
              by_cases c11 : q1 = (45 : Int32)
              · refine Go.of (t' := T0.setTop (mkF m 60 #[.val (.int q1)] [])) (fun _ kk => XS.icmpYes W0.here hx rfl (pc0 := 51) (pc' := 60) rfl (hb hby d2_51) rfl (XT.ii_eq_t c11) (by decide +kernel) (by decide +kernel) kk) ?_
                refine Go.of (t' := T0.setTop (mkF m 61 #[.val (.int q1)] [(.int (1 : Int32))])) (fun _ kk => XS.iconst W0.here hx rfl (hb hby d2_60) kk) ?_
                refine Go.of (t' := T0.setTop (mkF m 65 #[.val (.int q1)] [(.int (1 : Int32))])) (fun _ kk => XS.goto W0.here hx rfl (pc0 := 61) (pc' := 65) rfl (hb hby d2_61) (by decide +kernel) (by decide +kernel) kk) ?_
                exact W0.retI hx hEL hs hlk (by decide +kernel) (by decide +kernel) hret (by simp) rfl (hb hby d2_65) ⟨rfl, rfl⟩
              · refine Go.of (t' := T0.setTop (mkF m 54 #[.val (.int q1)] [])) (fun _ kk => XS.icmpNo W0.here hx rfl (hb hby d2_51) rfl (XT.ii_eq_f c11) kk) ?_
                refine Go.of (t' := T0.setTop (mkF m 55 #[.val (.int q1)] [(.int q1)])) (fun _ kk => XS.iloadN W0.here hx rfl (hb hby d2_54) rfl kk) ?_
                refine Go.of (t' := T0.setTop (mkF m 57 #[.val (.int q1)] [(.int (58 : Int32)), (.int q1)])) (fun _ kk => XS.bipush W0.here hx rfl (hb hby d2_55) kk) ?_
                by_cases c12 : q1 = (58 : Int32)
                · refine Go.of (t' := T0.setTop (mkF m 60 #[.val (.int q1)] [])) (fun _ kk => XS.icmpNo W0.here hx rfl (hb hby d2_57) rfl (XT.ii_ne_f c12) kk) ?_
                  refine Go.of (t' := T0.setTop (mkF m 61 #[.val (.int q1)] [(.int (1 : Int32))])) (fun _ kk => XS.iconst W0.here hx rfl (hb hby d2_60) kk) ?_
                  refine Go.of (t' := T0.setTop (mkF m 65 #[.val (.int q1)] [(.int (1 : Int32))])) (fun _ kk => XS.goto W0.here hx rfl (pc0 := 61) (pc' := 65) rfl (hb hby d2_61) (by decide +kernel) (by decide +kernel) kk) ?_
                  exact W0.retI hx hEL hs hlk (by decide +kernel) (by decide +kernel) hret (by simp) rfl (hb hby d2_65) ⟨rfl, rfl⟩
                · refine Go.of (t' := T0.setTop (mkF m 64 #[.val (.int q1)] [])) (fun _ kk => XS.icmpYes W0.here hx rfl (pc0 := 57) (pc' := 64) rfl (hb hby d2_57) rfl (XT.ii_ne_t c12) (by decide +kernel) (by decide +kernel) kk) ?_
                  refine Go.of (t' := T0.setTop (mkF m 65 #[.val (.int q1)] [(.int (0 : Int32))])) (fun _ kk => XS.iconst W0.here hx rfl (hb hby d2_64) kk) ?_
                  exact W0.retI hx hEL hs hlk (by decide +kernel) (by decide +kernel) hret (by simp) rfl (hb hby d2_65) (absurd aq1 (by simp only [Alw, not_or, not_and, Decidable.not_not]; simp [c1, c2, c3, c8, c9, c10, c11, c12]))
        · refine Go.of (t' := T0.setTop (mkF m 60 #[.val (.int q1)] [])) (fun _ kk => XS.icmpYes W0.here hx rfl (pc0 := 33) (pc' := 60) rfl (hb hby d2_33) rfl (XT.ii_le_t c8) (by decide +kernel) (by decide +kernel) kk) ?_
          refine Go.of (t' := T0.setTop (mkF m 61 #[.val (.int q1)] [(.int (1 : Int32))])) (fun _ kk => XS.iconst W0.here hx rfl (hb hby d2_60) kk) ?_
          refine Go.of (t' := T0.setTop (mkF m 65 #[.val (.int q1)] [(.int (1 : Int32))])) (fun _ kk => XS.goto W0.here hx rfl (pc0 := 61) (pc' := 65) rfl (hb hby d2_61) (by decide +kernel) (by decide +kernel) kk) ?_
          exact W0.retI hx hEL hs hlk (by decide +kernel) (by decide +kernel) hret (by simp) rfl (hb hby d2_65) ⟨rfl, rfl⟩
    · refine Go.of (t' := T0.setTop (mkF m 18 #[.val (.int q1)] [])) (fun _ kk => XS.icmpNo W0.here hx rfl (hb hby d2_15) rfl (XT.ii_lt_f c2) kk) ?_
      refine Go.of (t' := T0.setTop (mkF m 19 #[.val (.int q1)] [(.int q1)])) (fun _ kk => XS.iloadN W0.here hx rfl (hb hby d2_18) rfl kk) ?_
      refine Go.of (t' := T0.setTop (mkF m 21 #[.val (.int q1)] [(.int (122 : Int32)), (.int q1)])) (fun _ kk => XS.bipush W0.here hx rfl (hb hby d2_19) kk) ?_
      by_cases c13 : (122 : Int32) < q1
      · refine Go.of (t' := T0.setTop (mkF m 24 #[.val (.int q1)] [])) (fun _ kk => XS.icmpNo W0.here hx rfl (hb hby d2_21) rfl (XT.ii_le_f c13) kk) ?_
        refine Go.of (t' := T0.setTop (mkF m 25 #[.val (.int q1)] [(.int q1)])) (fun _ kk => XS.iloadN W0.here hx rfl (hb hby d2_24) rfl kk) ?_
        refine Go.of (t' := T0.setTop (mkF m 27 #[.val (.int q1)] [(.int (48 : Int32)), (.int q1)])) (fun _ kk => XS.bipush W0.here hx rfl (hb hby d2_25) kk) ?_
        by_cases c14 : q1 < (48 : Int32)
        · refine Go.of (t' := T0.setTop (mkF m 36 #[.val (.int q1)] [])) (fun _ kk => XS.icmpYes W0.here hx rfl (pc0 := 27) (pc' := 36) rfl (hb hby d2_27) rfl (XT.ii_lt_t c14) (by decide +kernel) (by decide +kernel) kk) ?_
          refine Go.of (t' := T0.setTop (mkF m 37 #[.val (.int q1)] [(.int q1)])) (fun _ kk => XS.iloadN W0.here hx rfl (hb hby d2_36) rfl kk) ?_
          refine Go.of (t' := T0.setTop (mkF m 39 #[.val (.int q1)] [(.int (46 : Int32)), (.int q1)])) (fun _ kk => XS.bipush W0.here hx rfl (hb hby d2_37) kk) ?_
          by_cases c15 : q1 = (46 : Int32)
          · refine Go.of (t' := T0.setTop (mkF m 60 #[.val (.int q1)] [])) (fun _ kk => XS.icmpYes W0.here hx rfl (pc0 := 39) (pc' := 60) rfl (hb hby d2_39) rfl (XT.ii_eq_t c15) (by decide +kernel) (by decide +kernel) kk) ?_
            refine Go.of (t' := T0.setTop (mkF m 61 #[.val (.int q1)] [(.int (1 : Int32))])) (fun _ kk => XS.iconst W0.here hx rfl (hb hby d2_60) kk) ?_
            refine Go.of (t' := T0.setTop (mkF m 65 #[.val (.int q1)] [(.int (1 : Int32))])) (fun _ kk => XS.goto W0.here hx rfl (pc0 := 61) (pc' := 65) rfl (hb hby d2_61) (by decide +kernel) (by decide +kernel) kk) ?_
            exact W0.retI hx hEL hs hlk (by decide +kernel) (by decide +kernel) hret (by simp) rfl (hb hby d2_65) ⟨rfl, rfl⟩
          · refine Go.of (t' := T0.setTop (mkF m 42 #[.val (.int q1)] [])) (fun _ kk => XS.icmpNo W0.here hx rfl (hb hby d2_39) rfl (XT.ii_eq_f c15) kk) ?_
            refine Go.of (t' := T0.setTop (mkF m 43 #[.val (.int q1)] [(.int q1)])) (fun _ kk => XS.iloadN W0.here hx rfl (hb hby d2_42) rfl kk) ?_
            refine Go.of (t' := T0.setTop (mkF m 45 #[.val (.int q1)] [(.int (95 : Int32)), (.int q1)])) (fun _ kk => XS.bipush W0.here hx rfl (hb hby d2_43) kk) ?_
            by_cases c16 : q1 = (95 : Int32)
            · refine Go.of (t' := T0.setTop (mkF m 60 #[.val (.int q1)] [])) (fun _ kk => XS.icmpYes W0.here hx rfl (pc0 := 45) (pc' := 60) rfl (hb hby d2_45) rfl (XT.ii_eq_t c16) (by decide +kernel) (by decide +kernel) kk) ?_
              refine Go.of (t' := T0.setTop (mkF m 61 #[.val (.int q1)] [(.int (1 : Int32))])) (fun _ kk => XS.iconst W0.here hx rfl (hb hby d2_60) kk) ?_
              refine Go.of (t' := T0.setTop (mkF m 65 #[.val (.int q1)] [(.int (1 : Int32))])) (fun _ kk => XS.goto W0.here hx rfl (pc0 := 61) (pc' := 65) rfl (hb hby d2_61) (by decide +kernel) (by decide +kernel) kk) ?_
              exact W0.retI hx hEL hs hlk (by decide +kernel) (by decide +kernel) hret (by simp) rfl (hb hby d2_65) ⟨rfl, rfl⟩
            · refine Go.of (t' := T0.setTop (mkF m 48 #[.val (.int q1)] [])) (fun _ kk => XS.icmpNo W0.here hx rfl (hb hby d2_45) rfl (XT.ii_eq_f c16) kk) ?_
              refine Go.of (t' := T0.setTop (mkF m 49 #[.val (.int q1)] [(.int q1)])) (fun _ kk => XS.iloadN W0.here hx rfl (hb hby d2_48) rfl kk) ?_
              refine Go.of (t' := T0.setTop (mkF m 51 #[.val (.int q1)] [(.int (45 : Int32)), (.int q1)])) (fun _ kk => XS.bipush W0.here hx rfl (hb hby d2_49) kk) ?_
              by_cases c17 : q1 = (45 : Int32)
              · refine Go.of (t' := T0.setTop (mkF m 60 #[.val (.int q1)] [])) (fun _ kk => XS.icmpYes W0.here hx rfl (pc0 := 51) (pc' := 60) rfl (hb hby d2_51) rfl (XT.ii_eq_t c17) (by decide +kernel) (by decide +kernel) kk) ?_
                refine Go.of (t' := T0.setTop (mkF m 61 #[.val (.int q1)] [(.int (1 : Int32))])) (fun _ kk => XS.iconst W0.here hx rfl (hb hby d2_60) kk) ?_
                refine Go.of (t' := T0.setTop (mkF m 65 #[.val (.int q1)] [(.int (1 : Int32))])) (fun _ kk => XS.goto W0.here hx rfl (pc0 := 61) (pc' := 65) rfl (hb hby d2_61) (by decide +kernel) (by decide +kernel) kk) ?_
                exact W0.retI hx hEL hs hlk (by decide +kernel) (by decide +kernel) hret (by simp) rfl (hb hby d2_65) ⟨rfl, rfl⟩
              · refine Go.of (t' := T0.setTop (mkF m 54 #[.val (.int q1)] [])) (fun _ kk => XS.icmpNo W0.here hx rfl (hb hby d2_51) rfl (XT.ii_eq_f c17) kk) ?_
                refine Go.of (t' := T0.setTop (mkF m 55 #[.val (.int q1)] [(.int q1)])) (fun _ kk => XS.iloadN W0.here hx rfl (hb hby d2_54) rfl kk) ?_
                refine Go.of (t' := T0.setTop (mkF m 57 #[.val (.int q1)] [(.int (58 : Int32)), (.int q1)])) (fun _ kk => XS.bipush W0.here hx rfl (hb hby d2_55) kk) ?_
                by_cases c18 : q1 = (58 : Int32)
                · refine Go.of (t' := T0.setTop (mkF m 60 #[.val (.int q1)] [])) (fun _ kk => XS.icmpNo W0.here hx rfl (hb hby d2_57) rfl (XT.ii_ne_f c18) kk) ?_
                  refine Go.of (t' := T0.setTop (mkF m 61 #[.val (.int q1)] [(.int (1 : Int32))])) (fun _ kk => XS.iconst W0.here hx rfl (hb hby d2_60) kk) ?_
                  refine Go.of (t' := T0.setTop (mkF m 65 #[.val (.int q1)] [(.int (1 : Int32))])) (fun _ kk => XS.goto W0.here hx rfl (pc0 := 61) (pc' := 65) rfl (hb hby d2_61) (by decide +kernel) (by decide +kernel) kk) ?_
                  exact W0.retI hx hEL hs hlk (by decide +kernel) (by decide +kernel) hret (by simp) rfl (hb hby d2_65) ⟨rfl, rfl⟩
                · refine Go.of (t' := T0.setTop (mkF m 64 #[.val (.int q1)] [])) (fun _ kk => XS.icmpYes W0.here hx rfl (pc0 := 57) (pc' := 64) rfl (hb hby d2_57) rfl (XT.ii_ne_t c18) (by decide +kernel) (by decide +kernel) kk) ?_
                  refine Go.of (t' := T0.setTop (mkF m 65 #[.val (.int q1)] [(.int (0 : Int32))])) (fun _ kk => XS.iconst W0.here hx rfl (hb hby d2_64) kk) ?_
                  exact W0.retI hx hEL hs hlk (by decide +kernel) (by decide +kernel) hret (by simp) rfl (hb hby d2_65) (absurd aq1 (by simp only [Alw, not_or, not_and, Decidable.not_not]; simp [c1, c2, c13, c14, c15, c16, c17, c18]))
        · refine Go.of (t' := T0.setTop (mkF m 30 #[.val (.int q1)] [])) (fun _ kk => XS.icmpNo W0.here hx rfl (hb hby d2_27) rfl (XT.ii_lt_f c14) kk) ?_
          refine Go.of (t' := T0.setTop (mkF m 31 #[.val (.int q1)] [(.int q1)])) (fun _ kk => XS.iloadN W0.here hx rfl (hb hby d2_30) rfl kk) ?_
          refine Go.of (t' := T0.setTop (mkF m 33 #[.val (.int q1)] [(.int (57 : Int32)), (.int q1)])) (fun _ kk => XS.bipush W0.here hx rfl (hb hby d2_31) kk) ?_
          by_cases c19 : (57 : Int32) < q1
          · refine Go.of (t' := T0.setTop (mkF m 36 #[.val (.int q1)] [])) (fun _ kk => XS.icmpNo W0.here hx rfl (hb hby d2_33) rfl (XT.ii_le_f c19) kk) ?_
            refine Go.of (t' := T0.setTop (mkF m 37 #[.val (.int q1)] [(.int q1)])) (fun _ kk => XS.iloadN W0.here hx rfl (hb hby d2_36) rfl kk) ?_
            refine Go.of (t' := T0.setTop (mkF m 39 #[.val (.int q1)] [(.int (46 : Int32)), (.int q1)])) (fun _ kk => XS.bipush W0.here hx rfl (hb hby d2_37) kk) ?_
            by_cases c20 : q1 = (46 : Int32)
            · refine Go.of (t' := T0.setTop (mkF m 60 #[.val (.int q1)] [])) (fun _ kk => XS.icmpYes W0.here hx rfl (pc0 := 39) (pc' := 60) rfl (hb hby d2_39) rfl (XT.ii_eq_t c20) (by decide +kernel) (by decide +kernel) kk) ?_
              refine Go.of (t' := T0.setTop (mkF m 61 #[.val (.int q1)] [(.int (1 : Int32))])) (fun _ kk => XS.iconst W0.here hx rfl (hb hby d2_60) kk) ?_
              refine Go.of (t' := T0.setTop (mkF m 65 #[.val (.int q1)] [(.int (1 : Int32))])) (fun _ kk => XS.goto W0.here hx rfl (pc0 := 61) (pc' := 65) rfl (hb hby d2_61) (by decide +kernel) (by decide +kernel) kk) ?_
              exact W0.retI hx hEL hs hlk (by decide +kernel) (by decide +kernel) hret (by simp) rfl (hb hby d2_65) ⟨rfl, rfl⟩
            · refine Go.of (t' := T0.setTop (mkF m 42 #[.val (.int q1)] [])) (fun _ kk => XS.icmpNo W0.here hx rfl (hb hby d2_39) rfl (XT.ii_eq_f c20) kk) ?_
              refine Go.of (t' := T0.setTop (mkF m 43 #[.val (.int q1)] [(.int q1)])) (fun _ kk => XS.iloadN W0.here hx rfl (hb hby d2_42) rfl kk) ?_
              refine Go.of (t' := T0.setTop (mkF m 45 #[.val (.int q1)] [(.int (95 : Int32)), (.int q1)])) (fun _ kk => XS.bipush W0.here hx rfl (hb hby d2_43) kk) ?_
              by_cases c21 : q1 = (95 : Int32)
              · refine Go.of (t' := T0.setTop (mkF m 60 #[.val (.int q1)] [])) (fun _ kk => XS.icmpYes W0.here hx rfl (pc0 := 45) (pc' := 60) rfl (hb hby d2_45) rfl (XT.ii_eq_t c21) (by decide +kernel) (by decide +kernel) kk) ?_
                refine Go.of (t' := T0.setTop (mkF m 61 #[.val (.int q1)] [(.int (1 : Int32))])) (fun _ kk => XS.iconst W0.here hx rfl (hb hby d2_60) kk) ?_
                refine Go.of (t' := T0.setTop (mkF m 65 #[.val (.int q1)] [(.int (1 : Int32))])) (fun _ kk => XS.goto W0.here hx rfl (pc0 := 61) (pc' := 65) rfl (hb hby d2_61) (by decide +kernel) (by decide +kernel) kk) ?_
                exact W0.retI hx hEL hs hlk (by decide +kernel) (by decide +kernel) hret (by simp) rfl (hb hby d2_65) ⟨rfl, rfl⟩
              · refine Go.of (t' := T0.setTop (mkF m 48 #[.val (.int q1)] [])) (fun _ kk => XS.icmpNo W0.here hx rfl (hb hby d2_45) rfl (XT.ii_eq_f c21) kk) ?_
                refine Go.of (t' := T0.setTop (mkF m 49 #[.val (.int q1)] [(.int q1)])) (fun _ kk => XS.iloadN W0.here hx rfl (hb hby d2_48) rfl kk) ?_
                refine Go.of (t' := T0.setTop (mkF m 51 #[.val (.int q1)] [(.int (45 : Int32)), (.int q1)])) (fun _ kk => XS.bipush W0.here hx rfl (hb hby d2_49) kk) ?_
                by_cases c22 : q1 = (45 : Int32)
                · refine Go.of (t' := T0.setTop (mkF m 60 #[.val (.int q1)] [])) (fun _ kk => XS.icmpYes W0.here hx rfl (pc0 := 51) (pc' := 60) rfl (hb hby d2_51) rfl (XT.ii_eq_t c22) (by decide +kernel) (by decide +kernel) kk) ?_
                  refine Go.of (t' := T0.setTop (mkF m 61 #[.val (.int q1)] [(.int (1 : Int32))])) (fun _ kk => XS.iconst W0.here hx rfl (hb hby d2_60) kk) ?_
                  refine Go.of (t' := T0.setTop (mkF m 65 #[.val (.int q1)] [(.int (1 : Int32))])) (fun _ kk => XS.goto W0.here hx rfl (pc0 := 61) (pc' := 65) rfl (hb hby d2_61) (by decide +kernel) (by decide +kernel) kk) ?_
                  exact W0.retI hx hEL hs hlk (by decide +kernel) (by decide +kernel) hret (by simp) rfl (hb hby d2_65) ⟨rfl, rfl⟩
                · refine Go.of (t' := T0.setTop (mkF m 54 #[.val (.int q1)] [])) (fun _ kk => XS.icmpNo W0.here hx rfl (hb hby d2_51) rfl (XT.ii_eq_f c22) kk) ?_
                  refine Go.of (t' := T0.setTop (mkF m 55 #[.val (.int q1)] [(.int q1)])) (fun _ kk => XS.iloadN W0.here hx rfl (hb hby d2_54) rfl kk) ?_
                  refine Go.of (t' := T0.setTop (mkF m 57 #[.val (.int q1)] [(.int (58 : Int32)), (.int q1)])) (fun _ kk => XS.bipush W0.here hx rfl (hb hby d2_55) kk) ?_
                  by_cases c23 : q1 = (58 : Int32)
                  · refine Go.of (t' := T0.setTop (mkF m 60 #[.val (.int q1)] [])) (fun _ kk => XS.icmpNo W0.here hx rfl (hb hby d2_57) rfl (XT.ii_ne_f c23) kk) ?_
                    refine Go.of (t' := T0.setTop (mkF m 61 #[.val (.int q1)] [(.int (1 : Int32))])) (fun _ kk => XS.iconst W0.here hx rfl (hb hby d2_60) kk) ?_
                    refine Go.of (t' := T0.setTop (mkF m 65 #[.val (.int q1)] [(.int (1 : Int32))])) (fun _ kk => XS.goto W0.here hx rfl (pc0 := 61) (pc' := 65) rfl (hb hby d2_61) (by decide +kernel) (by decide +kernel) kk) ?_
                    exact W0.retI hx hEL hs hlk (by decide +kernel) (by decide +kernel) hret (by simp) rfl (hb hby d2_65) ⟨rfl, rfl⟩
                  · refine Go.of (t' := T0.setTop (mkF m 64 #[.val (.int q1)] [])) (fun _ kk => XS.icmpYes W0.here hx rfl (pc0 := 57) (pc' := 64) rfl (hb hby d2_57) rfl (XT.ii_ne_t c23) (by decide +kernel) (by decide +kernel) kk) ?_
                    refine Go.of (t' := T0.setTop (mkF m 65 #[.val (.int q1)] [(.int (0 : Int32))])) (fun _ kk => XS.iconst W0.here hx rfl (hb hby d2_64) kk) ?_
                    exact W0.retI hx hEL hs hlk (by decide +kernel) (by decide +kernel) hret (by simp) rfl (hb hby d2_65) (absurd aq1 (by simp only [Alw, not_or, not_and, Decidable.not_not]; simp [c1, c2, c13, c14, c19, c20, c21, c22, c23]))
          · refine Go.of (t' := T0.setTop (mkF m 60 #[.val (.int q1)] [])) (fun _ kk => XS.icmpYes W0.here hx rfl (pc0 := 33) (pc' := 60) rfl (hb hby d2_33) rfl (XT.ii_le_t c19) (by decide +kernel) (by decide +kernel) kk) ?_
            refine Go.of (t' := T0.setTop (mkF m 61 #[.val (.int q1)] [(.int (1 : Int32))])) (fun _ kk => XS.iconst W0.here hx rfl (hb hby d2_60) kk) ?_
            refine Go.of (t' := T0.setTop (mkF m 65 #[.val (.int q1)] [(.int (1 : Int32))])) (fun _ kk => XS.goto W0.here hx rfl (pc0 := 61) (pc' := 65) rfl (hb hby d2_61) (by decide +kernel) (by decide +kernel) kk) ?_
            exact W0.retI hx hEL hs hlk (by decide +kernel) (by decide +kernel) hret (by simp) rfl (hb hby d2_65) ⟨rfl, rfl⟩
      · refine Go.of (t' := T0.setTop (mkF m 60 #[.val (.int q1)] [])) (fun _ kk => XS.icmpYes W0.here hx rfl (pc0 := 21) (pc' := 60) rfl (hb hby d2_21) rfl (XT.ii_le_t c13) (by decide +kernel) (by decide +kernel) kk) ?_
        refine Go.of (t' := T0.setTop (mkF m 61 #[.val (.int q1)] [(.int (1 : Int32))])) (fun _ kk => XS.iconst W0.here hx rfl (hb hby d2_60) kk) ?_
        refine Go.of (t' := T0.setTop (mkF m 65 #[.val (.int q1)] [(.int (1 : Int32))])) (fun _ kk => XS.goto W0.here hx rfl (pc0 := 61) (pc' := 65) rfl (hb hby d2_61) (by decide +kernel) (by decide +kernel) kk) ?_
        exact W0.retI hx hEL hs hlk (by decide +kernel) (by decide +kernel) hret (by simp) rfl (hb hby d2_65) ⟨rfl, rfl⟩
  · refine Go.of (t' := T0.setTop (mkF m 6 #[.val (.int q1)] [])) (fun _ kk => XS.icmpNo W0.here hx rfl (hb hby d2_3) rfl (XT.ii_lt_f c1) kk) ?_
    refine Go.of (t' := T0.setTop (mkF m 7 #[.val (.int q1)] [(.int q1)])) (fun _ kk => XS.iloadN W0.here hx rfl (hb hby d2_6) rfl kk) ?_
    refine Go.of (t' := T0.setTop (mkF m 9 #[.val (.int q1)] [(.int (90 : Int32)), (.int q1)])) (fun _ kk => XS.bipush W0.here hx rfl (hb hby d2_7) kk) ?_
    by_cases c24 : (90 : Int32) < q1
    · refine Go.of (t' := T0.setTop (mkF m 12 #[.val (.int q1)] [])) (fun _ kk => XS.icmpNo W0.here hx rfl (hb hby d2_9) rfl (XT.ii_le_f c24) kk) ?_
      refine Go.of (t' := T0.setTop (mkF m 13 #[.val (.int q1)] [(.int q1)])) (fun _ kk => XS.iloadN W0.here hx rfl (hb hby d2_12) rfl kk) ?_
      refine Go.of (t' := T0.setTop (mkF m 15 #[.val (.int q1)] [(.int (97 : Int32)), (.int q1)])) (fun _ kk => XS.bipush W0.here hx rfl (hb hby d2_13) kk) ?_
      by_cases c25 : q1 < (97 : Int32)
      · refine Go.of (t' := T0.setTop (mkF m 24 #[.val (.int q1)] [])) (fun _ kk => XS.icmpYes W0.here hx rfl (pc0 := 15) (pc' := 24) rfl (hb hby d2_15) rfl (XT.ii_lt_t c25) (by decide +kernel) (by decide +kernel) kk) ?_
        refine Go.of (t' := T0.setTop (mkF m 25 #[.val (.int q1)] [(.int q1)])) (fun _ kk => XS.iloadN W0.here hx rfl (hb hby d2_24) rfl kk) ?_
        refine Go.of (t' := T0.setTop (mkF m 27 #[.val (.int q1)] [(.int (48 : Int32)), (.int q1)])) (fun _ kk => XS.bipush W0.here hx rfl (hb hby d2_25) kk) ?_
        by_cases c26 : q1 < (48 : Int32)
        · refine Go.of (t' := T0.setTop (mkF m 36 #[.val (.int q1)] [])) (fun _ kk => XS.icmpYes W0.here hx rfl (pc0 := 27) (pc' := 36) rfl (hb hby d2_27) rfl (XT.ii_lt_t c26) (by decide +kernel) (by decide +kernel) kk) ?_
          refine Go.of (t' := T0.setTop (mkF m 37 #[.val (.int q1)] [(.int q1)])) (fun _ kk => XS.iloadN W0.here hx rfl (hb hby d2_36) rfl kk) ?_
          refine Go.of (t' := T0.setTop (mkF m 39 #[.val (.int q1)] [(.int (46 : Int32)), (.int q1)])) (fun _ kk => XS.bipush W0.here hx rfl (hb hby d2_37) kk) ?_
          by_cases c27 : q1 = (46 : Int32)
          · refine Go.of (t' := T0.setTop (mkF m 60 #[.val (.int q1)] [])) (fun _ kk => XS.icmpYes W0.here hx rfl (pc0 := 39) (pc' := 60) rfl (hb hby d2_39) rfl (XT.ii_eq_t c27) (by decide +kernel) (by decide +kernel) kk) ?_
            refine Go.of (t' := T0.setTop (mkF m 61 #[.val (.int q1)] [(.int (1 : Int32))])) (fun _ kk => XS.iconst W0.here hx rfl (hb hby d2_60) kk) ?_
            refine Go.of (t' := T0.setTop (mkF m 65 #[.val (.int q1)] [(.int (1 : Int32))])) (fun _ kk => XS.goto W0.here hx rfl (pc0 := 61) (pc' := 65) rfl (hb hby d2_61) (by decide +kernel) (by decide +kernel) kk) ?_
            exact W0.retI hx hEL hs hlk (by decide +kernel) (by decide +kernel) hret (by simp) rfl (hb hby d2_65) ⟨rfl, rfl⟩
          · refine Go.of (t' := T0.setTop (mkF m 42 #[.val (.int q1)] [])) (fun _ kk => XS.icmpNo W0.here hx rfl (hb hby d2_39) rfl (XT.ii_eq_f c27) kk) ?_
            refine Go.of (t' := T0.setTop (mkF m 43 #[.val (.int q1)] [(.int q1)])) (fun _ kk => XS.iloadN W0.here hx rfl (hb hby d2_42) rfl kk) ?_
            refine Go.of (t' := T0.setTop (mkF m 45 #[.val (.int q1)] [(.int (95 : Int32)), (.int q1)])) (fun _ kk => XS.bipush W0.here hx rfl (hb hby d2_43) kk) ?_
            by_cases c28 : q1 = (95 : Int32)
            · refine Go.of (t' := T0.setTop (mkF m 60 #[.val (.int q1)] [])) (fun _ kk => XS.icmpYes W0.here hx rfl (pc0 := 45) (pc' := 60) rfl (hb hby d2_45) rfl (XT.ii_eq_t c28) (by decide +kernel) (by decide +kernel) kk) ?_
              refine Go.of (t' := T0.setTop (mkF m 61 #[.val (.int q1)] [(.int (1 : Int32))])) (fun _ kk => XS.iconst W0.here hx rfl (hb hby d2_60) kk) ?_
              refine Go.of (t' := T0.setTop (mkF m 65 #[.val (.int q1)] [(.int (1 : Int32))])) (fun _ kk => XS.goto W0.here hx rfl (pc0 := 61) (pc' := 65) rfl (hb hby d2_61) (by decide +kernel) (by decide +kernel) kk) ?_
              exact W0.retI hx hEL hs hlk (by decide +kernel) (by decide +kernel) hret (by simp) rfl (hb hby d2_65) ⟨rfl, rfl⟩
            · refine Go.of (t' := T0.setTop (mkF m 48 #[.val (.int q1)] [])) (fun _ kk => XS.icmpNo W0.here hx rfl (hb hby d2_45) rfl (XT.ii_eq_f c28) kk) ?_
              refine Go.of (t' := T0.setTop (mkF m 49 #[.val (.int q1)] [(.int q1)])) (fun _ kk => XS.iloadN W0.here hx rfl (hb hby d2_48) rfl kk) ?_
              refine Go.of (t' := T0.setTop (mkF m 51 #[.val (.int q1)] [(.int (45 : Int32)), (.int q1)])) (fun _ kk => XS.bipush W0.here hx rfl (hb hby d2_49) kk) ?_
              by_cases c29 : q1 = (45 : Int32)
              · refine Go.of (t' := T0.setTop (mkF m 60 #[.val (.int q1)] [])) (fun _ kk => XS.icmpYes W0.here hx rfl (pc0 := 51) (pc' := 60) rfl (hb hby d2_51) rfl (XT.ii_eq_t c29) (by decide +kernel) (by decide +kernel) kk) ?_
                refine Go.of (t' := T0.setTop (mkF m 61 #[.val (.int q1)] [(.int (1 : Int32))])) (fun _ kk => XS.iconst W0.here hx rfl (hb hby d2_60) kk) ?_
                refine Go.of (t' := T0.setTop (mkF m 65 #[.val (.int q1)] [(.int (1 : Int32))])) (fun _ kk => XS.goto W0.here hx rfl (pc0 := 61) (pc' := 65) rfl (hb hby d2_61) (by decide +kernel) (by decide +kernel) kk) ?_
                exact W0.retI hx hEL hs hlk (by decide +kernel) (by decide +kernel) hret (by simp) rfl (hb hby d2_65) ⟨rfl, rfl⟩
              · refine Go.of (t' := T0.setTop (mkF m 54 #[.val (.int q1)] [])) (fun _ kk => XS.icmpNo W0.here hx rfl (hb hby d2_51) rfl (XT.ii_eq_f c29) kk) ?_
                refine Go.of (t' := T0.setTop (mkF m 55 #[.val (.int q1)] [(.int q1)])) (fun _ kk => XS.iloadN W0.here hx rfl (hb hby d2_54) rfl kk) ?_
                refine Go.of (t' := T0.setTop (mkF m 57 #[.val (.int q1)] [(.int (58 : Int32)), (.int q1)])) (fun _ kk => XS.bipush W0.here hx rfl (hb hby d2_55) kk) ?_
                by_cases c30 : q1 = (58 : Int32)
                · refine Go.of (t' := T0.setTop (mkF m 60 #[.val (.int q1)] [])) (fun _ kk => XS.icmpNo W0.here hx rfl (hb hby d2_57) rfl (XT.ii_ne_f c30) kk) ?_
                  refine Go.of (t' := T0.setTop (mkF m 61 #[.val (.int q1)] [(.int (1 : Int32))])) (fun _ kk => XS.iconst W0.here hx rfl (hb hby d2_60) kk) ?_
                  refine Go.of (t' := T0.setTop (mkF m 65 #[.val (.int q1)] [(.int (1 : Int32))])) (fun _ kk => XS.goto W0.here hx rfl (pc0 := 61) (pc' := 65) rfl (hb hby d2_61) (by decide +kernel) (by decide +kernel) kk) ?_
                  exact W0.retI hx hEL hs hlk (by decide +kernel) (by decide +kernel) hret (by simp) rfl (hb hby d2_65) ⟨rfl, rfl⟩
                · refine Go.of (t' := T0.setTop (mkF m 64 #[.val (.int q1)] [])) (fun _ kk => XS.icmpYes W0.here hx rfl (pc0 := 57) (pc' := 64) rfl (hb hby d2_57) rfl (XT.ii_ne_t c30) (by decide +kernel) (by decide +kernel) kk) ?_
                  refine Go.of (t' := T0.setTop (mkF m 65 #[.val (.int q1)] [(.int (0 : Int32))])) (fun _ kk => XS.iconst W0.here hx rfl (hb hby d2_64) kk) ?_
                  exact W0.retI hx hEL hs hlk (by decide +kernel) (by decide +kernel) hret (by simp) rfl (hb hby d2_65) (absurd aq1 (by simp only [Alw, not_or, not_and, Decidable.not_not]; simp [c1, c24, c25, c26, c27, c28, c29, c30]))
        · refine Go.of (t' := T0.setTop (mkF m 30 #[.val (.int q1)] [])) (fun _ kk => XS.icmpNo W0.here hx rfl (hb hby d2_27) rfl (XT.ii_lt_f c26) kk) ?_
          refine Go.of (t' := T0.setTop (mkF m 31 #[.val (.int q1)] [(.int q1)])) (fun _ kk => XS.iloadN W0.here hx rfl (hb hby d2_30) rfl kk) ?_
          refine Go.of (t' := T0.setTop (mkF m 33 #[.val (.int q1)] [(.int (57 : Int32)), (.int q1)])) (fun _ kk => XS.bipush W0.here hx rfl (hb hby d2_31) kk) ?_
          by_cases c31 : (57 : Int32) < q1
          · refine Go.of (t' := T0.setTop (mkF m 36 #[.val (.int q1)] [])) (fun _ kk => XS.icmpNo W0.here hx rfl (hb hby d2_33) rfl (XT.ii_le_f c31) kk) ?_
            refine Go.of (t' := T0.setTop (mkF m 37 #[.val (.int q1)] [(.int q1)])) (fun _ kk => XS.iloadN W0.here hx rfl (hb hby d2_36) rfl kk) ?_
            refine Go.of (t' := T0.setTop (mkF m 39 #[.val (.int q1)] [(.int (46 : Int32)), (.int q1)])) (fun _ kk => XS.bipush W0.here hx rfl (hb hby d2_37) kk) ?_
            by_cases c32 : q1 = (46 : Int32)
            · refine Go.of (t' := T0.setTop (mkF m 60 #[.val (.int q1)] [])) (fun _ kk => XS.icmpYes W0.here hx rfl (pc0 := 39) (pc' := 60) rfl (hb hby d2_39) rfl (XT.ii_eq_t c32) (by decide +kernel) (by decide +kernel) kk) ?_
              refine Go.of (t' := T0.setTop (mkF m 61 #[.val (.int q1)] [(.int (1 : Int32))])) (fun _ kk => XS.iconst W0.here hx rfl (hb hby d2_60) kk) ?_
              refine Go.of (t' := T0.setTop (mkF m 65 #[.val (.int q1)] [(.int (1 : Int32))])) (fun _ kk => XS.goto W0.here hx rfl (pc0 := 61) (pc' := 65) rfl (hb hby d2_61) (by decide +kernel) (by decide +kernel) kk) ?_
              exact W0.retI hx hEL hs hlk (by decide +kernel) (by decide +kernel) hret (by simp) rfl (hb hby d2_65) ⟨rfl, rfl⟩
            · refine Go.of (t' := T0.setTop (mkF m 42 #[.val (.int q1)] [])) (fun _ kk => XS.icmpNo W0.here hx rfl (hb hby d2_39) rfl (XT.ii_eq_f c32) kk) ?_
              refine Go.of (t' := T0.setTop (mkF m 43 #[.val (.int q1)] [(.int q1)])) (fun _ kk => XS.iloadN W0.here hx rfl (hb hby d2_42) rfl kk) ?_
              refine Go.of (t' := T0.setTop (mkF m 45 #[.val (.int q1)] [(.int (95 : Int32)), (.int q1)])) (fun _ kk => XS.bipush W0.here hx rfl (hb hby d2_43) kk) ?_
              by_cases c33 : q1 = (95 : Int32)
              · refine Go.of (t' := T0.setTop (mkF m 60 #[.val (.int q1)] [])) (fun _ kk => XS.icmpYes W0.here hx rfl (pc0 := 45) (pc' := 60) rfl (hb hby d2_45) rfl (XT.ii_eq_t c33) (by decide +kernel) (by decide +kernel) kk) ?_
                refine Go.of (t' := T0.setTop (mkF m 61 #[.val (.int q1)] [(.int (1 : Int32))])) (fun _ kk => XS.iconst W0.here hx rfl (hb hby d2_60) kk) ?_
                refine Go.of (t' := T0.setTop (mkF m 65 #[.val (.int q1)] [(.int (1 : Int32))])) (fun _ kk => XS.goto W0.here hx rfl (pc0 := 61) (pc' := 65) rfl (hb hby d2_61) (by decide +kernel) (by decide +kernel) kk) ?_
                exact W0.retI hx hEL hs hlk (by decide +kernel) (by decide +kernel) hret (by simp) rfl (hb hby d2_65) ⟨rfl, rfl⟩
              · refine Go.of (t' := T0.setTop (mkF m 48 #[.val (.int q1)] [])) (fun _ kk => XS.icmpNo W0.here hx rfl (hb hby d2_45) rfl (XT.ii_eq_f c33) kk) ?_
                refine Go.of (t' := T0.setTop (mkF m 49 #[.val (.int q1)] [(.int q1)])) (fun _ kk => XS.iloadN W0.here hx rfl (hb hby d2_48) rfl kk) ?_
                refine Go.of (t' := T0.setTop (mkF m 51 #[.val (.int q1)] [(.int (45 : Int32)), (.int q1)])) (fun _ kk => XS.bipush W0.here hx rfl (hb hby d2_49) kk) ?_
                by_cases c34 : q1 = (45 : Int32)
                · refine Go.of (t' := T0.setTop (mkF m 60 #[.val (.int q1)] [])) (fun _ kk => XS.icmpYes W0.here hx rfl (pc0 := 51) (pc' := 60) rfl (hb hby d2_51) rfl (XT.ii_eq_t c34) (by decide +kernel) (by decide +kernel) kk) ?_
                  refine Go.of (t' := T0.setTop (mkF m 61 #[.val (.int q1)] [(.int (1 : Int32))])) (fun _ kk => XS.iconst W0.here hx rfl (hb hby d2_60) kk) ?_
                  refine Go.of (t' := T0.setTop (mkF m 65 #[.val (.int q1)] [(.int (1 : Int32))])) (fun _ kk => XS.goto W0.here hx rfl (pc0 := 61) (pc' := 65) rfl (hb hby d2_61) (by decide +kernel) (by decide +kernel) kk) ?_
                  exact W0.retI hx hEL hs hlk (by decide +kernel) (by decide +kernel) hret (by simp) rfl (hb hby d2_65) ⟨rfl, rfl⟩
                · refine Go.of (t' := T0.setTop (mkF m 54 #[.val (.int q1)] [])) (fun _ kk => XS.icmpNo W0.here hx rfl (hb hby d2_51) rfl (XT.ii_eq_f c34) kk) ?_
                  refine Go.of (t' := T0.setTop (mkF m 55 #[.val (.int q1)] [(.int q1)])) (fun _ kk => XS.iloadN W0.here hx rfl (hb hby d2_54) rfl kk) ?_
                  refine Go.of (t' := T0.setTop (mkF m 57 #[.val (.int q1)] [(.int (58 : Int32)), (.int q1)])) (fun _ kk => XS.bipush W0.here hx rfl (hb hby d2_55) kk) ?_
                  by_cases c35 : q1 = (58 : Int32)
                  · refine Go.of (t' := T0.setTop (mkF m 60 #[.val (.int q1)] [])) (fun _ kk => XS.icmpNo W0.here hx rfl (hb hby d2_57) rfl (XT.ii_ne_f c35) kk) ?_
                    refine Go.of (t' := T0.setTop (mkF m 61 #[.val (.int q1)] [(.int (1 : Int32))])) (fun _ kk => XS.iconst W0.here hx rfl (hb hby d2_60) kk) ?_
                    refine Go.of (t' := T0.setTop (mkF m 65 #[.val (.int q1)] [(.int (1 : Int32))])) (fun _ kk => XS.goto W0.here hx rfl (pc0 := 61) (pc' := 65) rfl (hb hby d2_61) (by decide +kernel) (by decide +kernel) kk) ?_
                    exact W0.retI hx hEL hs hlk (by decide +kernel) (by decide +kernel) hret (by simp) rfl (hb hby d2_65) ⟨rfl, rfl⟩
                  · refine Go.of (t' := T0.setTop (mkF m 64 #[.val (.int q1)] [])) (fun _ kk => XS.icmpYes W0.here hx rfl (pc0 := 57) (pc' := 64) rfl (hb hby d2_57) rfl (XT.ii_ne_t c35) (by decide +kernel) (by decide +kernel) kk) ?_
                    refine Go.of (t' := T0.setTop (mkF m 65 #[.val (.int q1)] [(.int (0 : Int32))])) (fun _ kk => XS.iconst W0.here hx rfl (hb hby d2_64) kk) ?_
                    exact W0.retI hx hEL hs hlk (by decide +kernel) (by decide +kernel) hret (by simp) rfl (hb hby d2_65) (absurd aq1 (by simp only [Alw, not_or, not_and, Decidable.not_not]; simp [c1, c24, c25, c26, c31, c32, c33, c34, c35]))
          · refine Go.of (t' := T0.setTop (mkF m 60 #[.val (.int q1)] [])) (fun _ kk => XS.icmpYes W0.here hx rfl (pc0 := 33) (pc' := 60) rfl (hb hby d2_33) rfl (XT.ii_le_t c31) (by decide +kernel) (by decide +kernel) kk) ?_
            refine Go.of (t' := T0.setTop (mkF m 61 #[.val (.int q1)] [(.int (1 : Int32))])) (fun _ kk => XS.iconst W0.here hx rfl (hb hby d2_60) kk) ?_
            refine Go.of (t' := T0.setTop (mkF m 65 #[.val (.int q1)] [(.int (1 : Int32))])) (fun _ kk => XS.goto W0.here hx rfl (pc0 := 61) (pc' := 65) rfl (hb hby d2_61) (by decide +kernel) (by decide +kernel) kk) ?_
            exact W0.retI hx hEL hs hlk (by decide +kernel) (by decide +kernel) hret (by simp) rfl (hb hby d2_65) ⟨rfl, rfl⟩
      · refine Go.of (t' := T0.setTop (mkF m 18 #[.val (.int q1)] [])) (fun _ kk => XS.icmpNo W0.here hx rfl (hb hby d2_15) rfl (XT.ii_lt_f c25) kk) ?_
        refine Go.of (t' := T0.setTop (mkF m 19 #[.val (.int q1)] [(.int q1)])) (fun _ kk => XS.iloadN W0.here hx rfl (hb hby d2_18) rfl kk) ?_
        refine Go.of (t' := T0.setTop (mkF m 21 #[.val (.int q1)] [(.int (122 : Int32)), (.int q1)])) (fun _ kk => XS.bipush W0.here hx rfl (hb hby d2_19) kk) ?_
        by_cases c36 : (122 : Int32) < q1
        · refine Go.of (t' := T0.setTop (mkF m 24 #[.val (.int q1)] [])) (fun _ kk => XS.icmpNo W0.here hx rfl (hb hby d2_21) rfl (XT.ii_le_f c36) kk) ?_
          refine Go.of (t' := T0.setTop (mkF m 25 #[.val (.int q1)] [(.int q1)])) (fun _ kk => XS.iloadN W0.here hx rfl (hb hby d2_24) rfl kk) ?_
          refine Go.of (t' := T0.setTop (mkF m 27 #[.val (.int q1)] [(.int (48 : Int32)), (.int q1)])) (fun _ kk => XS.bipush W0.here hx rfl (hb hby d2_25) kk) ?_
          by_cases c37 : q1 < (48 : Int32)
          · refine Go.of (t' := T0.setTop (mkF m 36 #[.val (.int q1)] [])) (fun _ kk => XS.icmpYes W0.here hx rfl (pc0 := 27) (pc' := 36) rfl (hb hby d2_27) rfl (XT.ii_lt_t c37) (by decide +kernel) (by decide +kernel) kk) ?_
            refine Go.of (t' := T0.setTop (mkF m 37 #[.val (.int q1)] [(.int q1)])) (fun _ kk => XS.iloadN W0.here hx rfl (hb hby d2_36) rfl kk) ?_
            refine Go.of (t' := T0.setTop (mkF m 39 #[.val (.int q1)] [(.int (46 : Int32)), (.int q1)])) (fun _ kk => XS.bipush W0.here hx rfl (hb hby d2_37) kk) ?_
            by_cases c38 : q1 = (46 : Int32)
            · refine Go.of (t' := T0.setTop (mkF m 60 #[.val (.int q1)] [])) (fun _ kk => XS.icmpYes W0.here hx rfl (pc0 := 39) (pc' := 60) rfl (hb hby d2_39) rfl (XT.ii_eq_t c38) (by decide +kernel) (by decide +kernel) kk) ?_
              refine Go.of (t' := T0.setTop (mkF m 61 #[.val (.int q1)] [(.int (1 : Int32))])) (fun _ kk => XS.iconst W0.here hx rfl (hb hby d2_60) kk) ?_
              refine Go.of (t' := T0.setTop (mkF m 65 #[.val (.int q1)] [(.int (1 : Int32))])) (fun _ kk => XS.goto W0.here hx rfl (pc0 := 61) (pc' := 65) rfl (hb hby d2_61) (by decide +kernel) (by decide +kernel) kk) ?_
              exact W0.retI hx hEL hs hlk (by decide +kernel) (by decide +kernel) hret (by simp) rfl (hb hby d2_65) ⟨rfl, rfl⟩
            · refine Go.of (t' := T0.setTop (mkF m 42 #[.val (.int q1)] [])) (fun _ kk => XS.icmpNo W0.here hx rfl (hb hby d2_39) rfl (XT.ii_eq_f c38) kk) ?_
              refine Go.of (t' := T0.setTop (mkF m 43 #[.val (.int q1)] [(.int q1)])) (fun _ kk => XS.iloadN W0.here hx rfl (hb hby d2_42) rfl kk) ?_
              refine Go.of (t' := T0.setTop (mkF m 45 #[.val (.int q1)] [(.int (95 : Int32)), (.int q1)])) (fun _ kk => XS.bipush W0.here hx rfl (hb hby d2_43) kk) ?_
              by_cases c39 : q1 = (95 : Int32)
              · refine Go.of (t' := T0.setTop (mkF m 60 #[.val (.int q1)] [])) (fun _ kk => XS.icmpYes W0.here hx rfl (pc0 := 45) (pc' := 60) rfl (hb hby d2_45) rfl (XT.ii_eq_t c39) (by decide +kernel) (by decide +kernel) kk) ?_
                refine Go.of (t' := T0.setTop (mkF m 61 #[.val (.int q1)] [(.int (1 : Int32))])) (fun _ kk => XS.iconst W0.here hx rfl (hb hby d2_60) kk) ?_
                refine Go.of (t' := T0.setTop (mkF m 65 #[.val (.int q1)] [(.int (1 : Int32))])) (fun _ kk => XS.goto W0.here hx rfl (pc0 := 61) (pc' := 65) rfl (hb hby d2_61) (by decide +kernel) (by decide +kernel) kk) ?_
                exact W0.retI hx hEL hs hlk (by decide +kernel) (by decide +kernel) hret (by simp) rfl (hb hby d2_65) ⟨rfl, rfl⟩
              · refine Go.of (t' := T0.setTop (mkF m 48 #[.val (.int q1)] [])) (fun _ kk => XS.icmpNo W0.here hx rfl (hb hby d2_45) rfl (XT.ii_eq_f c39) kk) ?_
                refine Go.of (t' := T0.setTop (mkF m 49 #[.val (.int q1)] [(.int q1)])) (fun _ kk => XS.iloadN W0.here hx rfl (hb hby d2_48) rfl kk) ?_
                refine Go.of (t' := T0.setTop (mkF m 51 #[.val (.int q1)] [(.int (45 : Int32)), (.int q1)])) (fun _ kk => XS.bipush W0.here hx rfl (hb hby d2_49) kk) ?_
                by_cases c40 : q1 = (45 : Int32)
                · refine Go.of (t' := T0.setTop (mkF m 60 #[.val (.int q1)] [])) (fun _ kk => XS.icmpYes W0.here hx rfl (pc0 := 51) (pc' := 60) rfl (hb hby d2_51) rfl (XT.ii_eq_t c40) (by decide +kernel) (by decide +kernel) kk) ?_
                  refine Go.of (t' := T0.setTop (mkF m 61 #[.val (.int q1)] [(.int (1 : Int32))])) (fun _ kk => XS.iconst W0.here hx rfl (hb hby d2_60) kk) ?_
                  refine Go.of (t' := T0.setTop (mkF m 65 #[.val (.int q1)] [(.int (1 : Int32))])) (fun _ kk => XS.goto W0.here hx rfl (pc0 := 61) (pc' := 65) rfl (hb hby d2_61) (by decide +kernel) (by decide +kernel) kk) ?_
                  exact W0.retI hx hEL hs hlk (by decide +kernel) (by decide +kernel) hret (by simp) rfl (hb hby d2_65) ⟨rfl, rfl⟩
                · refine Go.of (t' := T0.setTop (mkF m 54 #[.val (.int q1)] [])) (fun _ kk => XS.icmpNo W0.here hx rfl (hb hby d2_51) rfl (XT.ii_eq_f c40) kk) ?_
                  refine Go.of (t' := T0.setTop (mkF m 55 #[.val (.int q1)] [(.int q1)])) (fun _ kk => XS.iloadN W0.here hx rfl (hb hby d2_54) rfl kk) ?_
                  refine Go.of (t' := T0.setTop (mkF m 57 #[.val (.int q1)] [(.int (58 : Int32)), (.int q1)])) (fun _ kk => XS.bipush W0.here hx rfl (hb hby d2_55) kk) ?_
                  by_cases c41 : q1 = (58 : Int32)
                  · refine Go.of (t' := T0.setTop (mkF m 60 #[.val (.int q1)] [])) (fun _ kk => XS.icmpNo W0.here hx rfl (hb hby d2_57) rfl (XT.ii_ne_f c41) kk) ?_
                    refine Go.of (t' := T0.setTop (mkF m 61 #[.val (.int q1)] [(.int (1 : Int32))])) (fun _ kk => XS.iconst W0.here hx rfl (hb hby d2_60) kk) ?_
                    refine Go.of (t' := T0.setTop (mkF m 65 #[.val (.int q1)] [(.int (1 : Int32))])) (fun _ kk => XS.goto W0.here hx rfl (pc0 := 61) (pc' := 65) rfl (hb hby d2_61) (by decide +kernel) (by decide +kernel) kk) ?_
                    exact W0.retI hx hEL hs hlk (by decide +kernel) (by decide +kernel) hret (by simp) rfl (hb hby d2_65) ⟨rfl, rfl⟩
                  · refine Go.of (t' := T0.setTop (mkF m 64 #[.val (.int q1)] [])) (fun _ kk => XS.icmpYes W0.here hx rfl (pc0 := 57) (pc' := 64) rfl (hb hby d2_57) rfl (XT.ii_ne_t c41) (by decide +kernel) (by decide +kernel) kk) ?_
                    refine Go.of (t' := T0.setTop (mkF m 65 #[.val (.int q1)] [(.int (0 : Int32))])) (fun _ kk => XS.iconst W0.here hx rfl (hb hby d2_64) kk) ?_
                    exact W0.retI hx hEL hs hlk (by decide +kernel) (by decide +kernel) hret (by simp) rfl (hb hby d2_65) (absurd aq1 (by simp only [Alw, not_or, not_and, Decidable.not_not]; simp [c1, c24, c25, c36, c37, c38, c39, c40, c41]))
          · refine Go.of (t' := T0.setTop (mkF m 30 #[.val (.int q1)] [])) (fun _ kk => XS.icmpNo W0.here hx rfl (hb hby d2_27) rfl (XT.ii_lt_f c37) kk) ?_
            refine Go.of (t' := T0.setTop (mkF m 31 #[.val (.int q1)] [(.int q1)])) (fun _ kk => XS.iloadN W0.here hx rfl (hb hby d2_30) rfl kk) ?_
            refine Go.of (t' := T0.setTop (mkF m 33 #[.val (.int q1)] [(.int (57 : Int32)), (.int q1)])) (fun _ kk => XS.bipush W0.here hx rfl (hb hby d2_31) kk) ?_
            by_cases c42 : (57 : Int32) < q1
            · refine Go.of (t' := T0.setTop (mkF m 36 #[.val (.int q1)] [])) (fun _ kk => XS.icmpNo W0.here hx rfl (hb hby d2_33) rfl (XT.ii_le_f c42) kk) ?_
              refine Go.of (t' := T0.setTop (mkF m 37 #[.val (.int q1)] [(.int q1)])) (fun _ kk => XS.iloadN W0.here hx rfl (hb hby d2_36) rfl kk) ?_
              refine Go.of (t' := T0.setTop (mkF m 39 #[.val (.int q1)] [(.int (46 : Int32)), (.int q1)])) (fun _ kk => XS.bipush W0.here hx rfl (hb hby d2_37) kk) ?_
              by_cases c43 : q1 = (46 : Int32)
              · refine Go.of (t' := T0.setTop (mkF m 60 #[.val (.int q1)] [])) (fun _ kk => XS.icmpYes W0.here hx rfl (pc0 := 39) (pc' := 60) rfl (hb hby d2_39) rfl (XT.ii_eq_t c43) (by decide +kernel) (by decide +kernel) kk) ?_
                refine Go.of (t' := T0.setTop (mkF m 61 #[.val (.int q1)] [(.int (1 : Int32))])) (fun _ kk => XS.iconst W0.here hx rfl (hb hby d2_60) kk) ?_
                refine Go.of (t' := T0.setTop (mkF m 65 #[.val (.int q1)] [(.int (1 : Int32))])) (fun _ kk => XS.goto W0.here hx rfl (pc0 := 61) (pc' := 65) rfl (hb hby d2_61) (by decide +kernel) (by decide +kernel) kk) ?_
                exact W0.retI hx hEL hs hlk (by decide +kernel) (by decide +kernel) hret (by simp) rfl (hb hby d2_65) ⟨rfl, rfl⟩
              · refine Go.of (t' := T0.setTop (mkF m 42 #[.val (.int q1)] [])) (fun _ kk => XS.icmpNo W0.here hx rfl (hb hby d2_39) rfl (XT.ii_eq_f c43) kk) ?_
                refine Go.of (t' := T0.setTop (mkF m 43 #[.val (.int q1)] [(.int q1)])) (fun _ kk => XS.iloadN W0.here hx rfl (hb hby d2_42) rfl kk) ?_
                refine Go.of (t' := T0.setTop (mkF m 45 #[.val (.int q1)] [(.int (95 : Int32)), (.int q1)])) (fun _ kk => XS.bipush W0.here hx rfl (hb hby d2_43) kk) ?_
                by_cases c44 : q1 = (95 : Int32)
                · refine Go.of (t' := T0.setTop (mkF m 60 #[.val (.int q1)] [])) (fun _ kk => XS.icmpYes W0.here hx rfl (pc0 := 45) (pc' := 60) rfl (hb hby d2_45) rfl (XT.ii_eq_t c44) (by decide +kernel) (by decide +kernel) kk) ?_
                  refine Go.of (t' := T0.setTop (mkF m 61 #[.val (.int q1)] [(.int (1 : Int32))])) (fun _ kk => XS.iconst W0.here hx rfl (hb hby d2_60) kk) ?_
                  refine Go.of (t' := T0.setTop (mkF m 65 #[.val (.int q1)] [(.int (1 : Int32))])) (fun _ kk => XS.goto W0.here hx rfl (pc0 := 61) (pc' := 65) rfl (hb hby d2_61) (by decide +kernel) (by decide +kernel) kk) ?_
                  exact W0.retI hx hEL hs hlk (by decide +kernel) (by decide +kernel) hret (by simp) rfl (hb hby d2_65) ⟨rfl, rfl⟩
                · refine Go.of (t' := T0.setTop (mkF m 48 #[.val (.int q1)] [])) (fun _ kk => XS.icmpNo W0.here hx rfl (hb hby d2_45) rfl (XT.ii_eq_f c44) kk) ?_
                  refine Go.of (t' := T0.setTop (mkF m 49 #[.val (.int q1)] [(.int q1)])) (fun _ kk => XS.iloadN W0.here hx rfl (hb hby d2_48) rfl kk) ?_
                  refine Go.of (t' := T0.setTop (mkF m 51 #[.val (.int q1)] [(.int (45 : Int32)), (.int q1)])) (fun _ kk => XS.bipush W0.here hx rfl (hb hby d2_49) kk) ?_
                  by_cases c45 : q1 = (45 : Int32)
                  · refine Go.of (t' := T0.setTop (mkF m 60 #[.val (.int q1)] [])) (fun _ kk => XS.icmpYes W0.here hx rfl (pc0 := 51) (pc' := 60) rfl (hb hby d2_51) rfl (XT.ii_eq_t c45) (by decide +kernel) (by decide +kernel) kk) ?_
                    refine Go.of (t' := T0.setTop (mkF m 61 #[.val (.int q1)] [(.int (1 : Int32))])) (fun _ kk => XS.iconst W0.here hx rfl (hb hby d2_60) kk) ?_
                    refine Go.of (t' := T0.setTop (mkF m 65 #[.val (.int q1)] [(.int (1 : Int32))])) (fun _ kk => XS.goto W0.here hx rfl (pc0 := 61) (pc' := 65) rfl (hb hby d2_61) (by decide +kernel) (by decide +kernel) kk) ?_
                    exact W0.retI hx hEL hs hlk (by decide +kernel) (by decide +kernel) hret (by simp) rfl (hb hby d2_65) ⟨rfl, rfl⟩
                  · refine Go.of (t' := T0.setTop (mkF m 54 #[.val (.int q1)] [])) (fun _ kk => XS.icmpNo W0.here hx rfl (hb hby d2_51) rfl (XT.ii_eq_f c45) kk) ?_
                    refine Go.of (t' := T0.setTop (mkF m 55 #[.val (.int q1)] [(.int q1)])) (fun _ kk => XS.iloadN W0.here hx rfl (hb hby d2_54) rfl kk) ?_
                    refine Go.of (t' := T0.setTop (mkF m 57 #[.val (.int q1)] [(.int (58 : Int32)), (.int q1)])) (fun _ kk => XS.bipush W0.here hx rfl (hb hby d2_55) kk) ?_
                    by_cases c46 : q1 = (58 : Int32)
                    · refine Go.of (t' := T0.setTop (mkF m 60 #[.val (.int q1)] [])) (fun _ kk => XS.icmpNo W0.here hx rfl (hb hby d2_57) rfl (XT.ii_ne_f c46) kk) ?_
                      refine Go.of (t' := T0.setTop (mkF m 61 #[.val (.int q1)] [(.int (1 : Int32))])) (fun _ kk => XS.iconst W0.here hx rfl (hb hby d2_60) kk) ?_
                      refine Go.of (t' := T0.setTop (mkF m 65 #[.val (.int q1)] [(.int (1 : Int32))])) (fun _ kk => XS.goto W0.here hx rfl (pc0 := 61) (pc' := 65) rfl (hb hby d2_61) (by decide +kernel) (by decide +kernel) kk) ?_
                      exact W0.retI hx hEL hs hlk (by decide +kernel) (by decide +kernel) hret (by simp) rfl (hb hby d2_65) ⟨rfl, rfl⟩
                    · refine Go.of (t' := T0.setTop (mkF m 64 #[.val (.int q1)] [])) (fun _ kk => XS.icmpYes W0.here hx rfl (pc0 := 57) (pc' := 64) rfl (hb hby d2_57) rfl (XT.ii_ne_t c46) (by decide +kernel) (by decide +kernel) kk) ?_
                      refine Go.of (t' := T0.setTop (mkF m 65 #[.val (.int q1)] [(.int (0 : Int32))])) (fun _ kk => XS.iconst W0.here hx rfl (hb hby d2_64) kk) ?_
                      exact W0.retI hx hEL hs hlk (by decide +kernel) (by decide +kernel) hret (by simp) rfl (hb hby d2_65) (absurd aq1 (by simp only [Alw, not_or, not_and, Decidable.not_not]; simp [c1, c24, c25, c36, c37, c42, c43, c44, c45, c46]))
            · refine Go.of (t' := T0.setTop (mkF m 60 #[.val (.int q1)] [])) (fun _ kk => XS.icmpYes W0.here hx rfl (pc0 := 33) (pc' := 60) rfl (hb hby d2_33) rfl (XT.ii_le_t c42) (by decide +kernel) (by decide +kernel) kk) ?_
              refine Go.of (t' := T0.setTop (mkF m 61 #[.val (.int q1)] [(.int (1 : Int32))])) (fun _ kk => XS.iconst W0.here hx rfl (hb hby d2_60) kk) ?_
              refine Go.of (t' := T0.setTop (mkF m 65 #[.val (.int q1)] [(.int (1 : Int32))])) (fun _ kk => XS.goto W0.here hx rfl (pc0 := 61) (pc' := 65) rfl (hb hby d2_61) (by decide +kernel) (by decide +kernel) kk) ?_
              exact W0.retI hx hEL hs hlk (by decide +kernel) (by decide +kernel) hret (by simp) rfl (hb hby d2_65) ⟨rfl, rfl⟩
        · refine Go.of (t' := T0.setTop (mkF m 60 #[.val (.int q1)] [])) (fun _ kk => XS.icmpYes W0.here hx rfl (pc0 := 21) (pc' := 60) rfl (hb hby d2_21) rfl (XT.ii_le_t c36) (by decide +kernel) (by decide +kernel) kk) ?_
          refine Go.of (t' := T0.setTop (mkF m 61 #[.val (.int q1)] [(.int (1 : Int32))])) (fun _ kk => XS.iconst W0.here hx rfl (hb hby d2_60) kk) ?_
          refine Go.of (t' := T0.setTop (mkF m 65 #[.val (.int q1)] [(.int (1 : Int32))])) (fun _ kk => XS.goto W0.here hx rfl (pc0 := 61) (pc' := 65) rfl (hb hby d2_61) (by decide +kernel) (by decide +kernel) kk) ?_
          exact W0.retI hx hEL hs hlk (by decide +kernel) (by decide +kernel) hret (by simp) rfl (hb hby d2_65) ⟨rfl, rfl⟩
    · refine Go.of (t' := T0.setTop (mkF m 60 #[.val (.int q1)] [])) (fun _ kk => XS.icmpYes W0.here hx rfl (pc0 := 9) (pc' := 60) rfl (hb hby d2_9) rfl (XT.ii_le_t c24) (by decide +kernel) (by decide +kernel) kk) ?_
      refine Go.of (t' := T0.setTop (mkF m 61 #[.val (.int q1)] [(.int (1 : Int32))])) (fun _ kk => XS.iconst W0.here hx rfl (hb hby d2_60) kk) ?_
      refine Go.of (t' := T0.setTop (mkF m 65 #[.val (.int q1)] [(.int (1 : Int32))])) (fun _ kk => XS.goto W0.here hx rfl (pc0 := 61) (pc' := 65) rfl (hb hby d2_61) (by decide +kernel) (by decide +kernel) kk) ?_
      exact W0.retI hx hEL hs hlk (by decide +kernel) (by decide +kernel) hret (by simp) rfl (hb hby d2_65) ⟨rfl, rfl⟩
theorem d11_0 : decode prog_9_method_3_code 0 = .ok (.aload_n 1, 1) := by decide +kernel
theorem d11_1 : decode prog_9_method_3_code 1 = .ok (.invokevirtual 36, 3) := by decide +kernel
theorem d11_4 : decode prog_9_method_3_code 4 = .ok (.ifCond .ne 11, 3) := by decide +kernel
theorem d11_7 : decode prog_9_method_3_code 7 = .ok (.aload_n 1, 1) := by decide +kernel
theorem d11_8 : decode prog_9_method_3_code 8 = .ok (.invokevirtual 40, 3) := by decide +kernel
theorem d11_11 : decode prog_9_method_3_code 11 = .ok (.iload_n 2, 1) := by decide +kernel
theorem d11_12 : decode prog_9_method_3_code 12 = .ok (.if_icmp .le 22, 3) := by decide +kernel
theorem d11_34 : decode prog_9_method_3_code 34 = .ok (.iconst 0, 1) := by decide +kernel
theorem d11_35 : decode prog_9_method_3_code 35 = .ok (.istore_n 3, 1) := by decide +kernel
theorem d11_36 : decode prog_9_method_3_code 36 = .ok (.iload_n 3, 1) := by decide +kernel
theorem d11_37 : decode prog_9_method_3_code 37 = .ok (.aload_n 1, 1) := by decide +kernel
theorem d11_38 : decode prog_9_method_3_code 38 = .ok (.invokevirtual 40, 3) := by decide +kernel
theorem d11_41 : decode prog_9_method_3_code 41 = .ok (.if_icmp .ge 44, 3) := by decide +kernel
theorem d11_44 : decode prog_9_method_3_code 44 = .ok (.aload_n 1, 1) := by decide +kernel
theorem d11_45 : decode prog_9_method_3_code 45 = .ok (.iload_n 3, 1) := by decide +kernel
theorem d11_46 : decode prog_9_method_3_code 46 = .ok (.invokevirtual 47, 3) := by decide +kernel
theorem d11_49 : decode prog_9_method_3_code 49 = .ok (.invokestatic 51, 3) := by decide +kernel
theorem d11_52 : decode prog_9_method_3_code 52 = .ok (.ifCond .ne 27, 3) := by decide +kernel
theorem d11_79 : decode prog_9_method_3_code 79 = .ok (.iinc 3 1, 3) := by decide +kernel
theorem d11_82 : decode prog_9_method_3_code 82 = .ok (.goto (-46), 3) := by decide +kernel
theorem d11_85 : decode prog_9_method_3_code 85 = .ok (.return_, 1) := by decide +kernel
theorem ef11 (m : MethodId) (x0 : Addr) (x1 : Addr) (x2 : Int32)  : entryFrame m #[(.ref x0), (.ref x1), (.int x2)] 4 = mkF m 0 #[.val (.ref x0), .val (.ref x1), .val (.int x2), .unset] [] := by first | (simp [entryFrame, mkF, argsToLocals, Value.category]; done) | rfl | rfl
set_option maxRecDepth 65536 in
set_option maxHeartbeats 40000000 in
theorem rm11 (l : Launch) (Z : State) (a0 : Array Value) (hw : ∀ d ∈ tables_1, d.before a0 Z = true) (hEL : EW Z a0 EL0) (zc : Int32) (SC : Sta Z Z.heap "java/lang/String" "COMPACT_STRINGS" "Z" (.int zc)) (hzc : ¬ zc = 0) (fm : Value) (SF : Sta Z Z.heap "jdk/internal/util/Preconditions" "SIOOBE_FORMATTER" "Ljava/util/function/BiFunction;" fm) (rfm : fm.isRef = true) (x1 : Addr) (x2 : Addr) (x3 : Int32) (q1 : Int32) (h0 : Heap) {n0 : Nat} (O0 : Old Z n0 h0) (S2 : Str Z h0 x2 [q1]) (cq1 : ¬ q1 < 0 ∧ ¬ (255 : Int32) < q1) (aq1 : Alw q1) (hmx : ¬ (x3 < (1 : Int32))) :
    Met l Z EL0 n0 (⟨"com/example/sem1/sem1/internal/LockNames", "requireCharacters", "(Ljava/lang/String;Ljava/lang/String;I)V"⟩ : MethodName) prog_9_method_3_code 4 none [] ({ frames := 4, cells := 0, slots := 0, locals := 53 } : Room) #[(.ref x1), (.ref x2), (.int x3)] h0 [] [] (fun v h' => v = none ∧ h0 = h') := by
  refine Met.of (plainFor_of_name pn1) O0 ?_
  intro p e s m below meth c T0 hx hby hml hret hlk hnm hs W0
  have W0 : Wk p l e _ s m _ below meth c Z EL0 n0 [] "com/example/sem1/sem1/internal/LockNames" [] T0 0 0 h0 := W0
  have hSA := fun d hd => hw d (sa_in d hd)
  have hws := fun d hd => hw d (ws_in d hd)
  have hln := fun d hd => hw d (ln_in d hd)
  have hch := fun d hd => hw d (ch_in d hd)
  have heq := fun d hd => hw d (eq_in d hd)
  have hem := fun d hd => hw d (em_in d hd)
  refine Go.of (fun _ kk => castTop (ef11 m x1 x2 x3) kk) ?_
  show Go p e below _ (T0.setTop (mkF m 0 #[.val (.ref x1), .val (.ref x2), .val (.int x3), .unset] []))
  refine Go.of (t' := T0.setTop (mkF m 1 #[.val (.ref x1), .val (.ref x2), .val (.int x3), .unset] [(.ref x2)])) (fun _ kk => XS.aloadN W0.here hx rfl (hb hby d11_0) rfl rfl kk) ?_
  refine W0.strEmp hx hem (hw _ (List.mem_of_getElem? (i := 6) rfl)) S2 (hw _ (List.mem_of_getElem? (i := 57) rfl)) (hw _ (List.mem_of_getElem? (i := 58) rfl)) (hw _ (List.mem_of_getElem? (i := 60) rfl)) (hw _ (List.mem_of_getElem? (i := 59) rfl)) (by decide +kernel) (Wd := 0) (by decide +kernel) (by decide +kernel) (by decide +kernel) rfl (by rw [hml]; rfl) rfl (by show 2 * 0 + _ ≤ _; exact Nat.le_of_eq rfl) (hb hby d11_1) (fun T1 W1 => ?_)
  show Go p e below _ (T1.setTop (mkF m 4 #[.val (.ref x1), .val (.ref x2), .val (.int x3), .unset] [(.int (0 : Int32))]))
  refine Go.of (t' := T1.setTop (mkF m 7 #[.val (.ref x1), .val (.ref x2), .val (.int x3), .unset] [])) (fun _ kk => XS.ifNo W1.here hx rfl (hb hby d11_4) rfl (XT.i0_ne_f (by decide +kernel)) kk) ?_
  refine Go.of (t' := T1.setTop (mkF m 8 #[.val (.ref x1), .val (.ref x2), .val (.int x3), .unset] [(.ref x2)])) (fun _ kk => XS.aloadN W1.here hx rfl (hb hby d11_7) rfl rfl kk) ?_
  refine W1.strLen hx hln (hw _ (List.mem_of_getElem? (i := 6) rfl)) SC hzc S2 (hw _ (List.mem_of_getElem? (i := 62) rfl)) (hw _ (List.mem_of_getElem? (i := 63) rfl)) (hw _ (List.mem_of_getElem? (i := 65) rfl)) (hw _ (List.mem_of_getElem? (i := 64) rfl)) (by decide +kernel) (Wd := 0) (by decide +kernel) (by decide +kernel) (by decide +kernel) rfl (by rw [hml]; rfl) rfl (by show 2 * 0 + _ ≤ _; exact Nat.le_of_eq rfl) (hb hby d11_8) (fun T2 W2 => ?_)
  show Go p e below _ (T2.setTop (mkF m 11 #[.val (.ref x1), .val (.ref x2), .val (.int x3), .unset] [(.int (1 : Int32))]))
  refine Go.of (t' := T2.setTop (mkF m 12 #[.val (.ref x1), .val (.ref x2), .val (.int x3), .unset] [(.int x3), (.int (1 : Int32))])) (fun _ kk => XS.iloadN W2.here hx rfl (hb hby d11_11) rfl kk) ?_
  refine Go.of (t' := T2.setTop (mkF m 34 #[.val (.ref x1), .val (.ref x2), .val (.int x3), .unset] [])) (fun _ kk => XS.icmpYes W2.here hx rfl (pc0 := 12) (pc' := 34) rfl (hb hby d11_12) rfl (XT.ii_le_t hmx) (by decide +kernel) (by decide +kernel) kk) ?_
  refine Go.of (t' := T2.setTop (mkF m 35 #[.val (.ref x1), .val (.ref x2), .val (.int x3), .unset] [(.int (0 : Int32))])) (fun _ kk => XS.iconst W2.here hx rfl (hb hby d11_34) kk) ?_
  refine Go.of (t' := T2.setTop (mkF m 36 #[.val (.ref x1), .val (.ref x2), .val (.int x3), .val (.int (0 : Int32))] [])) (fun _ kk => XS.istoreN W2.here hx rfl (hb hby d11_35) rfl (l' := #[.val (.ref x1), .val (.ref x2), .val (.int x3), .val (.int (0 : Int32))]) rfl kk) ?_
  refine Go.of (t' := T2.setTop (mkF m 37 #[.val (.ref x1), .val (.ref x2), .val (.int x3), .val (.int (0 : Int32))] [(.int (0 : Int32))])) (fun _ kk => XS.iloadN W2.here hx rfl (hb hby d11_36) rfl kk) ?_
  refine Go.of (t' := T2.setTop (mkF m 38 #[.val (.ref x1), .val (.ref x2), .val (.int x3), .val (.int (0 : Int32))] [(.ref x2), (.int (0 : Int32))])) (fun _ kk => XS.aloadN W2.here hx rfl (hb hby d11_37) rfl rfl kk) ?_
  refine W2.strLen hx hln (hw _ (List.mem_of_getElem? (i := 6) rfl)) SC hzc S2 (hw _ (List.mem_of_getElem? (i := 62) rfl)) (hw _ (List.mem_of_getElem? (i := 63) rfl)) (hw _ (List.mem_of_getElem? (i := 65) rfl)) (hw _ (List.mem_of_getElem? (i := 64) rfl)) (by decide +kernel) (Wd := 1) (by decide +kernel) (by decide +kernel) (by decide +kernel) rfl (by rw [hml]; rfl) rfl (by show 2 * 0 + _ ≤ _; exact Nat.le_of_eq rfl) (hb hby d11_38) (fun T3 W3 => ?_)
  show Go p e below _ (T3.setTop (mkF m 41 #[.val (.ref x1), .val (.ref x2), .val (.int x3), .val (.int (0 : Int32))] [(.int (1 : Int32)), (.int (0 : Int32))]))
  refine Go.of (t' := T3.setTop (mkF m 44 #[.val (.ref x1), .val (.ref x2), .val (.int x3), .val (.int (0 : Int32))] [])) (fun _ kk => XS.icmpNo W3.here hx rfl (hb hby d11_41) rfl (XT.ii_ge_f (by decide +kernel)) kk) ?_
  refine Go.of (t' := T3.setTop (mkF m 45 #[.val (.ref x1), .val (.ref x2), .val (.int x3), .val (.int (0 : Int32))] [(.ref x2)])) (fun _ kk => XS.aloadN W3.here hx rfl (hb hby d11_44) rfl rfl kk) ?_
  refine Go.of (t' := T3.setTop (mkF m 46 #[.val (.ref x1), .val (.ref x2), .val (.int x3), .val (.int (0 : Int32))] [(.int (0 : Int32)), (.ref x2)])) (fun _ kk => XS.iloadN W3.here hx rfl (hb hby d11_45) rfl kk) ?_
  refine W3.strChar hx hch (hw _ (List.mem_of_getElem? (i := 6) rfl)) SC hzc SF rfm S2 (snd255 (allSi cq1 all0i)) (i := 0) (Nat.le_of_ble_eq_true rfl) rfl (hw _ (List.mem_of_getElem? (i := 72) rfl)) (hw _ (List.mem_of_getElem? (i := 73) rfl)) (hw _ (List.mem_of_getElem? (i := 75) rfl)) (hw _ (List.mem_of_getElem? (i := 74) rfl)) (by decide +kernel) (Wd := 0) (by decide +kernel) (by decide +kernel) (by decide +kernel) rfl (by rw [hml]; rfl) rfl (by show 2 * 0 + _ ≤ _; exact Nat.le_of_eq rfl) (hb hby d11_46) (fun T4 W4 => ?_)
  show Go p e below _ (T4.setTop (mkF m 49 #[.val (.ref x1), .val (.ref x2), .val (.int x3), .val (.int (0 : Int32))] [(.int q1)]))
  refine W4.callS hx hEL (hw _ (List.mem_of_getElem? (i := 93) rfl)) (hw _ (List.mem_of_getElem? (i := 94) rfl)) (hw _ (List.mem_of_getElem? (i := 51) rfl)) (hw _ (List.mem_of_getElem? (i := 95) rfl)) (by decide +kernel) (argsL := [(.int q1)]) (rest := []) (rm2 l Z a0 hw hEL zc SC hzc fm SF rfm q1 h0 W4.old aq1) all0 (by decide +kernel) (Wd := 0) (by decide +kernel) (by decide +kernel) (by decide +kernel) all0 rfl (by rw [hml]; rfl) (lenOf pd0 rfl) rfl (by show 2 * 0 + _ ≤ _; exact Nat.le_of_eq rfl) (hb hby d11_49) (fun T5 h5 v5 W5 K5 q5 => ?_)
  obtain ⟨rfl, rfl⟩ := q5
  show Go p e below _ (T5.setTop (mkF m 52 #[.val (.ref x1), .val (.ref x2), .val (.int x3), .val (.int (0 : Int32))] [(.int (1 : Int32))]))
  refine Go.of (t' := T5.setTop (mkF m 79 #[.val (.ref x1), .val (.ref x2), .val (.int x3), .val (.int (0 : Int32))] [])) (fun _ kk => XS.ifYes W5.here hx rfl (pc0 := 52) (pc' := 79) rfl (hb hby d11_52) rfl (XT.i0_ne_t (by decide +kernel)) (by decide +kernel) (by decide +kernel) kk) ?_
  refine Go.of (t' := T5.setTop (mkF m 82 #[.val (.ref x1), .val (.ref x2), .val (.int x3), .val (.int (1 : Int32))] [])) (fun _ kk => XS.iinc W5.here hx rfl (hb hby d11_79) rfl (l' := #[.val (.ref x1), .val (.ref x2), .val (.int x3), .val (.int (1 : Int32))]) rfl kk) ?_
  refine Go.of (t' := T5.setTop (mkF m 36 #[.val (.ref x1), .val (.ref x2), .val (.int x3), .val (.int (1 : Int32))] [])) (fun _ kk => XS.goto W5.here hx rfl (pc0 := 82) (pc' := 36) rfl (hb hby d11_82) (by decide +kernel) (by decide +kernel) kk) ?_
  refine Go.of (t' := T5.setTop (mkF m 37 #[.val (.ref x1), .val (.ref x2), .val (.int x3), .val (.int (1 : Int32))] [(.int (1 : Int32))])) (fun _ kk => XS.iloadN W5.here hx rfl (hb hby d11_36) rfl kk) ?_
  refine Go.of (t' := T5.setTop (mkF m 38 #[.val (.ref x1), .val (.ref x2), .val (.int x3), .val (.int (1 : Int32))] [(.ref x2), (.int (1 : Int32))])) (fun _ kk => XS.aloadN W5.here hx rfl (hb hby d11_37) rfl rfl kk) ?_
  refine W5.strLen hx hln (hw _ (List.mem_of_getElem? (i := 6) rfl)) SC hzc S2 (hw _ (List.mem_of_getElem? (i := 62) rfl)) (hw _ (List.mem_of_getElem? (i := 63) rfl)) (hw _ (List.mem_of_getElem? (i := 65) rfl)) (hw _ (List.mem_of_getElem? (i := 64) rfl)) (by decide +kernel) (Wd := 1) (by decide +kernel) (by decide +kernel) (by decide +kernel) rfl (by rw [hml]; rfl) rfl (by show 2 * 0 + _ ≤ _; exact Nat.le_of_eq rfl) (hb hby d11_38) (fun T6 W6 => ?_)
  show Go p e below _ (T6.setTop (mkF m 41 #[.val (.ref x1), .val (.ref x2), .val (.int x3), .val (.int (1 : Int32))] [(.int (1 : Int32)), (.int (1 : Int32))]))
  refine Go.of (t' := T6.setTop (mkF m 85 #[.val (.ref x1), .val (.ref x2), .val (.int x3), .val (.int (1 : Int32))] [])) (fun _ kk => XS.icmpYes W6.here hx rfl (pc0 := 41) (pc' := 85) rfl (hb hby d11_41) rfl (XT.ii_ge_t (by decide +kernel)) (by decide +kernel) (by decide +kernel) kk) ?_
  exact W6.retV hx hEL hs hlk (by decide +kernel) (by decide +kernel) hret (hb hby d11_85) ⟨rfl, rfl⟩
theorem d12_0 : decode prog_9_method_3_code 0 = .ok (.aload_n 1, 1) := by decide +kernel
theorem d12_1 : decode prog_9_method_3_code 1 = .ok (.invokevirtual 36, 3) := by decide +kernel
theorem d12_4 : decode prog_9_method_3_code 4 = .ok (.ifCond .ne 11, 3) := by decide +kernel
theorem d12_7 : decode prog_9_method_3_code 7 = .ok (.aload_n 1, 1) := by decide +kernel
theorem d12_8 : decode prog_9_method_3_code 8 = .ok (.invokevirtual 40, 3) := by decide +kernel
theorem d12_11 : decode prog_9_method_3_code 11 = .ok (.iload_n 2, 1) := by decide +kernel
theorem d12_12 : decode prog_9_method_3_code 12 = .ok (.if_icmp .le 22, 3) := by decide +kernel
theorem d12_34 : decode prog_9_method_3_code 34 = .ok (.iconst 0, 1) := by decide +kernel
theorem d12_35 : decode prog_9_method_3_code 35 = .ok (.istore_n 3, 1) := by decide +kernel
theorem d12_36 : decode prog_9_method_3_code 36 = .ok (.iload_n 3, 1) := by decide +kernel
theorem d12_37 : decode prog_9_method_3_code 37 = .ok (.aload_n 1, 1) := by decide +kernel
theorem d12_38 : decode prog_9_method_3_code 38 = .ok (.invokevirtual 40, 3) := by decide +kernel
theorem d12_41 : decode prog_9_method_3_code 41 = .ok (.if_icmp .ge 44, 3) := by decide +kernel
theorem d12_44 : decode prog_9_method_3_code 44 = .ok (.aload_n 1, 1) := by decide +kernel
theorem d12_45 : decode prog_9_method_3_code 45 = .ok (.iload_n 3, 1) := by decide +kernel
theorem d12_46 : decode prog_9_method_3_code 46 = .ok (.invokevirtual 47, 3) := by decide +kernel
theorem d12_49 : decode prog_9_method_3_code 49 = .ok (.invokestatic 51, 3) := by decide +kernel
theorem d12_52 : decode prog_9_method_3_code 52 = .ok (.ifCond .ne 27, 3) := by decide +kernel
theorem d12_79 : decode prog_9_method_3_code 79 = .ok (.iinc 3 1, 3) := by decide +kernel
theorem d12_82 : decode prog_9_method_3_code 82 = .ok (.goto (-46), 3) := by decide +kernel
theorem d12_85 : decode prog_9_method_3_code 85 = .ok (.return_, 1) := by decide +kernel
theorem ef12 (m : MethodId) (x0 : Addr) (x1 : Addr) (x2 : Int32)  : entryFrame m #[(.ref x0), (.ref x1), (.int x2)] 4 = mkF m 0 #[.val (.ref x0), .val (.ref x1), .val (.int x2), .unset] [] := by first | (simp [entryFrame, mkF, argsToLocals, Value.category]; done) | rfl | rfl
set_option maxRecDepth 65536 in
set_option maxHeartbeats 40000000 in
theorem rm12 (l : Launch) (Z : State) (a0 : Array Value) (hw : ∀ d ∈ tables_1, d.before a0 Z = true) (hEL : EW Z a0 EL0) (zc : Int32) (SC : Sta Z Z.heap "java/lang/String" "COMPACT_STRINGS" "Z" (.int zc)) (hzc : ¬ zc = 0) (fm : Value) (SF : Sta Z Z.heap "jdk/internal/util/Preconditions" "SIOOBE_FORMATTER" "Ljava/util/function/BiFunction;" fm) (rfm : fm.isRef = true) (x1 : Addr) (x2 : Addr) (x3 : Int32) (q1 : Int32) (q2 : Int32) (h0 : Heap) {n0 : Nat} (O0 : Old Z n0 h0) (S2 : Str Z h0 x2 [q1, q2]) (cq1 : ¬ q1 < 0 ∧ ¬ (255 : Int32) < q1) (cq2 : ¬ q2 < 0 ∧ ¬ (255 : Int32) < q2) (aq1 : Alw q1) (aq2 : Alw q2) (hmx : ¬ (x3 < (2 : Int32))) :
    Met l Z EL0 n0 (⟨"com/example/sem1/sem1/internal/LockNames", "requireCharacters", "(Ljava/lang/String;Ljava/lang/String;I)V"⟩ : MethodName) prog_9_method_3_code 4 none [] ({ frames := 4, cells := 0, slots := 0, locals := 53 } : Room) #[(.ref x1), (.ref x2), (.int x3)] h0 [] [] (fun v h' => v = none ∧ h0 = h') := by
  refine Met.of (plainFor_of_name pn1) O0 ?_
  intro p e s m below meth c T0 hx hby hml hret hlk hnm hs W0
  have W0 : Wk p l e _ s m _ below meth c Z EL0 n0 [] "com/example/sem1/sem1/internal/LockNames" [] T0 0 0 h0 := W0
  have hSA := fun d hd => hw d (sa_in d hd)
  have hws := fun d hd => hw d (ws_in d hd)
  have hln := fun d hd => hw d (ln_in d hd)
  have hch := fun d hd => hw d (ch_in d hd)
  have heq := fun d hd => hw d (eq_in d hd)
  have hem := fun d hd => hw d (em_in d hd)
  refine Go.of (fun _ kk => castTop (ef12 m x1 x2 x3) kk) ?_
  show Go p e below _ (T0.setTop (mkF m 0 #[.val (.ref x1), .val (.ref x2), .val (.int x3), .unset] []))
  refine Go.of (t' := T0.setTop (mkF m 1 #[.val (.ref x1), .val (.ref x2), .val (.int x3), .unset] [(.ref x2)])) (fun _ kk => XS.aloadN W0.here hx rfl (hb hby d12_0) rfl rfl kk) ?_
  refine W0.strEmp hx hem (hw _ (List.mem_of_getElem? (i := 6) rfl)) S2 (hw _ (List.mem_of_getElem? (i := 57) rfl)) (hw _ (List.mem_of_getElem? (i := 58) rfl)) (hw _ (List.mem_of_getElem? (i := 60) rfl)) (hw _ (List.mem_of_getElem? (i := 59) rfl)) (by decide +kernel) (Wd := 0) (by decide +kernel) (by decide +kernel) (by decide +kernel) rfl (by rw [hml]; rfl) rfl (by show 2 * 0 + _ ≤ _; exact Nat.le_of_eq rfl) (hb hby d12_1) (fun T1 W1 => ?_)
  show Go p e below _ (T1.setTop (mkF m 4 #[.val (.ref x1), .val (.ref x2), .val (.int x3), .unset] [(.int (0 : Int32))]))
  refine Go.of (t' := T1.setTop (mkF m 7 #[.val (.ref x1), .val (.ref x2), .val (.int x3), .unset] [])) (fun _ kk => XS.ifNo W1.here hx rfl (hb hby d12_4) rfl (XT.i0_ne_f (by decide +kernel)) kk) ?_
  refine Go.of (t' := T1.setTop (mkF m 8 #[.val (.ref x1), .val (.ref x2), .val (.int x3), .unset] [(.ref x2)])) (fun _ kk => XS.aloadN W1.here hx rfl (hb hby d12_7) rfl rfl kk) ?_
  refine W1.strLen hx hln (hw _ (List.mem_of_getElem? (i := 6) rfl)) SC hzc S2 (hw _ (List.mem_of_getElem? (i := 62) rfl)) (hw _ (List.mem_of_getElem? (i := 63) rfl)) (hw _ (List.mem_of_getElem? (i := 65) rfl)) (hw _ (List.mem_of_getElem? (i := 64) rfl)) (by decide +kernel) (Wd := 0) (by decide +kernel) (by decide +kernel) (by decide +kernel) rfl (by rw [hml]; rfl) rfl (by show 2 * 0 + _ ≤ _; exact Nat.le_of_eq rfl) (hb hby d12_8) (fun T2 W2 => ?_)
  show Go p e below _ (T2.setTop (mkF m 11 #[.val (.ref x1), .val (.ref x2), .val (.int x3), .unset] [(.int (2 : Int32))]))
  refine Go.of (t' := T2.setTop (mkF m 12 #[.val (.ref x1), .val (.ref x2), .val (.int x3), .unset] [(.int x3), (.int (2 : Int32))])) (fun _ kk => XS.iloadN W2.here hx rfl (hb hby d12_11) rfl kk) ?_
  refine Go.of (t' := T2.setTop (mkF m 34 #[.val (.ref x1), .val (.ref x2), .val (.int x3), .unset] [])) (fun _ kk => XS.icmpYes W2.here hx rfl (pc0 := 12) (pc' := 34) rfl (hb hby d12_12) rfl (XT.ii_le_t hmx) (by decide +kernel) (by decide +kernel) kk) ?_
  refine Go.of (t' := T2.setTop (mkF m 35 #[.val (.ref x1), .val (.ref x2), .val (.int x3), .unset] [(.int (0 : Int32))])) (fun _ kk => XS.iconst W2.here hx rfl (hb hby d12_34) kk) ?_
  refine Go.of (t' := T2.setTop (mkF m 36 #[.val (.ref x1), .val (.ref x2), .val (.int x3), .val (.int (0 : Int32))] [])) (fun _ kk => XS.istoreN W2.here hx rfl (hb hby d12_35) rfl (l' := #[.val (.ref x1), .val (.ref x2), .val (.int x3), .val (.int (0 : Int32))]) rfl kk) ?_
  refine Go.of (t' := T2.setTop (mkF m 37 #[.val (.ref x1), .val (.ref x2), .val (.int x3), .val (.int (0 : Int32))] [(.int (0 : Int32))])) (fun _ kk => XS.iloadN W2.here hx rfl (hb hby d12_36) rfl kk) ?_
  refine Go.of (t' := T2.setTop (mkF m 38 #[.val (.ref x1), .val (.ref x2), .val (.int x3), .val (.int (0 : Int32))] [(.ref x2), (.int (0 : Int32))])) (fun _ kk => XS.aloadN W2.here hx rfl (hb hby d12_37) rfl rfl kk) ?_
  refine W2.strLen hx hln (hw _ (List.mem_of_getElem? (i := 6) rfl)) SC hzc S2 (hw _ (List.mem_of_getElem? (i := 62) rfl)) (hw _ (List.mem_of_getElem? (i := 63) rfl)) (hw _ (List.mem_of_getElem? (i := 65) rfl)) (hw _ (List.mem_of_getElem? (i := 64) rfl)) (by decide +kernel) (Wd := 1) (by decide +kernel) (by decide +kernel) (by decide +kernel) rfl (by rw [hml]; rfl) rfl (by show 2 * 0 + _ ≤ _; exact Nat.le_of_eq rfl) (hb hby d12_38) (fun T3 W3 => ?_)
  show Go p e below _ (T3.setTop (mkF m 41 #[.val (.ref x1), .val (.ref x2), .val (.int x3), .val (.int (0 : Int32))] [(.int (2 : Int32)), (.int (0 : Int32))]))
  refine Go.of (t' := T3.setTop (mkF m 44 #[.val (.ref x1), .val (.ref x2), .val (.int x3), .val (.int (0 : Int32))] [])) (fun _ kk => XS.icmpNo W3.here hx rfl (hb hby d12_41) rfl (XT.ii_ge_f (by decide +kernel)) kk) ?_
  refine Go.of (t' := T3.setTop (mkF m 45 #[.val (.ref x1), .val (.ref x2), .val (.int x3), .val (.int (0 : Int32))] [(.ref x2)])) (fun _ kk => XS.aloadN W3.here hx rfl (hb hby d12_44) rfl rfl kk) ?_
  refine Go.of (t' := T3.setTop (mkF m 46 #[.val (.ref x1), .val (.ref x2), .val (.int x3), .val (.int (0 : Int32))] [(.int (0 : Int32)), (.ref x2)])) (fun _ kk => XS.iloadN W3.here hx rfl (hb hby d12_45) rfl kk) ?_
  refine W3.strChar hx hch (hw _ (List.mem_of_getElem? (i := 6) rfl)) SC hzc SF rfm S2 (snd255 (allSi cq1 (allSi cq2 all0i))) (i := 0) (Nat.le_of_ble_eq_true rfl) rfl (hw _ (List.mem_of_getElem? (i := 72) rfl)) (hw _ (List.mem_of_getElem? (i := 73) rfl)) (hw _ (List.mem_of_getElem? (i := 75) rfl)) (hw _ (List.mem_of_getElem? (i := 74) rfl)) (by decide +kernel) (Wd := 0) (by decide +kernel) (by decide +kernel) (by decide +kernel) rfl (by rw [hml]; rfl) rfl (by show 2 * 0 + _ ≤ _; exact Nat.le_of_eq rfl) (hb hby d12_46) (fun T4 W4 => ?_)
  show Go p e below _ (T4.setTop (mkF m 49 #[.val (.ref x1), .val (.ref x2), .val (.int x3), .val (.int (0 : Int32))] [(.int q1)]))
  refine W4.callS hx hEL (hw _ (List.mem_of_getElem? (i := 93) rfl)) (hw _ (List.mem_of_getElem? (i := 94) rfl)) (hw _ (List.mem_of_getElem? (i := 51) rfl)) (hw _ (List.mem_of_getElem? (i := 95) rfl)) (by decide +kernel) (argsL := [(.int q1)]) (rest := []) (rm2 l Z a0 hw hEL zc SC hzc fm SF rfm q1 h0 W4.old aq1) all0 (by decide +kernel) (Wd := 0) (by decide +kernel) (by decide +kernel) (by decide +kernel) all0 rfl (by rw [hml]; rfl) (lenOf pd0 rfl) rfl (by show 2 * 0 + _ ≤ _; exact Nat.le_of_eq rfl) (hb hby d12_49) (fun T5 h5 v5 W5 K5 q5 => ?_)
  obtain ⟨rfl, rfl⟩ := q5
  show Go p e below _ (T5.setTop (mkF m 52 #[.val (.ref x1), .val (.ref x2), .val (.int x3), .val (.int (0 : Int32))] [(.int (1 : Int32))]))
  refine Go.of (t' := T5.setTop (mkF m 79 #[.val (.ref x1), .val (.ref x2), .val (.int x3), .val (.int (0 : Int32))] [])) (fun _ kk => XS.ifYes W5.here hx rfl (pc0 := 52) (pc' := 79) rfl (hb hby d12_52) rfl (XT.i0_ne_t (by decide +kernel)) (by decide +kernel) (by decide +kernel) kk) ?_
  refine Go.of (t' := T5.setTop (mkF m 82 #[.val (.ref x1), .val (.ref x2), .val (.int x3), .val (.int (1 : Int32))] [])) (fun _ kk => XS.iinc W5.here hx rfl (hb hby d12_79) rfl (l' := #[.val (.ref x1), .val (.ref x2), .val (.int x3), .val (.int (1 : Int32))]) rfl kk) ?_
  refine Go.of (t' := T5.setTop (mkF m 36 #[.val (.ref x1), .val (.ref x2), .val (.int x3), .val (.int (1 : Int32))] [])) (fun _ kk => XS.goto W5.here hx rfl (pc0 := 82) (pc' := 36) rfl (hb hby d12_82) (by decide +kernel) (by decide +kernel) kk) ?_
  refine Go.of (t' := T5.setTop (mkF m 37 #[.val (.ref x1), .val (.ref x2), .val (.int x3), .val (.int (1 : Int32))] [(.int (1 : Int32))])) (fun _ kk => XS.iloadN W5.here hx rfl (hb hby d12_36) rfl kk) ?_
  refine Go.of (t' := T5.setTop (mkF m 38 #[.val (.ref x1), .val (.ref x2), .val (.int x3), .val (.int (1 : Int32))] [(.ref x2), (.int (1 : Int32))])) (fun _ kk => XS.aloadN W5.here hx rfl (hb hby d12_37) rfl rfl kk) ?_
  refine W5.strLen hx hln (hw _ (List.mem_of_getElem? (i := 6) rfl)) SC hzc S2 (hw _ (List.mem_of_getElem? (i := 62) rfl)) (hw _ (List.mem_of_getElem? (i := 63) rfl)) (hw _ (List.mem_of_getElem? (i := 65) rfl)) (hw _ (List.mem_of_getElem? (i := 64) rfl)) (by decide +kernel) (Wd := 1) (by decide +kernel) (by decide +kernel) (by decide +kernel) rfl (by rw [hml]; rfl) rfl (by show 2 * 0 + _ ≤ _; exact Nat.le_of_eq rfl) (hb hby d12_38) (fun T6 W6 => ?_)
  show Go p e below _ (T6.setTop (mkF m 41 #[.val (.ref x1), .val (.ref x2), .val (.int x3), .val (.int (1 : Int32))] [(.int (2 : Int32)), (.int (1 : Int32))]))
  refine Go.of (t' := T6.setTop (mkF m 44 #[.val (.ref x1), .val (.ref x2), .val (.int x3), .val (.int (1 : Int32))] [])) (fun _ kk => XS.icmpNo W6.here hx rfl (hb hby d12_41) rfl (XT.ii_ge_f (by decide +kernel)) kk) ?_
  refine Go.of (t' := T6.setTop (mkF m 45 #[.val (.ref x1), .val (.ref x2), .val (.int x3), .val (.int (1 : Int32))] [(.ref x2)])) (fun _ kk => XS.aloadN W6.here hx rfl (hb hby d12_44) rfl rfl kk) ?_
  refine Go.of (t' := T6.setTop (mkF m 46 #[.val (.ref x1), .val (.ref x2), .val (.int x3), .val (.int (1 : Int32))] [(.int (1 : Int32)), (.ref x2)])) (fun _ kk => XS.iloadN W6.here hx rfl (hb hby d12_45) rfl kk) ?_
  refine W6.strChar hx hch (hw _ (List.mem_of_getElem? (i := 6) rfl)) SC hzc SF rfm S2 (snd255 (allSi cq1 (allSi cq2 all0i))) (i := 1) (Nat.le_of_ble_eq_true rfl) rfl (hw _ (List.mem_of_getElem? (i := 72) rfl)) (hw _ (List.mem_of_getElem? (i := 73) rfl)) (hw _ (List.mem_of_getElem? (i := 75) rfl)) (hw _ (List.mem_of_getElem? (i := 74) rfl)) (by decide +kernel) (Wd := 0) (by decide +kernel) (by decide +kernel) (by decide +kernel) rfl (by rw [hml]; rfl) rfl (by show 2 * 0 + _ ≤ _; exact Nat.le_of_eq rfl) (hb hby d12_46) (fun T7 W7 => ?_)
  show Go p e below _ (T7.setTop (mkF m 49 #[.val (.ref x1), .val (.ref x2), .val (.int x3), .val (.int (1 : Int32))] [(.int q2)]))
  refine W7.callS hx hEL (hw _ (List.mem_of_getElem? (i := 93) rfl)) (hw _ (List.mem_of_getElem? (i := 94) rfl)) (hw _ (List.mem_of_getElem? (i := 51) rfl)) (hw _ (List.mem_of_getElem? (i := 95) rfl)) (by decide +kernel) (argsL := [(.int q2)]) (rest := []) (rm2 l Z a0 hw hEL zc SC hzc fm SF rfm q2 h0 W7.old aq2) all0 (by decide +kernel) (Wd := 0) (by decide +kernel) (by decide +kernel) (by decide +kernel) all0 rfl (by rw [hml]; rfl) (lenOf pd0 rfl) rfl (by show 2 * 0 + _ ≤ _; exact Nat.le_of_eq rfl) (hb hby d12_49) (fun T8 h8 v8 W8 K8 q8 => ?_)
  obtain ⟨rfl, rfl⟩ := q8
  show Go p e below _ (T8.setTop (mkF m 52 #[.val (.ref x1), .val (.ref x2), .val (.int x3), .val (.int (1 : Int32))] [(.int (1 : Int32))]))
  refine Go.of (t' := T8.setTop (mkF m 79 #[.val (.ref x1), .val (.ref x2), .val (.int x3), .val (.int (1 : Int32))] [])) (fun _ kk => XS.ifYes W8.here hx rfl (pc0 := 52) (pc' := 79) rfl (hb hby d12_52) rfl (XT.i0_ne_t (by decide +kernel)) (by decide +kernel) (by decide +kernel) kk) ?_
  refine Go.of (t' := T8.setTop (mkF m 82 #[.val (.ref x1), .val (.ref x2), .val (.int x3), .val (.int (2 : Int32))] [])) (fun _ kk => XS.iinc W8.here hx rfl (hb hby d12_79) rfl (l' := #[.val (.ref x1), .val (.ref x2), .val (.int x3), .val (.int (2 : Int32))]) rfl kk) ?_
  refine Go.of (t' := T8.setTop (mkF m 36 #[.val (.ref x1), .val (.ref x2), .val (.int x3), .val (.int (2 : Int32))] [])) (fun _ kk => XS.goto W8.here hx rfl (pc0 := 82) (pc' := 36) rfl (hb hby d12_82) (by decide +kernel) (by decide +kernel) kk) ?_
  refine Go.of (t' := T8.setTop (mkF m 37 #[.val (.ref x1), .val (.ref x2), .val (.int x3), .val (.int (2 : Int32))] [(.int (2 : Int32))])) (fun _ kk => XS.iloadN W8.here hx rfl (hb hby d12_36) rfl kk) ?_
  refine Go.of (t' := T8.setTop (mkF m 38 #[.val (.ref x1), .val (.ref x2), .val (.int x3), .val (.int (2 : Int32))] [(.ref x2), (.int (2 : Int32))])) (fun _ kk => XS.aloadN W8.here hx rfl (hb hby d12_37) rfl rfl kk) ?_
  refine W8.strLen hx hln (hw _ (List.mem_of_getElem? (i := 6) rfl)) SC hzc S2 (hw _ (List.mem_of_getElem? (i := 62) rfl)) (hw _ (List.mem_of_getElem? (i := 63) rfl)) (hw _ (List.mem_of_getElem? (i := 65) rfl)) (hw _ (List.mem_of_getElem? (i := 64) rfl)) (by decide +kernel) (Wd := 1) (by decide +kernel) (by decide +kernel) (by decide +kernel) rfl (by rw [hml]; rfl) rfl (by show 2 * 0 + _ ≤ _; exact Nat.le_of_eq rfl) (hb hby d12_38) (fun T9 W9 => ?_)
  show Go p e below _ (T9.setTop (mkF m 41 #[.val (.ref x1), .val (.ref x2), .val (.int x3), .val (.int (2 : Int32))] [(.int (2 : Int32)), (.int (2 : Int32))]))
  refine Go.of (t' := T9.setTop (mkF m 85 #[.val (.ref x1), .val (.ref x2), .val (.int x3), .val (.int (2 : Int32))] [])) (fun _ kk => XS.icmpYes W9.here hx rfl (pc0 := 41) (pc' := 85) rfl (hb hby d12_41) rfl (XT.ii_ge_t (by decide +kernel)) (by decide +kernel) (by decide +kernel) kk) ?_
  exact W9.retV hx hEL hs hlk (by decide +kernel) (by decide +kernel) hret (hb hby d12_85) ⟨rfl, rfl⟩
theorem d13_0 : decode prog_9_method_3_code 0 = .ok (.aload_n 1, 1) := by decide +kernel
theorem d13_1 : decode prog_9_method_3_code 1 = .ok (.invokevirtual 36, 3) := by decide +kernel
theorem d13_4 : decode prog_9_method_3_code 4 = .ok (.ifCond .ne 11, 3) := by decide +kernel
theorem d13_7 : decode prog_9_method_3_code 7 = .ok (.aload_n 1, 1) := by decide +kernel
theorem d13_8 : decode prog_9_method_3_code 8 = .ok (.invokevirtual 40, 3) := by decide +kernel
theorem d13_11 : decode prog_9_method_3_code 11 = .ok (.iload_n 2, 1) := by decide +kernel
theorem d13_12 : decode prog_9_method_3_code 12 = .ok (.if_icmp .le 22, 3) := by decide +kernel
theorem d13_34 : decode prog_9_method_3_code 34 = .ok (.iconst 0, 1) := by decide +kernel
theorem d13_35 : decode prog_9_method_3_code 35 = .ok (.istore_n 3, 1) := by decide +kernel
theorem d13_36 : decode prog_9_method_3_code 36 = .ok (.iload_n 3, 1) := by decide +kernel
theorem d13_37 : decode prog_9_method_3_code 37 = .ok (.aload_n 1, 1) := by decide +kernel
theorem d13_38 : decode prog_9_method_3_code 38 = .ok (.invokevirtual 40, 3) := by decide +kernel
theorem d13_41 : decode prog_9_method_3_code 41 = .ok (.if_icmp .ge 44, 3) := by decide +kernel
theorem d13_44 : decode prog_9_method_3_code 44 = .ok (.aload_n 1, 1) := by decide +kernel
theorem d13_45 : decode prog_9_method_3_code 45 = .ok (.iload_n 3, 1) := by decide +kernel
theorem d13_46 : decode prog_9_method_3_code 46 = .ok (.invokevirtual 47, 3) := by decide +kernel
theorem d13_49 : decode prog_9_method_3_code 49 = .ok (.invokestatic 51, 3) := by decide +kernel
theorem d13_52 : decode prog_9_method_3_code 52 = .ok (.ifCond .ne 27, 3) := by decide +kernel
theorem d13_79 : decode prog_9_method_3_code 79 = .ok (.iinc 3 1, 3) := by decide +kernel
theorem d13_82 : decode prog_9_method_3_code 82 = .ok (.goto (-46), 3) := by decide +kernel
theorem d13_85 : decode prog_9_method_3_code 85 = .ok (.return_, 1) := by decide +kernel
theorem ef13 (m : MethodId) (x0 : Addr) (x1 : Addr) (x2 : Int32)  : entryFrame m #[(.ref x0), (.ref x1), (.int x2)] 4 = mkF m 0 #[.val (.ref x0), .val (.ref x1), .val (.int x2), .unset] [] := by first | (simp [entryFrame, mkF, argsToLocals, Value.category]; done) | rfl | rfl
set_option maxRecDepth 65536 in
set_option maxHeartbeats 40000000 in
theorem rm13 (l : Launch) (Z : State) (a0 : Array Value) (hw : ∀ d ∈ tables_1, d.before a0 Z = true) (hEL : EW Z a0 EL0) (zc : Int32) (SC : Sta Z Z.heap "java/lang/String" "COMPACT_STRINGS" "Z" (.int zc)) (hzc : ¬ zc = 0) (fm : Value) (SF : Sta Z Z.heap "jdk/internal/util/Preconditions" "SIOOBE_FORMATTER" "Ljava/util/function/BiFunction;" fm) (rfm : fm.isRef = true) (x1 : Addr) (x2 : Addr) (x3 : Int32) (q1 : Int32) (q2 : Int32) (q3 : Int32) (h0 : Heap) {n0 : Nat} (O0 : Old Z n0 h0) (S2 : Str Z h0 x2 [q1, q2, q3]) (cq1 : ¬ q1 < 0 ∧ ¬ (255 : Int32) < q1) (cq2 : ¬ q2 < 0 ∧ ¬ (255 : Int32) < q2) (cq3 : ¬ q3 < 0 ∧ ¬ (255 : Int32) < q3) (aq1 : Alw q1) (aq2 : Alw q2) (aq3 : Alw q3) (hmx : ¬ (x3 < (3 : Int32))) :
    Met l Z EL0 n0 (⟨"com/example/sem1/sem1/internal/LockNames", "requireCharacters", "(Ljava/lang/String;Ljava/lang/String;I)V"⟩ : MethodName) prog_9_method_3_code 4 none [] ({ frames := 4, cells := 0, slots := 0, locals := 53 } : Room) #[(.ref x1), (.ref x2), (.int x3)] h0 [] [] (fun v h' => v = none ∧ h0 = h') := by
  refine Met.of (plainFor_of_name pn1) O0 ?_
  intro p e s m below meth c T0 hx hby hml hret hlk hnm hs W0
  have W0 : Wk p l e _ s m _ below meth c Z EL0 n0 [] "com/example/sem1/sem1/internal/LockNames" [] T0 0 0 h0 := W0
  have hSA := fun d hd => hw d (sa_in d hd)
  have hws := fun d hd => hw d (ws_in d hd)
  have hln := fun d hd => hw d (ln_in d hd)
  have hch := fun d hd => hw d (ch_in d hd)
  have heq := fun d hd => hw d (eq_in d hd)
  have hem := fun d hd => hw d (em_in d hd)
  refine Go.of (fun _ kk => castTop (ef13 m x1 x2 x3) kk) ?_
  show Go p e below _ (T0.setTop (mkF m 0 #[.val (.ref x1), .val (.ref x2), .val (.int x3), .unset] []))
  refine Go.of (t' := T0.setTop (mkF m 1 #[.val (.ref x1), .val (.ref x2), .val (.int x3), .unset] [(.ref x2)])) (fun _ kk => XS.aloadN W0.here hx rfl (hb hby d13_0) rfl rfl kk) ?_
  refine W0.strEmp hx hem (hw _ (List.mem_of_getElem? (i := 6) rfl)) S2 (hw _ (List.mem_of_getElem? (i := 57) rfl)) (hw _ (List.mem_of_getElem? (i := 58) rfl)) (hw _ (List.mem_of_getElem? (i := 60) rfl)) (hw _ (List.mem_of_getElem? (i := 59) rfl)) (by decide +kernel) (Wd := 0) (by decide +kernel) (by decide +kernel) (by decide +kernel) rfl (by rw [hml]; rfl) rfl (by show 2 * 0 + _ ≤ _; exact Nat.le_of_eq rfl) (hb hby d13_1) (fun T1 W1 => ?_)
  show Go p e below _ (T1.setTop (mkF m 4 #[.val (.ref x1), .val (.ref x2), .val (.int x3), .unset] [(.int (0 : Int32))]))
  refine Go.of (t' := T1.setTop (mkF m 7 #[.val (.ref x1), .val (.ref x2), .val (.int x3), .unset] [])) (fun _ kk => XS.ifNo W1.here hx rfl (hb hby d13_4) rfl (XT.i0_ne_f (by decide +kernel)) kk) ?_
  refine Go.of (t' := T1.setTop (mkF m 8 #[.val (.ref x1), .val (.ref x2), .val (.int x3), .unset] [(.ref x2)])) (fun _ kk => XS.aloadN W1.here hx rfl (hb hby d13_7) rfl rfl kk) ?_
  refine W1.strLen hx hln (hw _ (List.mem_of_getElem? (i := 6) rfl)) SC hzc S2 (hw _ (List.mem_of_getElem? (i := 62) rfl)) (hw _ (List.mem_of_getElem? (i := 63) rfl)) (hw _ (List.mem_of_getElem? (i := 65) rfl)) (hw _ (List.mem_of_getElem? (i := 64) rfl)) (by decide +kernel) (Wd := 0) (by decide +kernel) (by decide +kernel) (by decide +kernel) rfl (by rw [hml]; rfl) rfl (by show 2 * 0 + _ ≤ _; exact Nat.le_of_eq rfl) (hb hby d13_8) (fun T2 W2 => ?_)
  show Go p e below _ (T2.setTop (mkF m 11 #[.val (.ref x1), .val (.ref x2), .val (.int x3), .unset] [(.int (3 : Int32))]))
  refine Go.of (t' := T2.setTop (mkF m 12 #[.val (.ref x1), .val (.ref x2), .val (.int x3), .unset] [(.int x3), (.int (3 : Int32))])) (fun _ kk => XS.iloadN W2.here hx rfl (hb hby d13_11) rfl kk) ?_
  refine Go.of (t' := T2.setTop (mkF m 34 #[.val (.ref x1), .val (.ref x2), .val (.int x3), .unset] [])) (fun _ kk => XS.icmpYes W2.here hx rfl (pc0 := 12) (pc' := 34) rfl (hb hby d13_12) rfl (XT.ii_le_t hmx) (by decide +kernel) (by decide +kernel) kk) ?_
  refine Go.of (t' := T2.setTop (mkF m 35 #[.val (.ref x1), .val (.ref x2), .val (.int x3), .unset] [(.int (0 : Int32))])) (fun _ kk => XS.iconst W2.here hx rfl (hb hby d13_34) kk) ?_
  refine Go.of (t' := T2.setTop (mkF m 36 #[.val (.ref x1), .val (.ref x2), .val (.int x3), .val (.int (0 : Int32))] [])) (fun _ kk => XS.istoreN W2.here hx rfl (hb hby d13_35) rfl (l' := #[.val (.ref x1), .val (.ref x2), .val (.int x3), .val (.int (0 : Int32))]) rfl kk) ?_
  refine Go.of (t' := T2.setTop (mkF m 37 #[.val (.ref x1), .val (.ref x2), .val (.int x3), .val (.int (0 : Int32))] [(.int (0 : Int32))])) (fun _ kk => XS.iloadN W2.here hx rfl (hb hby d13_36) rfl kk) ?_
  refine Go.of (t' := T2.setTop (mkF m 38 #[.val (.ref x1), .val (.ref x2), .val (.int x3), .val (.int (0 : Int32))] [(.ref x2), (.int (0 : Int32))])) (fun _ kk => XS.aloadN W2.here hx rfl (hb hby d13_37) rfl rfl kk) ?_
  refine W2.strLen hx hln (hw _ (List.mem_of_getElem? (i := 6) rfl)) SC hzc S2 (hw _ (List.mem_of_getElem? (i := 62) rfl)) (hw _ (List.mem_of_getElem? (i := 63) rfl)) (hw _ (List.mem_of_getElem? (i := 65) rfl)) (hw _ (List.mem_of_getElem? (i := 64) rfl)) (by decide +kernel) (Wd := 1) (by decide +kernel) (by decide +kernel) (by decide +kernel) rfl (by rw [hml]; rfl) rfl (by show 2 * 0 + _ ≤ _; exact Nat.le_of_eq rfl) (hb hby d13_38) (fun T3 W3 => ?_)
  show Go p e below _ (T3.setTop (mkF m 41 #[.val (.ref x1), .val (.ref x2), .val (.int x3), .val (.int (0 : Int32))] [(.int (3 : Int32)), (.int (0 : Int32))]))
  refine Go.of (t' := T3.setTop (mkF m 44 #[.val (.ref x1), .val (.ref x2), .val (.int x3), .val (.int (0 : Int32))] [])) (fun _ kk => XS.icmpNo W3.here hx rfl (hb hby d13_41) rfl (XT.ii_ge_f (by decide +kernel)) kk) ?_
  refine Go.of (t' := T3.setTop (mkF m 45 #[.val (.ref x1), .val (.ref x2), .val (.int x3), .val (.int (0 : Int32))] [(.ref x2)])) (fun _ kk => XS.aloadN W3.here hx rfl (hb hby d13_44) rfl rfl kk) ?_
  refine Go.of (t' := T3.setTop (mkF m 46 #[.val (.ref x1), .val (.ref x2), .val (.int x3), .val (.int (0 : Int32))] [(.int (0 : Int32)), (.ref x2)])) (fun _ kk => XS.iloadN W3.here hx rfl (hb hby d13_45) rfl kk) ?_
  refine W3.strChar hx hch (hw _ (List.mem_of_getElem? (i := 6) rfl)) SC hzc SF rfm S2 (snd255 (allSi cq1 (allSi cq2 (allSi cq3 all0i)))) (i := 0) (Nat.le_of_ble_eq_true rfl) rfl (hw _ (List.mem_of_getElem? (i := 72) rfl)) (hw _ (List.mem_of_getElem? (i := 73) rfl)) (hw _ (List.mem_of_getElem? (i := 75) rfl)) (hw _ (List.mem_of_getElem? (i := 74) rfl)) (by decide +kernel) (Wd := 0) (by decide +kernel) (by decide +kernel) (by decide +kernel) rfl (by rw [hml]; rfl) rfl (by show 2 * 0 + _ ≤ _; exact Nat.le_of_eq rfl) (hb hby d13_46) (fun T4 W4 => ?_)
  show Go p e below _ (T4.setTop (mkF m 49 #[.val (.ref x1), .val (.ref x2), .val (.int x3), .val (.int (0 : Int32))] [(.int q1)]))
  refine W4.callS hx hEL (hw _ (List.mem_of_getElem? (i := 93) rfl)) (hw _ (List.mem_of_getElem? (i := 94) rfl)) (hw _ (List.mem_of_getElem? (i := 51) rfl)) (hw _ (List.mem_of_getElem? (i := 95) rfl)) (by decide +kernel) (argsL := [(.int q1)]) (rest := []) (rm2 l Z a0 hw hEL zc SC hzc fm SF rfm q1 h0 W4.old aq1) all0 (by decide +kernel) (Wd := 0) (by decide +kernel) (by decide +kernel) (by decide +kernel) all0 rfl (by rw [hml]; rfl) (lenOf pd0 rfl) rfl (by show 2 * 0 + _ ≤ _; exact Nat.le_of_eq rfl) (hb hby d13_49) (fun T5 h5 v5 W5 K5 q5 => ?_)
  obtain ⟨rfl, rfl⟩ := q5
  show Go p e below _ (T5.setTop (mkF m 52 #[.val (.ref x1), .val (.ref x2), .val (.int x3), .val (.int (0 : Int32))] [(.int (1 : Int32))]))
  refine Go.of (t' := T5.setTop (mkF m 79 #[.val (.ref x1), .val (.ref x2), .val (.int x3), .val (.int (0 : Int32))] [])) (fun _ kk => XS.ifYes W5.here hx rfl (pc0 := 52) (pc' := 79) rfl (hb hby d13_52) rfl (XT.i0_ne_t (by decide +kernel)) (by decide +kernel) (by decide +kernel) kk) ?_
  refine Go.of (t' := T5.setTop (mkF m 82 #[.val (.ref x1), .val (.ref x2), .val (.int x3), .val (.int (1 : Int32))] [])) (fun _ kk => XS.iinc W5.here hx rfl (hb hby d13_79) rfl (l' := #[.val (.ref x1), .val (.ref x2), .val (.int x3), .val (.int (1 : Int32))]) rfl kk) ?_
  refine Go.of (t' := T5.setTop (mkF m 36 #[.val (.ref x1), .val (.ref x2), .val (.int x3), .val (.int (1 : Int32))] [])) (fun _ kk => XS.goto W5.here hx rfl (pc0 := 82) (pc' := 36) rfl (hb hby d13_82) (by decide +kernel) (by decide +kernel) kk) ?_
  refine Go.of (t' := T5.setTop (mkF m 37 #[.val (.ref x1), .val (.ref x2), .val (.int x3), .val (.int (1 : Int32))] [(.int (1 : Int32))])) (fun _ kk => XS.iloadN W5.here hx rfl (hb hby d13_36) rfl kk) ?_
  refine Go.of (t' := T5.setTop (mkF m 38 #[.val (.ref x1), .val (.ref x2), .val (.int x3), .val (.int (1 : Int32))] [(.ref x2), (.int (1 : Int32))])) (fun _ kk => XS.aloadN W5.here hx rfl (hb hby d13_37) rfl rfl kk) ?_
  refine W5.strLen hx hln (hw _ (List.mem_of_getElem? (i := 6) rfl)) SC hzc S2 (hw _ (List.mem_of_getElem? (i := 62) rfl)) (hw _ (List.mem_of_getElem? (i := 63) rfl)) (hw _ (List.mem_of_getElem? (i := 65) rfl)) (hw _ (List.mem_of_getElem? (i := 64) rfl)) (by decide +kernel) (Wd := 1) (by decide +kernel) (by decide +kernel) (by decide +kernel) rfl (by rw [hml]; rfl) rfl (by show 2 * 0 + _ ≤ _; exact Nat.le_of_eq rfl) (hb hby d13_38) (fun T6 W6 => ?_)
  show Go p e below _ (T6.setTop (mkF m 41 #[.val (.ref x1), .val (.ref x2), .val (.int x3), .val (.int (1 : Int32))] [(.int (3 : Int32)), (.int (1 : Int32))]))
  refine Go.of (t' := T6.setTop (mkF m 44 #[.val (.ref x1), .val (.ref x2), .val (.int x3), .val (.int (1 : Int32))] [])) (fun _ kk => XS.icmpNo W6.here hx rfl (hb hby d13_41) rfl (XT.ii_ge_f (by decide +kernel)) kk) ?_
  refine Go.of (t' := T6.setTop (mkF m 45 #[.val (.ref x1), .val (.ref x2), .val (.int x3), .val (.int (1 : Int32))] [(.ref x2)])) (fun _ kk => XS.aloadN W6.here hx rfl (hb hby d13_44) rfl rfl kk) ?_
  refine Go.of (t' := T6.setTop (mkF m 46 #[.val (.ref x1), .val (.ref x2), .val (.int x3), .val (.int (1 : Int32))] [(.int (1 : Int32)), (.ref x2)])) (fun _ kk => XS.iloadN W6.here hx rfl (hb hby d13_45) rfl kk) ?_
  refine W6.strChar hx hch (hw _ (List.mem_of_getElem? (i := 6) rfl)) SC hzc SF rfm S2 (snd255 (allSi cq1 (allSi cq2 (allSi cq3 all0i)))) (i := 1) (Nat.le_of_ble_eq_true rfl) rfl (hw _ (List.mem_of_getElem? (i := 72) rfl)) (hw _ (List.mem_of_getElem? (i := 73) rfl)) (hw _ (List.mem_of_getElem? (i := 75) rfl)) (hw _ (List.mem_of_getElem? (i := 74) rfl)) (by decide +kernel) (Wd := 0) (by decide +kernel) (by decide +kernel) (by decide +kernel) rfl (by rw [hml]; rfl) rfl (by show 2 * 0 + _ ≤ _; exact Nat.le_of_eq rfl) (hb hby d13_46) (fun T7 W7 => ?_)
  show Go p e below _ (T7.setTop (mkF m 49 #[.val (.ref x1), .val (.ref x2), .val (.int x3), .val (.int (1 : Int32))] [(.int q2)]))
  refine W7.callS hx hEL (hw _ (List.mem_of_getElem? (i := 93) rfl)) (hw _ (List.mem_of_getElem? (i := 94) rfl)) (hw _ (List.mem_of_getElem? (i := 51) rfl)) (hw _ (List.mem_of_getElem? (i := 95) rfl)) (by decide +kernel) (argsL := [(.int q2)]) (rest := []) (rm2 l Z a0 hw hEL zc SC hzc fm SF rfm q2 h0 W7.old aq2) all0 (by decide +kernel) (Wd := 0) (by decide +kernel) (by decide +kernel) (by decide +kernel) all0 rfl (by rw [hml]; rfl) (lenOf pd0 rfl) rfl (by show 2 * 0 + _ ≤ _; exact Nat.le_of_eq rfl) (hb hby d13_49) (fun T8 h8 v8 W8 K8 q8 => ?_)
  obtain ⟨rfl, rfl⟩ := q8
  show Go p e below _ (T8.setTop (mkF m 52 #[.val (.ref x1), .val (.ref x2), .val (.int x3), .val (.int (1 : Int32))] [(.int (1 : Int32))]))
  refine Go.of (t' := T8.setTop (mkF m 79 #[.val (.ref x1), .val (.ref x2), .val (.int x3), .val (.int (1 : Int32))] [])) (fun _ kk => XS.ifYes W8.here hx rfl (pc0 := 52) (pc' := 79) rfl (hb hby d13_52) rfl (XT.i0_ne_t (by decide +kernel)) (by decide +kernel) (by decide +kernel) kk) ?_
  refine Go.of (t' := T8.setTop (mkF m 82 #[.val (.ref x1), .val (.ref x2), .val (.int x3), .val (.int (2 : Int32))] [])) (fun _ kk => XS.iinc W8.here hx rfl (hb hby d13_79) rfl (l' := #[.val (.ref x1), .val (.ref x2), .val (.int x3), .val (.int (2 : Int32))]) rfl kk) ?_
  refine Go.of (t' := T8.setTop (mkF m 36 #[.val (.ref x1), .val (.ref x2), .val (.int x3), .val (.int (2 : Int32))] [])) (fun _ kk => XS.goto W8.here hx rfl (pc0 := 82) (pc' := 36) rfl (hb hby d13_82) (by decide +kernel) (by decide +kernel) kk) ?_
  refine Go.of (t' := T8.setTop (mkF m 37 #[.val (.ref x1), .val (.ref x2), .val (.int x3), .val (.int (2 : Int32))] [(.int (2 : Int32))])) (fun _ kk => XS.iloadN W8.here hx rfl (hb hby d13_36) rfl kk) ?_
  refine Go.of (t' := T8.setTop (mkF m 38 #[.val (.ref x1), .val (.ref x2), .val (.int x3), .val (.int (2 : Int32))] [(.ref x2), (.int (2 : Int32))])) (fun _ kk => XS.aloadN W8.here hx rfl (hb hby d13_37) rfl rfl kk) ?_
  refine W8.strLen hx hln (hw _ (List.mem_of_getElem? (i := 6) rfl)) SC hzc S2 (hw _ (List.mem_of_getElem? (i := 62) rfl)) (hw _ (List.mem_of_getElem? (i := 63) rfl)) (hw _ (List.mem_of_getElem? (i := 65) rfl)) (hw _ (List.mem_of_getElem? (i := 64) rfl)) (by decide +kernel) (Wd := 1) (by decide +kernel) (by decide +kernel) (by decide +kernel) rfl (by rw [hml]; rfl) rfl (by show 2 * 0 + _ ≤ _; exact Nat.le_of_eq rfl) (hb hby d13_38) (fun T9 W9 => ?_)
  show Go p e below _ (T9.setTop (mkF m 41 #[.val (.ref x1), .val (.ref x2), .val (.int x3), .val (.int (2 : Int32))] [(.int (3 : Int32)), (.int (2 : Int32))]))
  refine Go.of (t' := T9.setTop (mkF m 44 #[.val (.ref x1), .val (.ref x2), .val (.int x3), .val (.int (2 : Int32))] [])) (fun _ kk => XS.icmpNo W9.here hx rfl (hb hby d13_41) rfl (XT.ii_ge_f (by decide +kernel)) kk) ?_
  refine Go.of (t' := T9.setTop (mkF m 45 #[.val (.ref x1), .val (.ref x2), .val (.int x3), .val (.int (2 : Int32))] [(.ref x2)])) (fun _ kk => XS.aloadN W9.here hx rfl (hb hby d13_44) rfl rfl kk) ?_
  refine Go.of (t' := T9.setTop (mkF m 46 #[.val (.ref x1), .val (.ref x2), .val (.int x3), .val (.int (2 : Int32))] [(.int (2 : Int32)), (.ref x2)])) (fun _ kk => XS.iloadN W9.here hx rfl (hb hby d13_45) rfl kk) ?_
  refine W9.strChar hx hch (hw _ (List.mem_of_getElem? (i := 6) rfl)) SC hzc SF rfm S2 (snd255 (allSi cq1 (allSi cq2 (allSi cq3 all0i)))) (i := 2) (Nat.le_of_ble_eq_true rfl) rfl (hw _ (List.mem_of_getElem? (i := 72) rfl)) (hw _ (List.mem_of_getElem? (i := 73) rfl)) (hw _ (List.mem_of_getElem? (i := 75) rfl)) (hw _ (List.mem_of_getElem? (i := 74) rfl)) (by decide +kernel) (Wd := 0) (by decide +kernel) (by decide +kernel) (by decide +kernel) rfl (by rw [hml]; rfl) rfl (by show 2 * 0 + _ ≤ _; exact Nat.le_of_eq rfl) (hb hby d13_46) (fun T10 W10 => ?_)
  show Go p e below _ (T10.setTop (mkF m 49 #[.val (.ref x1), .val (.ref x2), .val (.int x3), .val (.int (2 : Int32))] [(.int q3)]))
  refine W10.callS hx hEL (hw _ (List.mem_of_getElem? (i := 93) rfl)) (hw _ (List.mem_of_getElem? (i := 94) rfl)) (hw _ (List.mem_of_getElem? (i := 51) rfl)) (hw _ (List.mem_of_getElem? (i := 95) rfl)) (by decide +kernel) (argsL := [(.int q3)]) (rest := []) (rm2 l Z a0 hw hEL zc SC hzc fm SF rfm q3 h0 W10.old aq3) all0 (by decide +kernel) (Wd := 0) (by decide +kernel) (by decide +kernel) (by decide +kernel) all0 rfl (by rw [hml]; rfl) (lenOf pd0 rfl) rfl (by show 2 * 0 + _ ≤ _; exact Nat.le_of_eq rfl) (hb hby d13_49) (fun T11 h11 v11 W11 K11 q11 => ?_)
  obtain ⟨rfl, rfl⟩ := q11
  show Go p e below _ (T11.setTop (mkF m 52 #[.val (.ref x1), .val (.ref x2), .val (.int x3), .val (.int (2 : Int32))] [(.int (1 : Int32))]))
  refine Go.of (t' := T11.setTop (mkF m 79 #[.val (.ref x1), .val (.ref x2), .val (.int x3), .val (.int (2 : Int32))] [])) (fun _ kk => XS.ifYes W11.here hx rfl (pc0 := 52) (pc' := 79) rfl (hb hby d13_52) rfl (XT.i0_ne_t (by decide +kernel)) (by decide +kernel) (by decide +kernel) kk) ?_
  refine Go.of (t' := T11.setTop (mkF m 82 #[.val (.ref x1), .val (.ref x2), .val (.int x3), .val (.int (3 : Int32))] [])) (fun _ kk => XS.iinc W11.here hx rfl (hb hby d13_79) rfl (l' := #[.val (.ref x1), .val (.ref x2), .val (.int x3), .val (.int (3 : Int32))]) rfl kk) ?_
  refine Go.of (t' := T11.setTop (mkF m 36 #[.val (.ref x1), .val (.ref x2), .val (.int x3), .val (.int (3 : Int32))] [])) (fun _ kk => XS.goto W11.here hx rfl (pc0 := 82) (pc' := 36) rfl (hb hby d13_82) (by decide +kernel) (by decide +kernel) kk) ?_
  refine Go.of (t' := T11.setTop (mkF m 37 #[.val (.ref x1), .val (.ref x2), .val (.int x3), .val (.int (3 : Int32))] [(.int (3 : Int32))])) (fun _ kk => XS.iloadN W11.here hx rfl (hb hby d13_36) rfl kk) ?_
  refine Go.of (t' := T11.setTop (mkF m 38 #[.val (.ref x1), .val (.ref x2), .val (.int x3), .val (.int (3 : Int32))] [(.ref x2), (.int (3 : Int32))])) (fun _ kk => XS.aloadN W11.here hx rfl (hb hby d13_37) rfl rfl kk) ?_
  refine W11.strLen hx hln (hw _ (List.mem_of_getElem? (i := 6) rfl)) SC hzc S2 (hw _ (List.mem_of_getElem? (i := 62) rfl)) (hw _ (List.mem_of_getElem? (i := 63) rfl)) (hw _ (List.mem_of_getElem? (i := 65) rfl)) (hw _ (List.mem_of_getElem? (i := 64) rfl)) (by decide +kernel) (Wd := 1) (by decide +kernel) (by decide +kernel) (by decide +kernel) rfl (by rw [hml]; rfl) rfl (by show 2 * 0 + _ ≤ _; exact Nat.le_of_eq rfl) (hb hby d13_38) (fun T12 W12 => ?_)
  show Go p e below _ (T12.setTop (mkF m 41 #[.val (.ref x1), .val (.ref x2), .val (.int x3), .val (.int (3 : Int32))] [(.int (3 : Int32)), (.int (3 : Int32))]))
  refine Go.of (t' := T12.setTop (mkF m 85 #[.val (.ref x1), .val (.ref x2), .val (.int x3), .val (.int (3 : Int32))] [])) (fun _ kk => XS.icmpYes W12.here hx rfl (pc0 := 41) (pc' := 85) rfl (hb hby d13_41) rfl (XT.ii_ge_t (by decide +kernel)) (by decide +kernel) (by decide +kernel) kk) ?_
  exact W12.retV hx hEL hs hlk (by decide +kernel) (by decide +kernel) hret (hb hby d13_85) ⟨rfl, rfl⟩
theorem d14_0 : decode prog_9_method_3_code 0 = .ok (.aload_n 1, 1) := by decide +kernel
theorem d14_1 : decode prog_9_method_3_code 1 = .ok (.invokevirtual 36, 3) := by decide +kernel
theorem d14_4 : decode prog_9_method_3_code 4 = .ok (.ifCond .ne 11, 3) := by decide +kernel
theorem d14_7 : decode prog_9_method_3_code 7 = .ok (.aload_n 1, 1) := by decide +kernel
theorem d14_8 : decode prog_9_method_3_code 8 = .ok (.invokevirtual 40, 3) := by decide +kernel
theorem d14_11 : decode prog_9_method_3_code 11 = .ok (.iload_n 2, 1) := by decide +kernel
theorem d14_12 : decode prog_9_method_3_code 12 = .ok (.if_icmp .le 22, 3) := by decide +kernel
theorem d14_34 : decode prog_9_method_3_code 34 = .ok (.iconst 0, 1) := by decide +kernel
theorem d14_35 : decode prog_9_method_3_code 35 = .ok (.istore_n 3, 1) := by decide +kernel
theorem d14_36 : decode prog_9_method_3_code 36 = .ok (.iload_n 3, 1) := by decide +kernel
theorem d14_37 : decode prog_9_method_3_code 37 = .ok (.aload_n 1, 1) := by decide +kernel
theorem d14_38 : decode prog_9_method_3_code 38 = .ok (.invokevirtual 40, 3) := by decide +kernel
theorem d14_41 : decode prog_9_method_3_code 41 = .ok (.if_icmp .ge 44, 3) := by decide +kernel
theorem d14_44 : decode prog_9_method_3_code 44 = .ok (.aload_n 1, 1) := by decide +kernel
theorem d14_45 : decode prog_9_method_3_code 45 = .ok (.iload_n 3, 1) := by decide +kernel
theorem d14_46 : decode prog_9_method_3_code 46 = .ok (.invokevirtual 47, 3) := by decide +kernel
theorem d14_49 : decode prog_9_method_3_code 49 = .ok (.invokestatic 51, 3) := by decide +kernel
theorem d14_52 : decode prog_9_method_3_code 52 = .ok (.ifCond .ne 27, 3) := by decide +kernel
theorem d14_79 : decode prog_9_method_3_code 79 = .ok (.iinc 3 1, 3) := by decide +kernel
theorem d14_82 : decode prog_9_method_3_code 82 = .ok (.goto (-46), 3) := by decide +kernel
theorem d14_85 : decode prog_9_method_3_code 85 = .ok (.return_, 1) := by decide +kernel
theorem ef14 (m : MethodId) (x0 : Addr) (x1 : Addr) (x2 : Int32)  : entryFrame m #[(.ref x0), (.ref x1), (.int x2)] 4 = mkF m 0 #[.val (.ref x0), .val (.ref x1), .val (.int x2), .unset] [] := by first | (simp [entryFrame, mkF, argsToLocals, Value.category]; done) | rfl | rfl
set_option maxRecDepth 65536 in
set_option maxHeartbeats 40000000 in
theorem rm14 (l : Launch) (Z : State) (a0 : Array Value) (hw : ∀ d ∈ tables_1, d.before a0 Z = true) (hEL : EW Z a0 EL0) (zc : Int32) (SC : Sta Z Z.heap "java/lang/String" "COMPACT_STRINGS" "Z" (.int zc)) (hzc : ¬ zc = 0) (fm : Value) (SF : Sta Z Z.heap "jdk/internal/util/Preconditions" "SIOOBE_FORMATTER" "Ljava/util/function/BiFunction;" fm) (rfm : fm.isRef = true) (x1 : Addr) (x2 : Addr) (x3 : Int32) (q1 : Int32) (q2 : Int32) (q3 : Int32) (q4 : Int32) (h0 : Heap) {n0 : Nat} (O0 : Old Z n0 h0) (S2 : Str Z h0 x2 [q1, q2, q3, q4]) (cq1 : ¬ q1 < 0 ∧ ¬ (255 : Int32) < q1) (cq2 : ¬ q2 < 0 ∧ ¬ (255 : Int32) < q2) (cq3 : ¬ q3 < 0 ∧ ¬ (255 : Int32) < q3) (cq4 : ¬ q4 < 0 ∧ ¬ (255 : Int32) < q4) (aq1 : Alw q1) (aq2 : Alw q2) (aq3 : Alw q3) (aq4 : Alw q4) (hmx : ¬ (x3 < (4 : Int32))) :
    Met l Z EL0 n0 (⟨"com/example/sem1/sem1/internal/LockNames", "requireCharacters", "(Ljava/lang/String;Ljava/lang/String;I)V"⟩ : MethodName) prog_9_method_3_code 4 none [] ({ frames := 4, cells := 0, slots := 0, locals := 53 } : Room) #[(.ref x1), (.ref x2), (.int x3)] h0 [] [] (fun v h' => v = none ∧ h0 = h') := by
  refine Met.of (plainFor_of_name pn1) O0 ?_
  intro p e s m below meth c T0 hx hby hml hret hlk hnm hs W0
  have W0 : Wk p l e _ s m _ below meth c Z EL0 n0 [] "com/example/sem1/sem1/internal/LockNames" [] T0 0 0 h0 := W0
  have hSA := fun d hd => hw d (sa_in d hd)
  have hws := fun d hd => hw d (ws_in d hd)
  have hln := fun d hd => hw d (ln_in d hd)
  have hch := fun d hd => hw d (ch_in d hd)
  have heq := fun d hd => hw d (eq_in d hd)
  have hem := fun d hd => hw d (em_in d hd)
  refine Go.of (fun _ kk => castTop (ef14 m x1 x2 x3) kk) ?_
  show Go p e below _ (T0.setTop (mkF m 0 #[.val (.ref x1), .val (.ref x2), .val (.int x3), .unset] []))
  refine Go.of (t' := T0.setTop (mkF m 1 #[.val (.ref x1), .val (.ref x2), .val (.int x3), .unset] [(.ref x2)])) (fun _ kk => XS.aloadN W0.here hx rfl (hb hby d14_0) rfl rfl kk) ?_
  refine W0.strEmp hx hem (hw _ (List.mem_of_getElem? (i := 6) rfl)) S2 (hw _ (List.mem_of_getElem? (i := 57) rfl)) (hw _ (List.mem_of_getElem? (i := 58) rfl)) (hw _ (List.mem_of_getElem? (i := 60) rfl)) (hw _ (List.mem_of_getElem? (i := 59) rfl)) (by decide +kernel) (Wd := 0) (by decide +kernel) (by decide +kernel) (by decide +kernel) rfl (by rw [hml]; rfl) rfl (by show 2 * 0 + _ ≤ _; exact Nat.le_of_eq rfl) (hb hby d14_1) (fun T1 W1 => ?_)
  show Go p e below _ (T1.setTop (mkF m 4 #[.val (.ref x1), .val (.ref x2), .val (.int x3), .unset] [(.int (0 : Int32))]))
  refine Go.of (t' := T1.setTop (mkF m 7 #[.val (.ref x1), .val (.ref x2), .val (.int x3), .unset] [])) (fun _ kk => XS.ifNo W1.here hx rfl (hb hby d14_4) rfl (XT.i0_ne_f (by decide +kernel)) kk) ?_
  refine Go.of (t' := T1.setTop (mkF m 8 #[.val (.ref x1), .val (.ref x2), .val (.int x3), .unset] [(.ref x2)])) (fun _ kk => XS.aloadN W1.here hx rfl (hb hby d14_7) rfl rfl kk) ?_
  refine W1.strLen hx hln (hw _ (List.mem_of_getElem? (i := 6) rfl)) SC hzc S2 (hw _ (List.mem_of_getElem? (i := 62) rfl)) (hw _ (List.mem_of_getElem? (i := 63) rfl)) (hw _ (List.mem_of_getElem? (i := 65) rfl)) (hw _ (List.mem_of_getElem? (i := 64) rfl)) (by decide +kernel) (Wd := 0) (by decide +kernel) (by decide +kernel) (by decide +kernel) rfl (by rw [hml]; rfl) rfl (by show 2 * 0 + _ ≤ _; exact Nat.le_of_eq rfl) (hb hby d14_8) (fun T2 W2 => ?_)
  show Go p e below _ (T2.setTop (mkF m 11 #[.val (.ref x1), .val (.ref x2), .val (.int x3), .unset] [(.int (4 : Int32))]))
  refine Go.of (t' := T2.setTop (mkF m 12 #[.val (.ref x1), .val (.ref x2), .val (.int x3), .unset] [(.int x3), (.int (4 : Int32))])) (fun _ kk => XS.iloadN W2.here hx rfl (hb hby d14_11) rfl kk) ?_
  refine Go.of (t' := T2.setTop (mkF m 34 #[.val (.ref x1), .val (.ref x2), .val (.int x3), .unset] [])) (fun _ kk => XS.icmpYes W2.here hx rfl (pc0 := 12) (pc' := 34) rfl (hb hby d14_12) rfl (XT.ii_le_t hmx) (by decide +kernel) (by decide +kernel) kk) ?_
  refine Go.of (t' := T2.setTop (mkF m 35 #[.val (.ref x1), .val (.ref x2), .val (.int x3), .unset] [(.int (0 : Int32))])) (fun _ kk => XS.iconst W2.here hx rfl (hb hby d14_34) kk) ?_
  refine Go.of (t' := T2.setTop (mkF m 36 #[.val (.ref x1), .val (.ref x2), .val (.int x3), .val (.int (0 : Int32))] [])) (fun _ kk => XS.istoreN W2.here hx rfl (hb hby d14_35) rfl (l' := #[.val (.ref x1), .val (.ref x2), .val (.int x3), .val (.int (0 : Int32))]) rfl kk) ?_
  refine Go.of (t' := T2.setTop (mkF m 37 #[.val (.ref x1), .val (.ref x2), .val (.int x3), .val (.int (0 : Int32))] [(.int (0 : Int32))])) (fun _ kk => XS.iloadN W2.here hx rfl (hb hby d14_36) rfl kk) ?_
  refine Go.of (t' := T2.setTop (mkF m 38 #[.val (.ref x1), .val (.ref x2), .val (.int x3), .val (.int (0 : Int32))] [(.ref x2), (.int (0 : Int32))])) (fun _ kk => XS.aloadN W2.here hx rfl (hb hby d14_37) rfl rfl kk) ?_
  refine W2.strLen hx hln (hw _ (List.mem_of_getElem? (i := 6) rfl)) SC hzc S2 (hw _ (List.mem_of_getElem? (i := 62) rfl)) (hw _ (List.mem_of_getElem? (i := 63) rfl)) (hw _ (List.mem_of_getElem? (i := 65) rfl)) (hw _ (List.mem_of_getElem? (i := 64) rfl)) (by decide +kernel) (Wd := 1) (by decide +kernel) (by decide +kernel) (by decide +kernel) rfl (by rw [hml]; rfl) rfl (by show 2 * 0 + _ ≤ _; exact Nat.le_of_eq rfl) (hb hby d14_38) (fun T3 W3 => ?_)
  show Go p e below _ (T3.setTop (mkF m 41 #[.val (.ref x1), .val (.ref x2), .val (.int x3), .val (.int (0 : Int32))] [(.int (4 : Int32)), (.int (0 : Int32))]))
  refine Go.of (t' := T3.setTop (mkF m 44 #[.val (.ref x1), .val (.ref x2), .val (.int x3), .val (.int (0 : Int32))] [])) (fun _ kk => XS.icmpNo W3.here hx rfl (hb hby d14_41) rfl (XT.ii_ge_f (by decide +kernel)) kk) ?_
  refine Go.of (t' := T3.setTop (mkF m 45 #[.val (.ref x1), .val (.ref x2), .val (.int x3), .val (.int (0 : Int32))] [(.ref x2)])) (fun _ kk => XS.aloadN W3.here hx rfl (hb hby d14_44) rfl rfl kk) ?_
  refine Go.of (t' := T3.setTop (mkF m 46 #[.val (.ref x1), .val (.ref x2), .val (.int x3), .val (.int (0 : Int32))] [(.int (0 : Int32)), (.ref x2)])) (fun _ kk => XS.iloadN W3.here hx rfl (hb hby d14_45) rfl kk) ?_
  refine W3.strChar hx hch (hw _ (List.mem_of_getElem? (i := 6) rfl)) SC hzc SF rfm S2 (snd255 (allSi cq1 (allSi cq2 (allSi cq3 (allSi cq4 all0i))))) (i := 0) (Nat.le_of_ble_eq_true rfl) rfl (hw _ (List.mem_of_getElem? (i := 72) rfl)) (hw _ (List.mem_of_getElem? (i := 73) rfl)) (hw _ (List.mem_of_getElem? (i := 75) rfl)) (hw _ (List.mem_of_getElem? (i := 74) rfl)) (by decide +kernel) (Wd := 0) (by decide +kernel) (by decide +kernel) (by decide +kernel) rfl (by rw [hml]; rfl) rfl (by show 2 * 0 + _ ≤ _; exact Nat.le_of_eq rfl) (hb hby d14_46) (fun T4 W4 => ?_)
  show Go p e below _ (T4.setTop (mkF m 49 #[.val (.ref x1), .val (.ref x2), .val (.int x3), .val (.int (0 : Int32))] [(.int q1)]))
  refine W4.callS hx hEL (hw _ (List.mem_of_getElem? (i := 93) rfl)) (hw _ (List.mem_of_getElem? (i := 94) rfl)) (hw _ (List.mem_of_getElem? (i := 51) rfl)) (hw _ (List.mem_of_getElem? (i := 95) rfl)) (by decide +kernel) (argsL := [(.int q1)]) (rest := []) (rm2 l Z a0 hw hEL zc SC hzc fm SF rfm q1 h0 W4.old aq1) all0 (by decide +kernel) (Wd := 0) (by decide +kernel) (by decide +kernel) (by decide +kernel) all0 rfl (by rw [hml]; rfl) (lenOf pd0 rfl) rfl (by show 2 * 0 + _ ≤ _; exact Nat.le_of_eq rfl) (hb hby d14_49) (fun T5 h5 v5 W5 K5 q5 => ?_)
  obtain ⟨rfl, rfl⟩ := q5
  show Go p e below _ (T5.setTop (mkF m 52 #[.val (.ref x1), .val (.ref x2), .val (.int x3), .val (.int (0 : Int32))] [(.int (1 : Int32))]))
  refine Go.of (t' := T5.setTop (mkF m 79 #[.val (.ref x1), .val (.ref x2), .val (.int x3), .val (.int (0 : Int32))] [])) (fun _ kk => XS.ifYes W5.here hx rfl (pc0 := 52) (pc' := 79) rfl (hb hby d14_52) rfl (XT.i0_ne_t (by decide +kernel)) (by decide +kernel) (by decide +kernel) kk) ?_
  refine Go.of (t' := T5.setTop (mkF m 82 #[.val (.ref x1), .val (.ref x2), .val (.int x3), .val (.int (1 : Int32))] [])) (fun _ kk => XS.iinc W5.here hx rfl (hb hby d14_79) rfl (l' := #[.val (.ref x1), .val (.ref x2), .val (.int x3), .val (.int (1 : Int32))]) rfl kk) ?_
  refine Go.of (t' := T5.setTop (mkF m 36 #[.val (.ref x1), .val (.ref x2), .val (.int x3), .val (.int (1 : Int32))] [])) (fun _ kk => XS.goto W5.here hx rfl (pc0 := 82) (pc' := 36) rfl (hb hby d14_82) (by decide +kernel) (by decide +kernel) kk) ?_
  refine Go.of (t' := T5.setTop (mkF m 37 #[.val (.ref x1), .val (.ref x2), .val (.int x3), .val (.int (1 : Int32))] [(.int (1 : Int32))])) (fun _ kk => XS.iloadN W5.here hx rfl (hb hby d14_36) rfl kk) ?_
  refine Go.of (t' := T5.setTop (mkF m 38 #[.val (.ref x1), .val (.ref x2), .val (.int x3), .val (.int (1 : Int32))] [(.ref x2), (.int (1 : Int32))])) (fun _ kk => XS.aloadN W5.here hx rfl (hb hby d14_37) rfl rfl kk) ?_
  refine W5.strLen hx hln (hw _ (List.mem_of_getElem? (i := 6) rfl)) SC hzc S2 (hw _ (List.mem_of_getElem? (i := 62) rfl)) (hw _ (List.mem_of_getElem? (i := 63) rfl)) (hw _ (List.mem_of_getElem? (i := 65) rfl)) (hw _ (List.mem_of_getElem? (i := 64) rfl)) (by decide +kernel) (Wd := 1) (by decide +kernel) (by decide +kernel) (by decide +kernel) rfl (by rw [hml]; rfl) rfl (by show 2 * 0 + _ ≤ _; exact Nat.le_of_eq rfl) (hb hby d14_38) (fun T6 W6 => ?_)
  show Go p e below _ (T6.setTop (mkF m 41 #[.val (.ref x1), .val (.ref x2), .val (.int x3), .val (.int (1 : Int32))] [(.int (4 : Int32)), (.int (1 : Int32))]))
  refine Go.of (t' := T6.setTop (mkF m 44 #[.val (.ref x1), .val (.ref x2), .val (.int x3), .val (.int (1 : Int32))] [])) (fun _ kk => XS.icmpNo W6.here hx rfl (hb hby d14_41) rfl (XT.ii_ge_f (by decide +kernel)) kk) ?_
  refine Go.of (t' := T6.setTop (mkF m 45 #[.val (.ref x1), .val (.ref x2), .val (.int x3), .val (.int (1 : Int32))] [(.ref x2)])) (fun _ kk => XS.aloadN W6.here hx rfl (hb hby d14_44) rfl rfl kk) ?_
  refine Go.of (t' := T6.setTop (mkF m 46 #[.val (.ref x1), .val (.ref x2), .val (.int x3), .val (.int (1 : Int32))] [(.int (1 : Int32)), (.ref x2)])) (fun _ kk => XS.iloadN W6.here hx rfl (hb hby d14_45) rfl kk) ?_
  refine W6.strChar hx hch (hw _ (List.mem_of_getElem? (i := 6) rfl)) SC hzc SF rfm S2 (snd255 (allSi cq1 (allSi cq2 (allSi cq3 (allSi cq4 all0i))))) (i := 1) (Nat.le_of_ble_eq_true rfl) rfl (hw _ (List.mem_of_getElem? (i := 72) rfl)) (hw _ (List.mem_of_getElem? (i := 73) rfl)) (hw _ (List.mem_of_getElem? (i := 75) rfl)) (hw _ (List.mem_of_getElem? (i := 74) rfl)) (by decide +kernel) (Wd := 0) (by decide +kernel) (by decide +kernel) (by decide +kernel) rfl (by rw [hml]; rfl) rfl (by show 2 * 0 + _ ≤ _; exact Nat.le_of_eq rfl) (hb hby d14_46) (fun T7 W7 => ?_)
  show Go p e below _ (T7.setTop (mkF m 49 #[.val (.ref x1), .val (.ref x2), .val (.int x3), .val (.int (1 : Int32))] [(.int q2)]))
  refine W7.callS hx hEL (hw _ (List.mem_of_getElem? (i := 93) rfl)) (hw _ (List.mem_of_getElem? (i := 94) rfl)) (hw _ (List.mem_of_getElem? (i := 51) rfl)) (hw _ (List.mem_of_getElem? (i := 95) rfl)) (by decide +kernel) (argsL := [(.int q2)]) (rest := []) (rm2 l Z a0 hw hEL zc SC hzc fm SF rfm q2 h0 W7.old aq2) all0 (by decide +kernel) (Wd := 0) (by decide +kernel) (by decide +kernel) (by decide +kernel) all0 rfl (by rw [hml]; rfl) (lenOf pd0 rfl) rfl (by show 2 * 0 + _ ≤ _; exact Nat.le_of_eq rfl) (hb hby d14_49) (fun T8 h8 v8 W8 K8 q8 => ?_)
  obtain ⟨rfl, rfl⟩ := q8
  show Go p e below _ (T8.setTop (mkF m 52 #[.val (.ref x1), .val (.ref x2), .val (.int x3), .val (.int (1 : Int32))] [(.int (1 : Int32))]))
  refine Go.of (t' := T8.setTop (mkF m 79 #[.val (.ref x1), .val (.ref x2), .val (.int x3), .val (.int (1 : Int32))] [])) (fun _ kk => XS.ifYes W8.here hx rfl (pc0 := 52) (pc' := 79) rfl (hb hby d14_52) rfl (XT.i0_ne_t (by decide +kernel)) (by decide +kernel) (by decide +kernel) kk) ?_
  refine Go.of (t' := T8.setTop (mkF m 82 #[.val (.ref x1), .val (.ref x2), .val (.int x3), .val (.int (2 : Int32))] [])) (fun _ kk => XS.iinc W8.here hx rfl (hb hby d14_79) rfl (l' := #[.val (.ref x1), .val (.ref x2), .val (.int x3), .val (.int (2 : Int32))]) rfl kk) ?_
  refine Go.of (t' := T8.setTop (mkF m 36 #[.val (.ref x1), .val (.ref x2), .val (.int x3), .val (.int (2 : Int32))] [])) (fun _ kk => XS.goto W8.here hx rfl (pc0 := 82) (pc' := 36) rfl (hb hby d14_82) (by decide +kernel) (by decide +kernel) kk) ?_
  refine Go.of (t' := T8.setTop (mkF m 37 #[.val (.ref x1), .val (.ref x2), .val (.int x3), .val (.int (2 : Int32))] [(.int (2 : Int32))])) (fun _ kk => XS.iloadN W8.here hx rfl (hb hby d14_36) rfl kk) ?_
  refine Go.of (t' := T8.setTop (mkF m 38 #[.val (.ref x1), .val (.ref x2), .val (.int x3), .val (.int (2 : Int32))] [(.ref x2), (.int (2 : Int32))])) (fun _ kk => XS.aloadN W8.here hx rfl (hb hby d14_37) rfl rfl kk) ?_
  refine W8.strLen hx hln (hw _ (List.mem_of_getElem? (i := 6) rfl)) SC hzc S2 (hw _ (List.mem_of_getElem? (i := 62) rfl)) (hw _ (List.mem_of_getElem? (i := 63) rfl)) (hw _ (List.mem_of_getElem? (i := 65) rfl)) (hw _ (List.mem_of_getElem? (i := 64) rfl)) (by decide +kernel) (Wd := 1) (by decide +kernel) (by decide +kernel) (by decide +kernel) rfl (by rw [hml]; rfl) rfl (by show 2 * 0 + _ ≤ _; exact Nat.le_of_eq rfl) (hb hby d14_38) (fun T9 W9 => ?_)
  show Go p e below _ (T9.setTop (mkF m 41 #[.val (.ref x1), .val (.ref x2), .val (.int x3), .val (.int (2 : Int32))] [(.int (4 : Int32)), (.int (2 : Int32))]))
  refine Go.of (t' := T9.setTop (mkF m 44 #[.val (.ref x1), .val (.ref x2), .val (.int x3), .val (.int (2 : Int32))] [])) (fun _ kk => XS.icmpNo W9.here hx rfl (hb hby d14_41) rfl (XT.ii_ge_f (by decide +kernel)) kk) ?_
  refine Go.of (t' := T9.setTop (mkF m 45 #[.val (.ref x1), .val (.ref x2), .val (.int x3), .val (.int (2 : Int32))] [(.ref x2)])) (fun _ kk => XS.aloadN W9.here hx rfl (hb hby d14_44) rfl rfl kk) ?_
  refine Go.of (t' := T9.setTop (mkF m 46 #[.val (.ref x1), .val (.ref x2), .val (.int x3), .val (.int (2 : Int32))] [(.int (2 : Int32)), (.ref x2)])) (fun _ kk => XS.iloadN W9.here hx rfl (hb hby d14_45) rfl kk) ?_
  refine W9.strChar hx hch (hw _ (List.mem_of_getElem? (i := 6) rfl)) SC hzc SF rfm S2 (snd255 (allSi cq1 (allSi cq2 (allSi cq3 (allSi cq4 all0i))))) (i := 2) (Nat.le_of_ble_eq_true rfl) rfl (hw _ (List.mem_of_getElem? (i := 72) rfl)) (hw _ (List.mem_of_getElem? (i := 73) rfl)) (hw _ (List.mem_of_getElem? (i := 75) rfl)) (hw _ (List.mem_of_getElem? (i := 74) rfl)) (by decide +kernel) (Wd := 0) (by decide +kernel) (by decide +kernel) (by decide +kernel) rfl (by rw [hml]; rfl) rfl (by show 2 * 0 + _ ≤ _; exact Nat.le_of_eq rfl) (hb hby d14_46) (fun T10 W10 => ?_)
  show Go p e below _ (T10.setTop (mkF m 49 #[.val (.ref x1), .val (.ref x2), .val (.int x3), .val (.int (2 : Int32))] [(.int q3)]))
  refine W10.callS hx hEL (hw _ (List.mem_of_getElem? (i := 93) rfl)) (hw _ (List.mem_of_getElem? (i := 94) rfl)) (hw _ (List.mem_of_getElem? (i := 51) rfl)) (hw _ (List.mem_of_getElem? (i := 95) rfl)) (by decide +kernel) (argsL := [(.int q3)]) (rest := []) (rm2 l Z a0 hw hEL zc SC hzc fm SF rfm q3 h0 W10.old aq3) all0 (by decide +kernel) (Wd := 0) (by decide +kernel) (by decide +kernel) (by decide +kernel) all0 rfl (by rw [hml]; rfl) (lenOf pd0 rfl) rfl (by show 2 * 0 + _ ≤ _; exact Nat.le_of_eq rfl) (hb hby d14_49) (fun T11 h11 v11 W11 K11 q11 => ?_)
  obtain ⟨rfl, rfl⟩ := q11
  show Go p e below _ (T11.setTop (mkF m 52 #[.val (.ref x1), .val (.ref x2), .val (.int x3), .val (.int (2 : Int32))] [(.int (1 : Int32))]))
  refine Go.of (t' := T11.setTop (mkF m 79 #[.val (.ref x1), .val (.ref x2), .val (.int x3), .val (.int (2 : Int32))] [])) (fun _ kk => XS.ifYes W11.here hx rfl (pc0 := 52) (pc' := 79) rfl (hb hby d14_52) rfl (XT.i0_ne_t (by decide +kernel)) (by decide +kernel) (by decide +kernel) kk) ?_
  refine Go.of (t' := T11.setTop (mkF m 82 #[.val (.ref x1), .val (.ref x2), .val (.int x3), .val (.int (3 : Int32))] [])) (fun _ kk => XS.iinc W11.here hx rfl (hb hby d14_79) rfl (l' := #[.val (.ref x1), .val (.ref x2), .val (.int x3), .val (.int (3 : Int32))]) rfl kk) ?_
  refine Go.of (t' := T11.setTop (mkF m 36 #[.val (.ref x1), .val (.ref x2), .val (.int x3), .val (.int (3 : Int32))] [])) (fun _ kk => XS.goto W11.here hx rfl (pc0 := 82) (pc' := 36) rfl (hb hby d14_82) (by decide +kernel) (by decide +kernel) kk) ?_
  refine Go.of (t' := T11.setTop (mkF m 37 #[.val (.ref x1), .val (.ref x2), .val (.int x3), .val (.int (3 : Int32))] [(.int (3 : Int32))])) (fun _ kk => XS.iloadN W11.here hx rfl (hb hby d14_36) rfl kk) ?_
  refine Go.of (t' := T11.setTop (mkF m 38 #[.val (.ref x1), .val (.ref x2), .val (.int x3), .val (.int (3 : Int32))] [(.ref x2), (.int (3 : Int32))])) (fun _ kk => XS.aloadN W11.here hx rfl (hb hby d14_37) rfl rfl kk) ?_
  refine W11.strLen hx hln (hw _ (List.mem_of_getElem? (i := 6) rfl)) SC hzc S2 (hw _ (List.mem_of_getElem? (i := 62) rfl)) (hw _ (List.mem_of_getElem? (i := 63) rfl)) (hw _ (List.mem_of_getElem? (i := 65) rfl)) (hw _ (List.mem_of_getElem? (i := 64) rfl)) (by decide +kernel) (Wd := 1) (by decide +kernel) (by decide +kernel) (by decide +kernel) rfl (by rw [hml]; rfl) rfl (by show 2 * 0 + _ ≤ _; exact Nat.le_of_eq rfl) (hb hby d14_38) (fun T12 W12 => ?_)
  show Go p e below _ (T12.setTop (mkF m 41 #[.val (.ref x1), .val (.ref x2), .val (.int x3), .val (.int (3 : Int32))] [(.int (4 : Int32)), (.int (3 : Int32))]))
  refine Go.of (t' := T12.setTop (mkF m 44 #[.val (.ref x1), .val (.ref x2), .val (.int x3), .val (.int (3 : Int32))] [])) (fun _ kk => XS.icmpNo W12.here hx rfl (hb hby d14_41) rfl (XT.ii_ge_f (by decide +kernel)) kk) ?_
  refine Go.of (t' := T12.setTop (mkF m 45 #[.val (.ref x1), .val (.ref x2), .val (.int x3), .val (.int (3 : Int32))] [(.ref x2)])) (fun _ kk => XS.aloadN W12.here hx rfl (hb hby d14_44) rfl rfl kk) ?_
  refine Go.of (t' := T12.setTop (mkF m 46 #[.val (.ref x1), .val (.ref x2), .val (.int x3), .val (.int (3 : Int32))] [(.int (3 : Int32)), (.ref x2)])) (fun _ kk => XS.iloadN W12.here hx rfl (hb hby d14_45) rfl kk) ?_
  refine W12.strChar hx hch (hw _ (List.mem_of_getElem? (i := 6) rfl)) SC hzc SF rfm S2 (snd255 (allSi cq1 (allSi cq2 (allSi cq3 (allSi cq4 all0i))))) (i := 3) (Nat.le_of_ble_eq_true rfl) rfl (hw _ (List.mem_of_getElem? (i := 72) rfl)) (hw _ (List.mem_of_getElem? (i := 73) rfl)) (hw _ (List.mem_of_getElem? (i := 75) rfl)) (hw _ (List.mem_of_getElem? (i := 74) rfl)) (by decide +kernel) (Wd := 0) (by decide +kernel) (by decide +kernel) (by decide +kernel) rfl (by rw [hml]; rfl) rfl (by show 2 * 0 + _ ≤ _; exact Nat.le_of_eq rfl) (hb hby d14_46) (fun T13 W13 => ?_)
  show Go p e below _ (T13.setTop (mkF m 49 #[.val (.ref x1), .val (.ref x2), .val (.int x3), .val (.int (3 : Int32))] [(.int q4)]))
  refine W13.callS hx hEL (hw _ (List.mem_of_getElem? (i := 93) rfl)) (hw _ (List.mem_of_getElem? (i := 94) rfl)) (hw _ (List.mem_of_getElem? (i := 51) rfl)) (hw _ (List.mem_of_getElem? (i := 95) rfl)) (by decide +kernel) (argsL := [(.int q4)]) (rest := []) (rm2 l Z a0 hw hEL zc SC hzc fm SF rfm q4 h0 W13.old aq4) all0 (by decide +kernel) (Wd := 0) (by decide +kernel) (by decide +kernel) (by decide +kernel) all0 rfl (by rw [hml]; rfl) (lenOf pd0 rfl) rfl (by show 2 * 0 + _ ≤ _; exact Nat.le_of_eq rfl) (hb hby d14_49) (fun T14 h14 v14 W14 K14 q14 => ?_)
  obtain ⟨rfl, rfl⟩ := q14
  show Go p e below _ (T14.setTop (mkF m 52 #[.val (.ref x1), .val (.ref x2), .val (.int x3), .val (.int (3 : Int32))] [(.int (1 : Int32))]))
  refine Go.of (t' := T14.setTop (mkF m 79 #[.val (.ref x1), .val (.ref x2), .val (.int x3), .val (.int (3 : Int32))] [])) (fun _ kk => XS.ifYes W14.here hx rfl (pc0 := 52) (pc' := 79) rfl (hb hby d14_52) rfl (XT.i0_ne_t (by decide +kernel)) (by decide +kernel) (by decide +kernel) kk) ?_
  refine Go.of (t' := T14.setTop (mkF m 82 #[.val (.ref x1), .val (.ref x2), .val (.int x3), .val (.int (4 : Int32))] [])) (fun _ kk => XS.iinc W14.here hx rfl (hb hby d14_79) rfl (l' := #[.val (.ref x1), .val (.ref x2), .val (.int x3), .val (.int (4 : Int32))]) rfl kk) ?_
  refine Go.of (t' := T14.setTop (mkF m 36 #[.val (.ref x1), .val (.ref x2), .val (.int x3), .val (.int (4 : Int32))] [])) (fun _ kk => XS.goto W14.here hx rfl (pc0 := 82) (pc' := 36) rfl (hb hby d14_82) (by decide +kernel) (by decide +kernel) kk) ?_
  refine Go.of (t' := T14.setTop (mkF m 37 #[.val (.ref x1), .val (.ref x2), .val (.int x3), .val (.int (4 : Int32))] [(.int (4 : Int32))])) (fun _ kk => XS.iloadN W14.here hx rfl (hb hby d14_36) rfl kk) ?_
  refine Go.of (t' := T14.setTop (mkF m 38 #[.val (.ref x1), .val (.ref x2), .val (.int x3), .val (.int (4 : Int32))] [(.ref x2), (.int (4 : Int32))])) (fun _ kk => XS.aloadN W14.here hx rfl (hb hby d14_37) rfl rfl kk) ?_
  refine W14.strLen hx hln (hw _ (List.mem_of_getElem? (i := 6) rfl)) SC hzc S2 (hw _ (List.mem_of_getElem? (i := 62) rfl)) (hw _ (List.mem_of_getElem? (i := 63) rfl)) (hw _ (List.mem_of_getElem? (i := 65) rfl)) (hw _ (List.mem_of_getElem? (i := 64) rfl)) (by decide +kernel) (Wd := 1) (by decide +kernel) (by decide +kernel) (by decide +kernel) rfl (by rw [hml]; rfl) rfl (by show 2 * 0 + _ ≤ _; exact Nat.le_of_eq rfl) (hb hby d14_38) (fun T15 W15 => ?_)
  show Go p e below _ (T15.setTop (mkF m 41 #[.val (.ref x1), .val (.ref x2), .val (.int x3), .val (.int (4 : Int32))] [(.int (4 : Int32)), (.int (4 : Int32))]))
  refine Go.of (t' := T15.setTop (mkF m 85 #[.val (.ref x1), .val (.ref x2), .val (.int x3), .val (.int (4 : Int32))] [])) (fun _ kk => XS.icmpYes W15.here hx rfl (pc0 := 41) (pc' := 85) rfl (hb hby d14_41) rfl (XT.ii_ge_t (by decide +kernel)) (by decide +kernel) (by decide +kernel) kk) ?_
  exact W15.retV hx hEL hs hlk (by decide +kernel) (by decide +kernel) hret (hb hby d14_85) ⟨rfl, rfl⟩
theorem d21_0 : decode prog_9_method_2_code 0 = .ok (.aload_n 0, 1) := by decide +kernel
theorem d21_1 : decode prog_9_method_2_code 1 = .ok (.ifnonnull 13, 3) := by decide +kernel
theorem d21_14 : decode prog_9_method_2_code 14 = .ok (.ldc 14, 2) := by decide +kernel
theorem d21_16 : decode prog_9_method_2_code 16 = .ok (.aload_n 0, 1) := by decide +kernel
theorem d21_17 : decode prog_9_method_2_code 17 = .ok (.sipush 200, 3) := by decide +kernel
theorem d21_20 : decode prog_9_method_2_code 20 = .ok (.invokestatic 18, 3) := by decide +kernel
theorem d21_23 : decode prog_9_method_2_code 23 = .ok (.aload_n 0, 1) := by decide +kernel
theorem d21_24 : decode prog_9_method_2_code 24 = .ok (.ldc 22, 2) := by decide +kernel
theorem d21_26 : decode prog_9_method_2_code 26 = .ok (.invokevirtual 24, 3) := by decide +kernel
theorem d21_29 : decode prog_9_method_2_code 29 = .ok (.ifCond .ne 12, 3) := by decide +kernel
theorem d21_32 : decode prog_9_method_2_code 32 = .ok (.aload_n 0, 1) := by decide +kernel
theorem d21_33 : decode prog_9_method_2_code 33 = .ok (.ldc 30, 2) := by decide +kernel
theorem d21_35 : decode prog_9_method_2_code 35 = .ok (.invokevirtual 24, 3) := by decide +kernel
theorem d21_38 : decode prog_9_method_2_code 38 = .ok (.ifCond .eq 17, 3) := by decide +kernel
theorem d21_55 : decode prog_9_method_2_code 55 = .ok (.aload_n 0, 1) := by decide +kernel
theorem d21_56 : decode prog_9_method_2_code 56 = .ok (.areturn, 1) := by decide +kernel
theorem ef21 (m : MethodId) (x0 : Addr)  : entryFrame m #[(.ref x0)] 1 = mkF m 0 #[.val (.ref x0)] [] := by first | (simp [entryFrame, mkF, argsToLocals, Value.category]; done) | rfl | rfl
set_option maxRecDepth 65536 in
set_option maxHeartbeats 40000000 in
theorem rm21 (l : Launch) (Z : State) (a0 : Array Value) (hw : ∀ d ∈ tables_1, d.before a0 Z = true) (hEL : EW Z a0 EL0) (zc : Int32) (SC : Sta Z Z.heap "java/lang/String" "COMPACT_STRINGS" "Z" (.int zc)) (hzc : ¬ zc = 0) (fm : Value) (SF : Sta Z Z.heap "jdk/internal/util/Preconditions" "SIOOBE_FORMATTER" "Ljava/util/function/BiFunction;" fm) (rfm : fm.isRef = true) (x1 : Addr) (q1 : Int32) (h0 : Heap) {n0 : Nat} (O0 : Old Z n0 h0) (S1 : Str Z h0 x1 [q1]) (cq1 : ¬ q1 < 0 ∧ ¬ (255 : Int32) < q1) (aq1 : Alw q1) (hne : ¬ ([q1] = [(46 : Int32)])) :
    Met l Z EL0 n0 (⟨"com/example/sem1/sem1/internal/LockNames", "requireValid", "(Ljava/lang/String;)Ljava/lang/String;"⟩ : MethodName) prog_9_method_2_code 1 (some (.object "java/lang/String")) [] ({ frames := 5, cells := 6, slots := 60, locals := 68 } : Room) #[(.ref x1)] h0 [] [] (fun v h' => v = some (.ref x1)) := by
  refine Met.of (plainFor_of_name pn1) O0 ?_
  intro p e s m below meth c T0 hx hby hml hret hlk hnm hs W0
  have W0 : Wk p l e _ s m _ below meth c Z EL0 n0 [] "com/example/sem1/sem1/internal/LockNames" [] T0 0 0 h0 := W0
  have hSA := fun d hd => hw d (sa_in d hd)
  have hws := fun d hd => hw d (ws_in d hd)
  have hln := fun d hd => hw d (ln_in d hd)
  have hch := fun d hd => hw d (ch_in d hd)
  have heq := fun d hd => hw d (eq_in d hd)
  have hem := fun d hd => hw d (em_in d hd)
  refine Go.of (fun _ kk => castTop (ef21 m x1) kk) ?_
  show Go p e below _ (T0.setTop (mkF m 0 #[.val (.ref x1)] []))
  refine Go.of (t' := T0.setTop (mkF m 1 #[.val (.ref x1)] [(.ref x1)])) (fun _ kk => XS.aloadN W0.here hx rfl (hb hby d21_0) rfl rfl kk) ?_
  refine Go.of (t' := T0.setTop (mkF m 14 #[.val (.ref x1)] [])) (fun _ kk => XS.ifnonnullYes W0.here hx rfl (pc0 := 1) (pc' := 14) rfl (hb hby d21_1) rfl (by decide +kernel) (by decide +kernel) kk) ?_
  refine W0.ldcO hx hEL (hw _ (List.mem_of_getElem? (i := 53) rfl)) hSA rfl (hb hby d21_14) (n := 36) (by decide +kernel) (by decide +kernel) (by decide +kernel) (by decide +kernel) (fun T1 h1 b1 W1 K1 => ?_)
  show Go p e below _ (T1.setTop (mkF m 16 #[.val (.ref x1)] [(.ref b1)]))
  refine Go.of (t' := T1.setTop (mkF m 17 #[.val (.ref x1)] [(.ref x1), (.ref b1)])) (fun _ kk => XS.aloadN W1.here hx rfl (hb hby d21_16) rfl rfl kk) ?_
  refine Go.of (t' := T1.setTop (mkF m 20 #[.val (.ref x1)] [(.int (200 : Int32)), (.ref x1), (.ref b1)])) (fun _ kk => XS.sipush W1.here hx rfl (hb hby d21_17) kk) ?_
  have k3 := (S1.keep0 K1)
  refine W1.callS hx hEL (hw _ (List.mem_of_getElem? (i := 54) rfl)) (hw _ (List.mem_of_getElem? (i := 55) rfl)) (hw _ (List.mem_of_getElem? (i := 51) rfl)) (hw _ (List.mem_of_getElem? (i := 56) rfl)) (by decide +kernel) (argsL := [(.ref b1), (.ref x1), (.int (200 : Int32))]) (rest := []) (rm11 l Z a0 hw hEL zc SC hzc fm SF rfm b1 x1 (200 : Int32) q1 h1 W1.old k3 cq1 aq1 (by decide)) all0 (by decide +kernel) (Wd := 0) (by decide +kernel) (by decide +kernel) (by decide +kernel) all0 rfl (by rw [hml]; rfl) (lenOf pd1 rfl) rfl (by show 2 * 0 + _ ≤ _; exact Nat.le_of_eq rfl) (hb hby d21_20) (fun T2 h2 v2 W2 K2 q2 => ?_)
  obtain ⟨rfl, rfl⟩ := q2
  show Go p e below _ (T2.setTop (mkF m 23 #[.val (.ref x1)] []))
  refine Go.of (t' := T2.setTop (mkF m 24 #[.val (.ref x1)] [(.ref x1)])) (fun _ kk => XS.aloadN W2.here hx rfl (hb hby d21_23) rfl rfl kk) ?_
  refine W2.ldcC hx hEL (by decide +kernel) (hw _ (List.mem_of_getElem? (i := 96) rfl)) hSA [(.int (46 : Int32))] (1 : Int32) (by decide +kernel) (by decide +kernel) (by decide +kernel) rfl (hb hby d21_24) (n := 4) (by decide +kernel) (by decide +kernel) (by decide +kernel) (by decide +kernel) (fun T4 h4 b4 t4 kb4 W4 K4 E4 Fv4 Fc4 A4 N4 => ?_)
  have S4 : Str Z h4 b4 [(46 : Int32)] := ⟨t4, kb4, 0, (1 : Int32), _, E4, Fv4, Fc4, A4, Or.inl ⟨rfl, by decide +kernel, by decide +kernel, by decide +kernel⟩, by decide +kernel, by decide⟩
  show Go p e below _ (T4.setTop (mkF m 26 #[.val (.ref x1)] [(.ref b4), (.ref x1)]))
  have k6 := (k3.keep0 K4)
  refine W4.strEq hx heq (hw _ (List.mem_of_getElem? (i := 6) rfl)) SC hzc k6 S4 (hw _ (List.mem_of_getElem? (i := 97) rfl)) (hw _ (List.mem_of_getElem? (i := 39) rfl)) (hw _ (List.mem_of_getElem? (i := 41) rfl)) (hw _ (List.mem_of_getElem? (i := 40) rfl)) (by decide +kernel) (Wd := 0) (by decide +kernel) (by decide +kernel) (by decide +kernel) rfl (by rw [hml]; rfl) rfl (by show 2 * 0 + _ ≤ _; exact Nat.le_of_eq rfl) (hb hby d21_26) (fun T5 z5 hz5 W5 => ?_)
  obtain ⟨-, hn5⟩ | ⟨rfl, -⟩ := hz5
  case inl => exact absurd hn5 hne
  show Go p e below _ (T5.setTop (mkF m 29 #[.val (.ref x1)] [(.int (0 : Int32))]))
  refine Go.of (t' := T5.setTop (mkF m 32 #[.val (.ref x1)] [])) (fun _ kk => XS.ifNo W5.here hx rfl (hb hby d21_29) rfl (XT.i0_ne_f (by decide +kernel)) kk) ?_
  refine Go.of (t' := T5.setTop (mkF m 33 #[.val (.ref x1)] [(.ref x1)])) (fun _ kk => XS.aloadN W5.here hx rfl (hb hby d21_32) rfl rfl kk) ?_
  refine W5.ldcC hx hEL (by decide +kernel) (hw _ (List.mem_of_getElem? (i := 98) rfl)) hSA [(.int (46 : Int32)), (.int (46 : Int32))] (2 : Int32) (by decide +kernel) (by decide +kernel) (by decide +kernel) rfl (hb hby d21_33) (n := 8) (by decide +kernel) (by decide +kernel) (by decide +kernel) (by decide +kernel) (fun T7 h7 b7 t7 kb7 W7 K7 E7 Fv7 Fc7 A7 N7 => ?_)
  have S7 : Str Z h7 b7 [(46 : Int32), (46 : Int32)] := ⟨t7, kb7, 0, (2 : Int32), _, E7, Fv7, Fc7, A7, Or.inl ⟨rfl, by decide +kernel, by decide +kernel, by decide +kernel⟩, by decide +kernel, by decide⟩
  show Go p e below _ (T7.setTop (mkF m 35 #[.val (.ref x1)] [(.ref b7), (.ref x1)]))
  have k9 := (k6.keep0 K7)
  refine W7.strEq hx heq (hw _ (List.mem_of_getElem? (i := 6) rfl)) SC hzc k9 S7 (hw _ (List.mem_of_getElem? (i := 97) rfl)) (hw _ (List.mem_of_getElem? (i := 39) rfl)) (hw _ (List.mem_of_getElem? (i := 41) rfl)) (hw _ (List.mem_of_getElem? (i := 40) rfl)) (by decide +kernel) (Wd := 0) (by decide +kernel) (by decide +kernel) (by decide +kernel) rfl (by rw [hml]; rfl) rfl (by show 2 * 0 + _ ≤ _; exact Nat.le_of_eq rfl) (hb hby d21_35) (fun T8 z8 hz8 W8 => ?_)
  obtain ⟨-, hn8⟩ | ⟨rfl, -⟩ := hz8
  case inl => exact absurd hn8 (fun q => absurd (congrArg List.length q) (by simp))
  show Go p e below _ (T8.setTop (mkF m 38 #[.val (.ref x1)] [(.int (0 : Int32))]))
  refine Go.of (t' := T8.setTop (mkF m 55 #[.val (.ref x1)] [])) (fun _ kk => XS.ifYes W8.here hx rfl (pc0 := 38) (pc' := 55) rfl (hb hby d21_38) rfl (XT.i0_eq_t (by decide +kernel)) (by decide +kernel) (by decide +kernel) kk) ?_
  refine Go.of (t' := T8.setTop (mkF m 56 #[.val (.ref x1)] [(.ref x1)])) (fun _ kk => XS.aloadN W8.here hx rfl (hb hby d21_55) rfl rfl kk) ?_
  exact W8.retA hx hEL hs hlk (by decide +kernel) (by decide +kernel) hret rfl rfl (hb hby d21_56) rfl
theorem d22_0 : decode prog_9_method_2_code 0 = .ok (.aload_n 0, 1) := by decide +kernel
theorem d22_1 : decode prog_9_method_2_code 1 = .ok (.ifnonnull 13, 3) := by decide +kernel
theorem d22_14 : decode prog_9_method_2_code 14 = .ok (.ldc 14, 2) := by decide +kernel
theorem d22_16 : decode prog_9_method_2_code 16 = .ok (.aload_n 0, 1) := by decide +kernel
theorem d22_17 : decode prog_9_method_2_code 17 = .ok (.sipush 200, 3) := by decide +kernel
theorem d22_20 : decode prog_9_method_2_code 20 = .ok (.invokestatic 18, 3) := by decide +kernel
theorem d22_23 : decode prog_9_method_2_code 23 = .ok (.aload_n 0, 1) := by decide +kernel
theorem d22_24 : decode prog_9_method_2_code 24 = .ok (.ldc 22, 2) := by decide +kernel
theorem d22_26 : decode prog_9_method_2_code 26 = .ok (.invokevirtual 24, 3) := by decide +kernel
theorem d22_29 : decode prog_9_method_2_code 29 = .ok (.ifCond .ne 12, 3) := by decide +kernel
theorem d22_32 : decode prog_9_method_2_code 32 = .ok (.aload_n 0, 1) := by decide +kernel
theorem d22_33 : decode prog_9_method_2_code 33 = .ok (.ldc 30, 2) := by decide +kernel
theorem d22_35 : decode prog_9_method_2_code 35 = .ok (.invokevirtual 24, 3) := by decide +kernel
theorem d22_38 : decode prog_9_method_2_code 38 = .ok (.ifCond .eq 17, 3) := by decide +kernel
theorem d22_55 : decode prog_9_method_2_code 55 = .ok (.aload_n 0, 1) := by decide +kernel
theorem d22_56 : decode prog_9_method_2_code 56 = .ok (.areturn, 1) := by decide +kernel
theorem ef22 (m : MethodId) (x0 : Addr)  : entryFrame m #[(.ref x0)] 1 = mkF m 0 #[.val (.ref x0)] [] := by first | (simp [entryFrame, mkF, argsToLocals, Value.category]; done) | rfl | rfl
set_option maxRecDepth 65536 in
set_option maxHeartbeats 40000000 in
theorem rm22 (l : Launch) (Z : State) (a0 : Array Value) (hw : ∀ d ∈ tables_1, d.before a0 Z = true) (hEL : EW Z a0 EL0) (zc : Int32) (SC : Sta Z Z.heap "java/lang/String" "COMPACT_STRINGS" "Z" (.int zc)) (hzc : ¬ zc = 0) (fm : Value) (SF : Sta Z Z.heap "jdk/internal/util/Preconditions" "SIOOBE_FORMATTER" "Ljava/util/function/BiFunction;" fm) (rfm : fm.isRef = true) (x1 : Addr) (q1 : Int32) (q2 : Int32) (h0 : Heap) {n0 : Nat} (O0 : Old Z n0 h0) (S1 : Str Z h0 x1 [q1, q2]) (cq1 : ¬ q1 < 0 ∧ ¬ (255 : Int32) < q1) (cq2 : ¬ q2 < 0 ∧ ¬ (255 : Int32) < q2) (aq1 : Alw q1) (aq2 : Alw q2) (hne : ¬ ([q1, q2] = [(46 : Int32), (46 : Int32)])) :
    Met l Z EL0 n0 (⟨"com/example/sem1/sem1/internal/LockNames", "requireValid", "(Ljava/lang/String;)Ljava/lang/String;"⟩ : MethodName) prog_9_method_2_code 1 (some (.object "java/lang/String")) [] ({ frames := 5, cells := 6, slots := 60, locals := 68 } : Room) #[(.ref x1)] h0 [] [] (fun v h' => v = some (.ref x1)) := by
  refine Met.of (plainFor_of_name pn1) O0 ?_
  intro p e s m below meth c T0 hx hby hml hret hlk hnm hs W0
  have W0 : Wk p l e _ s m _ below meth c Z EL0 n0 [] "com/example/sem1/sem1/internal/LockNames" [] T0 0 0 h0 := W0
  have hSA := fun d hd => hw d (sa_in d hd)
  have hws := fun d hd => hw d (ws_in d hd)
  have hln := fun d hd => hw d (ln_in d hd)
  have hch := fun d hd => hw d (ch_in d hd)
  have heq := fun d hd => hw d (eq_in d hd)
  have hem := fun d hd => hw d (em_in d hd)
  refine Go.of (fun _ kk => castTop (ef22 m x1) kk) ?_
  show Go p e below _ (T0.setTop (mkF m 0 #[.val (.ref x1)] []))
  refine Go.of (t' := T0.setTop (mkF m 1 #[.val (.ref x1)] [(.ref x1)])) (fun _ kk => XS.aloadN W0.here hx rfl (hb hby d22_0) rfl rfl kk) ?_
  refine Go.of (t' := T0.setTop (mkF m 14 #[.val (.ref x1)] [])) (fun _ kk => XS.ifnonnullYes W0.here hx rfl (pc0 := 1) (pc' := 14) rfl (hb hby d22_1) rfl (by decide +kernel) (by decide +kernel) kk) ?_
  refine W0.ldcO hx hEL (hw _ (List.mem_of_getElem? (i := 53) rfl)) hSA rfl (hb hby d22_14) (n := 36) (by decide +kernel) (by decide +kernel) (by decide +kernel) (by decide +kernel) (fun T1 h1 b1 W1 K1 => ?_)
  show Go p e below _ (T1.setTop (mkF m 16 #[.val (.ref x1)] [(.ref b1)]))
  refine Go.of (t' := T1.setTop (mkF m 17 #[.val (.ref x1)] [(.ref x1), (.ref b1)])) (fun _ kk => XS.aloadN W1.here hx rfl (hb hby d22_16) rfl rfl kk) ?_
  refine Go.of (t' := T1.setTop (mkF m 20 #[.val (.ref x1)] [(.int (200 : Int32)), (.ref x1), (.ref b1)])) (fun _ kk => XS.sipush W1.here hx rfl (hb hby d22_17) kk) ?_
  have k3 := (S1.keep0 K1)
  refine W1.callS hx hEL (hw _ (List.mem_of_getElem? (i := 54) rfl)) (hw _ (List.mem_of_getElem? (i := 55) rfl)) (hw _ (List.mem_of_getElem? (i := 51) rfl)) (hw _ (List.mem_of_getElem? (i := 56) rfl)) (by decide +kernel) (argsL := [(.ref b1), (.ref x1), (.int (200 : Int32))]) (rest := []) (rm12 l Z a0 hw hEL zc SC hzc fm SF rfm b1 x1 (200 : Int32) q1 q2 h1 W1.old k3 cq1 cq2 aq1 aq2 (by decide)) all0 (by decide +kernel) (Wd := 0) (by decide +kernel) (by decide +kernel) (by decide +kernel) all0 rfl (by rw [hml]; rfl) (lenOf pd1 rfl) rfl (by show 2 * 0 + _ ≤ _; exact Nat.le_of_eq rfl) (hb hby d22_20) (fun T2 h2 v2 W2 K2 q2 => ?_)
  obtain ⟨rfl, rfl⟩ := q2
  show Go p e below _ (T2.setTop (mkF m 23 #[.val (.ref x1)] []))
  refine Go.of (t' := T2.setTop (mkF m 24 #[.val (.ref x1)] [(.ref x1)])) (fun _ kk => XS.aloadN W2.here hx rfl (hb hby d22_23) rfl rfl kk) ?_
  refine W2.ldcC hx hEL (by decide +kernel) (hw _ (List.mem_of_getElem? (i := 96) rfl)) hSA [(.int (46 : Int32))] (1 : Int32) (by decide +kernel) (by decide +kernel) (by decide +kernel) rfl (hb hby d22_24) (n := 4) (by decide +kernel) (by decide +kernel) (by decide +kernel) (by decide +kernel) (fun T4 h4 b4 t4 kb4 W4 K4 E4 Fv4 Fc4 A4 N4 => ?_)
  have S4 : Str Z h4 b4 [(46 : Int32)] := ⟨t4, kb4, 0, (1 : Int32), _, E4, Fv4, Fc4, A4, Or.inl ⟨rfl, by decide +kernel, by decide +kernel, by decide +kernel⟩, by decide +kernel, by decide⟩
  show Go p e below _ (T4.setTop (mkF m 26 #[.val (.ref x1)] [(.ref b4), (.ref x1)]))
  have k6 := (k3.keep0 K4)
  refine W4.strEq hx heq (hw _ (List.mem_of_getElem? (i := 6) rfl)) SC hzc k6 S4 (hw _ (List.mem_of_getElem? (i := 97) rfl)) (hw _ (List.mem_of_getElem? (i := 39) rfl)) (hw _ (List.mem_of_getElem? (i := 41) rfl)) (hw _ (List.mem_of_getElem? (i := 40) rfl)) (by decide +kernel) (Wd := 0) (by decide +kernel) (by decide +kernel) (by decide +kernel) rfl (by rw [hml]; rfl) rfl (by show 2 * 0 + _ ≤ _; exact Nat.le_of_eq rfl) (hb hby d22_26) (fun T5 z5 hz5 W5 => ?_)
  obtain ⟨-, hn5⟩ | ⟨rfl, -⟩ := hz5
  case inl => exact absurd hn5 (fun q => absurd (congrArg List.length q) (by simp))
  show Go p e below _ (T5.setTop (mkF m 29 #[.val (.ref x1)] [(.int (0 : Int32))]))
  refine Go.of (t' := T5.setTop (mkF m 32 #[.val (.ref x1)] [])) (fun _ kk => XS.ifNo W5.here hx rfl (hb hby d22_29) rfl (XT.i0_ne_f (by decide +kernel)) kk) ?_
  refine Go.of (t' := T5.setTop (mkF m 33 #[.val (.ref x1)] [(.ref x1)])) (fun _ kk => XS.aloadN W5.here hx rfl (hb hby d22_32) rfl rfl kk) ?_
  refine W5.ldcC hx hEL (by decide +kernel) (hw _ (List.mem_of_getElem? (i := 98) rfl)) hSA [(.int (46 : Int32)), (.int (46 : Int32))] (2 : Int32) (by decide +kernel) (by decide +kernel) (by decide +kernel) rfl (hb hby d22_33) (n := 8) (by decide +kernel) (by decide +kernel) (by decide +kernel) (by decide +kernel) (fun T7 h7 b7 t7 kb7 W7 K7 E7 Fv7 Fc7 A7 N7 => ?_)
  have S7 : Str Z h7 b7 [(46 : Int32), (46 : Int32)] := ⟨t7, kb7, 0, (2 : Int32), _, E7, Fv7, Fc7, A7, Or.inl ⟨rfl, by decide +kernel, by decide +kernel, by decide +kernel⟩, by decide +kernel, by decide⟩
  show Go p e below _ (T7.setTop (mkF m 35 #[.val (.ref x1)] [(.ref b7), (.ref x1)]))
  have k9 := (k6.keep0 K7)
  refine W7.strEq hx heq (hw _ (List.mem_of_getElem? (i := 6) rfl)) SC hzc k9 S7 (hw _ (List.mem_of_getElem? (i := 97) rfl)) (hw _ (List.mem_of_getElem? (i := 39) rfl)) (hw _ (List.mem_of_getElem? (i := 41) rfl)) (hw _ (List.mem_of_getElem? (i := 40) rfl)) (by decide +kernel) (Wd := 0) (by decide +kernel) (by decide +kernel) (by decide +kernel) rfl (by rw [hml]; rfl) rfl (by show 2 * 0 + _ ≤ _; exact Nat.le_of_eq rfl) (hb hby d22_35) (fun T8 z8 hz8 W8 => ?_)
  obtain ⟨-, hn8⟩ | ⟨rfl, -⟩ := hz8
  case inl => exact absurd hn8 hne
  show Go p e below _ (T8.setTop (mkF m 38 #[.val (.ref x1)] [(.int (0 : Int32))]))
  refine Go.of (t' := T8.setTop (mkF m 55 #[.val (.ref x1)] [])) (fun _ kk => XS.ifYes W8.here hx rfl (pc0 := 38) (pc' := 55) rfl (hb hby d22_38) rfl (XT.i0_eq_t (by decide +kernel)) (by decide +kernel) (by decide +kernel) kk) ?_
  refine Go.of (t' := T8.setTop (mkF m 56 #[.val (.ref x1)] [(.ref x1)])) (fun _ kk => XS.aloadN W8.here hx rfl (hb hby d22_55) rfl rfl kk) ?_
  exact W8.retA hx hEL hs hlk (by decide +kernel) (by decide +kernel) hret rfl rfl (hb hby d22_56) rfl
theorem d23_0 : decode prog_9_method_2_code 0 = .ok (.aload_n 0, 1) := by decide +kernel
theorem d23_1 : decode prog_9_method_2_code 1 = .ok (.ifnonnull 13, 3) := by decide +kernel
theorem d23_14 : decode prog_9_method_2_code 14 = .ok (.ldc 14, 2) := by decide +kernel
theorem d23_16 : decode prog_9_method_2_code 16 = .ok (.aload_n 0, 1) := by decide +kernel
theorem d23_17 : decode prog_9_method_2_code 17 = .ok (.sipush 200, 3) := by decide +kernel
theorem d23_20 : decode prog_9_method_2_code 20 = .ok (.invokestatic 18, 3) := by decide +kernel
theorem d23_23 : decode prog_9_method_2_code 23 = .ok (.aload_n 0, 1) := by decide +kernel
theorem d23_24 : decode prog_9_method_2_code 24 = .ok (.ldc 22, 2) := by decide +kernel
theorem d23_26 : decode prog_9_method_2_code 26 = .ok (.invokevirtual 24, 3) := by decide +kernel
theorem d23_29 : decode prog_9_method_2_code 29 = .ok (.ifCond .ne 12, 3) := by decide +kernel
theorem d23_32 : decode prog_9_method_2_code 32 = .ok (.aload_n 0, 1) := by decide +kernel
theorem d23_33 : decode prog_9_method_2_code 33 = .ok (.ldc 30, 2) := by decide +kernel
theorem d23_35 : decode prog_9_method_2_code 35 = .ok (.invokevirtual 24, 3) := by decide +kernel
theorem d23_38 : decode prog_9_method_2_code 38 = .ok (.ifCond .eq 17, 3) := by decide +kernel
theorem d23_55 : decode prog_9_method_2_code 55 = .ok (.aload_n 0, 1) := by decide +kernel
theorem d23_56 : decode prog_9_method_2_code 56 = .ok (.areturn, 1) := by decide +kernel
theorem ef23 (m : MethodId) (x0 : Addr)  : entryFrame m #[(.ref x0)] 1 = mkF m 0 #[.val (.ref x0)] [] := by first | (simp [entryFrame, mkF, argsToLocals, Value.category]; done) | rfl | rfl
set_option maxRecDepth 65536 in
set_option maxHeartbeats 40000000 in
theorem rm23 (l : Launch) (Z : State) (a0 : Array Value) (hw : ∀ d ∈ tables_1, d.before a0 Z = true) (hEL : EW Z a0 EL0) (zc : Int32) (SC : Sta Z Z.heap "java/lang/String" "COMPACT_STRINGS" "Z" (.int zc)) (hzc : ¬ zc = 0) (fm : Value) (SF : Sta Z Z.heap "jdk/internal/util/Preconditions" "SIOOBE_FORMATTER" "Ljava/util/function/BiFunction;" fm) (rfm : fm.isRef = true) (x1 : Addr) (q1 : Int32) (q2 : Int32) (q3 : Int32) (h0 : Heap) {n0 : Nat} (O0 : Old Z n0 h0) (S1 : Str Z h0 x1 [q1, q2, q3]) (cq1 : ¬ q1 < 0 ∧ ¬ (255 : Int32) < q1) (cq2 : ¬ q2 < 0 ∧ ¬ (255 : Int32) < q2) (cq3 : ¬ q3 < 0 ∧ ¬ (255 : Int32) < q3) (aq1 : Alw q1) (aq2 : Alw q2) (aq3 : Alw q3) :
    Met l Z EL0 n0 (⟨"com/example/sem1/sem1/internal/LockNames", "requireValid", "(Ljava/lang/String;)Ljava/lang/String;"⟩ : MethodName) prog_9_method_2_code 1 (some (.object "java/lang/String")) [] ({ frames := 5, cells := 6, slots := 60, locals := 68 } : Room) #[(.ref x1)] h0 [] [] (fun v h' => v = some (.ref x1)) := by
  refine Met.of (plainFor_of_name pn1) O0 ?_
  intro p e s m below meth c T0 hx hby hml hret hlk hnm hs W0
  have W0 : Wk p l e _ s m _ below meth c Z EL0 n0 [] "com/example/sem1/sem1/internal/LockNames" [] T0 0 0 h0 := W0
  have hSA := fun d hd => hw d (sa_in d hd)
  have hws := fun d hd => hw d (ws_in d hd)
  have hln := fun d hd => hw d (ln_in d hd)
  have hch := fun d hd => hw d (ch_in d hd)
  have heq := fun d hd => hw d (eq_in d hd)
  have hem := fun d hd => hw d (em_in d hd)
  refine Go.of (fun _ kk => castTop (ef23 m x1) kk) ?_
  show Go p e below _ (T0.setTop (mkF m 0 #[.val (.ref x1)] []))
  refine Go.of (t' := T0.setTop (mkF m 1 #[.val (.ref x1)] [(.ref x1)])) (fun _ kk => XS.aloadN W0.here hx rfl (hb hby d23_0) rfl rfl kk) ?_
  refine Go.of (t' := T0.setTop (mkF m 14 #[.val (.ref x1)] [])) (fun _ kk => XS.ifnonnullYes W0.here hx rfl (pc0 := 1) (pc' := 14) rfl (hb hby d23_1) rfl (by decide +kernel) (by decide +kernel) kk) ?_
  refine W0.ldcO hx hEL (hw _ (List.mem_of_getElem? (i := 53) rfl)) hSA rfl (hb hby d23_14) (n := 36) (by decide +kernel) (by decide +kernel) (by decide +kernel) (by decide +kernel) (fun T1 h1 b1 W1 K1 => ?_)
  show Go p e below _ (T1.setTop (mkF m 16 #[.val (.ref x1)] [(.ref b1)]))
  refine Go.of (t' := T1.setTop (mkF m 17 #[.val (.ref x1)] [(.ref x1), (.ref b1)])) (fun _ kk => XS.aloadN W1.here hx rfl (hb hby d23_16) rfl rfl kk) ?_
  refine Go.of (t' := T1.setTop (mkF m 20 #[.val (.ref x1)] [(.int (200 : Int32)), (.ref x1), (.ref b1)])) (fun _ kk => XS.sipush W1.here hx rfl (hb hby d23_17) kk) ?_
  have k3 := (S1.keep0 K1)
  refine W1.callS hx hEL (hw _ (List.mem_of_getElem? (i := 54) rfl)) (hw _ (List.mem_of_getElem? (i := 55) rfl)) (hw _ (List.mem_of_getElem? (i := 51) rfl)) (hw _ (List.mem_of_getElem? (i := 56) rfl)) (by decide +kernel) (argsL := [(.ref b1), (.ref x1), (.int (200 : Int32))]) (rest := []) (rm13 l Z a0 hw hEL zc SC hzc fm SF rfm b1 x1 (200 : Int32) q1 q2 q3 h1 W1.old k3 cq1 cq2 cq3 aq1 aq2 aq3 (by decide)) all0 (by decide +kernel) (Wd := 0) (by decide +kernel) (by decide +kernel) (by decide +kernel) all0 rfl (by rw [hml]; rfl) (lenOf pd1 rfl) rfl (by show 2 * 0 + _ ≤ _; exact Nat.le_of_eq rfl) (hb hby d23_20) (fun T2 h2 v2 W2 K2 q2 => ?_)
  obtain ⟨rfl, rfl⟩ := q2
  show Go p e below _ (T2.setTop (mkF m 23 #[.val (.ref x1)] []))
  refine Go.of (t' := T2.setTop (mkF m 24 #[.val (.ref x1)] [(.ref x1)])) (fun _ kk => XS.aloadN W2.here hx rfl (hb hby d23_23) rfl rfl kk) ?_
  refine W2.ldcC hx hEL (by decide +kernel) (hw _ (List.mem_of_getElem? (i := 96) rfl)) hSA [(.int (46 : Int32))] (1 : Int32) (by decide +kernel) (by decide +kernel) (by decide +kernel) rfl (hb hby d23_24) (n := 4) (by decide +kernel) (by decide +kernel) (by decide +kernel) (by decide +kernel) (fun T4 h4 b4 t4 kb4 W4 K4 E4 Fv4 Fc4 A4 N4 => ?_)
  have S4 : Str Z h4 b4 [(46 : Int32)] := ⟨t4, kb4, 0, (1 : Int32), _, E4, Fv4, Fc4, A4, Or.inl ⟨rfl, by decide +kernel, by decide +kernel, by decide +kernel⟩, by decide +kernel, by decide⟩
  show Go p e below _ (T4.setTop (mkF m 26 #[.val (.ref x1)] [(.ref b4), (.ref x1)]))
  have k6 := (k3.keep0 K4)
  refine W4.strEq hx heq (hw _ (List.mem_of_getElem? (i := 6) rfl)) SC hzc k6 S4 (hw _ (List.mem_of_getElem? (i := 97) rfl)) (hw _ (List.mem_of_getElem? (i := 39) rfl)) (hw _ (List.mem_of_getElem? (i := 41) rfl)) (hw _ (List.mem_of_getElem? (i := 40) rfl)) (by decide +kernel) (Wd := 0) (by decide +kernel) (by decide +kernel) (by decide +kernel) rfl (by rw [hml]; rfl) rfl (by show 2 * 0 + _ ≤ _; exact Nat.le_of_eq rfl) (hb hby d23_26) (fun T5 z5 hz5 W5 => ?_)
  obtain ⟨-, hn5⟩ | ⟨rfl, -⟩ := hz5
  case inl => exact absurd hn5 (fun q => absurd (congrArg List.length q) (by simp))
  show Go p e below _ (T5.setTop (mkF m 29 #[.val (.ref x1)] [(.int (0 : Int32))]))
  refine Go.of (t' := T5.setTop (mkF m 32 #[.val (.ref x1)] [])) (fun _ kk => XS.ifNo W5.here hx rfl (hb hby d23_29) rfl (XT.i0_ne_f (by decide +kernel)) kk) ?_
  refine Go.of (t' := T5.setTop (mkF m 33 #[.val (.ref x1)] [(.ref x1)])) (fun _ kk => XS.aloadN W5.here hx rfl (hb hby d23_32) rfl rfl kk) ?_
  refine W5.ldcC hx hEL (by decide +kernel) (hw _ (List.mem_of_getElem? (i := 98) rfl)) hSA [(.int (46 : Int32)), (.int (46 : Int32))] (2 : Int32) (by decide +kernel) (by decide +kernel) (by decide +kernel) rfl (hb hby d23_33) (n := 8) (by decide +kernel) (by decide +kernel) (by decide +kernel) (by decide +kernel) (fun T7 h7 b7 t7 kb7 W7 K7 E7 Fv7 Fc7 A7 N7 => ?_)
  have S7 : Str Z h7 b7 [(46 : Int32), (46 : Int32)] := ⟨t7, kb7, 0, (2 : Int32), _, E7, Fv7, Fc7, A7, Or.inl ⟨rfl, by decide +kernel, by decide +kernel, by decide +kernel⟩, by decide +kernel, by decide⟩
  show Go p e below _ (T7.setTop (mkF m 35 #[.val (.ref x1)] [(.ref b7), (.ref x1)]))
  have k9 := (k6.keep0 K7)
  refine W7.strEq hx heq (hw _ (List.mem_of_getElem? (i := 6) rfl)) SC hzc k9 S7 (hw _ (List.mem_of_getElem? (i := 97) rfl)) (hw _ (List.mem_of_getElem? (i := 39) rfl)) (hw _ (List.mem_of_getElem? (i := 41) rfl)) (hw _ (List.mem_of_getElem? (i := 40) rfl)) (by decide +kernel) (Wd := 0) (by decide +kernel) (by decide +kernel) (by decide +kernel) rfl (by rw [hml]; rfl) rfl (by show 2 * 0 + _ ≤ _; exact Nat.le_of_eq rfl) (hb hby d23_35) (fun T8 z8 hz8 W8 => ?_)
  obtain ⟨-, hn8⟩ | ⟨rfl, -⟩ := hz8
  case inl => exact absurd hn8 (fun q => absurd (congrArg List.length q) (by simp))
  show Go p e below _ (T8.setTop (mkF m 38 #[.val (.ref x1)] [(.int (0 : Int32))]))
  refine Go.of (t' := T8.setTop (mkF m 55 #[.val (.ref x1)] [])) (fun _ kk => XS.ifYes W8.here hx rfl (pc0 := 38) (pc' := 55) rfl (hb hby d23_38) rfl (XT.i0_eq_t (by decide +kernel)) (by decide +kernel) (by decide +kernel) kk) ?_
  refine Go.of (t' := T8.setTop (mkF m 56 #[.val (.ref x1)] [(.ref x1)])) (fun _ kk => XS.aloadN W8.here hx rfl (hb hby d23_55) rfl rfl kk) ?_
  exact W8.retA hx hEL hs hlk (by decide +kernel) (by decide +kernel) hret rfl rfl (hb hby d23_56) rfl
theorem d24_0 : decode prog_9_method_2_code 0 = .ok (.aload_n 0, 1) := by decide +kernel
theorem d24_1 : decode prog_9_method_2_code 1 = .ok (.ifnonnull 13, 3) := by decide +kernel
theorem d24_14 : decode prog_9_method_2_code 14 = .ok (.ldc 14, 2) := by decide +kernel
theorem d24_16 : decode prog_9_method_2_code 16 = .ok (.aload_n 0, 1) := by decide +kernel
theorem d24_17 : decode prog_9_method_2_code 17 = .ok (.sipush 200, 3) := by decide +kernel
theorem d24_20 : decode prog_9_method_2_code 20 = .ok (.invokestatic 18, 3) := by decide +kernel
theorem d24_23 : decode prog_9_method_2_code 23 = .ok (.aload_n 0, 1) := by decide +kernel
theorem d24_24 : decode prog_9_method_2_code 24 = .ok (.ldc 22, 2) := by decide +kernel
theorem d24_26 : decode prog_9_method_2_code 26 = .ok (.invokevirtual 24, 3) := by decide +kernel
theorem d24_29 : decode prog_9_method_2_code 29 = .ok (.ifCond .ne 12, 3) := by decide +kernel
theorem d24_32 : decode prog_9_method_2_code 32 = .ok (.aload_n 0, 1) := by decide +kernel
theorem d24_33 : decode prog_9_method_2_code 33 = .ok (.ldc 30, 2) := by decide +kernel
theorem d24_35 : decode prog_9_method_2_code 35 = .ok (.invokevirtual 24, 3) := by decide +kernel
theorem d24_38 : decode prog_9_method_2_code 38 = .ok (.ifCond .eq 17, 3) := by decide +kernel
theorem d24_55 : decode prog_9_method_2_code 55 = .ok (.aload_n 0, 1) := by decide +kernel
theorem d24_56 : decode prog_9_method_2_code 56 = .ok (.areturn, 1) := by decide +kernel
theorem ef24 (m : MethodId) (x0 : Addr)  : entryFrame m #[(.ref x0)] 1 = mkF m 0 #[.val (.ref x0)] [] := by first | (simp [entryFrame, mkF, argsToLocals, Value.category]; done) | rfl | rfl
set_option maxRecDepth 65536 in
set_option maxHeartbeats 40000000 in
theorem rm24 (l : Launch) (Z : State) (a0 : Array Value) (hw : ∀ d ∈ tables_1, d.before a0 Z = true) (hEL : EW Z a0 EL0) (zc : Int32) (SC : Sta Z Z.heap "java/lang/String" "COMPACT_STRINGS" "Z" (.int zc)) (hzc : ¬ zc = 0) (fm : Value) (SF : Sta Z Z.heap "jdk/internal/util/Preconditions" "SIOOBE_FORMATTER" "Ljava/util/function/BiFunction;" fm) (rfm : fm.isRef = true) (x1 : Addr) (q1 : Int32) (q2 : Int32) (q3 : Int32) (q4 : Int32) (h0 : Heap) {n0 : Nat} (O0 : Old Z n0 h0) (S1 : Str Z h0 x1 [q1, q2, q3, q4]) (cq1 : ¬ q1 < 0 ∧ ¬ (255 : Int32) < q1) (cq2 : ¬ q2 < 0 ∧ ¬ (255 : Int32) < q2) (cq3 : ¬ q3 < 0 ∧ ¬ (255 : Int32) < q3) (cq4 : ¬ q4 < 0 ∧ ¬ (255 : Int32) < q4) (aq1 : Alw q1) (aq2 : Alw q2) (aq3 : Alw q3) (aq4 : Alw q4) :
    Met l Z EL0 n0 (⟨"com/example/sem1/sem1/internal/LockNames", "requireValid", "(Ljava/lang/String;)Ljava/lang/String;"⟩ : MethodName) prog_9_method_2_code 1 (some (.object "java/lang/String")) [] ({ frames := 5, cells := 6, slots := 60, locals := 68 } : Room) #[(.ref x1)] h0 [] [] (fun v h' => v = some (.ref x1)) := by
  refine Met.of (plainFor_of_name pn1) O0 ?_
  intro p e s m below meth c T0 hx hby hml hret hlk hnm hs W0
  have W0 : Wk p l e _ s m _ below meth c Z EL0 n0 [] "com/example/sem1/sem1/internal/LockNames" [] T0 0 0 h0 := W0
  have hSA := fun d hd => hw d (sa_in d hd)
  have hws := fun d hd => hw d (ws_in d hd)
  have hln := fun d hd => hw d (ln_in d hd)
  have hch := fun d hd => hw d (ch_in d hd)
  have heq := fun d hd => hw d (eq_in d hd)
  have hem := fun d hd => hw d (em_in d hd)
  refine Go.of (fun _ kk => castTop (ef24 m x1) kk) ?_
  show Go p e below _ (T0.setTop (mkF m 0 #[.val (.ref x1)] []))
  refine Go.of (t' := T0.setTop (mkF m 1 #[.val (.ref x1)] [(.ref x1)])) (fun _ kk => XS.aloadN W0.here hx rfl (hb hby d24_0) rfl rfl kk) ?_
  refine Go.of (t' := T0.setTop (mkF m 14 #[.val (.ref x1)] [])) (fun _ kk => XS.ifnonnullYes W0.here hx rfl (pc0 := 1) (pc' := 14) rfl (hb hby d24_1) rfl (by decide +kernel) (by decide +kernel) kk) ?_
  refine W0.ldcO hx hEL (hw _ (List.mem_of_getElem? (i := 53) rfl)) hSA rfl (hb hby d24_14) (n := 36) (by decide +kernel) (by decide +kernel) (by decide +kernel) (by decide +kernel) (fun T1 h1 b1 W1 K1 => ?_)
  show Go p e below _ (T1.setTop (mkF m 16 #[.val (.ref x1)] [(.ref b1)]))
  refine Go.of (t' := T1.setTop (mkF m 17 #[.val (.ref x1)] [(.ref x1), (.ref b1)])) (fun _ kk => XS.aloadN W1.here hx rfl (hb hby d24_16) rfl rfl kk) ?_
  refine Go.of (t' := T1.setTop (mkF m 20 #[.val (.ref x1)] [(.int (200 : Int32)), (.ref x1), (.ref b1)])) (fun _ kk => XS.sipush W1.here hx rfl (hb hby d24_17) kk) ?_
  have k3 := (S1.keep0 K1)
  refine W1.callS hx hEL (hw _ (List.mem_of_getElem? (i := 54) rfl)) (hw _ (List.mem_of_getElem? (i := 55) rfl)) (hw _ (List.mem_of_getElem? (i := 51) rfl)) (hw _ (List.mem_of_getElem? (i := 56) rfl)) (by decide +kernel) (argsL := [(.ref b1), (.ref x1), (.int (200 : Int32))]) (rest := []) (rm14 l Z a0 hw hEL zc SC hzc fm SF rfm b1 x1 (200 : Int32) q1 q2 q3 q4 h1 W1.old k3 cq1 cq2 cq3 cq4 aq1 aq2 aq3 aq4 (by decide)) all0 (by decide +kernel) (Wd := 0) (by decide +kernel) (by decide +kernel) (by decide +kernel) all0 rfl (by rw [hml]; rfl) (lenOf pd1 rfl) rfl (by show 2 * 0 + _ ≤ _; exact Nat.le_of_eq rfl) (hb hby d24_20) (fun T2 h2 v2 W2 K2 q2 => ?_)
  obtain ⟨rfl, rfl⟩ := q2
  show Go p e below _ (T2.setTop (mkF m 23 #[.val (.ref x1)] []))
  refine Go.of (t' := T2.setTop (mkF m 24 #[.val (.ref x1)] [(.ref x1)])) (fun _ kk => XS.aloadN W2.here hx rfl (hb hby d24_23) rfl rfl kk) ?_
  refine W2.ldcC hx hEL (by decide +kernel) (hw _ (List.mem_of_getElem? (i := 96) rfl)) hSA [(.int (46 : Int32))] (1 : Int32) (by decide +kernel) (by decide +kernel) (by decide +kernel) rfl (hb hby d24_24) (n := 4) (by decide +kernel) (by decide +kernel) (by decide +kernel) (by decide +kernel) (fun T4 h4 b4 t4 kb4 W4 K4 E4 Fv4 Fc4 A4 N4 => ?_)
  have S4 : Str Z h4 b4 [(46 : Int32)] := ⟨t4, kb4, 0, (1 : Int32), _, E4, Fv4, Fc4, A4, Or.inl ⟨rfl, by decide +kernel, by decide +kernel, by decide +kernel⟩, by decide +kernel, by decide⟩
  show Go p e below _ (T4.setTop (mkF m 26 #[.val (.ref x1)] [(.ref b4), (.ref x1)]))
  have k6 := (k3.keep0 K4)
  refine W4.strEq hx heq (hw _ (List.mem_of_getElem? (i := 6) rfl)) SC hzc k6 S4 (hw _ (List.mem_of_getElem? (i := 97) rfl)) (hw _ (List.mem_of_getElem? (i := 39) rfl)) (hw _ (List.mem_of_getElem? (i := 41) rfl)) (hw _ (List.mem_of_getElem? (i := 40) rfl)) (by decide +kernel) (Wd := 0) (by decide +kernel) (by decide +kernel) (by decide +kernel) rfl (by rw [hml]; rfl) rfl (by show 2 * 0 + _ ≤ _; exact Nat.le_of_eq rfl) (hb hby d24_26) (fun T5 z5 hz5 W5 => ?_)
  obtain ⟨-, hn5⟩ | ⟨rfl, -⟩ := hz5
  case inl => exact absurd hn5 (fun q => absurd (congrArg List.length q) (by simp))
  show Go p e below _ (T5.setTop (mkF m 29 #[.val (.ref x1)] [(.int (0 : Int32))]))
  refine Go.of (t' := T5.setTop (mkF m 32 #[.val (.ref x1)] [])) (fun _ kk => XS.ifNo W5.here hx rfl (hb hby d24_29) rfl (XT.i0_ne_f (by decide +kernel)) kk) ?_
  refine Go.of (t' := T5.setTop (mkF m 33 #[.val (.ref x1)] [(.ref x1)])) (fun _ kk => XS.aloadN W5.here hx rfl (hb hby d24_32) rfl rfl kk) ?_
  refine W5.ldcC hx hEL (by decide +kernel) (hw _ (List.mem_of_getElem? (i := 98) rfl)) hSA [(.int (46 : Int32)), (.int (46 : Int32))] (2 : Int32) (by decide +kernel) (by decide +kernel) (by decide +kernel) rfl (hb hby d24_33) (n := 8) (by decide +kernel) (by decide +kernel) (by decide +kernel) (by decide +kernel) (fun T7 h7 b7 t7 kb7 W7 K7 E7 Fv7 Fc7 A7 N7 => ?_)
  have S7 : Str Z h7 b7 [(46 : Int32), (46 : Int32)] := ⟨t7, kb7, 0, (2 : Int32), _, E7, Fv7, Fc7, A7, Or.inl ⟨rfl, by decide +kernel, by decide +kernel, by decide +kernel⟩, by decide +kernel, by decide⟩
  show Go p e below _ (T7.setTop (mkF m 35 #[.val (.ref x1)] [(.ref b7), (.ref x1)]))
  have k9 := (k6.keep0 K7)
  refine W7.strEq hx heq (hw _ (List.mem_of_getElem? (i := 6) rfl)) SC hzc k9 S7 (hw _ (List.mem_of_getElem? (i := 97) rfl)) (hw _ (List.mem_of_getElem? (i := 39) rfl)) (hw _ (List.mem_of_getElem? (i := 41) rfl)) (hw _ (List.mem_of_getElem? (i := 40) rfl)) (by decide +kernel) (Wd := 0) (by decide +kernel) (by decide +kernel) (by decide +kernel) rfl (by rw [hml]; rfl) rfl (by show 2 * 0 + _ ≤ _; exact Nat.le_of_eq rfl) (hb hby d24_35) (fun T8 z8 hz8 W8 => ?_)
  obtain ⟨-, hn8⟩ | ⟨rfl, -⟩ := hz8
  case inl => exact absurd hn8 (fun q => absurd (congrArg List.length q) (by simp))
  show Go p e below _ (T8.setTop (mkF m 38 #[.val (.ref x1)] [(.int (0 : Int32))]))
  refine Go.of (t' := T8.setTop (mkF m 55 #[.val (.ref x1)] [])) (fun _ kk => XS.ifYes W8.here hx rfl (pc0 := 38) (pc' := 55) rfl (hb hby d24_38) rfl (XT.i0_eq_t (by decide +kernel)) (by decide +kernel) (by decide +kernel) kk) ?_
  refine Go.of (t' := T8.setTop (mkF m 56 #[.val (.ref x1)] [(.ref x1)])) (fun _ kk => XS.aloadN W8.here hx rfl (hb hby d24_55) rfl rfl kk) ?_
  exact W8.retA hx hEL hs hlk (by decide +kernel) (by decide +kernel) hret rfl rfl (hb hby d24_56) rfl
theorem ef0 (m : MethodId) (x0 : Int32) (x1 : Int32) (x2 : Int32) (x3 : Int32) (x4 : Int32)  : entryFrame m #[(.int x0), (.int x1), (.int x2), (.int x3), (.int x4)] maxLocals = mkF m 0 #[.val (.int x0), .val (.int x1), .val (.int x2), .val (.int x3), .val (.int x4), .unset, .unset, .unset, .unset, .unset, .unset, .unset] [] := by first | (simp [entryFrame, mkF, argsToLocals, Value.category, maxLocals]; done) | rfl | rfl
set_option maxRecDepth 65536 in
set_option maxHeartbeats 40000000 in
theorem rm0 (l : Launch) (Z : State) (a0 : Array Value) (hw : ∀ d ∈ tables_1, d.before a0 Z = true) (hEL : EW Z a0 EL0) (zc : Int32) (SC : Sta Z Z.heap "java/lang/String" "COMPACT_STRINGS" "Z" (.int zc)) (hzc : ¬ zc = 0) (fm : Value) (SF : Sta Z Z.heap "jdk/internal/util/Preconditions" "SIOOBE_FORMATTER" "Ljava/util/function/BiFunction;" fm) (rfm : fm.isRef = true) (i0 : Int32) (i1 : Int32) (i2 : Int32) (i3 : Int32) (i4 : Int32) (h0 : Heap) {n0 : Nat} (O0 : Old Z n0 h0)  :
    Met l Z EL0 n0 x code maxLocals ret tables_1 room_1 #[(.int i0), (.int i1), (.int i2), (.int i3), (.int i4)] h0 [] [] (fun v h' => v = some (.int 1)) := by
  refine Met.of (plainFor_of_name pn0) O0 ?_
  intro p e s m below meth c T0 hx hby hml hret hlk hnm hs W0
  have W0 : Wk p l e _ s m _ below meth c Z EL0 n0 [] "com/example/sem1/sem1/internal/LockNamesRequireValidPinLaw" [] T0 0 0 h0 := W0
  have hSA := fun d hd => hw d (sa_in d hd)
  have hws := fun d hd => hw d (ws_in d hd)
  have hln := fun d hd => hw d (ln_in d hd)
  have hch := fun d hd => hw d (ch_in d hd)
  have heq := fun d hd => hw d (eq_in d hd)
  have hem := fun d hd => hw d (em_in d hd)
  refine Go.of (fun _ kk => castTop (ef0 m i0 i1 i2 i3 i4) kk) ?_
  show Go p e below _ (T0.setTop (mkF m 0 #[.val (.int i0), .val (.int i1), .val (.int i2), .val (.int i3), .val (.int i4), .unset, .unset, .unset, .unset, .unset, .unset, .unset] []))
  refine Go.of (t' := T0.setTop (mkF m 1 #[.val (.int i0), .val (.int i1), .val (.int i2), .val (.int i3), .val (.int i4), .unset, .unset, .unset, .unset, .unset, .unset, .unset] [(.int i0)])) (fun _ kk => XS.iloadN W0.here hx rfl (hb hby at_0) rfl kk) ?_
  refine Go.of (t' := T0.setTop (mkF m 2 #[.val (.int i0), .val (.int i1), .val (.int i2), .val (.int i3), .val (.int i4), .unset, .unset, .unset, .unset, .unset, .unset, .unset] [(.int (3 : Int32)), (.int i0)])) (fun _ kk => XS.iconst W0.here hx rfl (hb hby at_1) kk) ?_
  refine Go.of (t' := T0.setTop (mkF m 3 #[.val (.int i0), .val (.int i1), .val (.int i2), .val (.int i3), .val (.int i4), .unset, .unset, .unset, .unset, .unset, .unset, .unset] [(.int (i0 &&& (3 : Int32)))])) (fun _ kk => XS.iand W0.here hx rfl (hb hby at_2) rfl kk) ?_
  rcases and3 i0 with z1 | z1 | z1 | z1
  · rw [z1]
    show Go p e below _ (T0.setTop (mkF m 3 #[.val (.int i0), .val (.int i1), .val (.int i2), .val (.int i3), .val (.int i4), .unset, .unset, .unset, .unset, .unset, .unset, .unset] [(.int (0 : Int32))]))
    refine Go.of (t' := T0.setTop (mkF m 4 #[.val (.int i0), .val (.int i1), .val (.int i2), .val (.int i3), .val (.int i4), .unset, .unset, .unset, .unset, .unset, .unset, .unset] [(.int (1 : Int32)), (.int (0 : Int32))])) (fun _ kk => XS.iconst W0.here hx rfl (hb hby at_3) kk) ?_
    refine Go.of (t' := T0.setTop (mkF m 5 #[.val (.int i0), .val (.int i1), .val (.int i2), .val (.int i3), .val (.int i4), .unset, .unset, .unset, .unset, .unset, .unset, .unset] [(.int (1 : Int32))])) (fun _ kk => XS.iadd W0.here hx rfl (hb hby at_4) rfl kk) ?_
    refine Go.of (t' := T0.setTop (mkF m 7 #[.val (.int i0), .val (.int i1), .val (.int i2), .val (.int i3), .val (.int i4), .val (.int (1 : Int32)), .unset, .unset, .unset, .unset, .unset, .unset] [])) (fun _ kk => XS.istore W0.here hx rfl (hb hby at_5) rfl (l' := #[.val (.int i0), .val (.int i1), .val (.int i2), .val (.int i3), .val (.int i4), .val (.int (1 : Int32)), .unset, .unset, .unset, .unset, .unset, .unset]) rfl kk) ?_
    refine Go.of (t' := T0.setTop (mkF m 8 #[.val (.int i0), .val (.int i1), .val (.int i2), .val (.int i3), .val (.int i4), .val (.int (1 : Int32)), .unset, .unset, .unset, .unset, .unset, .unset] [(.int i1)])) (fun _ kk => XS.iloadN W0.here hx rfl (hb hby at_7) rfl kk) ?_
    refine W0.callS hx hEL (hw _ (List.mem_of_getElem? (i := 0) rfl)) (hw _ (List.mem_of_getElem? (i := 1) rfl)) (hw _ (List.mem_of_getElem? (i := 2) rfl)) (hw _ (List.mem_of_getElem? (i := 3) rfl)) (by decide +kernel) (argsL := [(.int i1)]) (rest := []) (rm1 l Z a0 hw hEL zc SC hzc fm SF rfm i1 h0 W0.old ) all0 (by decide +kernel) (Wd := 0) (by decide +kernel) (by decide +kernel) (by decide +kernel) all0 rfl (by rw [hml]; rfl) (lenOf pd2 rfl) rfl (by show 2 * 0 + _ ≤ _; exact Nat.le_of_eq rfl) (hb hby at_8) (fun T2 h2 v2 W2 K2 q2 => ?_)
    obtain ⟨q2, rfl, cq2, aq2, rfl⟩ := q2
    show Go p e below _ (T2.setTop (mkF m 11 #[.val (.int i0), .val (.int i1), .val (.int i2), .val (.int i3), .val (.int i4), .val (.int (1 : Int32)), .unset, .unset, .unset, .unset, .unset, .unset] [(.int q2)]))
    refine Go.of (t' := T2.setTop (mkF m 13 #[.val (.int i0), .val (.int i1), .val (.int i2), .val (.int i3), .val (.int i4), .val (.int (1 : Int32)), .val (.int q2), .unset, .unset, .unset, .unset, .unset] [])) (fun _ kk => XS.istore W2.here hx rfl (hb hby at_11) rfl (l' := #[.val (.int i0), .val (.int i1), .val (.int i2), .val (.int i3), .val (.int i4), .val (.int (1 : Int32)), .val (.int q2), .unset, .unset, .unset, .unset, .unset]) rfl kk) ?_
    refine Go.of (t' := T2.setTop (mkF m 14 #[.val (.int i0), .val (.int i1), .val (.int i2), .val (.int i3), .val (.int i4), .val (.int (1 : Int32)), .val (.int q2), .unset, .unset, .unset, .unset, .unset] [(.int i2)])) (fun _ kk => XS.iloadN W2.here hx rfl (hb hby at_13) rfl kk) ?_
    refine W2.callS hx hEL (hw _ (List.mem_of_getElem? (i := 0) rfl)) (hw _ (List.mem_of_getElem? (i := 1) rfl)) (hw _ (List.mem_of_getElem? (i := 2) rfl)) (hw _ (List.mem_of_getElem? (i := 3) rfl)) (by decide +kernel) (argsL := [(.int i2)]) (rest := []) (rm1 l Z a0 hw hEL zc SC hzc fm SF rfm i2 h0 W2.old ) all0 (by decide +kernel) (Wd := 0) (by decide +kernel) (by decide +kernel) (by decide +kernel) all0 rfl (by rw [hml]; rfl) (lenOf pd2 rfl) rfl (by show 2 * 0 + _ ≤ _; exact Nat.le_of_eq rfl) (hb hby at_14) (fun T3 h3 v3 W3 K3 q3 => ?_)
    obtain ⟨q3, rfl, cq3, aq3, rfl⟩ := q3
    show Go p e below _ (T3.setTop (mkF m 17 #[.val (.int i0), .val (.int i1), .val (.int i2), .val (.int i3), .val (.int i4), .val (.int (1 : Int32)), .val (.int q2), .unset, .unset, .unset, .unset, .unset] [(.int q3)]))
    refine Go.of (t' := T3.setTop (mkF m 19 #[.val (.int i0), .val (.int i1), .val (.int i2), .val (.int i3), .val (.int i4), .val (.int (1 : Int32)), .val (.int q2), .val (.int q3), .unset, .unset, .unset, .unset] [])) (fun _ kk => XS.istore W3.here hx rfl (hb hby at_17) rfl (l' := #[.val (.int i0), .val (.int i1), .val (.int i2), .val (.int i3), .val (.int i4), .val (.int (1 : Int32)), .val (.int q2), .val (.int q3), .unset, .unset, .unset, .unset]) rfl kk) ?_
    refine Go.of (t' := T3.setTop (mkF m 20 #[.val (.int i0), .val (.int i1), .val (.int i2), .val (.int i3), .val (.int i4), .val (.int (1 : Int32)), .val (.int q2), .val (.int q3), .unset, .unset, .unset, .unset] [(.int i3)])) (fun _ kk => XS.iloadN W3.here hx rfl (hb hby at_19) rfl kk) ?_
    refine W3.callS hx hEL (hw _ (List.mem_of_getElem? (i := 0) rfl)) (hw _ (List.mem_of_getElem? (i := 1) rfl)) (hw _ (List.mem_of_getElem? (i := 2) rfl)) (hw _ (List.mem_of_getElem? (i := 3) rfl)) (by decide +kernel) (argsL := [(.int i3)]) (rest := []) (rm1 l Z a0 hw hEL zc SC hzc fm SF rfm i3 h0 W3.old ) all0 (by decide +kernel) (Wd := 0) (by decide +kernel) (by decide +kernel) (by decide +kernel) all0 rfl (by rw [hml]; rfl) (lenOf pd2 rfl) rfl (by show 2 * 0 + _ ≤ _; exact Nat.le_of_eq rfl) (hb hby at_20) (fun T4 h4 v4 W4 K4 q4 => ?_)
    obtain ⟨q4, rfl, cq4, aq4, rfl⟩ := q4
    show Go p e below _ (T4.setTop (mkF m 23 #[.val (.int i0), .val (.int i1), .val (.int i2), .val (.int i3), .val (.int i4), .val (.int (1 : Int32)), .val (.int q2), .val (.int q3), .unset, .unset, .unset, .unset] [(.int q4)]))
    refine Go.of (t' := T4.setTop (mkF m 25 #[.val (.int i0), .val (.int i1), .val (.int i2), .val (.int i3), .val (.int i4), .val (.int (1 : Int32)), .val (.int q2), .val (.int q3), .val (.int q4), .unset, .unset, .unset] [])) (fun _ kk => XS.istore W4.here hx rfl (hb hby at_23) rfl (l' := #[.val (.int i0), .val (.int i1), .val (.int i2), .val (.int i3), .val (.int i4), .val (.int (1 : Int32)), .val (.int q2), .val (.int q3), .val (.int q4), .unset, .unset, .unset]) rfl kk) ?_
    refine Go.of (t' := T4.setTop (mkF m 27 #[.val (.int i0), .val (.int i1), .val (.int i2), .val (.int i3), .val (.int i4), .val (.int (1 : Int32)), .val (.int q2), .val (.int q3), .val (.int q4), .unset, .unset, .unset] [(.int i4)])) (fun _ kk => XS.iload W4.here hx rfl (hb hby at_25) rfl kk) ?_
    refine W4.callS hx hEL (hw _ (List.mem_of_getElem? (i := 0) rfl)) (hw _ (List.mem_of_getElem? (i := 1) rfl)) (hw _ (List.mem_of_getElem? (i := 2) rfl)) (hw _ (List.mem_of_getElem? (i := 3) rfl)) (by decide +kernel) (argsL := [(.int i4)]) (rest := []) (rm1 l Z a0 hw hEL zc SC hzc fm SF rfm i4 h0 W4.old ) all0 (by decide +kernel) (Wd := 0) (by decide +kernel) (by decide +kernel) (by decide +kernel) all0 rfl (by rw [hml]; rfl) (lenOf pd2 rfl) rfl (by show 2 * 0 + _ ≤ _; exact Nat.le_of_eq rfl) (hb hby at_27) (fun T5 h5 v5 W5 K5 q5 => ?_)
    obtain ⟨q5, rfl, cq5, aq5, rfl⟩ := q5
    show Go p e below _ (T5.setTop (mkF m 30 #[.val (.int i0), .val (.int i1), .val (.int i2), .val (.int i3), .val (.int i4), .val (.int (1 : Int32)), .val (.int q2), .val (.int q3), .val (.int q4), .unset, .unset, .unset] [(.int q5)]))
    refine Go.of (t' := T5.setTop (mkF m 32 #[.val (.int i0), .val (.int i1), .val (.int i2), .val (.int i3), .val (.int i4), .val (.int (1 : Int32)), .val (.int q2), .val (.int q3), .val (.int q4), .val (.int q5), .unset, .unset] [])) (fun _ kk => XS.istore W5.here hx rfl (hb hby at_30) rfl (l' := #[.val (.int i0), .val (.int i1), .val (.int i2), .val (.int i3), .val (.int i4), .val (.int (1 : Int32)), .val (.int q2), .val (.int q3), .val (.int q4), .val (.int q5), .unset, .unset]) rfl kk) ?_
    refine Go.of (t' := T5.setTop (mkF m 34 #[.val (.int i0), .val (.int i1), .val (.int i2), .val (.int i3), .val (.int i4), .val (.int (1 : Int32)), .val (.int q2), .val (.int q3), .val (.int q4), .val (.int q5), .unset, .unset] [(.int (1 : Int32))])) (fun _ kk => XS.iload W5.here hx rfl (hb hby at_32) rfl kk) ?_
    refine Go.of (t' := T5.setTop (mkF m 35 #[.val (.int i0), .val (.int i1), .val (.int i2), .val (.int i3), .val (.int i4), .val (.int (1 : Int32)), .val (.int q2), .val (.int q3), .val (.int q4), .val (.int q5), .unset, .unset] [(.int (1 : Int32)), (.int (1 : Int32))])) (fun _ kk => XS.iconst W5.here hx rfl (hb hby at_34) kk) ?_
    refine Go.of (t' := T5.setTop (mkF m 38 #[.val (.int i0), .val (.int i1), .val (.int i2), .val (.int i3), .val (.int i4), .val (.int (1 : Int32)), .val (.int q2), .val (.int q3), .val (.int q4), .val (.int q5), .unset, .unset] [])) (fun _ kk => XS.icmpNo W5.here hx rfl (hb hby at_35) rfl (XT.ii_ne_f (by decide +kernel)) kk) ?_
    refine W5.newO hx (hw _ (List.mem_of_getElem? (i := 5) rfl)) (hw _ (List.mem_of_getElem? (i := 6) rfl)) (hw _ (List.mem_of_getElem? (i := 7) rfl)) rfl (hb hby at_38) (by decide +kernel) (by decide +kernel) (fun T6 h6 b6 eb6 gb6 W6 K6 E6 D6 => ?_)
    have k7 : Fld Z h6 b6 "java/lang/String" "coder" "B" (.int (0 : Int32)) := D6 (Or.inr (hw _ (List.mem_of_getElem? (i := 32) rfl))) (ty := .byte) (by decide +kernel)
    have k8 : Fld Z h6 b6 "java/lang/String" "value" "[B" .null := D6 (Or.inr (hw _ (List.mem_of_getElem? (i := 34) rfl))) (ty := (.array .byte)) (by decide +kernel)
    show Go p e below _ (T6.setTop (mkF m 41 #[.val (.int i0), .val (.int i1), .val (.int i2), .val (.int i3), .val (.int i4), .val (.int (1 : Int32)), .val (.int q2), .val (.int q3), .val (.int q4), .val (.int q5), .unset, .unset] [(.ref b6)]))
    refine Go.of (t' := T6.setTop (mkF m 42 #[.val (.int i0), .val (.int i1), .val (.int i2), .val (.int i3), .val (.int i4), .val (.int (1 : Int32)), .val (.int q2), .val (.int q3), .val (.int q4), .val (.int q5), .unset, .unset] [(.ref b6), (.ref b6)])) (fun _ kk => XS.dup W6.here hx rfl (hb hby at_41) rfl rfl kk) ?_
    refine Go.of (t' := T6.setTop (mkF m 43 #[.val (.int i0), .val (.int i1), .val (.int i2), .val (.int i3), .val (.int i4), .val (.int (1 : Int32)), .val (.int q2), .val (.int q3), .val (.int q4), .val (.int q5), .unset, .unset] [(.int (1 : Int32)), (.ref b6), (.ref b6)])) (fun _ kk => XS.iconst W6.here hx rfl (hb hby at_42) kk) ?_
    refine W6.newP hx (hw _ (List.mem_of_getElem? (i := 8) rfl)) rfl (hb hby at_43) rfl (by decide +kernel) (cap := 1) (by decide +kernel) (by decide +kernel) (by decide +kernel) (by decide +kernel) (fun T9 h9 b9 c9 eb9 gb9 W9 K9 A9 => ?_)
    have V9 : Arv Z h9 b9 c9 .char (1 : Int32) [(.int (0 : Int32))] (.int (0 : Int32)) := A9
    show Go p e below _ (T9.setTop (mkF m 45 #[.val (.int i0), .val (.int i1), .val (.int i2), .val (.int i3), .val (.int i4), .val (.int (1 : Int32)), .val (.int q2), .val (.int q3), .val (.int q4), .val (.int q5), .unset, .unset] [(.ref b9), (.ref b6), (.ref b6)]))
    refine Go.of (t' := T9.setTop (mkF m 46 #[.val (.int i0), .val (.int i1), .val (.int i2), .val (.int i3), .val (.int i4), .val (.int (1 : Int32)), .val (.int q2), .val (.int q3), .val (.int q4), .val (.int q5), .unset, .unset] [(.ref b9), (.ref b9), (.ref b6), (.ref b6)])) (fun _ kk => XS.dup W9.here hx rfl (hb hby at_45) rfl rfl kk) ?_
    refine Go.of (t' := T9.setTop (mkF m 47 #[.val (.int i0), .val (.int i1), .val (.int i2), .val (.int i3), .val (.int i4), .val (.int (1 : Int32)), .val (.int q2), .val (.int q3), .val (.int q4), .val (.int q5), .unset, .unset] [(.int (0 : Int32)), (.ref b9), (.ref b9), (.ref b6), (.ref b6)])) (fun _ kk => XS.iconst W9.here hx rfl (hb hby at_46) kk) ?_
    refine Go.of (t' := T9.setTop (mkF m 49 #[.val (.int i0), .val (.int i1), .val (.int i2), .val (.int i3), .val (.int i4), .val (.int (1 : Int32)), .val (.int q2), .val (.int q3), .val (.int q4), .val (.int q5), .unset, .unset] [(.int q2), (.int (0 : Int32)), (.ref b9), (.ref b9), (.ref b6), (.ref b6)])) (fun _ kk => XS.iload W9.here hx rfl (hb hby at_47) rfl kk) ?_
    refine W9.stC hx V9 ⟨by decide, by decide⟩ 0 rfl (Nat.le_of_ble_eq_true rfl) gb9.1 (Or.inr gb9.2) rfl rfl (hb hby at_49) (fun T10 h10 W10 K10 A10 => ?_)
    have V10 : Arv Z h10 b9 c9 .char (1 : Int32) [(.int q2)] (.int (0 : Int32)) := (by rw [(nar_char cq2)] at A10; exact A10)
    show Go p e below _ (T10.setTop (mkF m 50 #[.val (.int i0), .val (.int i1), .val (.int i2), .val (.int i3), .val (.int i4), .val (.int (1 : Int32)), .val (.int q2), .val (.int q3), .val (.int q4), .val (.int q5), .unset, .unset] [(.ref b9), (.ref b6), (.ref b6)]))
    have k12 := ((E6.keep K9).keep K10)
    have k13 := ((k8.keep K9 nin0).keep K10 (ninS (ne_of_born (Nat.le_of_eq eb9.symm) E6.lt (Nat.le_refl _)) nin0))
    have k14 := ((k7.keep K9 nin0).keep K10 (ninS (ne_of_born (Nat.le_of_eq eb9.symm) E6.lt (Nat.le_refl _)) nin0))
    refine W10.newStr hx hws (hw _ (List.mem_of_getElem? (i := 6) rfl)) SC hzc (hw _ (List.mem_of_getElem? (i := 9) rfl)) (hw _ (List.mem_of_getElem? (i := 10) rfl)) (hw _ (List.mem_of_getElem? (i := 11) rfl)) k12 k13 k14 (cs := [q2]) (n := 1) V10 rfl rfl (by decide +kernel) (by decide +kernel) (allSi cq2 all0i) gb6.1 (Or.inr gb6.2) (List.mem_of_getElem? (i := 1) rfl) (by decide +kernel) (Wd := 1) (by decide +kernel) (by decide +kernel) (by decide +kernel) rfl (by rw [hml]; rfl) rfl (by show 2 * 0 + _ ≤ _; exact Nat.le_of_eq rfl) (hb hby at_50) (fun T11 h11 W11 K11 S11 => ?_)
    show Go p e below _ (T11.setTop (mkF m 53 #[.val (.int i0), .val (.int i1), .val (.int i2), .val (.int i3), .val (.int i4), .val (.int (1 : Int32)), .val (.int q2), .val (.int q3), .val (.int q4), .val (.int q5), .unset, .unset] [(.ref b6)]))
    refine Go.of (t' := T11.setTop (mkF m 55 #[.val (.int i0), .val (.int i1), .val (.int i2), .val (.int i3), .val (.int i4), .val (.int (1 : Int32)), .val (.int q2), .val (.int q3), .val (.int q4), .val (.int q5), .val (.ref b6), .unset] [])) (fun _ kk => XS.astore W11.here hx rfl (hb hby at_53) rfl rfl (l' := #[.val (.int i0), .val (.int i1), .val (.int i2), .val (.int i3), .val (.int i4), .val (.int (1 : Int32)), .val (.int q2), .val (.int q3), .val (.int q4), .val (.int q5), .val (.ref b6), .unset]) rfl kk) ?_
    refine Go.of (t' := T11.setTop (mkF m 157 #[.val (.int i0), .val (.int i1), .val (.int i2), .val (.int i3), .val (.int i4), .val (.int (1 : Int32)), .val (.int q2), .val (.int q3), .val (.int q4), .val (.int q5), .val (.ref b6), .unset] [])) (fun _ kk => XS.goto W11.here hx rfl (pc0 := 55) (pc' := 157) rfl (hb hby at_55) (by decide +kernel) (by decide +kernel) kk) ?_
    refine Go.of (t' := T11.setTop (mkF m 159 #[.val (.int i0), .val (.int i1), .val (.int i2), .val (.int i3), .val (.int i4), .val (.int (1 : Int32)), .val (.int q2), .val (.int q3), .val (.int q4), .val (.int q5), .val (.ref b6), .unset] [(.ref b6)])) (fun _ kk => XS.aload W11.here hx rfl (hb hby at_157) rfl rfl kk) ?_
    refine W11.ldcC hx hEL (by decide +kernel) (hw _ (List.mem_of_getElem? (i := 35) rfl)) hSA [(.int (46 : Int32))] (1 : Int32) (by decide +kernel) (by decide +kernel) (by decide +kernel) rfl (hb hby at_159) (n := 4) (by decide +kernel) (by decide +kernel) (by decide +kernel) (by decide +kernel) (fun T15 h15 b15 t15 kb15 W15 K15 E15 Fv15 Fc15 A15 N15 => ?_)
    have S15 : Str Z h15 b15 [(46 : Int32)] := ⟨t15, kb15, 0, (1 : Int32), _, E15, Fv15, Fc15, A15, Or.inl ⟨rfl, by decide +kernel, by decide +kernel, by decide +kernel⟩, by decide +kernel, by decide⟩
    show Go p e below _ (T15.setTop (mkF m 161 #[.val (.int i0), .val (.int i1), .val (.int i2), .val (.int i3), .val (.int i4), .val (.int (1 : Int32)), .val (.int q2), .val (.int q3), .val (.int q4), .val (.int q5), .val (.ref b6), .unset] [(.ref b15), (.ref b6)]))
    have k17 := (S11.keep0 K15)
    refine W15.strEq hx heq (hw _ (List.mem_of_getElem? (i := 6) rfl)) SC hzc k17 S15 (hw _ (List.mem_of_getElem? (i := 38) rfl)) (hw _ (List.mem_of_getElem? (i := 39) rfl)) (hw _ (List.mem_of_getElem? (i := 41) rfl)) (hw _ (List.mem_of_getElem? (i := 40) rfl)) (by decide +kernel) (Wd := 0) (by decide +kernel) (by decide +kernel) (by decide +kernel) rfl (by rw [hml]; rfl) rfl (by show 2 * 0 + _ ≤ _; exact Nat.le_of_eq rfl) (hb hby at_161) (fun T16 z16 hz16 W16 => ?_)
    rcases hz16 with ⟨rfl, hn16⟩ | ⟨rfl, hn16⟩
    · show Go p e below _ (T16.setTop (mkF m 164 #[.val (.int i0), .val (.int i1), .val (.int i2), .val (.int i3), .val (.int i4), .val (.int (1 : Int32)), .val (.int q2), .val (.int q3), .val (.int q4), .val (.int q5), .val (.ref b6), .unset] [(.int (1 : Int32))]))
      refine Go.of (t' := T16.setTop (mkF m 177 #[.val (.int i0), .val (.int i1), .val (.int i2), .val (.int i3), .val (.int i4), .val (.int (1 : Int32)), .val (.int q2), .val (.int q3), .val (.int q4), .val (.int q5), .val (.ref b6), .unset] [])) (fun _ kk => XS.ifYes W16.here hx rfl (pc0 := 164) (pc' := 177) rfl (hb hby at_164) rfl (XT.i0_ne_t (by decide +kernel)) (by decide +kernel) (by decide +kernel) kk) ?_
      refine Go.of (t' := T16.setTop (mkF m 178 #[.val (.int i0), .val (.int i1), .val (.int i2), .val (.int i3), .val (.int i4), .val (.int (1 : Int32)), .val (.int q2), .val (.int q3), .val (.int q4), .val (.int q5), .val (.ref b6), .unset] [(.int (1 : Int32))])) (fun _ kk => XS.iconst W16.here hx rfl (hb hby at_177) kk) ?_
      exact W16.retI hx hEL hs hlk (by decide +kernel) (by decide +kernel) hret (by simp) rfl (hb hby at_178) rfl
    · show Go p e below _ (T16.setTop (mkF m 164 #[.val (.int i0), .val (.int i1), .val (.int i2), .val (.int i3), .val (.int i4), .val (.int (1 : Int32)), .val (.int q2), .val (.int q3), .val (.int q4), .val (.int q5), .val (.ref b6), .unset] [(.int (0 : Int32))]))
      refine Go.of (t' := T16.setTop (mkF m 167 #[.val (.int i0), .val (.int i1), .val (.int i2), .val (.int i3), .val (.int i4), .val (.int (1 : Int32)), .val (.int q2), .val (.int q3), .val (.int q4), .val (.int q5), .val (.ref b6), .unset] [])) (fun _ kk => XS.ifNo W16.here hx rfl (hb hby at_164) rfl (XT.i0_ne_f (by decide +kernel)) kk) ?_
      refine Go.of (t' := T16.setTop (mkF m 169 #[.val (.int i0), .val (.int i1), .val (.int i2), .val (.int i3), .val (.int i4), .val (.int (1 : Int32)), .val (.int q2), .val (.int q3), .val (.int q4), .val (.int q5), .val (.ref b6), .unset] [(.ref b6)])) (fun _ kk => XS.aload W16.here hx rfl (hb hby at_167) rfl rfl kk) ?_
      refine W16.ldcC hx hEL (by decide +kernel) (hw _ (List.mem_of_getElem? (i := 48) rfl)) hSA [(.int (46 : Int32)), (.int (46 : Int32))] (2 : Int32) (by decide +kernel) (by decide +kernel) (by decide +kernel) rfl (hb hby at_169) (n := 8) (by decide +kernel) (by decide +kernel) (by decide +kernel) (by decide +kernel) (fun T18 h18 b18 t18 kb18 W18 K18 E18 Fv18 Fc18 A18 N18 => ?_)
      have S18 : Str Z h18 b18 [(46 : Int32), (46 : Int32)] := ⟨t18, kb18, 0, (2 : Int32), _, E18, Fv18, Fc18, A18, Or.inl ⟨rfl, by decide +kernel, by decide +kernel, by decide +kernel⟩, by decide +kernel, by decide⟩
      show Go p e below _ (T18.setTop (mkF m 171 #[.val (.int i0), .val (.int i1), .val (.int i2), .val (.int i3), .val (.int i4), .val (.int (1 : Int32)), .val (.int q2), .val (.int q3), .val (.int q4), .val (.int q5), .val (.ref b6), .unset] [(.ref b18), (.ref b6)]))
      have k20 := (k17.keep0 K18)
      refine W18.strEq hx heq (hw _ (List.mem_of_getElem? (i := 6) rfl)) SC hzc k20 S18 (hw _ (List.mem_of_getElem? (i := 38) rfl)) (hw _ (List.mem_of_getElem? (i := 39) rfl)) (hw _ (List.mem_of_getElem? (i := 41) rfl)) (hw _ (List.mem_of_getElem? (i := 40) rfl)) (by decide +kernel) (Wd := 0) (by decide +kernel) (by decide +kernel) (by decide +kernel) rfl (by rw [hml]; rfl) rfl (by show 2 * 0 + _ ≤ _; exact Nat.le_of_eq rfl) (hb hby at_171) (fun T19 z19 hz19 W19 => ?_)
      obtain ⟨-, hn19⟩ | ⟨rfl, -⟩ := hz19
      case inl => exact absurd hn19 (fun q => absurd (congrArg List.length q) (by simp))
      show Go p e below _ (T19.setTop (mkF m 174 #[.val (.int i0), .val (.int i1), .val (.int i2), .val (.int i3), .val (.int i4), .val (.int (1 : Int32)), .val (.int q2), .val (.int q3), .val (.int q4), .val (.int q5), .val (.ref b6), .unset] [(.int (0 : Int32))]))
      refine Go.of (t' := T19.setTop (mkF m 179 #[.val (.int i0), .val (.int i1), .val (.int i2), .val (.int i3), .val (.int i4), .val (.int (1 : Int32)), .val (.int q2), .val (.int q3), .val (.int q4), .val (.int q5), .val (.ref b6), .unset] [])) (fun _ kk => XS.ifYes W19.here hx rfl (pc0 := 174) (pc' := 179) rfl (hb hby at_174) rfl (XT.i0_eq_t (by decide +kernel)) (by decide +kernel) (by decide +kernel) kk) ?_
      refine Go.of (t' := T19.setTop (mkF m 181 #[.val (.int i0), .val (.int i1), .val (.int i2), .val (.int i3), .val (.int i4), .val (.int (1 : Int32)), .val (.int q2), .val (.int q3), .val (.int q4), .val (.int q5), .val (.ref b6), .unset] [(.ref b6)])) (fun _ kk => XS.aload W19.here hx rfl (hb hby at_179) rfl rfl kk) ?_
      refine W19.callS hx hEL (hw _ (List.mem_of_getElem? (i := 49) rfl)) (hw _ (List.mem_of_getElem? (i := 50) rfl)) (hw _ (List.mem_of_getElem? (i := 51) rfl)) (hw _ (List.mem_of_getElem? (i := 52) rfl)) (by decide +kernel) (argsL := [(.ref b6)]) (rest := []) (rm21 l Z a0 hw hEL zc SC hzc fm SF rfm b6 q2 h18 W19.old k20 cq2 aq2 hn16) all0 (by decide +kernel) (Wd := 0) (by decide +kernel) (by decide +kernel) (by decide +kernel) all0 rfl (by rw [hml]; rfl) (lenOf pd3 rfl) rfl (by show 2 * 0 + _ ≤ _; exact Nat.le_of_eq rfl) (hb hby at_181) (fun T21 h21 v21 W21 K21 q21 => ?_)
      obtain rfl := q21
      show Go p e below _ (T21.setTop (mkF m 184 #[.val (.int i0), .val (.int i1), .val (.int i2), .val (.int i3), .val (.int i4), .val (.int (1 : Int32)), .val (.int q2), .val (.int q3), .val (.int q4), .val (.int q5), .val (.ref b6), .unset] [(.ref b6)]))
      refine Go.of (t' := T21.setTop (mkF m 186 #[.val (.int i0), .val (.int i1), .val (.int i2), .val (.int i3), .val (.int i4), .val (.int (1 : Int32)), .val (.int q2), .val (.int q3), .val (.int q4), .val (.int q5), .val (.ref b6), .val (.ref b6)] [])) (fun _ kk => XS.astore W21.here hx rfl (hb hby at_184) rfl rfl (l' := #[.val (.int i0), .val (.int i1), .val (.int i2), .val (.int i3), .val (.int i4), .val (.int (1 : Int32)), .val (.int q2), .val (.int q3), .val (.int q4), .val (.int q5), .val (.ref b6), .val (.ref b6)]) rfl kk) ?_
      refine Go.of (t' := T21.setTop (mkF m 188 #[.val (.int i0), .val (.int i1), .val (.int i2), .val (.int i3), .val (.int i4), .val (.int (1 : Int32)), .val (.int q2), .val (.int q3), .val (.int q4), .val (.int q5), .val (.ref b6), .val (.ref b6)] [(.ref b6)])) (fun _ kk => XS.aload W21.here hx rfl (hb hby at_186) rfl rfl kk) ?_
      refine Go.of (t' := T21.setTop (mkF m 190 #[.val (.int i0), .val (.int i1), .val (.int i2), .val (.int i3), .val (.int i4), .val (.int (1 : Int32)), .val (.int q2), .val (.int q3), .val (.int q4), .val (.int q5), .val (.ref b6), .val (.ref b6)] [(.ref b6), (.ref b6)])) (fun _ kk => XS.aload W21.here hx rfl (hb hby at_188) rfl rfl kk) ?_
      refine Go.of (t' := T21.setTop (mkF m 193 #[.val (.int i0), .val (.int i1), .val (.int i2), .val (.int i3), .val (.int i4), .val (.int (1 : Int32)), .val (.int q2), .val (.int q3), .val (.int q4), .val (.int q5), .val (.ref b6), .val (.ref b6)] [])) (fun _ kk => XT.acmpNo (g := (mkF m 190 #[.val (.int i0), .val (.int i1), .val (.int i2), .val (.int i3), .val (.int i4), .val (.int (1 : Int32)), .val (.int q2), .val (.int q3), .val (.int q4), .val (.int q5), .val (.ref b6), .val (.ref b6)] [(.ref b6), (.ref b6)])) W21.here hx rfl (hb hby at_190) (x := (.ref b6)) (y := (.ref b6)) (rest := []) rfl rfl rfl (XT.aa_ne_f (x := (.ref b6)) (y := (.ref b6)) rfl) kk) ?_
      refine Go.of (t' := T21.setTop (mkF m 194 #[.val (.int i0), .val (.int i1), .val (.int i2), .val (.int i3), .val (.int i4), .val (.int (1 : Int32)), .val (.int q2), .val (.int q3), .val (.int q4), .val (.int q5), .val (.ref b6), .val (.ref b6)] [(.int (1 : Int32))])) (fun _ kk => XS.iconst W21.here hx rfl (hb hby at_193) kk) ?_
      refine Go.of (t' := T21.setTop (mkF m 198 #[.val (.int i0), .val (.int i1), .val (.int i2), .val (.int i3), .val (.int i4), .val (.int (1 : Int32)), .val (.int q2), .val (.int q3), .val (.int q4), .val (.int q5), .val (.ref b6), .val (.ref b6)] [(.int (1 : Int32))])) (fun _ kk => XS.goto W21.here hx rfl (pc0 := 194) (pc' := 198) rfl (hb hby at_194) (by decide +kernel) (by decide +kernel) kk) ?_
      exact W21.retI hx hEL hs hlk (by decide +kernel) (by decide +kernel) hret (by simp) rfl (hb hby at_198) rfl
  · rw [z1]
    show Go p e below _ (T0.setTop (mkF m 3 #[.val (.int i0), .val (.int i1), .val (.int i2), .val (.int i3), .val (.int i4), .unset, .unset, .unset, .unset, .unset, .unset, .unset] [(.int (1 : Int32))]))
    refine Go.of (t' := T0.setTop (mkF m 4 #[.val (.int i0), .val (.int i1), .val (.int i2), .val (.int i3), .val (.int i4), .unset, .unset, .unset, .unset, .unset, .unset, .unset] [(.int (1 : Int32)), (.int (1 : Int32))])) (fun _ kk => XS.iconst W0.here hx rfl (hb hby at_3) kk) ?_
    refine Go.of (t' := T0.setTop (mkF m 5 #[.val (.int i0), .val (.int i1), .val (.int i2), .val (.int i3), .val (.int i4), .unset, .unset, .unset, .unset, .unset, .unset, .unset] [(.int (2 : Int32))])) (fun _ kk => XS.iadd W0.here hx rfl (hb hby at_4) rfl kk) ?_
    refine Go.of (t' := T0.setTop (mkF m 7 #[.val (.int i0), .val (.int i1), .val (.int i2), .val (.int i3), .val (.int i4), .val (.int (2 : Int32)), .unset, .unset, .unset, .unset, .unset, .unset] [])) (fun _ kk => XS.istore W0.here hx rfl (hb hby at_5) rfl (l' := #[.val (.int i0), .val (.int i1), .val (.int i2), .val (.int i3), .val (.int i4), .val (.int (2 : Int32)), .unset, .unset, .unset, .unset, .unset, .unset]) rfl kk) ?_
    refine Go.of (t' := T0.setTop (mkF m 8 #[.val (.int i0), .val (.int i1), .val (.int i2), .val (.int i3), .val (.int i4), .val (.int (2 : Int32)), .unset, .unset, .unset, .unset, .unset, .unset] [(.int i1)])) (fun _ kk => XS.iloadN W0.here hx rfl (hb hby at_7) rfl kk) ?_
    refine W0.callS hx hEL (hw _ (List.mem_of_getElem? (i := 0) rfl)) (hw _ (List.mem_of_getElem? (i := 1) rfl)) (hw _ (List.mem_of_getElem? (i := 2) rfl)) (hw _ (List.mem_of_getElem? (i := 3) rfl)) (by decide +kernel) (argsL := [(.int i1)]) (rest := []) (rm1 l Z a0 hw hEL zc SC hzc fm SF rfm i1 h0 W0.old ) all0 (by decide +kernel) (Wd := 0) (by decide +kernel) (by decide +kernel) (by decide +kernel) all0 rfl (by rw [hml]; rfl) (lenOf pd2 rfl) rfl (by show 2 * 0 + _ ≤ _; exact Nat.le_of_eq rfl) (hb hby at_8) (fun T22 h22 v22 W22 K22 q22 => ?_)
    obtain ⟨q22, rfl, cq22, aq22, rfl⟩ := q22
    show Go p e below _ (T22.setTop (mkF m 11 #[.val (.int i0), .val (.int i1), .val (.int i2), .val (.int i3), .val (.int i4), .val (.int (2 : Int32)), .unset, .unset, .unset, .unset, .unset, .unset] [(.int q22)]))
    refine Go.of (t' := T22.setTop (mkF m 13 #[.val (.int i0), .val (.int i1), .val (.int i2), .val (.int i3), .val (.int i4), .val (.int (2 : Int32)), .val (.int q22), .unset, .unset, .unset, .unset, .unset] [])) (fun _ kk => XS.istore W22.here hx rfl (hb hby at_11) rfl (l' := #[.val (.int i0), .val (.int i1), .val (.int i2), .val (.int i3), .val (.int i4), .val (.int (2 : Int32)), .val (.int q22), .unset, .unset, .unset, .unset, .unset]) rfl kk) ?_
    refine Go.of (t' := T22.setTop (mkF m 14 #[.val (.int i0), .val (.int i1), .val (.int i2), .val (.int i3), .val (.int i4), .val (.int (2 : Int32)), .val (.int q22), .unset, .unset, .unset, .unset, .unset] [(.int i2)])) (fun _ kk => XS.iloadN W22.here hx rfl (hb hby at_13) rfl kk) ?_
    refine W22.callS hx hEL (hw _ (List.mem_of_getElem? (i := 0) rfl)) (hw _ (List.mem_of_getElem? (i := 1) rfl)) (hw _ (List.mem_of_getElem? (i := 2) rfl)) (hw _ (List.mem_of_getElem? (i := 3) rfl)) (by decide +kernel) (argsL := [(.int i2)]) (rest := []) (rm1 l Z a0 hw hEL zc SC hzc fm SF rfm i2 h0 W22.old ) all0 (by decide +kernel) (Wd := 0) (by decide +kernel) (by decide +kernel) (by decide +kernel) all0 rfl (by rw [hml]; rfl) (lenOf pd2 rfl) rfl (by show 2 * 0 + _ ≤ _; exact Nat.le_of_eq rfl) (hb hby at_14) (fun T23 h23 v23 W23 K23 q23 => ?_)
    obtain ⟨q23, rfl, cq23, aq23, rfl⟩ := q23
    show Go p e below _ (T23.setTop (mkF m 17 #[.val (.int i0), .val (.int i1), .val (.int i2), .val (.int i3), .val (.int i4), .val (.int (2 : Int32)), .val (.int q22), .unset, .unset, .unset, .unset, .unset] [(.int q23)]))
    refine Go.of (t' := T23.setTop (mkF m 19 #[.val (.int i0), .val (.int i1), .val (.int i2), .val (.int i3), .val (.int i4), .val (.int (2 : Int32)), .val (.int q22), .val (.int q23), .unset, .unset, .unset, .unset] [])) (fun _ kk => XS.istore W23.here hx rfl (hb hby at_17) rfl (l' := #[.val (.int i0), .val (.int i1), .val (.int i2), .val (.int i3), .val (.int i4), .val (.int (2 : Int32)), .val (.int q22), .val (.int q23), .unset, .unset, .unset, .unset]) rfl kk) ?_
    refine Go.of (t' := T23.setTop (mkF m 20 #[.val (.int i0), .val (.int i1), .val (.int i2), .val (.int i3), .val (.int i4), .val (.int (2 : Int32)), .val (.int q22), .val (.int q23), .unset, .unset, .unset, .unset] [(.int i3)])) (fun _ kk => XS.iloadN W23.here hx rfl (hb hby at_19) rfl kk) ?_
    refine W23.callS hx hEL (hw _ (List.mem_of_getElem? (i := 0) rfl)) (hw _ (List.mem_of_getElem? (i := 1) rfl)) (hw _ (List.mem_of_getElem? (i := 2) rfl)) (hw _ (List.mem_of_getElem? (i := 3) rfl)) (by decide +kernel) (argsL := [(.int i3)]) (rest := []) (rm1 l Z a0 hw hEL zc SC hzc fm SF rfm i3 h0 W23.old ) all0 (by decide +kernel) (Wd := 0) (by decide +kernel) (by decide +kernel) (by decide +kernel) all0 rfl (by rw [hml]; rfl) (lenOf pd2 rfl) rfl (by show 2 * 0 + _ ≤ _; exact Nat.le_of_eq rfl) (hb hby at_20) (fun T24 h24 v24 W24 K24 q24 => ?_)
    obtain ⟨q24, rfl, cq24, aq24, rfl⟩ := q24
    show Go p e below _ (T24.setTop (mkF m 23 #[.val (.int i0), .val (.int i1), .val (.int i2), .val (.int i3), .val (.int i4), .val (.int (2 : Int32)), .val (.int q22), .val (.int q23), .unset, .unset, .unset, .unset] [(.int q24)]))
    refine Go.of (t' := T24.setTop (mkF m 25 #[.val (.int i0), .val (.int i1), .val (.int i2), .val (.int i3), .val (.int i4), .val (.int (2 : Int32)), .val (.int q22), .val (.int q23), .val (.int q24), .unset, .unset, .unset] [])) (fun _ kk => XS.istore W24.here hx rfl (hb hby at_23) rfl (l' := #[.val (.int i0), .val (.int i1), .val (.int i2), .val (.int i3), .val (.int i4), .val (.int (2 : Int32)), .val (.int q22), .val (.int q23), .val (.int q24), .unset, .unset, .unset]) rfl kk) ?_
    refine Go.of (t' := T24.setTop (mkF m 27 #[.val (.int i0), .val (.int i1), .val (.int i2), .val (.int i3), .val (.int i4), .val (.int (2 : Int32)), .val (.int q22), .val (.int q23), .val (.int q24), .unset, .unset, .unset] [(.int i4)])) (fun _ kk => XS.iload W24.here hx rfl (hb hby at_25) rfl kk) ?_
    refine W24.callS hx hEL (hw _ (List.mem_of_getElem? (i := 0) rfl)) (hw _ (List.mem_of_getElem? (i := 1) rfl)) (hw _ (List.mem_of_getElem? (i := 2) rfl)) (hw _ (List.mem_of_getElem? (i := 3) rfl)) (by decide +kernel) (argsL := [(.int i4)]) (rest := []) (rm1 l Z a0 hw hEL zc SC hzc fm SF rfm i4 h0 W24.old ) all0 (by decide +kernel) (Wd := 0) (by decide +kernel) (by decide +kernel) (by decide +kernel) all0 rfl (by rw [hml]; rfl) (lenOf pd2 rfl) rfl (by show 2 * 0 + _ ≤ _; exact Nat.le_of_eq rfl) (hb hby at_27) (fun T25 h25 v25 W25 K25 q25 => ?_)
    obtain ⟨q25, rfl, cq25, aq25, rfl⟩ := q25
    show Go p e below _ (T25.setTop (mkF m 30 #[.val (.int i0), .val (.int i1), .val (.int i2), .val (.int i3), .val (.int i4), .val (.int (2 : Int32)), .val (.int q22), .val (.int q23), .val (.int q24), .unset, .unset, .unset] [(.int q25)]))
    refine Go.of (t' := T25.setTop (mkF m 32 #[.val (.int i0), .val (.int i1), .val (.int i2), .val (.int i3), .val (.int i4), .val (.int (2 : Int32)), .val (.int q22), .val (.int q23), .val (.int q24), .val (.int q25), .unset, .unset] [])) (fun _ kk => XS.istore W25.here hx rfl (hb hby at_30) rfl (l' := #[.val (.int i0), .val (.int i1), .val (.int i2), .val (.int i3), .val (.int i4), .val (.int (2 : Int32)), .val (.int q22), .val (.int q23), .val (.int q24), .val (.int q25), .unset, .unset]) rfl kk) ?_
    refine Go.of (t' := T25.setTop (mkF m 34 #[.val (.int i0), .val (.int i1), .val (.int i2), .val (.int i3), .val (.int i4), .val (.int (2 : Int32)), .val (.int q22), .val (.int q23), .val (.int q24), .val (.int q25), .unset, .unset] [(.int (2 : Int32))])) (fun _ kk => XS.iload W25.here hx rfl (hb hby at_32) rfl kk) ?_
    refine Go.of (t' := T25.setTop (mkF m 35 #[.val (.int i0), .val (.int i1), .val (.int i2), .val (.int i3), .val (.int i4), .val (.int (2 : Int32)), .val (.int q22), .val (.int q23), .val (.int q24), .val (.int q25), .unset, .unset] [(.int (1 : Int32)), (.int (2 : Int32))])) (fun _ kk => XS.iconst W25.here hx rfl (hb hby at_34) kk) ?_
    refine Go.of (t' := T25.setTop (mkF m 58 #[.val (.int i0), .val (.int i1), .val (.int i2), .val (.int i3), .val (.int i4), .val (.int (2 : Int32)), .val (.int q22), .val (.int q23), .val (.int q24), .val (.int q25), .unset, .unset] [])) (fun _ kk => XS.icmpYes W25.here hx rfl (pc0 := 35) (pc' := 58) rfl (hb hby at_35) rfl (XT.ii_ne_t (by decide +kernel)) (by decide +kernel) (by decide +kernel) kk) ?_
    refine Go.of (t' := T25.setTop (mkF m 60 #[.val (.int i0), .val (.int i1), .val (.int i2), .val (.int i3), .val (.int i4), .val (.int (2 : Int32)), .val (.int q22), .val (.int q23), .val (.int q24), .val (.int q25), .unset, .unset] [(.int (2 : Int32))])) (fun _ kk => XS.iload W25.here hx rfl (hb hby at_58) rfl kk) ?_
    refine Go.of (t' := T25.setTop (mkF m 61 #[.val (.int i0), .val (.int i1), .val (.int i2), .val (.int i3), .val (.int i4), .val (.int (2 : Int32)), .val (.int q22), .val (.int q23), .val (.int q24), .val (.int q25), .unset, .unset] [(.int (2 : Int32)), (.int (2 : Int32))])) (fun _ kk => XS.iconst W25.here hx rfl (hb hby at_60) kk) ?_
    refine Go.of (t' := T25.setTop (mkF m 64 #[.val (.int i0), .val (.int i1), .val (.int i2), .val (.int i3), .val (.int i4), .val (.int (2 : Int32)), .val (.int q22), .val (.int q23), .val (.int q24), .val (.int q25), .unset, .unset] [])) (fun _ kk => XS.icmpNo W25.here hx rfl (hb hby at_61) rfl (XT.ii_ne_f (by decide +kernel)) kk) ?_
    refine W25.newO hx (hw _ (List.mem_of_getElem? (i := 5) rfl)) (hw _ (List.mem_of_getElem? (i := 6) rfl)) (hw _ (List.mem_of_getElem? (i := 7) rfl)) rfl (hb hby at_64) (by decide +kernel) (by decide +kernel) (fun T26 h26 b26 eb26 gb26 W26 K26 E26 D26 => ?_)
    have k27 : Fld Z h26 b26 "java/lang/String" "coder" "B" (.int (0 : Int32)) := D26 (Or.inr (hw _ (List.mem_of_getElem? (i := 32) rfl))) (ty := .byte) (by decide +kernel)
    have k28 : Fld Z h26 b26 "java/lang/String" "value" "[B" .null := D26 (Or.inr (hw _ (List.mem_of_getElem? (i := 34) rfl))) (ty := (.array .byte)) (by decide +kernel)
    show Go p e below _ (T26.setTop (mkF m 67 #[.val (.int i0), .val (.int i1), .val (.int i2), .val (.int i3), .val (.int i4), .val (.int (2 : Int32)), .val (.int q22), .val (.int q23), .val (.int q24), .val (.int q25), .unset, .unset] [(.ref b26)]))
    refine Go.of (t' := T26.setTop (mkF m 68 #[.val (.int i0), .val (.int i1), .val (.int i2), .val (.int i3), .val (.int i4), .val (.int (2 : Int32)), .val (.int q22), .val (.int q23), .val (.int q24), .val (.int q25), .unset, .unset] [(.ref b26), (.ref b26)])) (fun _ kk => XS.dup W26.here hx rfl (hb hby at_67) rfl rfl kk) ?_
    refine Go.of (t' := T26.setTop (mkF m 69 #[.val (.int i0), .val (.int i1), .val (.int i2), .val (.int i3), .val (.int i4), .val (.int (2 : Int32)), .val (.int q22), .val (.int q23), .val (.int q24), .val (.int q25), .unset, .unset] [(.int (2 : Int32)), (.ref b26), (.ref b26)])) (fun _ kk => XS.iconst W26.here hx rfl (hb hby at_68) kk) ?_
    refine W26.newP hx (hw _ (List.mem_of_getElem? (i := 8) rfl)) rfl (hb hby at_69) rfl (by decide +kernel) (cap := 2) (by decide +kernel) (by decide +kernel) (by decide +kernel) (by decide +kernel) (fun T29 h29 b29 c29 eb29 gb29 W29 K29 A29 => ?_)
    have V29 : Arv Z h29 b29 c29 .char (2 : Int32) [(.int (0 : Int32)), (.int (0 : Int32))] (.int (0 : Int32)) := A29
    show Go p e below _ (T29.setTop (mkF m 71 #[.val (.int i0), .val (.int i1), .val (.int i2), .val (.int i3), .val (.int i4), .val (.int (2 : Int32)), .val (.int q22), .val (.int q23), .val (.int q24), .val (.int q25), .unset, .unset] [(.ref b29), (.ref b26), (.ref b26)]))
    refine Go.of (t' := T29.setTop (mkF m 72 #[.val (.int i0), .val (.int i1), .val (.int i2), .val (.int i3), .val (.int i4), .val (.int (2 : Int32)), .val (.int q22), .val (.int q23), .val (.int q24), .val (.int q25), .unset, .unset] [(.ref b29), (.ref b29), (.ref b26), (.ref b26)])) (fun _ kk => XS.dup W29.here hx rfl (hb hby at_71) rfl rfl kk) ?_
    refine Go.of (t' := T29.setTop (mkF m 73 #[.val (.int i0), .val (.int i1), .val (.int i2), .val (.int i3), .val (.int i4), .val (.int (2 : Int32)), .val (.int q22), .val (.int q23), .val (.int q24), .val (.int q25), .unset, .unset] [(.int (0 : Int32)), (.ref b29), (.ref b29), (.ref b26), (.ref b26)])) (fun _ kk => XS.iconst W29.here hx rfl (hb hby at_72) kk) ?_
    refine Go.of (t' := T29.setTop (mkF m 75 #[.val (.int i0), .val (.int i1), .val (.int i2), .val (.int i3), .val (.int i4), .val (.int (2 : Int32)), .val (.int q22), .val (.int q23), .val (.int q24), .val (.int q25), .unset, .unset] [(.int q22), (.int (0 : Int32)), (.ref b29), (.ref b29), (.ref b26), (.ref b26)])) (fun _ kk => XS.iload W29.here hx rfl (hb hby at_73) rfl kk) ?_
    refine W29.stC hx V29 ⟨by decide, by decide⟩ 0 rfl (Nat.le_of_ble_eq_true rfl) gb29.1 (Or.inr gb29.2) rfl rfl (hb hby at_75) (fun T30 h30 W30 K30 A30 => ?_)
    have V30 : Arv Z h30 b29 c29 .char (2 : Int32) [(.int q22), (.int (0 : Int32))] (.int (0 : Int32)) := (by rw [(nar_char cq22)] at A30; exact A30)
    show Go p e below _ (T30.setTop (mkF m 76 #[.val (.int i0), .val (.int i1), .val (.int i2), .val (.int i3), .val (.int i4), .val (.int (2 : Int32)), .val (.int q22), .val (.int q23), .val (.int q24), .val (.int q25), .unset, .unset] [(.ref b29), (.ref b26), (.ref b26)]))
    refine Go.of (t' := T30.setTop (mkF m 77 #[.val (.int i0), .val (.int i1), .val (.int i2), .val (.int i3), .val (.int i4), .val (.int (2 : Int32)), .val (.int q22), .val (.int q23), .val (.int q24), .val (.int q25), .unset, .unset] [(.ref b29), (.ref b29), (.ref b26), (.ref b26)])) (fun _ kk => XS.dup W30.here hx rfl (hb hby at_76) rfl rfl kk) ?_
    refine Go.of (t' := T30.setTop (mkF m 78 #[.val (.int i0), .val (.int i1), .val (.int i2), .val (.int i3), .val (.int i4), .val (.int (2 : Int32)), .val (.int q22), .val (.int q23), .val (.int q24), .val (.int q25), .unset, .unset] [(.int (1 : Int32)), (.ref b29), (.ref b29), (.ref b26), (.ref b26)])) (fun _ kk => XS.iconst W30.here hx rfl (hb hby at_77) kk) ?_
    refine Go.of (t' := T30.setTop (mkF m 80 #[.val (.int i0), .val (.int i1), .val (.int i2), .val (.int i3), .val (.int i4), .val (.int (2 : Int32)), .val (.int q22), .val (.int q23), .val (.int q24), .val (.int q25), .unset, .unset] [(.int q23), (.int (1 : Int32)), (.ref b29), (.ref b29), (.ref b26), (.ref b26)])) (fun _ kk => XS.iload W30.here hx rfl (hb hby at_78) rfl kk) ?_
    refine W30.stC hx V30 ⟨by decide, by decide⟩ 1 rfl (Nat.le_of_ble_eq_true rfl) gb29.1 (Or.inr gb29.2) rfl rfl (hb hby at_80) (fun T31 h31 W31 K31 A31 => ?_)
    have V31 : Arv Z h31 b29 c29 .char (2 : Int32) [(.int q22), (.int q23)] (.int (0 : Int32)) := (by rw [(nar_char cq23)] at A31; exact A31)
    show Go p e below _ (T31.setTop (mkF m 81 #[.val (.int i0), .val (.int i1), .val (.int i2), .val (.int i3), .val (.int i4), .val (.int (2 : Int32)), .val (.int q22), .val (.int q23), .val (.int q24), .val (.int q25), .unset, .unset] [(.ref b29), (.ref b26), (.ref b26)]))
    have k33 := (((E26.keep K29).keep K30).keep K31)
    have k34 := (((k28.keep K29 nin0).keep K30 (ninS (ne_of_born (Nat.le_of_eq eb29.symm) E26.lt (Nat.le_refl _)) nin0)).keep K31 (ninS (ne_of_born (Nat.le_of_eq eb29.symm) E26.lt (Nat.le_refl _)) nin0))
    have k35 := (((k27.keep K29 nin0).keep K30 (ninS (ne_of_born (Nat.le_of_eq eb29.symm) E26.lt (Nat.le_refl _)) nin0)).keep K31 (ninS (ne_of_born (Nat.le_of_eq eb29.symm) E26.lt (Nat.le_refl _)) nin0))
    refine W31.newStr hx hws (hw _ (List.mem_of_getElem? (i := 6) rfl)) SC hzc (hw _ (List.mem_of_getElem? (i := 9) rfl)) (hw _ (List.mem_of_getElem? (i := 10) rfl)) (hw _ (List.mem_of_getElem? (i := 11) rfl)) k33 k34 k35 (cs := [q22, q23]) (n := 2) V31 rfl rfl (by decide +kernel) (by decide +kernel) (allSi cq22 (allSi cq23 all0i)) gb26.1 (Or.inr gb26.2) (List.mem_of_getElem? (i := 1) rfl) (by decide +kernel) (Wd := 1) (by decide +kernel) (by decide +kernel) (by decide +kernel) rfl (by rw [hml]; rfl) rfl (by show 2 * 0 + _ ≤ _; exact Nat.le_of_eq rfl) (hb hby at_81) (fun T32 h32 W32 K32 S32 => ?_)
    show Go p e below _ (T32.setTop (mkF m 84 #[.val (.int i0), .val (.int i1), .val (.int i2), .val (.int i3), .val (.int i4), .val (.int (2 : Int32)), .val (.int q22), .val (.int q23), .val (.int q24), .val (.int q25), .unset, .unset] [(.ref b26)]))
    refine Go.of (t' := T32.setTop (mkF m 86 #[.val (.int i0), .val (.int i1), .val (.int i2), .val (.int i3), .val (.int i4), .val (.int (2 : Int32)), .val (.int q22), .val (.int q23), .val (.int q24), .val (.int q25), .val (.ref b26), .unset] [])) (fun _ kk => XS.astore W32.here hx rfl (hb hby at_84) rfl rfl (l' := #[.val (.int i0), .val (.int i1), .val (.int i2), .val (.int i3), .val (.int i4), .val (.int (2 : Int32)), .val (.int q22), .val (.int q23), .val (.int q24), .val (.int q25), .val (.ref b26), .unset]) rfl kk) ?_
    refine Go.of (t' := T32.setTop (mkF m 157 #[.val (.int i0), .val (.int i1), .val (.int i2), .val (.int i3), .val (.int i4), .val (.int (2 : Int32)), .val (.int q22), .val (.int q23), .val (.int q24), .val (.int q25), .val (.ref b26), .unset] [])) (fun _ kk => XS.goto W32.here hx rfl (pc0 := 86) (pc' := 157) rfl (hb hby at_86) (by decide +kernel) (by decide +kernel) kk) ?_
    refine Go.of (t' := T32.setTop (mkF m 159 #[.val (.int i0), .val (.int i1), .val (.int i2), .val (.int i3), .val (.int i4), .val (.int (2 : Int32)), .val (.int q22), .val (.int q23), .val (.int q24), .val (.int q25), .val (.ref b26), .unset] [(.ref b26)])) (fun _ kk => XS.aload W32.here hx rfl (hb hby at_157) rfl rfl kk) ?_
    refine W32.ldcC hx hEL (by decide +kernel) (hw _ (List.mem_of_getElem? (i := 35) rfl)) hSA [(.int (46 : Int32))] (1 : Int32) (by decide +kernel) (by decide +kernel) (by decide +kernel) rfl (hb hby at_159) (n := 4) (by decide +kernel) (by decide +kernel) (by decide +kernel) (by decide +kernel) (fun T36 h36 b36 t36 kb36 W36 K36 E36 Fv36 Fc36 A36 N36 => ?_)
    have S36 : Str Z h36 b36 [(46 : Int32)] := ⟨t36, kb36, 0, (1 : Int32), _, E36, Fv36, Fc36, A36, Or.inl ⟨rfl, by decide +kernel, by decide +kernel, by decide +kernel⟩, by decide +kernel, by decide⟩
    show Go p e below _ (T36.setTop (mkF m 161 #[.val (.int i0), .val (.int i1), .val (.int i2), .val (.int i3), .val (.int i4), .val (.int (2 : Int32)), .val (.int q22), .val (.int q23), .val (.int q24), .val (.int q25), .val (.ref b26), .unset] [(.ref b36), (.ref b26)]))
    have k38 := (S32.keep0 K36)
    refine W36.strEq hx heq (hw _ (List.mem_of_getElem? (i := 6) rfl)) SC hzc k38 S36 (hw _ (List.mem_of_getElem? (i := 38) rfl)) (hw _ (List.mem_of_getElem? (i := 39) rfl)) (hw _ (List.mem_of_getElem? (i := 41) rfl)) (hw _ (List.mem_of_getElem? (i := 40) rfl)) (by decide +kernel) (Wd := 0) (by decide +kernel) (by decide +kernel) (by decide +kernel) rfl (by rw [hml]; rfl) rfl (by show 2 * 0 + _ ≤ _; exact Nat.le_of_eq rfl) (hb hby at_161) (fun T37 z37 hz37 W37 => ?_)
    obtain ⟨-, hn37⟩ | ⟨rfl, -⟩ := hz37
    case inl => exact absurd hn37 (fun q => absurd (congrArg List.length q) (by simp))
    show Go p e below _ (T37.setTop (mkF m 164 #[.val (.int i0), .val (.int i1), .val (.int i2), .val (.int i3), .val (.int i4), .val (.int (2 : Int32)), .val (.int q22), .val (.int q23), .val (.int q24), .val (.int q25), .val (.ref b26), .unset] [(.int (0 : Int32))]))
    refine Go.of (t' := T37.setTop (mkF m 167 #[.val (.int i0), .val (.int i1), .val (.int i2), .val (.int i3), .val (.int i4), .val (.int (2 : Int32)), .val (.int q22), .val (.int q23), .val (.int q24), .val (.int q25), .val (.ref b26), .unset] [])) (fun _ kk => XS.ifNo W37.here hx rfl (hb hby at_164) rfl (XT.i0_ne_f (by decide +kernel)) kk) ?_
    refine Go.of (t' := T37.setTop (mkF m 169 #[.val (.int i0), .val (.int i1), .val (.int i2), .val (.int i3), .val (.int i4), .val (.int (2 : Int32)), .val (.int q22), .val (.int q23), .val (.int q24), .val (.int q25), .val (.ref b26), .unset] [(.ref b26)])) (fun _ kk => XS.aload W37.here hx rfl (hb hby at_167) rfl rfl kk) ?_
    refine W37.ldcC hx hEL (by decide +kernel) (hw _ (List.mem_of_getElem? (i := 48) rfl)) hSA [(.int (46 : Int32)), (.int (46 : Int32))] (2 : Int32) (by decide +kernel) (by decide +kernel) (by decide +kernel) rfl (hb hby at_169) (n := 8) (by decide +kernel) (by decide +kernel) (by decide +kernel) (by decide +kernel) (fun T39 h39 b39 t39 kb39 W39 K39 E39 Fv39 Fc39 A39 N39 => ?_)
    have S39 : Str Z h39 b39 [(46 : Int32), (46 : Int32)] := ⟨t39, kb39, 0, (2 : Int32), _, E39, Fv39, Fc39, A39, Or.inl ⟨rfl, by decide +kernel, by decide +kernel, by decide +kernel⟩, by decide +kernel, by decide⟩
    show Go p e below _ (T39.setTop (mkF m 171 #[.val (.int i0), .val (.int i1), .val (.int i2), .val (.int i3), .val (.int i4), .val (.int (2 : Int32)), .val (.int q22), .val (.int q23), .val (.int q24), .val (.int q25), .val (.ref b26), .unset] [(.ref b39), (.ref b26)]))
    have k41 := (k38.keep0 K39)
    refine W39.strEq hx heq (hw _ (List.mem_of_getElem? (i := 6) rfl)) SC hzc k41 S39 (hw _ (List.mem_of_getElem? (i := 38) rfl)) (hw _ (List.mem_of_getElem? (i := 39) rfl)) (hw _ (List.mem_of_getElem? (i := 41) rfl)) (hw _ (List.mem_of_getElem? (i := 40) rfl)) (by decide +kernel) (Wd := 0) (by decide +kernel) (by decide +kernel) (by decide +kernel) rfl (by rw [hml]; rfl) rfl (by show 2 * 0 + _ ≤ _; exact Nat.le_of_eq rfl) (hb hby at_171) (fun T40 z40 hz40 W40 => ?_)
    rcases hz40 with ⟨rfl, hn40⟩ | ⟨rfl, hn40⟩
    · show Go p e below _ (T40.setTop (mkF m 174 #[.val (.int i0), .val (.int i1), .val (.int i2), .val (.int i3), .val (.int i4), .val (.int (2 : Int32)), .val (.int q22), .val (.int q23), .val (.int q24), .val (.int q25), .val (.ref b26), .unset] [(.int (1 : Int32))]))
      refine Go.of (t' := T40.setTop (mkF m 177 #[.val (.int i0), .val (.int i1), .val (.int i2), .val (.int i3), .val (.int i4), .val (.int (2 : Int32)), .val (.int q22), .val (.int q23), .val (.int q24), .val (.int q25), .val (.ref b26), .unset] [])) (fun _ kk => XS.ifNo W40.here hx rfl (hb hby at_174) rfl (XT.i0_eq_f (by decide +kernel)) kk) ?_
      refine Go.of (t' := T40.setTop (mkF m 178 #[.val (.int i0), .val (.int i1), .val (.int i2), .val (.int i3), .val (.int i4), .val (.int (2 : Int32)), .val (.int q22), .val (.int q23), .val (.int q24), .val (.int q25), .val (.ref b26), .unset] [(.int (1 : Int32))])) (fun _ kk => XS.iconst W40.here hx rfl (hb hby at_177) kk) ?_
      exact W40.retI hx hEL hs hlk (by decide +kernel) (by decide +kernel) hret (by simp) rfl (hb hby at_178) rfl
    · show Go p e below _ (T40.setTop (mkF m 174 #[.val (.int i0), .val (.int i1), .val (.int i2), .val (.int i3), .val (.int i4), .val (.int (2 : Int32)), .val (.int q22), .val (.int q23), .val (.int q24), .val (.int q25), .val (.ref b26), .unset] [(.int (0 : Int32))]))
      refine Go.of (t' := T40.setTop (mkF m 179 #[.val (.int i0), .val (.int i1), .val (.int i2), .val (.int i3), .val (.int i4), .val (.int (2 : Int32)), .val (.int q22), .val (.int q23), .val (.int q24), .val (.int q25), .val (.ref b26), .unset] [])) (fun _ kk => XS.ifYes W40.here hx rfl (pc0 := 174) (pc' := 179) rfl (hb hby at_174) rfl (XT.i0_eq_t (by decide +kernel)) (by decide +kernel) (by decide +kernel) kk) ?_
      refine Go.of (t' := T40.setTop (mkF m 181 #[.val (.int i0), .val (.int i1), .val (.int i2), .val (.int i3), .val (.int i4), .val (.int (2 : Int32)), .val (.int q22), .val (.int q23), .val (.int q24), .val (.int q25), .val (.ref b26), .unset] [(.ref b26)])) (fun _ kk => XS.aload W40.here hx rfl (hb hby at_179) rfl rfl kk) ?_
      refine W40.callS hx hEL (hw _ (List.mem_of_getElem? (i := 49) rfl)) (hw _ (List.mem_of_getElem? (i := 50) rfl)) (hw _ (List.mem_of_getElem? (i := 51) rfl)) (hw _ (List.mem_of_getElem? (i := 52) rfl)) (by decide +kernel) (argsL := [(.ref b26)]) (rest := []) (rm22 l Z a0 hw hEL zc SC hzc fm SF rfm b26 q22 q23 h39 W40.old k41 cq22 cq23 aq22 aq23 hn40) all0 (by decide +kernel) (Wd := 0) (by decide +kernel) (by decide +kernel) (by decide +kernel) all0 rfl (by rw [hml]; rfl) (lenOf pd3 rfl) rfl (by show 2 * 0 + _ ≤ _; exact Nat.le_of_eq rfl) (hb hby at_181) (fun T42 h42 v42 W42 K42 q42 => ?_)
      obtain rfl := q42
      show Go p e below _ (T42.setTop (mkF m 184 #[.val (.int i0), .val (.int i1), .val (.int i2), .val (.int i3), .val (.int i4), .val (.int (2 : Int32)), .val (.int q22), .val (.int q23), .val (.int q24), .val (.int q25), .val (.ref b26), .unset] [(.ref b26)]))
      refine Go.of (t' := T42.setTop (mkF m 186 #[.val (.int i0), .val (.int i1), .val (.int i2), .val (.int i3), .val (.int i4), .val (.int (2 : Int32)), .val (.int q22), .val (.int q23), .val (.int q24), .val (.int q25), .val (.ref b26), .val (.ref b26)] [])) (fun _ kk => XS.astore W42.here hx rfl (hb hby at_184) rfl rfl (l' := #[.val (.int i0), .val (.int i1), .val (.int i2), .val (.int i3), .val (.int i4), .val (.int (2 : Int32)), .val (.int q22), .val (.int q23), .val (.int q24), .val (.int q25), .val (.ref b26), .val (.ref b26)]) rfl kk) ?_
      refine Go.of (t' := T42.setTop (mkF m 188 #[.val (.int i0), .val (.int i1), .val (.int i2), .val (.int i3), .val (.int i4), .val (.int (2 : Int32)), .val (.int q22), .val (.int q23), .val (.int q24), .val (.int q25), .val (.ref b26), .val (.ref b26)] [(.ref b26)])) (fun _ kk => XS.aload W42.here hx rfl (hb hby at_186) rfl rfl kk) ?_
      refine Go.of (t' := T42.setTop (mkF m 190 #[.val (.int i0), .val (.int i1), .val (.int i2), .val (.int i3), .val (.int i4), .val (.int (2 : Int32)), .val (.int q22), .val (.int q23), .val (.int q24), .val (.int q25), .val (.ref b26), .val (.ref b26)] [(.ref b26), (.ref b26)])) (fun _ kk => XS.aload W42.here hx rfl (hb hby at_188) rfl rfl kk) ?_
      refine Go.of (t' := T42.setTop (mkF m 193 #[.val (.int i0), .val (.int i1), .val (.int i2), .val (.int i3), .val (.int i4), .val (.int (2 : Int32)), .val (.int q22), .val (.int q23), .val (.int q24), .val (.int q25), .val (.ref b26), .val (.ref b26)] [])) (fun _ kk => XT.acmpNo (g := (mkF m 190 #[.val (.int i0), .val (.int i1), .val (.int i2), .val (.int i3), .val (.int i4), .val (.int (2 : Int32)), .val (.int q22), .val (.int q23), .val (.int q24), .val (.int q25), .val (.ref b26), .val (.ref b26)] [(.ref b26), (.ref b26)])) W42.here hx rfl (hb hby at_190) (x := (.ref b26)) (y := (.ref b26)) (rest := []) rfl rfl rfl (XT.aa_ne_f (x := (.ref b26)) (y := (.ref b26)) rfl) kk) ?_
      refine Go.of (t' := T42.setTop (mkF m 194 #[.val (.int i0), .val (.int i1), .val (.int i2), .val (.int i3), .val (.int i4), .val (.int (2 : Int32)), .val (.int q22), .val (.int q23), .val (.int q24), .val (.int q25), .val (.ref b26), .val (.ref b26)] [(.int (1 : Int32))])) (fun _ kk => XS.iconst W42.here hx rfl (hb hby at_193) kk) ?_
      refine Go.of (t' := T42.setTop (mkF m 198 #[.val (.int i0), .val (.int i1), .val (.int i2), .val (.int i3), .val (.int i4), .val (.int (2 : Int32)), .val (.int q22), .val (.int q23), .val (.int q24), .val (.int q25), .val (.ref b26), .val (.ref b26)] [(.int (1 : Int32))])) (fun _ kk => XS.goto W42.here hx rfl (pc0 := 194) (pc' := 198) rfl (hb hby at_194) (by decide +kernel) (by decide +kernel) kk) ?_
      exact W42.retI hx hEL hs hlk (by decide +kernel) (by decide +kernel) hret (by simp) rfl (hb hby at_198) rfl
  · rw [z1]
    show Go p e below _ (T0.setTop (mkF m 3 #[.val (.int i0), .val (.int i1), .val (.int i2), .val (.int i3), .val (.int i4), .unset, .unset, .unset, .unset, .unset, .unset, .unset] [(.int (2 : Int32))]))
    refine Go.of (t' := T0.setTop (mkF m 4 #[.val (.int i0), .val (.int i1), .val (.int i2), .val (.int i3), .val (.int i4), .unset, .unset, .unset, .unset, .unset, .unset, .unset] [(.int (1 : Int32)), (.int (2 : Int32))])) (fun _ kk => XS.iconst W0.here hx rfl (hb hby at_3) kk) ?_
    refine Go.of (t' := T0.setTop (mkF m 5 #[.val (.int i0), .val (.int i1), .val (.int i2), .val (.int i3), .val (.int i4), .unset, .unset, .unset, .unset, .unset, .unset, .unset] [(.int (3 : Int32))])) (fun _ kk => XS.iadd W0.here hx rfl (hb hby at_4) rfl kk) ?_
    refine Go.of (t' := T0.setTop (mkF m 7 #[.val (.int i0), .val (.int i1), .val (.int i2), .val (.int i3), .val (.int i4), .val (.int (3 : Int32)), .unset, .unset, .unset, .unset, .unset, .unset] [])) (fun _ kk => XS.istore W0.here hx rfl (hb hby at_5) rfl (l' := #[.val (.int i0), .val (.int i1), .val (.int i2), .val (.int i3), .val (.int i4), .val (.int (3 : Int32)), .unset, .unset, .unset, .unset, .unset, .unset]) rfl kk) ?_
    refine Go.of (t' := T0.setTop (mkF m 8 #[.val (.int i0), .val (.int i1), .val (.int i2), .val (.int i3), .val (.int i4), .val (.int (3 : Int32)), .unset, .unset, .unset, .unset, .unset, .unset] [(.int i1)])) (fun _ kk => XS.iloadN W0.here hx rfl (hb hby at_7) rfl kk) ?_
    refine W0.callS hx hEL (hw _ (List.mem_of_getElem? (i := 0) rfl)) (hw _ (List.mem_of_getElem? (i := 1) rfl)) (hw _ (List.mem_of_getElem? (i := 2) rfl)) (hw _ (List.mem_of_getElem? (i := 3) rfl)) (by decide +kernel) (argsL := [(.int i1)]) (rest := []) (rm1 l Z a0 hw hEL zc SC hzc fm SF rfm i1 h0 W0.old ) all0 (by decide +kernel) (Wd := 0) (by decide +kernel) (by decide +kernel) (by decide +kernel) all0 rfl (by rw [hml]; rfl) (lenOf pd2 rfl) rfl (by show 2 * 0 + _ ≤ _; exact Nat.le_of_eq rfl) (hb hby at_8) (fun T43 h43 v43 W43 K43 q43 => ?_)
    obtain ⟨q43, rfl, cq43, aq43, rfl⟩ := q43
    show Go p e below _ (T43.setTop (mkF m 11 #[.val (.int i0), .val (.int i1), .val (.int i2), .val (.int i3), .val (.int i4), .val (.int (3 : Int32)), .unset, .unset, .unset, .unset, .unset, .unset] [(.int q43)]))
    refine Go.of (t' := T43.setTop (mkF m 13 #[.val (.int i0), .val (.int i1), .val (.int i2), .val (.int i3), .val (.int i4), .val (.int (3 : Int32)), .val (.int q43), .unset, .unset, .unset, .unset, .unset] [])) (fun _ kk => XS.istore W43.here hx rfl (hb hby at_11) rfl (l' := #[.val (.int i0), .val (.int i1), .val (.int i2), .val (.int i3), .val (.int i4), .val (.int (3 : Int32)), .val (.int q43), .unset, .unset, .unset, .unset, .unset]) rfl kk) ?_
    refine Go.of (t' := T43.setTop (mkF m 14 #[.val (.int i0), .val (.int i1), .val (.int i2), .val (.int i3), .val (.int i4), .val (.int (3 : Int32)), .val (.int q43), .unset, .unset, .unset, .unset, .unset] [(.int i2)])) (fun _ kk => XS.iloadN W43.here hx rfl (hb hby at_13) rfl kk) ?_
    refine W43.callS hx hEL (hw _ (List.mem_of_getElem? (i := 0) rfl)) (hw _ (List.mem_of_getElem? (i := 1) rfl)) (hw _ (List.mem_of_getElem? (i := 2) rfl)) (hw _ (List.mem_of_getElem? (i := 3) rfl)) (by decide +kernel) (argsL := [(.int i2)]) (rest := []) (rm1 l Z a0 hw hEL zc SC hzc fm SF rfm i2 h0 W43.old ) all0 (by decide +kernel) (Wd := 0) (by decide +kernel) (by decide +kernel) (by decide +kernel) all0 rfl (by rw [hml]; rfl) (lenOf pd2 rfl) rfl (by show 2 * 0 + _ ≤ _; exact Nat.le_of_eq rfl) (hb hby at_14) (fun T44 h44 v44 W44 K44 q44 => ?_)
    obtain ⟨q44, rfl, cq44, aq44, rfl⟩ := q44
    show Go p e below _ (T44.setTop (mkF m 17 #[.val (.int i0), .val (.int i1), .val (.int i2), .val (.int i3), .val (.int i4), .val (.int (3 : Int32)), .val (.int q43), .unset, .unset, .unset, .unset, .unset] [(.int q44)]))
    refine Go.of (t' := T44.setTop (mkF m 19 #[.val (.int i0), .val (.int i1), .val (.int i2), .val (.int i3), .val (.int i4), .val (.int (3 : Int32)), .val (.int q43), .val (.int q44), .unset, .unset, .unset, .unset] [])) (fun _ kk => XS.istore W44.here hx rfl (hb hby at_17) rfl (l' := #[.val (.int i0), .val (.int i1), .val (.int i2), .val (.int i3), .val (.int i4), .val (.int (3 : Int32)), .val (.int q43), .val (.int q44), .unset, .unset, .unset, .unset]) rfl kk) ?_
    refine Go.of (t' := T44.setTop (mkF m 20 #[.val (.int i0), .val (.int i1), .val (.int i2), .val (.int i3), .val (.int i4), .val (.int (3 : Int32)), .val (.int q43), .val (.int q44), .unset, .unset, .unset, .unset] [(.int i3)])) (fun _ kk => XS.iloadN W44.here hx rfl (hb hby at_19) rfl kk) ?_
    refine W44.callS hx hEL (hw _ (List.mem_of_getElem? (i := 0) rfl)) (hw _ (List.mem_of_getElem? (i := 1) rfl)) (hw _ (List.mem_of_getElem? (i := 2) rfl)) (hw _ (List.mem_of_getElem? (i := 3) rfl)) (by decide +kernel) (argsL := [(.int i3)]) (rest := []) (rm1 l Z a0 hw hEL zc SC hzc fm SF rfm i3 h0 W44.old ) all0 (by decide +kernel) (Wd := 0) (by decide +kernel) (by decide +kernel) (by decide +kernel) all0 rfl (by rw [hml]; rfl) (lenOf pd2 rfl) rfl (by show 2 * 0 + _ ≤ _; exact Nat.le_of_eq rfl) (hb hby at_20) (fun T45 h45 v45 W45 K45 q45 => ?_)
    obtain ⟨q45, rfl, cq45, aq45, rfl⟩ := q45
    show Go p e below _ (T45.setTop (mkF m 23 #[.val (.int i0), .val (.int i1), .val (.int i2), .val (.int i3), .val (.int i4), .val (.int (3 : Int32)), .val (.int q43), .val (.int q44), .unset, .unset, .unset, .unset] [(.int q45)]))
    refine Go.of (t' := T45.setTop (mkF m 25 #[.val (.int i0), .val (.int i1), .val (.int i2), .val (.int i3), .val (.int i4), .val (.int (3 : Int32)), .val (.int q43), .val (.int q44), .val (.int q45), .unset, .unset, .unset] [])) (fun _ kk => XS.istore W45.here hx rfl (hb hby at_23) rfl (l' := #[.val (.int i0), .val (.int i1), .val (.int i2), .val (.int i3), .val (.int i4), .val (.int (3 : Int32)), .val (.int q43), .val (.int q44), .val (.int q45), .unset, .unset, .unset]) rfl kk) ?_
    refine Go.of (t' := T45.setTop (mkF m 27 #[.val (.int i0), .val (.int i1), .val (.int i2), .val (.int i3), .val (.int i4), .val (.int (3 : Int32)), .val (.int q43), .val (.int q44), .val (.int q45), .unset, .unset, .unset] [(.int i4)])) (fun _ kk => XS.iload W45.here hx rfl (hb hby at_25) rfl kk) ?_
    refine W45.callS hx hEL (hw _ (List.mem_of_getElem? (i := 0) rfl)) (hw _ (List.mem_of_getElem? (i := 1) rfl)) (hw _ (List.mem_of_getElem? (i := 2) rfl)) (hw _ (List.mem_of_getElem? (i := 3) rfl)) (by decide +kernel) (argsL := [(.int i4)]) (rest := []) (rm1 l Z a0 hw hEL zc SC hzc fm SF rfm i4 h0 W45.old ) all0 (by decide +kernel) (Wd := 0) (by decide +kernel) (by decide +kernel) (by decide +kernel) all0 rfl (by rw [hml]; rfl) (lenOf pd2 rfl) rfl (by show 2 * 0 + _ ≤ _; exact Nat.le_of_eq rfl) (hb hby at_27) (fun T46 h46 v46 W46 K46 q46 => ?_)
    obtain ⟨q46, rfl, cq46, aq46, rfl⟩ := q46
    show Go p e below _ (T46.setTop (mkF m 30 #[.val (.int i0), .val (.int i1), .val (.int i2), .val (.int i3), .val (.int i4), .val (.int (3 : Int32)), .val (.int q43), .val (.int q44), .val (.int q45), .unset, .unset, .unset] [(.int q46)]))
    refine Go.of (t' := T46.setTop (mkF m 32 #[.val (.int i0), .val (.int i1), .val (.int i2), .val (.int i3), .val (.int i4), .val (.int (3 : Int32)), .val (.int q43), .val (.int q44), .val (.int q45), .val (.int q46), .unset, .unset] [])) (fun _ kk => XS.istore W46.here hx rfl (hb hby at_30) rfl (l' := #[.val (.int i0), .val (.int i1), .val (.int i2), .val (.int i3), .val (.int i4), .val (.int (3 : Int32)), .val (.int q43), .val (.int q44), .val (.int q45), .val (.int q46), .unset, .unset]) rfl kk) ?_
    refine Go.of (t' := T46.setTop (mkF m 34 #[.val (.int i0), .val (.int i1), .val (.int i2), .val (.int i3), .val (.int i4), .val (.int (3 : Int32)), .val (.int q43), .val (.int q44), .val (.int q45), .val (.int q46), .unset, .unset] [(.int (3 : Int32))])) (fun _ kk => XS.iload W46.here hx rfl (hb hby at_32) rfl kk) ?_
    refine Go.of (t' := T46.setTop (mkF m 35 #[.val (.int i0), .val (.int i1), .val (.int i2), .val (.int i3), .val (.int i4), .val (.int (3 : Int32)), .val (.int q43), .val (.int q44), .val (.int q45), .val (.int q46), .unset, .unset] [(.int (1 : Int32)), (.int (3 : Int32))])) (fun _ kk => XS.iconst W46.here hx rfl (hb hby at_34) kk) ?_
    refine Go.of (t' := T46.setTop (mkF m 58 #[.val (.int i0), .val (.int i1), .val (.int i2), .val (.int i3), .val (.int i4), .val (.int (3 : Int32)), .val (.int q43), .val (.int q44), .val (.int q45), .val (.int q46), .unset, .unset] [])) (fun _ kk => XS.icmpYes W46.here hx rfl (pc0 := 35) (pc' := 58) rfl (hb hby at_35) rfl (XT.ii_ne_t (by decide +kernel)) (by decide +kernel) (by decide +kernel) kk) ?_
    refine Go.of (t' := T46.setTop (mkF m 60 #[.val (.int i0), .val (.int i1), .val (.int i2), .val (.int i3), .val (.int i4), .val (.int (3 : Int32)), .val (.int q43), .val (.int q44), .val (.int q45), .val (.int q46), .unset, .unset] [(.int (3 : Int32))])) (fun _ kk => XS.iload W46.here hx rfl (hb hby at_58) rfl kk) ?_
    refine Go.of (t' := T46.setTop (mkF m 61 #[.val (.int i0), .val (.int i1), .val (.int i2), .val (.int i3), .val (.int i4), .val (.int (3 : Int32)), .val (.int q43), .val (.int q44), .val (.int q45), .val (.int q46), .unset, .unset] [(.int (2 : Int32)), (.int (3 : Int32))])) (fun _ kk => XS.iconst W46.here hx rfl (hb hby at_60) kk) ?_
    refine Go.of (t' := T46.setTop (mkF m 89 #[.val (.int i0), .val (.int i1), .val (.int i2), .val (.int i3), .val (.int i4), .val (.int (3 : Int32)), .val (.int q43), .val (.int q44), .val (.int q45), .val (.int q46), .unset, .unset] [])) (fun _ kk => XS.icmpYes W46.here hx rfl (pc0 := 61) (pc' := 89) rfl (hb hby at_61) rfl (XT.ii_ne_t (by decide +kernel)) (by decide +kernel) (by decide +kernel) kk) ?_
    refine Go.of (t' := T46.setTop (mkF m 91 #[.val (.int i0), .val (.int i1), .val (.int i2), .val (.int i3), .val (.int i4), .val (.int (3 : Int32)), .val (.int q43), .val (.int q44), .val (.int q45), .val (.int q46), .unset, .unset] [(.int (3 : Int32))])) (fun _ kk => XS.iload W46.here hx rfl (hb hby at_89) rfl kk) ?_
    refine Go.of (t' := T46.setTop (mkF m 92 #[.val (.int i0), .val (.int i1), .val (.int i2), .val (.int i3), .val (.int i4), .val (.int (3 : Int32)), .val (.int q43), .val (.int q44), .val (.int q45), .val (.int q46), .unset, .unset] [(.int (3 : Int32)), (.int (3 : Int32))])) (fun _ kk => XS.iconst W46.here hx rfl (hb hby at_91) kk) ?_
    refine Go.of (t' := T46.setTop (mkF m 95 #[.val (.int i0), .val (.int i1), .val (.int i2), .val (.int i3), .val (.int i4), .val (.int (3 : Int32)), .val (.int q43), .val (.int q44), .val (.int q45), .val (.int q46), .unset, .unset] [])) (fun _ kk => XS.icmpNo W46.here hx rfl (hb hby at_92) rfl (XT.ii_ne_f (by decide +kernel)) kk) ?_
    refine W46.newO hx (hw _ (List.mem_of_getElem? (i := 5) rfl)) (hw _ (List.mem_of_getElem? (i := 6) rfl)) (hw _ (List.mem_of_getElem? (i := 7) rfl)) rfl (hb hby at_95) (by decide +kernel) (by decide +kernel) (fun T47 h47 b47 eb47 gb47 W47 K47 E47 D47 => ?_)
    have k48 : Fld Z h47 b47 "java/lang/String" "coder" "B" (.int (0 : Int32)) := D47 (Or.inr (hw _ (List.mem_of_getElem? (i := 32) rfl))) (ty := .byte) (by decide +kernel)
    have k49 : Fld Z h47 b47 "java/lang/String" "value" "[B" .null := D47 (Or.inr (hw _ (List.mem_of_getElem? (i := 34) rfl))) (ty := (.array .byte)) (by decide +kernel)
    show Go p e below _ (T47.setTop (mkF m 98 #[.val (.int i0), .val (.int i1), .val (.int i2), .val (.int i3), .val (.int i4), .val (.int (3 : Int32)), .val (.int q43), .val (.int q44), .val (.int q45), .val (.int q46), .unset, .unset] [(.ref b47)]))
    refine Go.of (t' := T47.setTop (mkF m 99 #[.val (.int i0), .val (.int i1), .val (.int i2), .val (.int i3), .val (.int i4), .val (.int (3 : Int32)), .val (.int q43), .val (.int q44), .val (.int q45), .val (.int q46), .unset, .unset] [(.ref b47), (.ref b47)])) (fun _ kk => XS.dup W47.here hx rfl (hb hby at_98) rfl rfl kk) ?_
    refine Go.of (t' := T47.setTop (mkF m 100 #[.val (.int i0), .val (.int i1), .val (.int i2), .val (.int i3), .val (.int i4), .val (.int (3 : Int32)), .val (.int q43), .val (.int q44), .val (.int q45), .val (.int q46), .unset, .unset] [(.int (3 : Int32)), (.ref b47), (.ref b47)])) (fun _ kk => XS.iconst W47.here hx rfl (hb hby at_99) kk) ?_
    refine W47.newP hx (hw _ (List.mem_of_getElem? (i := 8) rfl)) rfl (hb hby at_100) rfl (by decide +kernel) (cap := 3) (by decide +kernel) (by decide +kernel) (by decide +kernel) (by decide +kernel) (fun T50 h50 b50 c50 eb50 gb50 W50 K50 A50 => ?_)
    have V50 : Arv Z h50 b50 c50 .char (3 : Int32) [(.int (0 : Int32)), (.int (0 : Int32)), (.int (0 : Int32))] (.int (0 : Int32)) := A50
    show Go p e below _ (T50.setTop (mkF m 102 #[.val (.int i0), .val (.int i1), .val (.int i2), .val (.int i3), .val (.int i4), .val (.int (3 : Int32)), .val (.int q43), .val (.int q44), .val (.int q45), .val (.int q46), .unset, .unset] [(.ref b50), (.ref b47), (.ref b47)]))
    refine Go.of (t' := T50.setTop (mkF m 103 #[.val (.int i0), .val (.int i1), .val (.int i2), .val (.int i3), .val (.int i4), .val (.int (3 : Int32)), .val (.int q43), .val (.int q44), .val (.int q45), .val (.int q46), .unset, .unset] [(.ref b50), (.ref b50), (.ref b47), (.ref b47)])) (fun _ kk => XS.dup W50.here hx rfl (hb hby at_102) rfl rfl kk) ?_
    refine Go.of (t' := T50.setTop (mkF m 104 #[.val (.int i0), .val (.int i1), .val (.int i2), .val (.int i3), .val (.int i4), .val (.int (3 : Int32)), .val (.int q43), .val (.int q44), .val (.int q45), .val (.int q46), .unset, .unset] [(.int (0 : Int32)), (.ref b50), (.ref b50), (.ref b47), (.ref b47)])) (fun _ kk => XS.iconst W50.here hx rfl (hb hby at_103) kk) ?_
    refine Go.of (t' := T50.setTop (mkF m 106 #[.val (.int i0), .val (.int i1), .val (.int i2), .val (.int i3), .val (.int i4), .val (.int (3 : Int32)), .val (.int q43), .val (.int q44), .val (.int q45), .val (.int q46), .unset, .unset] [(.int q43), (.int (0 : Int32)), (.ref b50), (.ref b50), (.ref b47), (.ref b47)])) (fun _ kk => XS.iload W50.here hx rfl (hb hby at_104) rfl kk) ?_
    refine W50.stC hx V50 ⟨by decide, by decide⟩ 0 rfl (Nat.le_of_ble_eq_true rfl) gb50.1 (Or.inr gb50.2) rfl rfl (hb hby at_106) (fun T51 h51 W51 K51 A51 => ?_)
    have V51 : Arv Z h51 b50 c50 .char (3 : Int32) [(.int q43), (.int (0 : Int32)), (.int (0 : Int32))] (.int (0 : Int32)) := (by rw [(nar_char cq43)] at A51; exact A51)
    show Go p e below _ (T51.setTop (mkF m 107 #[.val (.int i0), .val (.int i1), .val (.int i2), .val (.int i3), .val (.int i4), .val (.int (3 : Int32)), .val (.int q43), .val (.int q44), .val (.int q45), .val (.int q46), .unset, .unset] [(.ref b50), (.ref b47), (.ref b47)]))
    refine Go.of (t' := T51.setTop (mkF m 108 #[.val (.int i0), .val (.int i1), .val (.int i2), .val (.int i3), .val (.int i4), .val (.int (3 : Int32)), .val (.int q43), .val (.int q44), .val (.int q45), .val (.int q46), .unset, .unset] [(.ref b50), (.ref b50), (.ref b47), (.ref b47)])) (fun _ kk => XS.dup W51.here hx rfl (hb hby at_107) rfl rfl kk) ?_
    refine Go.of (t' := T51.setTop (mkF m 109 #[.val (.int i0), .val (.int i1), .val (.int i2), .val (.int i3), .val (.int i4), .val (.int (3 : Int32)), .val (.int q43), .val (.int q44), .val (.int q45), .val (.int q46), .unset, .unset] [(.int (1 : Int32)), (.ref b50), (.ref b50), (.ref b47), (.ref b47)])) (fun _ kk => XS.iconst W51.here hx rfl (hb hby at_108) kk) ?_
    refine Go.of (t' := T51.setTop (mkF m 111 #[.val (.int i0), .val (.int i1), .val (.int i2), .val (.int i3), .val (.int i4), .val (.int (3 : Int32)), .val (.int q43), .val (.int q44), .val (.int q45), .val (.int q46), .unset, .unset] [(.int q44), (.int (1 : Int32)), (.ref b50), (.ref b50), (.ref b47), (.ref b47)])) (fun _ kk => XS.iload W51.here hx rfl (hb hby at_109) rfl kk) ?_
    refine W51.stC hx V51 ⟨by decide, by decide⟩ 1 rfl (Nat.le_of_ble_eq_true rfl) gb50.1 (Or.inr gb50.2) rfl rfl (hb hby at_111) (fun T52 h52 W52 K52 A52 => ?_)
    have V52 : Arv Z h52 b50 c50 .char (3 : Int32) [(.int q43), (.int q44), (.int (0 : Int32))] (.int (0 : Int32)) := (by rw [(nar_char cq44)] at A52; exact A52)
    show Go p e below _ (T52.setTop (mkF m 112 #[.val (.int i0), .val (.int i1), .val (.int i2), .val (.int i3), .val (.int i4), .val (.int (3 : Int32)), .val (.int q43), .val (.int q44), .val (.int q45), .val (.int q46), .unset, .unset] [(.ref b50), (.ref b47), (.ref b47)]))
    refine Go.of (t' := T52.setTop (mkF m 113 #[.val (.int i0), .val (.int i1), .val (.int i2), .val (.int i3), .val (.int i4), .val (.int (3 : Int32)), .val (.int q43), .val (.int q44), .val (.int q45), .val (.int q46), .unset, .unset] [(.ref b50), (.ref b50), (.ref b47), (.ref b47)])) (fun _ kk => XS.dup W52.here hx rfl (hb hby at_112) rfl rfl kk) ?_
    refine Go.of (t' := T52.setTop (mkF m 114 #[.val (.int i0), .val (.int i1), .val (.int i2), .val (.int i3), .val (.int i4), .val (.int (3 : Int32)), .val (.int q43), .val (.int q44), .val (.int q45), .val (.int q46), .unset, .unset] [(.int (2 : Int32)), (.ref b50), (.ref b50), (.ref b47), (.ref b47)])) (fun _ kk => XS.iconst W52.here hx rfl (hb hby at_113) kk) ?_
    refine Go.of (t' := T52.setTop (mkF m 116 #[.val (.int i0), .val (.int i1), .val (.int i2), .val (.int i3), .val (.int i4), .val (.int (3 : Int32)), .val (.int q43), .val (.int q44), .val (.int q45), .val (.int q46), .unset, .unset] [(.int q45), (.int (2 : Int32)), (.ref b50), (.ref b50), (.ref b47), (.ref b47)])) (fun _ kk => XS.iload W52.here hx rfl (hb hby at_114) rfl kk) ?_
    refine W52.stC hx V52 ⟨by decide, by decide⟩ 2 rfl (Nat.le_of_ble_eq_true rfl) gb50.1 (Or.inr gb50.2) rfl rfl (hb hby at_116) (fun T53 h53 W53 K53 A53 => ?_)
    have V53 : Arv Z h53 b50 c50 .char (3 : Int32) [(.int q43), (.int q44), (.int q45)] (.int (0 : Int32)) := (by rw [(nar_char cq45)] at A53; exact A53)
    show Go p e below _ (T53.setTop (mkF m 117 #[.val (.int i0), .val (.int i1), .val (.int i2), .val (.int i3), .val (.int i4), .val (.int (3 : Int32)), .val (.int q43), .val (.int q44), .val (.int q45), .val (.int q46), .unset, .unset] [(.ref b50), (.ref b47), (.ref b47)]))
    have k55 := ((((E47.keep K50).keep K51).keep K52).keep K53)
    have k56 := ((((k49.keep K50 nin0).keep K51 (ninS (ne_of_born (Nat.le_of_eq eb50.symm) E47.lt (Nat.le_refl _)) nin0)).keep K52 (ninS (ne_of_born (Nat.le_of_eq eb50.symm) E47.lt (Nat.le_refl _)) nin0)).keep K53 (ninS (ne_of_born (Nat.le_of_eq eb50.symm) E47.lt (Nat.le_refl _)) nin0))
    have k57 := ((((k48.keep K50 nin0).keep K51 (ninS (ne_of_born (Nat.le_of_eq eb50.symm) E47.lt (Nat.le_refl _)) nin0)).keep K52 (ninS (ne_of_born (Nat.le_of_eq eb50.symm) E47.lt (Nat.le_refl _)) nin0)).keep K53 (ninS (ne_of_born (Nat.le_of_eq eb50.symm) E47.lt (Nat.le_refl _)) nin0))
    refine W53.newStr hx hws (hw _ (List.mem_of_getElem? (i := 6) rfl)) SC hzc (hw _ (List.mem_of_getElem? (i := 9) rfl)) (hw _ (List.mem_of_getElem? (i := 10) rfl)) (hw _ (List.mem_of_getElem? (i := 11) rfl)) k55 k56 k57 (cs := [q43, q44, q45]) (n := 3) V53 rfl rfl (by decide +kernel) (by decide +kernel) (allSi cq43 (allSi cq44 (allSi cq45 all0i))) gb47.1 (Or.inr gb47.2) (List.mem_of_getElem? (i := 1) rfl) (by decide +kernel) (Wd := 1) (by decide +kernel) (by decide +kernel) (by decide +kernel) rfl (by rw [hml]; rfl) rfl (by show 2 * 0 + _ ≤ _; exact Nat.le_of_eq rfl) (hb hby at_117) (fun T54 h54 W54 K54 S54 => ?_)
    show Go p e below _ (T54.setTop (mkF m 120 #[.val (.int i0), .val (.int i1), .val (.int i2), .val (.int i3), .val (.int i4), .val (.int (3 : Int32)), .val (.int q43), .val (.int q44), .val (.int q45), .val (.int q46), .unset, .unset] [(.ref b47)]))
    refine Go.of (t' := T54.setTop (mkF m 122 #[.val (.int i0), .val (.int i1), .val (.int i2), .val (.int i3), .val (.int i4), .val (.int (3 : Int32)), .val (.int q43), .val (.int q44), .val (.int q45), .val (.int q46), .val (.ref b47), .unset] [])) (fun _ kk => XS.astore W54.here hx rfl (hb hby at_120) rfl rfl (l' := #[.val (.int i0), .val (.int i1), .val (.int i2), .val (.int i3), .val (.int i4), .val (.int (3 : Int32)), .val (.int q43), .val (.int q44), .val (.int q45), .val (.int q46), .val (.ref b47), .unset]) rfl kk) ?_
    refine Go.of (t' := T54.setTop (mkF m 157 #[.val (.int i0), .val (.int i1), .val (.int i2), .val (.int i3), .val (.int i4), .val (.int (3 : Int32)), .val (.int q43), .val (.int q44), .val (.int q45), .val (.int q46), .val (.ref b47), .unset] [])) (fun _ kk => XS.goto W54.here hx rfl (pc0 := 122) (pc' := 157) rfl (hb hby at_122) (by decide +kernel) (by decide +kernel) kk) ?_
    refine Go.of (t' := T54.setTop (mkF m 159 #[.val (.int i0), .val (.int i1), .val (.int i2), .val (.int i3), .val (.int i4), .val (.int (3 : Int32)), .val (.int q43), .val (.int q44), .val (.int q45), .val (.int q46), .val (.ref b47), .unset] [(.ref b47)])) (fun _ kk => XS.aload W54.here hx rfl (hb hby at_157) rfl rfl kk) ?_
    refine W54.ldcC hx hEL (by decide +kernel) (hw _ (List.mem_of_getElem? (i := 35) rfl)) hSA [(.int (46 : Int32))] (1 : Int32) (by decide +kernel) (by decide +kernel) (by decide +kernel) rfl (hb hby at_159) (n := 4) (by decide +kernel) (by decide +kernel) (by decide +kernel) (by decide +kernel) (fun T58 h58 b58 t58 kb58 W58 K58 E58 Fv58 Fc58 A58 N58 => ?_)
    have S58 : Str Z h58 b58 [(46 : Int32)] := ⟨t58, kb58, 0, (1 : Int32), _, E58, Fv58, Fc58, A58, Or.inl ⟨rfl, by decide +kernel, by decide +kernel, by decide +kernel⟩, by decide +kernel, by decide⟩
    show Go p e below _ (T58.setTop (mkF m 161 #[.val (.int i0), .val (.int i1), .val (.int i2), .val (.int i3), .val (.int i4), .val (.int (3 : Int32)), .val (.int q43), .val (.int q44), .val (.int q45), .val (.int q46), .val (.ref b47), .unset] [(.ref b58), (.ref b47)]))
    have k60 := (S54.keep0 K58)
    refine W58.strEq hx heq (hw _ (List.mem_of_getElem? (i := 6) rfl)) SC hzc k60 S58 (hw _ (List.mem_of_getElem? (i := 38) rfl)) (hw _ (List.mem_of_getElem? (i := 39) rfl)) (hw _ (List.mem_of_getElem? (i := 41) rfl)) (hw _ (List.mem_of_getElem? (i := 40) rfl)) (by decide +kernel) (Wd := 0) (by decide +kernel) (by decide +kernel) (by decide +kernel) rfl (by rw [hml]; rfl) rfl (by show 2 * 0 + _ ≤ _; exact Nat.le_of_eq rfl) (hb hby at_161) (fun T59 z59 hz59 W59 => ?_)
    obtain ⟨-, hn59⟩ | ⟨rfl, -⟩ := hz59
    case inl => exact absurd hn59 (fun q => absurd (congrArg List.length q) (by simp))
    show Go p e below _ (T59.setTop (mkF m 164 #[.val (.int i0), .val (.int i1), .val (.int i2), .val (.int i3), .val (.int i4), .val (.int (3 : Int32)), .val (.int q43), .val (.int q44), .val (.int q45), .val (.int q46), .val (.ref b47), .unset] [(.int (0 : Int32))]))
    refine Go.of (t' := T59.setTop (mkF m 167 #[.val (.int i0), .val (.int i1), .val (.int i2), .val (.int i3), .val (.int i4), .val (.int (3 : Int32)), .val (.int q43), .val (.int q44), .val (.int q45), .val (.int q46), .val (.ref b47), .unset] [])) (fun _ kk => XS.ifNo W59.here hx rfl (hb hby at_164) rfl (XT.i0_ne_f (by decide +kernel)) kk) ?_
    refine Go.of (t' := T59.setTop (mkF m 169 #[.val (.int i0), .val (.int i1), .val (.int i2), .val (.int i3), .val (.int i4), .val (.int (3 : Int32)), .val (.int q43), .val (.int q44), .val (.int q45), .val (.int q46), .val (.ref b47), .unset] [(.ref b47)])) (fun _ kk => XS.aload W59.here hx rfl (hb hby at_167) rfl rfl kk) ?_
    refine W59.ldcC hx hEL (by decide +kernel) (hw _ (List.mem_of_getElem? (i := 48) rfl)) hSA [(.int (46 : Int32)), (.int (46 : Int32))] (2 : Int32) (by decide +kernel) (by decide +kernel) (by decide +kernel) rfl (hb hby at_169) (n := 8) (by decide +kernel) (by decide +kernel) (by decide +kernel) (by decide +kernel) (fun T61 h61 b61 t61 kb61 W61 K61 E61 Fv61 Fc61 A61 N61 => ?_)
    have S61 : Str Z h61 b61 [(46 : Int32), (46 : Int32)] := ⟨t61, kb61, 0, (2 : Int32), _, E61, Fv61, Fc61, A61, Or.inl ⟨rfl, by decide +kernel, by decide +kernel, by decide +kernel⟩, by decide +kernel, by decide⟩
    show Go p e below _ (T61.setTop (mkF m 171 #[.val (.int i0), .val (.int i1), .val (.int i2), .val (.int i3), .val (.int i4), .val (.int (3 : Int32)), .val (.int q43), .val (.int q44), .val (.int q45), .val (.int q46), .val (.ref b47), .unset] [(.ref b61), (.ref b47)]))
    have k63 := (k60.keep0 K61)
    refine W61.strEq hx heq (hw _ (List.mem_of_getElem? (i := 6) rfl)) SC hzc k63 S61 (hw _ (List.mem_of_getElem? (i := 38) rfl)) (hw _ (List.mem_of_getElem? (i := 39) rfl)) (hw _ (List.mem_of_getElem? (i := 41) rfl)) (hw _ (List.mem_of_getElem? (i := 40) rfl)) (by decide +kernel) (Wd := 0) (by decide +kernel) (by decide +kernel) (by decide +kernel) rfl (by rw [hml]; rfl) rfl (by show 2 * 0 + _ ≤ _; exact Nat.le_of_eq rfl) (hb hby at_171) (fun T62 z62 hz62 W62 => ?_)
    obtain ⟨-, hn62⟩ | ⟨rfl, -⟩ := hz62
    case inl => exact absurd hn62 (fun q => absurd (congrArg List.length q) (by simp))
    show Go p e below _ (T62.setTop (mkF m 174 #[.val (.int i0), .val (.int i1), .val (.int i2), .val (.int i3), .val (.int i4), .val (.int (3 : Int32)), .val (.int q43), .val (.int q44), .val (.int q45), .val (.int q46), .val (.ref b47), .unset] [(.int (0 : Int32))]))
    refine Go.of (t' := T62.setTop (mkF m 179 #[.val (.int i0), .val (.int i1), .val (.int i2), .val (.int i3), .val (.int i4), .val (.int (3 : Int32)), .val (.int q43), .val (.int q44), .val (.int q45), .val (.int q46), .val (.ref b47), .unset] [])) (fun _ kk => XS.ifYes W62.here hx rfl (pc0 := 174) (pc' := 179) rfl (hb hby at_174) rfl (XT.i0_eq_t (by decide +kernel)) (by decide +kernel) (by decide +kernel) kk) ?_
    refine Go.of (t' := T62.setTop (mkF m 181 #[.val (.int i0), .val (.int i1), .val (.int i2), .val (.int i3), .val (.int i4), .val (.int (3 : Int32)), .val (.int q43), .val (.int q44), .val (.int q45), .val (.int q46), .val (.ref b47), .unset] [(.ref b47)])) (fun _ kk => XS.aload W62.here hx rfl (hb hby at_179) rfl rfl kk) ?_
    refine W62.callS hx hEL (hw _ (List.mem_of_getElem? (i := 49) rfl)) (hw _ (List.mem_of_getElem? (i := 50) rfl)) (hw _ (List.mem_of_getElem? (i := 51) rfl)) (hw _ (List.mem_of_getElem? (i := 52) rfl)) (by decide +kernel) (argsL := [(.ref b47)]) (rest := []) (rm23 l Z a0 hw hEL zc SC hzc fm SF rfm b47 q43 q44 q45 h61 W62.old k63 cq43 cq44 cq45 aq43 aq44 aq45) all0 (by decide +kernel) (Wd := 0) (by decide +kernel) (by decide +kernel) (by decide +kernel) all0 rfl (by rw [hml]; rfl) (lenOf pd3 rfl) rfl (by show 2 * 0 + _ ≤ _; exact Nat.le_of_eq rfl) (hb hby at_181) (fun T64 h64 v64 W64 K64 q64 => ?_)
    obtain rfl := q64
    show Go p e below _ (T64.setTop (mkF m 184 #[.val (.int i0), .val (.int i1), .val (.int i2), .val (.int i3), .val (.int i4), .val (.int (3 : Int32)), .val (.int q43), .val (.int q44), .val (.int q45), .val (.int q46), .val (.ref b47), .unset] [(.ref b47)]))
    refine Go.of (t' := T64.setTop (mkF m 186 #[.val (.int i0), .val (.int i1), .val (.int i2), .val (.int i3), .val (.int i4), .val (.int (3 : Int32)), .val (.int q43), .val (.int q44), .val (.int q45), .val (.int q46), .val (.ref b47), .val (.ref b47)] [])) (fun _ kk => XS.astore W64.here hx rfl (hb hby at_184) rfl rfl (l' := #[.val (.int i0), .val (.int i1), .val (.int i2), .val (.int i3), .val (.int i4), .val (.int (3 : Int32)), .val (.int q43), .val (.int q44), .val (.int q45), .val (.int q46), .val (.ref b47), .val (.ref b47)]) rfl kk) ?_
    refine Go.of (t' := T64.setTop (mkF m 188 #[.val (.int i0), .val (.int i1), .val (.int i2), .val (.int i3), .val (.int i4), .val (.int (3 : Int32)), .val (.int q43), .val (.int q44), .val (.int q45), .val (.int q46), .val (.ref b47), .val (.ref b47)] [(.ref b47)])) (fun _ kk => XS.aload W64.here hx rfl (hb hby at_186) rfl rfl kk) ?_
    refine Go.of (t' := T64.setTop (mkF m 190 #[.val (.int i0), .val (.int i1), .val (.int i2), .val (.int i3), .val (.int i4), .val (.int (3 : Int32)), .val (.int q43), .val (.int q44), .val (.int q45), .val (.int q46), .val (.ref b47), .val (.ref b47)] [(.ref b47), (.ref b47)])) (fun _ kk => XS.aload W64.here hx rfl (hb hby at_188) rfl rfl kk) ?_
    refine Go.of (t' := T64.setTop (mkF m 193 #[.val (.int i0), .val (.int i1), .val (.int i2), .val (.int i3), .val (.int i4), .val (.int (3 : Int32)), .val (.int q43), .val (.int q44), .val (.int q45), .val (.int q46), .val (.ref b47), .val (.ref b47)] [])) (fun _ kk => XT.acmpNo (g := (mkF m 190 #[.val (.int i0), .val (.int i1), .val (.int i2), .val (.int i3), .val (.int i4), .val (.int (3 : Int32)), .val (.int q43), .val (.int q44), .val (.int q45), .val (.int q46), .val (.ref b47), .val (.ref b47)] [(.ref b47), (.ref b47)])) W64.here hx rfl (hb hby at_190) (x := (.ref b47)) (y := (.ref b47)) (rest := []) rfl rfl rfl (XT.aa_ne_f (x := (.ref b47)) (y := (.ref b47)) rfl) kk) ?_
    refine Go.of (t' := T64.setTop (mkF m 194 #[.val (.int i0), .val (.int i1), .val (.int i2), .val (.int i3), .val (.int i4), .val (.int (3 : Int32)), .val (.int q43), .val (.int q44), .val (.int q45), .val (.int q46), .val (.ref b47), .val (.ref b47)] [(.int (1 : Int32))])) (fun _ kk => XS.iconst W64.here hx rfl (hb hby at_193) kk) ?_
    refine Go.of (t' := T64.setTop (mkF m 198 #[.val (.int i0), .val (.int i1), .val (.int i2), .val (.int i3), .val (.int i4), .val (.int (3 : Int32)), .val (.int q43), .val (.int q44), .val (.int q45), .val (.int q46), .val (.ref b47), .val (.ref b47)] [(.int (1 : Int32))])) (fun _ kk => XS.goto W64.here hx rfl (pc0 := 194) (pc' := 198) rfl (hb hby at_194) (by decide +kernel) (by decide +kernel) kk) ?_
    exact W64.retI hx hEL hs hlk (by decide +kernel) (by decide +kernel) hret (by simp) rfl (hb hby at_198) rfl
  · rw [z1]
    show Go p e below _ (T0.setTop (mkF m 3 #[.val (.int i0), .val (.int i1), .val (.int i2), .val (.int i3), .val (.int i4), .unset, .unset, .unset, .unset, .unset, .unset, .unset] [(.int (3 : Int32))]))
    refine Go.of (t' := T0.setTop (mkF m 4 #[.val (.int i0), .val (.int i1), .val (.int i2), .val (.int i3), .val (.int i4), .unset, .unset, .unset, .unset, .unset, .unset, .unset] [(.int (1 : Int32)), (.int (3 : Int32))])) (fun _ kk => XS.iconst W0.here hx rfl (hb hby at_3) kk) ?_
    refine Go.of (t' := T0.setTop (mkF m 5 #[.val (.int i0), .val (.int i1), .val (.int i2), .val (.int i3), .val (.int i4), .unset, .unset, .unset, .unset, .unset, .unset, .unset] [(.int (4 : Int32))])) (fun _ kk => XS.iadd W0.here hx rfl (hb hby at_4) rfl kk) ?_
    refine Go.of (t' := T0.setTop (mkF m 7 #[.val (.int i0), .val (.int i1), .val (.int i2), .val (.int i3), .val (.int i4), .val (.int (4 : Int32)), .unset, .unset, .unset, .unset, .unset, .unset] [])) (fun _ kk => XS.istore W0.here hx rfl (hb hby at_5) rfl (l' := #[.val (.int i0), .val (.int i1), .val (.int i2), .val (.int i3), .val (.int i4), .val (.int (4 : Int32)), .unset, .unset, .unset, .unset, .unset, .unset]) rfl kk) ?_
    refine Go.of (t' := T0.setTop (mkF m 8 #[.val (.int i0), .val (.int i1), .val (.int i2), .val (.int i3), .val (.int i4), .val (.int (4 : Int32)), .unset, .unset, .unset, .unset, .unset, .unset] [(.int i1)])) (fun _ kk => XS.iloadN W0.here hx rfl (hb hby at_7) rfl kk) ?_
    refine W0.callS hx hEL (hw _ (List.mem_of_getElem? (i := 0) rfl)) (hw _ (List.mem_of_getElem? (i := 1) rfl)) (hw _ (List.mem_of_getElem? (i := 2) rfl)) (hw _ (List.mem_of_getElem? (i := 3) rfl)) (by decide +kernel) (argsL := [(.int i1)]) (rest := []) (rm1 l Z a0 hw hEL zc SC hzc fm SF rfm i1 h0 W0.old ) all0 (by decide +kernel) (Wd := 0) (by decide +kernel) (by decide +kernel) (by decide +kernel) all0 rfl (by rw [hml]; rfl) (lenOf pd2 rfl) rfl (by show 2 * 0 + _ ≤ _; exact Nat.le_of_eq rfl) (hb hby at_8) (fun T65 h65 v65 W65 K65 q65 => ?_)
    obtain ⟨q65, rfl, cq65, aq65, rfl⟩ := q65
    show Go p e below _ (T65.setTop (mkF m 11 #[.val (.int i0), .val (.int i1), .val (.int i2), .val (.int i3), .val (.int i4), .val (.int (4 : Int32)), .unset, .unset, .unset, .unset, .unset, .unset] [(.int q65)]))
    refine Go.of (t' := T65.setTop (mkF m 13 #[.val (.int i0), .val (.int i1), .val (.int i2), .val (.int i3), .val (.int i4), .val (.int (4 : Int32)), .val (.int q65), .unset, .unset, .unset, .unset, .unset] [])) (fun _ kk => XS.istore W65.here hx rfl (hb hby at_11) rfl (l' := #[.val (.int i0), .val (.int i1), .val (.int i2), .val (.int i3), .val (.int i4), .val (.int (4 : Int32)), .val (.int q65), .unset, .unset, .unset, .unset, .unset]) rfl kk) ?_
    refine Go.of (t' := T65.setTop (mkF m 14 #[.val (.int i0), .val (.int i1), .val (.int i2), .val (.int i3), .val (.int i4), .val (.int (4 : Int32)), .val (.int q65), .unset, .unset, .unset, .unset, .unset] [(.int i2)])) (fun _ kk => XS.iloadN W65.here hx rfl (hb hby at_13) rfl kk) ?_
    refine W65.callS hx hEL (hw _ (List.mem_of_getElem? (i := 0) rfl)) (hw _ (List.mem_of_getElem? (i := 1) rfl)) (hw _ (List.mem_of_getElem? (i := 2) rfl)) (hw _ (List.mem_of_getElem? (i := 3) rfl)) (by decide +kernel) (argsL := [(.int i2)]) (rest := []) (rm1 l Z a0 hw hEL zc SC hzc fm SF rfm i2 h0 W65.old ) all0 (by decide +kernel) (Wd := 0) (by decide +kernel) (by decide +kernel) (by decide +kernel) all0 rfl (by rw [hml]; rfl) (lenOf pd2 rfl) rfl (by show 2 * 0 + _ ≤ _; exact Nat.le_of_eq rfl) (hb hby at_14) (fun T66 h66 v66 W66 K66 q66 => ?_)
    obtain ⟨q66, rfl, cq66, aq66, rfl⟩ := q66
    show Go p e below _ (T66.setTop (mkF m 17 #[.val (.int i0), .val (.int i1), .val (.int i2), .val (.int i3), .val (.int i4), .val (.int (4 : Int32)), .val (.int q65), .unset, .unset, .unset, .unset, .unset] [(.int q66)]))
    refine Go.of (t' := T66.setTop (mkF m 19 #[.val (.int i0), .val (.int i1), .val (.int i2), .val (.int i3), .val (.int i4), .val (.int (4 : Int32)), .val (.int q65), .val (.int q66), .unset, .unset, .unset, .unset] [])) (fun _ kk => XS.istore W66.here hx rfl (hb hby at_17) rfl (l' := #[.val (.int i0), .val (.int i1), .val (.int i2), .val (.int i3), .val (.int i4), .val (.int (4 : Int32)), .val (.int q65), .val (.int q66), .unset, .unset, .unset, .unset]) rfl kk) ?_
    refine Go.of (t' := T66.setTop (mkF m 20 #[.val (.int i0), .val (.int i1), .val (.int i2), .val (.int i3), .val (.int i4), .val (.int (4 : Int32)), .val (.int q65), .val (.int q66), .unset, .unset, .unset, .unset] [(.int i3)])) (fun _ kk => XS.iloadN W66.here hx rfl (hb hby at_19) rfl kk) ?_
    refine W66.callS hx hEL (hw _ (List.mem_of_getElem? (i := 0) rfl)) (hw _ (List.mem_of_getElem? (i := 1) rfl)) (hw _ (List.mem_of_getElem? (i := 2) rfl)) (hw _ (List.mem_of_getElem? (i := 3) rfl)) (by decide +kernel) (argsL := [(.int i3)]) (rest := []) (rm1 l Z a0 hw hEL zc SC hzc fm SF rfm i3 h0 W66.old ) all0 (by decide +kernel) (Wd := 0) (by decide +kernel) (by decide +kernel) (by decide +kernel) all0 rfl (by rw [hml]; rfl) (lenOf pd2 rfl) rfl (by show 2 * 0 + _ ≤ _; exact Nat.le_of_eq rfl) (hb hby at_20) (fun T67 h67 v67 W67 K67 q67 => ?_)
    obtain ⟨q67, rfl, cq67, aq67, rfl⟩ := q67
    show Go p e below _ (T67.setTop (mkF m 23 #[.val (.int i0), .val (.int i1), .val (.int i2), .val (.int i3), .val (.int i4), .val (.int (4 : Int32)), .val (.int q65), .val (.int q66), .unset, .unset, .unset, .unset] [(.int q67)]))
    refine Go.of (t' := T67.setTop (mkF m 25 #[.val (.int i0), .val (.int i1), .val (.int i2), .val (.int i3), .val (.int i4), .val (.int (4 : Int32)), .val (.int q65), .val (.int q66), .val (.int q67), .unset, .unset, .unset] [])) (fun _ kk => XS.istore W67.here hx rfl (hb hby at_23) rfl (l' := #[.val (.int i0), .val (.int i1), .val (.int i2), .val (.int i3), .val (.int i4), .val (.int (4 : Int32)), .val (.int q65), .val (.int q66), .val (.int q67), .unset, .unset, .unset]) rfl kk) ?_
    refine Go.of (t' := T67.setTop (mkF m 27 #[.val (.int i0), .val (.int i1), .val (.int i2), .val (.int i3), .val (.int i4), .val (.int (4 : Int32)), .val (.int q65), .val (.int q66), .val (.int q67), .unset, .unset, .unset] [(.int i4)])) (fun _ kk => XS.iload W67.here hx rfl (hb hby at_25) rfl kk) ?_
    refine W67.callS hx hEL (hw _ (List.mem_of_getElem? (i := 0) rfl)) (hw _ (List.mem_of_getElem? (i := 1) rfl)) (hw _ (List.mem_of_getElem? (i := 2) rfl)) (hw _ (List.mem_of_getElem? (i := 3) rfl)) (by decide +kernel) (argsL := [(.int i4)]) (rest := []) (rm1 l Z a0 hw hEL zc SC hzc fm SF rfm i4 h0 W67.old ) all0 (by decide +kernel) (Wd := 0) (by decide +kernel) (by decide +kernel) (by decide +kernel) all0 rfl (by rw [hml]; rfl) (lenOf pd2 rfl) rfl (by show 2 * 0 + _ ≤ _; exact Nat.le_of_eq rfl) (hb hby at_27) (fun T68 h68 v68 W68 K68 q68 => ?_)
    obtain ⟨q68, rfl, cq68, aq68, rfl⟩ := q68
    show Go p e below _ (T68.setTop (mkF m 30 #[.val (.int i0), .val (.int i1), .val (.int i2), .val (.int i3), .val (.int i4), .val (.int (4 : Int32)), .val (.int q65), .val (.int q66), .val (.int q67), .unset, .unset, .unset] [(.int q68)]))
    refine Go.of (t' := T68.setTop (mkF m 32 #[.val (.int i0), .val (.int i1), .val (.int i2), .val (.int i3), .val (.int i4), .val (.int (4 : Int32)), .val (.int q65), .val (.int q66), .val (.int q67), .val (.int q68), .unset, .unset] [])) (fun _ kk => XS.istore W68.here hx rfl (hb hby at_30) rfl (l' := #[.val (.int i0), .val (.int i1), .val (.int i2), .val (.int i3), .val (.int i4), .val (.int (4 : Int32)), .val (.int q65), .val (.int q66), .val (.int q67), .val (.int q68), .unset, .unset]) rfl kk) ?_
    refine Go.of (t' := T68.setTop (mkF m 34 #[.val (.int i0), .val (.int i1), .val (.int i2), .val (.int i3), .val (.int i4), .val (.int (4 : Int32)), .val (.int q65), .val (.int q66), .val (.int q67), .val (.int q68), .unset, .unset] [(.int (4 : Int32))])) (fun _ kk => XS.iload W68.here hx rfl (hb hby at_32) rfl kk) ?_
    refine Go.of (t' := T68.setTop (mkF m 35 #[.val (.int i0), .val (.int i1), .val (.int i2), .val (.int i3), .val (.int i4), .val (.int (4 : Int32)), .val (.int q65), .val (.int q66), .val (.int q67), .val (.int q68), .unset, .unset] [(.int (1 : Int32)), (.int (4 : Int32))])) (fun _ kk => XS.iconst W68.here hx rfl (hb hby at_34) kk) ?_
    refine Go.of (t' := T68.setTop (mkF m 58 #[.val (.int i0), .val (.int i1), .val (.int i2), .val (.int i3), .val (.int i4), .val (.int (4 : Int32)), .val (.int q65), .val (.int q66), .val (.int q67), .val (.int q68), .unset, .unset] [])) (fun _ kk => XS.icmpYes W68.here hx rfl (pc0 := 35) (pc' := 58) rfl (hb hby at_35) rfl (XT.ii_ne_t (by decide +kernel)) (by decide +kernel) (by decide +kernel) kk) ?_
    refine Go.of (t' := T68.setTop (mkF m 60 #[.val (.int i0), .val (.int i1), .val (.int i2), .val (.int i3), .val (.int i4), .val (.int (4 : Int32)), .val (.int q65), .val (.int q66), .val (.int q67), .val (.int q68), .unset, .unset] [(.int (4 : Int32))])) (fun _ kk => XS.iload W68.here hx rfl (hb hby at_58) rfl kk) ?_
    refine Go.of (t' := T68.setTop (mkF m 61 #[.val (.int i0), .val (.int i1), .val (.int i2), .val (.int i3), .val (.int i4), .val (.int (4 : Int32)), .val (.int q65), .val (.int q66), .val (.int q67), .val (.int q68), .unset, .unset] [(.int (2 : Int32)), (.int (4 : Int32))])) (fun _ kk => XS.iconst W68.here hx rfl (hb hby at_60) kk) ?_
    refine Go.of (t' := T68.setTop (mkF m 89 #[.val (.int i0), .val (.int i1), .val (.int i2), .val (.int i3), .val (.int i4), .val (.int (4 : Int32)), .val (.int q65), .val (.int q66), .val (.int q67), .val (.int q68), .unset, .unset] [])) (fun _ kk => XS.icmpYes W68.here hx rfl (pc0 := 61) (pc' := 89) rfl (hb hby at_61) rfl (XT.ii_ne_t (by decide +kernel)) (by decide +kernel) (by decide +kernel) kk) ?_
    refine Go.of (t' := T68.setTop (mkF m 91 #[.val (.int i0), .val (.int i1), .val (.int i2), .val (.int i3), .val (.int i4), .val (.int (4 : Int32)), .val (.int q65), .val (.int q66), .val (.int q67), .val (.int q68), .unset, .unset] [(.int (4 : Int32))])) (fun _ kk => XS.iload W68.here hx rfl (hb hby at_89) rfl kk) ?_
    refine Go.of (t' := T68.setTop (mkF m 92 #[.val (.int i0), .val (.int i1), .val (.int i2), .val (.int i3), .val (.int i4), .val (.int (4 : Int32)), .val (.int q65), .val (.int q66), .val (.int q67), .val (.int q68), .unset, .unset] [(.int (3 : Int32)), (.int (4 : Int32))])) (fun _ kk => XS.iconst W68.here hx rfl (hb hby at_91) kk) ?_
    refine Go.of (t' := T68.setTop (mkF m 125 #[.val (.int i0), .val (.int i1), .val (.int i2), .val (.int i3), .val (.int i4), .val (.int (4 : Int32)), .val (.int q65), .val (.int q66), .val (.int q67), .val (.int q68), .unset, .unset] [])) (fun _ kk => XS.icmpYes W68.here hx rfl (pc0 := 92) (pc' := 125) rfl (hb hby at_92) rfl (XT.ii_ne_t (by decide +kernel)) (by decide +kernel) (by decide +kernel) kk) ?_
    refine W68.newO hx (hw _ (List.mem_of_getElem? (i := 5) rfl)) (hw _ (List.mem_of_getElem? (i := 6) rfl)) (hw _ (List.mem_of_getElem? (i := 7) rfl)) rfl (hb hby at_125) (by decide +kernel) (by decide +kernel) (fun T69 h69 b69 eb69 gb69 W69 K69 E69 D69 => ?_)
    have k70 : Fld Z h69 b69 "java/lang/String" "coder" "B" (.int (0 : Int32)) := D69 (Or.inr (hw _ (List.mem_of_getElem? (i := 32) rfl))) (ty := .byte) (by decide +kernel)
    have k71 : Fld Z h69 b69 "java/lang/String" "value" "[B" .null := D69 (Or.inr (hw _ (List.mem_of_getElem? (i := 34) rfl))) (ty := (.array .byte)) (by decide +kernel)
    show Go p e below _ (T69.setTop (mkF m 128 #[.val (.int i0), .val (.int i1), .val (.int i2), .val (.int i3), .val (.int i4), .val (.int (4 : Int32)), .val (.int q65), .val (.int q66), .val (.int q67), .val (.int q68), .unset, .unset] [(.ref b69)]))
    refine Go.of (t' := T69.setTop (mkF m 129 #[.val (.int i0), .val (.int i1), .val (.int i2), .val (.int i3), .val (.int i4), .val (.int (4 : Int32)), .val (.int q65), .val (.int q66), .val (.int q67), .val (.int q68), .unset, .unset] [(.ref b69), (.ref b69)])) (fun _ kk => XS.dup W69.here hx rfl (hb hby at_128) rfl rfl kk) ?_
    refine Go.of (t' := T69.setTop (mkF m 130 #[.val (.int i0), .val (.int i1), .val (.int i2), .val (.int i3), .val (.int i4), .val (.int (4 : Int32)), .val (.int q65), .val (.int q66), .val (.int q67), .val (.int q68), .unset, .unset] [(.int (4 : Int32)), (.ref b69), (.ref b69)])) (fun _ kk => XS.iconst W69.here hx rfl (hb hby at_129) kk) ?_
    refine W69.newP hx (hw _ (List.mem_of_getElem? (i := 8) rfl)) rfl (hb hby at_130) rfl (by decide +kernel) (cap := 4) (by decide +kernel) (by decide +kernel) (by decide +kernel) (by decide +kernel) (fun T72 h72 b72 c72 eb72 gb72 W72 K72 A72 => ?_)
    have V72 : Arv Z h72 b72 c72 .char (4 : Int32) [(.int (0 : Int32)), (.int (0 : Int32)), (.int (0 : Int32)), (.int (0 : Int32))] (.int (0 : Int32)) := A72
    show Go p e below _ (T72.setTop (mkF m 132 #[.val (.int i0), .val (.int i1), .val (.int i2), .val (.int i3), .val (.int i4), .val (.int (4 : Int32)), .val (.int q65), .val (.int q66), .val (.int q67), .val (.int q68), .unset, .unset] [(.ref b72), (.ref b69), (.ref b69)]))
    refine Go.of (t' := T72.setTop (mkF m 133 #[.val (.int i0), .val (.int i1), .val (.int i2), .val (.int i3), .val (.int i4), .val (.int (4 : Int32)), .val (.int q65), .val (.int q66), .val (.int q67), .val (.int q68), .unset, .unset] [(.ref b72), (.ref b72), (.ref b69), (.ref b69)])) (fun _ kk => XS.dup W72.here hx rfl (hb hby at_132) rfl rfl kk) ?_
    refine Go.of (t' := T72.setTop (mkF m 134 #[.val (.int i0), .val (.int i1), .val (.int i2), .val (.int i3), .val (.int i4), .val (.int (4 : Int32)), .val (.int q65), .val (.int q66), .val (.int q67), .val (.int q68), .unset, .unset] [(.int (0 : Int32)), (.ref b72), (.ref b72), (.ref b69), (.ref b69)])) (fun _ kk => XS.iconst W72.here hx rfl (hb hby at_133) kk) ?_
    refine Go.of (t' := T72.setTop (mkF m 136 #[.val (.int i0), .val (.int i1), .val (.int i2), .val (.int i3), .val (.int i4), .val (.int (4 : Int32)), .val (.int q65), .val (.int q66), .val (.int q67), .val (.int q68), .unset, .unset] [(.int q65), (.int (0 : Int32)), (.ref b72), (.ref b72), (.ref b69), (.ref b69)])) (fun _ kk => XS.iload W72.here hx rfl (hb hby at_134) rfl kk) ?_
    refine W72.stC hx V72 ⟨by decide, by decide⟩ 0 rfl (Nat.le_of_ble_eq_true rfl) gb72.1 (Or.inr gb72.2) rfl rfl (hb hby at_136) (fun T73 h73 W73 K73 A73 => ?_)
    have V73 : Arv Z h73 b72 c72 .char (4 : Int32) [(.int q65), (.int (0 : Int32)), (.int (0 : Int32)), (.int (0 : Int32))] (.int (0 : Int32)) := (by rw [(nar_char cq65)] at A73; exact A73)
    show Go p e below _ (T73.setTop (mkF m 137 #[.val (.int i0), .val (.int i1), .val (.int i2), .val (.int i3), .val (.int i4), .val (.int (4 : Int32)), .val (.int q65), .val (.int q66), .val (.int q67), .val (.int q68), .unset, .unset] [(.ref b72), (.ref b69), (.ref b69)]))
    refine Go.of (t' := T73.setTop (mkF m 138 #[.val (.int i0), .val (.int i1), .val (.int i2), .val (.int i3), .val (.int i4), .val (.int (4 : Int32)), .val (.int q65), .val (.int q66), .val (.int q67), .val (.int q68), .unset, .unset] [(.ref b72), (.ref b72), (.ref b69), (.ref b69)])) (fun _ kk => XS.dup W73.here hx rfl (hb hby at_137) rfl rfl kk) ?_
    refine Go.of (t' := T73.setTop (mkF m 139 #[.val (.int i0), .val (.int i1), .val (.int i2), .val (.int i3), .val (.int i4), .val (.int (4 : Int32)), .val (.int q65), .val (.int q66), .val (.int q67), .val (.int q68), .unset, .unset] [(.int (1 : Int32)), (.ref b72), (.ref b72), (.ref b69), (.ref b69)])) (fun _ kk => XS.iconst W73.here hx rfl (hb hby at_138) kk) ?_
    refine Go.of (t' := T73.setTop (mkF m 141 #[.val (.int i0), .val (.int i1), .val (.int i2), .val (.int i3), .val (.int i4), .val (.int (4 : Int32)), .val (.int q65), .val (.int q66), .val (.int q67), .val (.int q68), .unset, .unset] [(.int q66), (.int (1 : Int32)), (.ref b72), (.ref b72), (.ref b69), (.ref b69)])) (fun _ kk => XS.iload W73.here hx rfl (hb hby at_139) rfl kk) ?_
    refine W73.stC hx V73 ⟨by decide, by decide⟩ 1 rfl (Nat.le_of_ble_eq_true rfl) gb72.1 (Or.inr gb72.2) rfl rfl (hb hby at_141) (fun T74 h74 W74 K74 A74 => ?_)
    have V74 : Arv Z h74 b72 c72 .char (4 : Int32) [(.int q65), (.int q66), (.int (0 : Int32)), (.int (0 : Int32))] (.int (0 : Int32)) := (by rw [(nar_char cq66)] at A74; exact A74)
    show Go p e below _ (T74.setTop (mkF m 142 #[.val (.int i0), .val (.int i1), .val (.int i2), .val (.int i3), .val (.int i4), .val (.int (4 : Int32)), .val (.int q65), .val (.int q66), .val (.int q67), .val (.int q68), .unset, .unset] [(.ref b72), (.ref b69), (.ref b69)]))
    refine Go.of (t' := T74.setTop (mkF m 143 #[.val (.int i0), .val (.int i1), .val (.int i2), .val (.int i3), .val (.int i4), .val (.int (4 : Int32)), .val (.int q65), .val (.int q66), .val (.int q67), .val (.int q68), .unset, .unset] [(.ref b72), (.ref b72), (.ref b69), (.ref b69)])) (fun _ kk => XS.dup W74.here hx rfl (hb hby at_142) rfl rfl kk) ?_
    refine Go.of (t' := T74.setTop (mkF m 144 #[.val (.int i0), .val (.int i1), .val (.int i2), .val (.int i3), .val (.int i4), .val (.int (4 : Int32)), .val (.int q65), .val (.int q66), .val (.int q67), .val (.int q68), .unset, .unset] [(.int (2 : Int32)), (.ref b72), (.ref b72), (.ref b69), (.ref b69)])) (fun _ kk => XS.iconst W74.here hx rfl (hb hby at_143) kk) ?_
    refine Go.of (t' := T74.setTop (mkF m 146 #[.val (.int i0), .val (.int i1), .val (.int i2), .val (.int i3), .val (.int i4), .val (.int (4 : Int32)), .val (.int q65), .val (.int q66), .val (.int q67), .val (.int q68), .unset, .unset] [(.int q67), (.int (2 : Int32)), (.ref b72), (.ref b72), (.ref b69), (.ref b69)])) (fun _ kk => XS.iload W74.here hx rfl (hb hby at_144) rfl kk) ?_
    refine W74.stC hx V74 ⟨by decide, by decide⟩ 2 rfl (Nat.le_of_ble_eq_true rfl) gb72.1 (Or.inr gb72.2) rfl rfl (hb hby at_146) (fun T75 h75 W75 K75 A75 => ?_)
    have V75 : Arv Z h75 b72 c72 .char (4 : Int32) [(.int q65), (.int q66), (.int q67), (.int (0 : Int32))] (.int (0 : Int32)) := (by rw [(nar_char cq67)] at A75; exact A75)
    show Go p e below _ (T75.setTop (mkF m 147 #[.val (.int i0), .val (.int i1), .val (.int i2), .val (.int i3), .val (.int i4), .val (.int (4 : Int32)), .val (.int q65), .val (.int q66), .val (.int q67), .val (.int q68), .unset, .unset] [(.ref b72), (.ref b69), (.ref b69)]))
    refine Go.of (t' := T75.setTop (mkF m 148 #[.val (.int i0), .val (.int i1), .val (.int i2), .val (.int i3), .val (.int i4), .val (.int (4 : Int32)), .val (.int q65), .val (.int q66), .val (.int q67), .val (.int q68), .unset, .unset] [(.ref b72), (.ref b72), (.ref b69), (.ref b69)])) (fun _ kk => XS.dup W75.here hx rfl (hb hby at_147) rfl rfl kk) ?_
    refine Go.of (t' := T75.setTop (mkF m 149 #[.val (.int i0), .val (.int i1), .val (.int i2), .val (.int i3), .val (.int i4), .val (.int (4 : Int32)), .val (.int q65), .val (.int q66), .val (.int q67), .val (.int q68), .unset, .unset] [(.int (3 : Int32)), (.ref b72), (.ref b72), (.ref b69), (.ref b69)])) (fun _ kk => XS.iconst W75.here hx rfl (hb hby at_148) kk) ?_
    refine Go.of (t' := T75.setTop (mkF m 151 #[.val (.int i0), .val (.int i1), .val (.int i2), .val (.int i3), .val (.int i4), .val (.int (4 : Int32)), .val (.int q65), .val (.int q66), .val (.int q67), .val (.int q68), .unset, .unset] [(.int q68), (.int (3 : Int32)), (.ref b72), (.ref b72), (.ref b69), (.ref b69)])) (fun _ kk => XS.iload W75.here hx rfl (hb hby at_149) rfl kk) ?_
    refine W75.stC hx V75 ⟨by decide, by decide⟩ 3 rfl (Nat.le_of_ble_eq_true rfl) gb72.1 (Or.inr gb72.2) rfl rfl (hb hby at_151) (fun T76 h76 W76 K76 A76 => ?_)
    have V76 : Arv Z h76 b72 c72 .char (4 : Int32) [(.int q65), (.int q66), (.int q67), (.int q68)] (.int (0 : Int32)) := (by rw [(nar_char cq68)] at A76; exact A76)
    show Go p e below _ (T76.setTop (mkF m 152 #[.val (.int i0), .val (.int i1), .val (.int i2), .val (.int i3), .val (.int i4), .val (.int (4 : Int32)), .val (.int q65), .val (.int q66), .val (.int q67), .val (.int q68), .unset, .unset] [(.ref b72), (.ref b69), (.ref b69)]))
    have k78 := (((((E69.keep K72).keep K73).keep K74).keep K75).keep K76)
    have k79 := (((((k71.keep K72 nin0).keep K73 (ninS (ne_of_born (Nat.le_of_eq eb72.symm) E69.lt (Nat.le_refl _)) nin0)).keep K74 (ninS (ne_of_born (Nat.le_of_eq eb72.symm) E69.lt (Nat.le_refl _)) nin0)).keep K75 (ninS (ne_of_born (Nat.le_of_eq eb72.symm) E69.lt (Nat.le_refl _)) nin0)).keep K76 (ninS (ne_of_born (Nat.le_of_eq eb72.symm) E69.lt (Nat.le_refl _)) nin0))
    have k80 := (((((k70.keep K72 nin0).keep K73 (ninS (ne_of_born (Nat.le_of_eq eb72.symm) E69.lt (Nat.le_refl _)) nin0)).keep K74 (ninS (ne_of_born (Nat.le_of_eq eb72.symm) E69.lt (Nat.le_refl _)) nin0)).keep K75 (ninS (ne_of_born (Nat.le_of_eq eb72.symm) E69.lt (Nat.le_refl _)) nin0)).keep K76 (ninS (ne_of_born (Nat.le_of_eq eb72.symm) E69.lt (Nat.le_refl _)) nin0))
    refine W76.newStr hx hws (hw _ (List.mem_of_getElem? (i := 6) rfl)) SC hzc (hw _ (List.mem_of_getElem? (i := 9) rfl)) (hw _ (List.mem_of_getElem? (i := 10) rfl)) (hw _ (List.mem_of_getElem? (i := 11) rfl)) k78 k79 k80 (cs := [q65, q66, q67, q68]) (n := 4) V76 rfl rfl (by decide +kernel) (by decide +kernel) (allSi cq65 (allSi cq66 (allSi cq67 (allSi cq68 all0i)))) gb69.1 (Or.inr gb69.2) (List.mem_of_getElem? (i := 1) rfl) (by decide +kernel) (Wd := 1) (by decide +kernel) (by decide +kernel) (by decide +kernel) rfl (by rw [hml]; rfl) rfl (by show 2 * 0 + _ ≤ _; exact Nat.le_of_eq rfl) (hb hby at_152) (fun T77 h77 W77 K77 S77 => ?_)
    show Go p e below _ (T77.setTop (mkF m 155 #[.val (.int i0), .val (.int i1), .val (.int i2), .val (.int i3), .val (.int i4), .val (.int (4 : Int32)), .val (.int q65), .val (.int q66), .val (.int q67), .val (.int q68), .unset, .unset] [(.ref b69)]))
    refine Go.of (t' := T77.setTop (mkF m 157 #[.val (.int i0), .val (.int i1), .val (.int i2), .val (.int i3), .val (.int i4), .val (.int (4 : Int32)), .val (.int q65), .val (.int q66), .val (.int q67), .val (.int q68), .val (.ref b69), .unset] [])) (fun _ kk => XS.astore W77.here hx rfl (hb hby at_155) rfl rfl (l' := #[.val (.int i0), .val (.int i1), .val (.int i2), .val (.int i3), .val (.int i4), .val (.int (4 : Int32)), .val (.int q65), .val (.int q66), .val (.int q67), .val (.int q68), .val (.ref b69), .unset]) rfl kk) ?_
    refine Go.of (t' := T77.setTop (mkF m 159 #[.val (.int i0), .val (.int i1), .val (.int i2), .val (.int i3), .val (.int i4), .val (.int (4 : Int32)), .val (.int q65), .val (.int q66), .val (.int q67), .val (.int q68), .val (.ref b69), .unset] [(.ref b69)])) (fun _ kk => XS.aload W77.here hx rfl (hb hby at_157) rfl rfl kk) ?_
    refine W77.ldcC hx hEL (by decide +kernel) (hw _ (List.mem_of_getElem? (i := 35) rfl)) hSA [(.int (46 : Int32))] (1 : Int32) (by decide +kernel) (by decide +kernel) (by decide +kernel) rfl (hb hby at_159) (n := 4) (by decide +kernel) (by decide +kernel) (by decide +kernel) (by decide +kernel) (fun T81 h81 b81 t81 kb81 W81 K81 E81 Fv81 Fc81 A81 N81 => ?_)
    have S81 : Str Z h81 b81 [(46 : Int32)] := ⟨t81, kb81, 0, (1 : Int32), _, E81, Fv81, Fc81, A81, Or.inl ⟨rfl, by decide +kernel, by decide +kernel, by decide +kernel⟩, by decide +kernel, by decide⟩
    show Go p e below _ (T81.setTop (mkF m 161 #[.val (.int i0), .val (.int i1), .val (.int i2), .val (.int i3), .val (.int i4), .val (.int (4 : Int32)), .val (.int q65), .val (.int q66), .val (.int q67), .val (.int q68), .val (.ref b69), .unset] [(.ref b81), (.ref b69)]))
    have k83 := (S77.keep0 K81)
    refine W81.strEq hx heq (hw _ (List.mem_of_getElem? (i := 6) rfl)) SC hzc k83 S81 (hw _ (List.mem_of_getElem? (i := 38) rfl)) (hw _ (List.mem_of_getElem? (i := 39) rfl)) (hw _ (List.mem_of_getElem? (i := 41) rfl)) (hw _ (List.mem_of_getElem? (i := 40) rfl)) (by decide +kernel) (Wd := 0) (by decide +kernel) (by decide +kernel) (by decide +kernel) rfl (by rw [hml]; rfl) rfl (by show 2 * 0 + _ ≤ _; exact Nat.le_of_eq rfl) (hb hby at_161) (fun T82 z82 hz82 W82 => ?_)
    obtain ⟨-, hn82⟩ | ⟨rfl, -⟩ := hz82
    case inl => exact absurd hn82 (fun q => absurd (congrArg List.length q) (by simp))
    show Go p e below _ (T82.setTop (mkF m 164 #[.val (.int i0), .val (.int i1), .val (.int i2), .val (.int i3), .val (.int i4), .val (.int (4 : Int32)), .val (.int q65), .val (.int q66), .val (.int q67), .val (.int q68), .val (.ref b69), .unset] [(.int (0 : Int32))]))
    refine Go.of (t' := T82.setTop (mkF m 167 #[.val (.int i0), .val (.int i1), .val (.int i2), .val (.int i3), .val (.int i4), .val (.int (4 : Int32)), .val (.int q65), .val (.int q66), .val (.int q67), .val (.int q68), .val (.ref b69), .unset] [])) (fun _ kk => XS.ifNo W82.here hx rfl (hb hby at_164) rfl (XT.i0_ne_f (by decide +kernel)) kk) ?_
    refine Go.of (t' := T82.setTop (mkF m 169 #[.val (.int i0), .val (.int i1), .val (.int i2), .val (.int i3), .val (.int i4), .val (.int (4 : Int32)), .val (.int q65), .val (.int q66), .val (.int q67), .val (.int q68), .val (.ref b69), .unset] [(.ref b69)])) (fun _ kk => XS.aload W82.here hx rfl (hb hby at_167) rfl rfl kk) ?_
    refine W82.ldcC hx hEL (by decide +kernel) (hw _ (List.mem_of_getElem? (i := 48) rfl)) hSA [(.int (46 : Int32)), (.int (46 : Int32))] (2 : Int32) (by decide +kernel) (by decide +kernel) (by decide +kernel) rfl (hb hby at_169) (n := 8) (by decide +kernel) (by decide +kernel) (by decide +kernel) (by decide +kernel) (fun T84 h84 b84 t84 kb84 W84 K84 E84 Fv84 Fc84 A84 N84 => ?_)
    have S84 : Str Z h84 b84 [(46 : Int32), (46 : Int32)] := ⟨t84, kb84, 0, (2 : Int32), _, E84, Fv84, Fc84, A84, Or.inl ⟨rfl, by decide +kernel, by decide +kernel, by decide +kernel⟩, by decide +kernel, by decide⟩
    show Go p e below _ (T84.setTop (mkF m 171 #[.val (.int i0), .val (.int i1), .val (.int i2), .val (.int i3), .val (.int i4), .val (.int (4 : Int32)), .val (.int q65), .val (.int q66), .val (.int q67), .val (.int q68), .val (.ref b69), .unset] [(.ref b84), (.ref b69)]))
    have k86 := (k83.keep0 K84)
    refine W84.strEq hx heq (hw _ (List.mem_of_getElem? (i := 6) rfl)) SC hzc k86 S84 (hw _ (List.mem_of_getElem? (i := 38) rfl)) (hw _ (List.mem_of_getElem? (i := 39) rfl)) (hw _ (List.mem_of_getElem? (i := 41) rfl)) (hw _ (List.mem_of_getElem? (i := 40) rfl)) (by decide +kernel) (Wd := 0) (by decide +kernel) (by decide +kernel) (by decide +kernel) rfl (by rw [hml]; rfl) rfl (by show 2 * 0 + _ ≤ _; exact Nat.le_of_eq rfl) (hb hby at_171) (fun T85 z85 hz85 W85 => ?_)
    obtain ⟨-, hn85⟩ | ⟨rfl, -⟩ := hz85
    case inl => exact absurd hn85 (fun q => absurd (congrArg List.length q) (by simp))
    show Go p e below _ (T85.setTop (mkF m 174 #[.val (.int i0), .val (.int i1), .val (.int i2), .val (.int i3), .val (.int i4), .val (.int (4 : Int32)), .val (.int q65), .val (.int q66), .val (.int q67), .val (.int q68), .val (.ref b69), .unset] [(.int (0 : Int32))]))
    refine Go.of (t' := T85.setTop (mkF m 179 #[.val (.int i0), .val (.int i1), .val (.int i2), .val (.int i3), .val (.int i4), .val (.int (4 : Int32)), .val (.int q65), .val (.int q66), .val (.int q67), .val (.int q68), .val (.ref b69), .unset] [])) (fun _ kk => XS.ifYes W85.here hx rfl (pc0 := 174) (pc' := 179) rfl (hb hby at_174) rfl (XT.i0_eq_t (by decide +kernel)) (by decide +kernel) (by decide +kernel) kk) ?_
    refine Go.of (t' := T85.setTop (mkF m 181 #[.val (.int i0), .val (.int i1), .val (.int i2), .val (.int i3), .val (.int i4), .val (.int (4 : Int32)), .val (.int q65), .val (.int q66), .val (.int q67), .val (.int q68), .val (.ref b69), .unset] [(.ref b69)])) (fun _ kk => XS.aload W85.here hx rfl (hb hby at_179) rfl rfl kk) ?_
    refine W85.callS hx hEL (hw _ (List.mem_of_getElem? (i := 49) rfl)) (hw _ (List.mem_of_getElem? (i := 50) rfl)) (hw _ (List.mem_of_getElem? (i := 51) rfl)) (hw _ (List.mem_of_getElem? (i := 52) rfl)) (by decide +kernel) (argsL := [(.ref b69)]) (rest := []) (rm24 l Z a0 hw hEL zc SC hzc fm SF rfm b69 q65 q66 q67 q68 h84 W85.old k86 cq65 cq66 cq67 cq68 aq65 aq66 aq67 aq68) all0 (by decide +kernel) (Wd := 0) (by decide +kernel) (by decide +kernel) (by decide +kernel) all0 rfl (by rw [hml]; rfl) (lenOf pd3 rfl) rfl (by show 2 * 0 + _ ≤ _; exact Nat.le_of_eq rfl) (hb hby at_181) (fun T87 h87 v87 W87 K87 q87 => ?_)
    obtain rfl := q87
    show Go p e below _ (T87.setTop (mkF m 184 #[.val (.int i0), .val (.int i1), .val (.int i2), .val (.int i3), .val (.int i4), .val (.int (4 : Int32)), .val (.int q65), .val (.int q66), .val (.int q67), .val (.int q68), .val (.ref b69), .unset] [(.ref b69)]))
    refine Go.of (t' := T87.setTop (mkF m 186 #[.val (.int i0), .val (.int i1), .val (.int i2), .val (.int i3), .val (.int i4), .val (.int (4 : Int32)), .val (.int q65), .val (.int q66), .val (.int q67), .val (.int q68), .val (.ref b69), .val (.ref b69)] [])) (fun _ kk => XS.astore W87.here hx rfl (hb hby at_184) rfl rfl (l' := #[.val (.int i0), .val (.int i1), .val (.int i2), .val (.int i3), .val (.int i4), .val (.int (4 : Int32)), .val (.int q65), .val (.int q66), .val (.int q67), .val (.int q68), .val (.ref b69), .val (.ref b69)]) rfl kk) ?_
    refine Go.of (t' := T87.setTop (mkF m 188 #[.val (.int i0), .val (.int i1), .val (.int i2), .val (.int i3), .val (.int i4), .val (.int (4 : Int32)), .val (.int q65), .val (.int q66), .val (.int q67), .val (.int q68), .val (.ref b69), .val (.ref b69)] [(.ref b69)])) (fun _ kk => XS.aload W87.here hx rfl (hb hby at_186) rfl rfl kk) ?_
    refine Go.of (t' := T87.setTop (mkF m 190 #[.val (.int i0), .val (.int i1), .val (.int i2), .val (.int i3), .val (.int i4), .val (.int (4 : Int32)), .val (.int q65), .val (.int q66), .val (.int q67), .val (.int q68), .val (.ref b69), .val (.ref b69)] [(.ref b69), (.ref b69)])) (fun _ kk => XS.aload W87.here hx rfl (hb hby at_188) rfl rfl kk) ?_
    refine Go.of (t' := T87.setTop (mkF m 193 #[.val (.int i0), .val (.int i1), .val (.int i2), .val (.int i3), .val (.int i4), .val (.int (4 : Int32)), .val (.int q65), .val (.int q66), .val (.int q67), .val (.int q68), .val (.ref b69), .val (.ref b69)] [])) (fun _ kk => XT.acmpNo (g := (mkF m 190 #[.val (.int i0), .val (.int i1), .val (.int i2), .val (.int i3), .val (.int i4), .val (.int (4 : Int32)), .val (.int q65), .val (.int q66), .val (.int q67), .val (.int q68), .val (.ref b69), .val (.ref b69)] [(.ref b69), (.ref b69)])) W87.here hx rfl (hb hby at_190) (x := (.ref b69)) (y := (.ref b69)) (rest := []) rfl rfl rfl (XT.aa_ne_f (x := (.ref b69)) (y := (.ref b69)) rfl) kk) ?_
    refine Go.of (t' := T87.setTop (mkF m 194 #[.val (.int i0), .val (.int i1), .val (.int i2), .val (.int i3), .val (.int i4), .val (.int (4 : Int32)), .val (.int q65), .val (.int q66), .val (.int q67), .val (.int q68), .val (.ref b69), .val (.ref b69)] [(.int (1 : Int32))])) (fun _ kk => XS.iconst W87.here hx rfl (hb hby at_193) kk) ?_
    refine Go.of (t' := T87.setTop (mkF m 198 #[.val (.int i0), .val (.int i1), .val (.int i2), .val (.int i3), .val (.int i4), .val (.int (4 : Int32)), .val (.int q65), .val (.int q66), .val (.int q67), .val (.int q68), .val (.ref b69), .val (.ref b69)] [(.int (1 : Int32))])) (fun _ kk => XS.goto W87.here hx rfl (pc0 := 194) (pc' := 198) rfl (hb hby at_194) (by decide +kernel) (by decide +kernel) kk) ?_
    exact W87.retI hx hEL hs hlk (by decide +kernel) (by decide +kernel) hret (by simp) rfl (hb hby at_198) rfl
set_option maxRecDepth 65536 in
set_option maxHeartbeats 40000000 in
theorem comes_1 {Post : Tables → Env → Array Value → State → Outcome → State → Prop} (hpost : ∀ tb e args s v u, (limb_1_1.after args s (.returned v) u = true ∧ limb_1_2.after args s (.returned v) u = true ∧ True) → FramedW s (.returned v) u (Jvm.fieldLocs frame_1_writes args s ++ Jvm.arrayLocs frame_1_arrays args s ++ Jvm.staticLocs frame_1_statics s) 24 5248 → Post tb e args s (.returned v) u) :
    ArmFor flags0 classFile x code maxLocals ret World_1 tables_1 room_1 Calls_1 rest_1 Pre_1 Post := by
  intro l hfl _ _ p e ha hc hk s m args below hf hA hF happ hP
  obtain ⟨hcalls, hrest, hpre⟩ := hP
  obtain ⟨-, -, -, hnamed, -, -, -, hat⟩ := (Spec.applies_iff hf).mp happ
  obtain ⟨hg, hn⟩ := and_e (Cond.before_iff.mp (show (Jvm.Cond.and given_1 narrow_1).before args s = true from hpre))
  obtain ⟨hy0, hz0⟩ := and_e hg
  obtain ⟨hy1, hz1⟩ := and_e hz0
  obtain ⟨hy2, hz2⟩ := and_e hz1
  obtain ⟨hy3, hz3⟩ := and_e hz2
  obtain ⟨hy4, hz4⟩ := and_e hz3
  obtain ⟨w0, w1, w2, w3, w4, rfl⟩ : ∃ w0 w1 w2 w3 w4 : Value, args = #[w0, w1, w2, w3, w4] := by
    have hs : args.size = 5 := by simpa [Cond.value, given_1] using hy0
    obtain ⟨L⟩ := args
    match L, hs with
    | [w0, w1, w2, w3, w4], _ => exact ⟨w0, w1, w2, w3, w4, rfl⟩
  have hw := fun d (hd : d ∈ tables_1) => atoms_spec (ws := Jvm.Cond.code x code maxLocals ret :: tables_1) hat d (List.mem_cons_of_mem _ hd)
  obtain ⟨hsets, hown0⟩ := atoms_of _ (rest_1_c_eq ▸ (show rest_1_c.before _ s = true from hrest))
  have hfit : Fit s := fun {y c} hc i hi => by
    obtain ⟨ha, rfl⟩ := Array.getElem?_eq_some_iff.mp hc
    have q := List.all_eq_true.mp ((Array.all_eq_true_iff_forall_mem.mp hF) _ (Array.getElem_mem ha)) i (List.mem_range.mpr hi)
    simpa [Array.getElem?_eq_getElem hi] using q
  have nzc := not_v (Cond.before_iff.mp (hsets _ (List.mem_of_getElem? (i := 2) rfl)))
  obtain ⟨i0, ei0⟩ := is_v hy1
  obtain rfl : w0 = (.int i0) := Option.some.inj ei0
  obtain ⟨i1, ei1⟩ := is_v hy2
  obtain rfl : w1 = (.int i1) := Option.some.inj ei1
  obtain ⟨i2, ei2⟩ := is_v hy3
  obtain rfl : w2 = (.int i2) := Option.some.inj ei2
  obtain ⟨i3, ei3⟩ := is_v hy4
  obtain rfl : w3 = (.int i3) := Option.some.inj ei3
  obtain ⟨i4, ei4⟩ := is_v hz4
  obtain rfl : w4 = (.int i4) := Option.some.inj ei4
  obtain ⟨zc, ezc⟩ := is_v (Cond.before_iff.mp (hsets _ (List.mem_of_getElem? (i := 1) rfl)))
  have SC : Sta s s.heap "java/lang/String" "COMPACT_STRINGS" "Z" (.int zc) := Sta.start ezc (Or.inl (hsets _ (List.mem_of_getElem? (i := 0) rfl)))
  obtain ⟨fm, efm, rfm⟩ := isR_v (Cond.before_iff.mp (hsets _ (List.mem_of_getElem? (i := 8) rfl)))
  have SF : Sta s s.heap "jdk/internal/util/Preconditions" "SIOOBE_FORMATTER" "Ljava/util/function/BiFunction;" fm := Sta.start efm (Or.inl (hsets _ (List.mem_of_getElem? (i := 7) rfl)))
  have hzc : ¬ (zc = (0 : Int32)) := gotF (Cond.eq_ints ezc (Term.int_eval (0))) nzc
  have hEL : EW s #[(.int i0), (.int i1), (.int i2), (.int i3), (.int i4)] EL0 := (EW.cons (hw _ (List.mem_of_getElem? (i := 53) rfl)) (by decide +kernel) (EW.cons (hw _ (List.mem_of_getElem? (i := 96) rfl)) (by decide +kernel) (EW.cons (hw _ (List.mem_of_getElem? (i := 98) rfl)) (by decide +kernel) (EW.cons (hw _ (List.mem_of_getElem? (i := 35) rfl)) (by decide +kernel) (EW.cons (hw _ (List.mem_of_getElem? (i := 48) rfl)) (by decide +kernel) EW.nil)))))
  have hCH : CHv s EL0 s.vm s.heap := CHv.start hEL (fun q hq => hcalls.1 q hq) (hsets _ (List.mem_of_getElem? (i := 2) rfl)) (hw _ (List.mem_of_getElem? (i := 24) rfl)) (hw _ (List.mem_of_getElem? (i := 6) rfl))
  obtain ⟨n, o, h1, h2, h3, _, L, rfl, ⟨q1, N, K⟩, -, hq1, hq2, hq3, hq4⟩ := rm0 l s _ hw hEL zc SC hzc fm SF rfm i0 i1 i2 i3 i4 s.heap (Old.start s)  p e ha hc hk s m _ below hf ((Spec.applies_iff_loose hf).mp happ).1 ⟨rfl, State.Warmed39.refl s, rfl, hCH, all0⟩ trivial
  cases q1
  refine ⟨n, _, h1, h2, h3, hpost _ _ _ _ _ _ ⟨Cond.after_iff.mpr rfl, Cond.after_iff.mpr (eq_i res_at (Term.int_eval (1)) rfl), trivial⟩ ⟨hq1, hq2, hq3, (hq4.sift fun y hy => Or.inr (N y hy)).mono (by decide +kernel) (by decide +kernel)⟩⟩
theorem main_1_1 : Claimed_1_1 := comes_1 fun _ _ _ _ _ _ h hF => ⟨h.1, hF⟩
theorem main_1_2 : Claimed_1_2 := comes_1 fun _ _ _ _ _ _ h hF => ⟨h.2.1, hF⟩
end Jvm.Pilot.@@N@@
namespace Jvm.Pilot.@@N@@
open Jvm Jvm.ClassFile Sem Op Lib Jvm.Free Jvm.Stand Jvm.Pilot.@@N@@.Jvm.D
/-! MADE BY PROGRAM (witnessworld.py) out of the Statement's table words and the real class files: 20 classes; the members and pool entries that the words name. The judged class is class 1, her method 2. -/
namespace start1
open Jvm.ClassFile
def u (s : String) : CpInfo := .utf8 (stringToUtf16 s)
/-- a pool by its gaps: so many unusable entries, then the entry; so many at the end -/
def gap : Nat → List CpInfo → List CpInfo
  | 0, r => r
  | n + 1, r => .unusable :: gap n r
def poolList (es : List (Nat × CpInfo)) (last : Nat) : List CpInfo := es.foldr (fun e r => gap e.1 (e.2 :: r)) (gap last [])
def pool (es : List (Nat × CpInfo)) (last : Nat) : Array CpInfo := ⟨poolList es last⟩
def fileOf (pool : Array CpInfo) (this : Nat) (attrs : Array Attribute := #[]) (ms : Array MethodInfo := #[]) (fl : Nat := 33) (sup : Nat := 0) (ifs : Array Nat := #[]) (fds : Array FieldInfo := #[]) : ClassFile where
  minorVersion := 0
  majorVersion := 65
  constantPool := pool
  accessFlags := fl
  thisClass := this
  superClass := sup
  interfaces := ifs
  fields := fds
  methods := ms
  attributes := attrs
def plain (name : String) (sup : Option ClassId) : Class where
  name := name
  kind := .ordinary
  loader := none
  accessFlags := 33
  super := sup
  interfaces := #[]
  cf := none
  fields := #[]
  methods := #[]
  instanceTypes := #[]
  staticTypes := #[]
  resolved := #[]
  callSites := []
  init := .initialized
  statics := none
  mirror := none

def pool0 : Array CpInfo := pool [(5, u "<init>"), (0, u "()V"), (1, .class_ 10), (1, u "java/lang/Object")] 113

def k0c0 : Code := { maxStack := 0, maxLocals := 1, code := object_method_1_code, exceptionTable := #[], attributes := #[] }
def k0m0 : Method := { name := "<init>", desc := "()V", sig := { parameters := [], returnType := none }, accessFlags := 1, code := some k0c0 }
/-- java/lang/Object -/
def k0 : Class := { plain "java/lang/Object" none with
  accessFlags := 33
  interfaces := #[]
  cf := some (fileOf pool0 8 #[] #[{ accessFlags := 1, nameIndex := 5, descriptorIndex := 6, attributes := #[] }] 33 0 #[] #[])
  fields := #[]
  methods := #[k0m0]
  instanceTypes := #[]
  staticTypes := #[]
  resolved := Array.replicate 124 none
  statics := none }

def pool1 : Array CpInfo := pool [(2, .class_ 4), (1, u "java/lang/Object"), (0, u "<init>"), (0, u "()V"), (0, .integer 2147483647), (0, .methodref 9 10), (0, .class_ 11), (0, .nameAndType 12 13), (0, u "com/example/sem1/sem1/internal/LockNamesRequireValidPinLaw"), (0, u "allowed"), (0, u "(I)C"), (0, .class_ 15), (0, u "java/lang/String"), (0, .methodref 14 17), (0, .nameAndType 5 18), (0, u "([C)V"), (0, .string 20), (0, u "."), (0, .methodref 14 22), (0, .nameAndType 23 24), (0, u "equals"), (0, u "(Ljava/lang/Object;)Z"), (0, .string 26), (0, u ".."), (0, .methodref 28 29), (0, .class_ 30), (0, .nameAndType 31 32), (0, u "com/example/sem1/sem1/internal/LockNames"), (0, u "requireValid"), (0, u "(Ljava/lang/String;)Ljava/lang/String;"), (3, u "law"), (0, u "(IIIII)Z")] 2

def k1m0 : Method := { name := "<init>", desc := "()V", sig := { parameters := [], returnType := none }, accessFlags := 2, code := none }
def k1c1 : Code := { maxStack := 3, maxLocals := 2, code := method_2_code, exceptionTable := #[], attributes := #[] }
def k1m1 : Method := { name := "allowed", desc := "(I)C", sig := { parameters := [.int], returnType := some .char }, accessFlags := 10, code := some k1c1 }
def k1c2 : Code := { maxStack := 6, maxLocals := 12, code := code, exceptionTable := #[], attributes := #[] }
def k1m2 : Method := { name := "law", desc := "(IIIII)Z", sig := { parameters := [.int, .int, .int, .int, .int], returnType := some .boolean }, accessFlags := 9, code := some k1c2 }
/-- com/example/sem1/sem1/internal/LockNamesRequireValidPinLaw -/
def k1 : Class := { plain "com/example/sem1/sem1/internal/LockNamesRequireValidPinLaw" (some 0) with
  accessFlags := 49
  interfaces := #[]
  cf := some (fileOf pool1 9 #[] #[{ accessFlags := 2, nameIndex := 5, descriptorIndex := 6, attributes := #[] }, { accessFlags := 10, nameIndex := 12, descriptorIndex := 13, attributes := #[] }, { accessFlags := 9, nameIndex := 36, descriptorIndex := 37, attributes := #[] }] 49 2 #[] #[])
  fields := #[]
  methods := #[k1m0, k1m1, k1m2]
  instanceTypes := #[]
  staticTypes := #[]
  resolved := Array.replicate 40 none
  statics := none }

def pool2 : Array CpInfo := pool [(1, .class_ 2), (0, u "java/io/Serializable"), (0, .class_ 4), (0, u "java/lang/Object")] 2

/-- java/io/Serializable -/
def k2 : Class := { plain "java/io/Serializable" (some 0) with
  accessFlags := 1537
  interfaces := #[]
  cf := some (fileOf pool2 1 #[] #[] 1537 3 #[] #[])
  fields := #[]
  methods := #[]
  instanceTypes := #[]
  staticTypes := #[]
  resolved := Array.replicate 7 none
  statics := none }

def pool3 : Array CpInfo := pool [(1, .class_ 2), (0, u "java/lang/Comparable"), (0, .class_ 4), (0, u "java/lang/Object")] 7

/-- java/lang/Comparable -/
def k3 : Class := { plain "java/lang/Comparable" (some 0) with
  accessFlags := 1537
  interfaces := #[]
  cf := some (fileOf pool3 1 #[] #[] 1537 3 #[] #[])
  fields := #[]
  methods := #[]
  instanceTypes := #[]
  staticTypes := #[]
  resolved := Array.replicate 12 none
  statics := none }

def pool4 : Array CpInfo := pool [(2, .class_ 4), (1, u "java/lang/CharSequence"), (42, .class_ 48), (0, u "java/lang/CharSequence$1CodePointIterator"), (10, .class_ 60), (0, u "java/lang/CharSequence$1CharIterator"), (5, .class_ 67), (0, u "java/lang/Object")] 63

/-- java/lang/CharSequence -/
def k4 : Class := { plain "java/lang/CharSequence" (some 0) with
  accessFlags := 1537
  interfaces := #[]
  cf := some (fileOf pool4 2 #[.nestMembers #[47, 59]] #[] 1537 66 #[] #[])
  fields := #[]
  methods := #[]
  instanceTypes := #[]
  staticTypes := #[]
  resolved := Array.replicate 131 none
  statics := none }

def pool5 : Array CpInfo := pool [(1, .class_ 2), (0, u "java/lang/constant/Constable"), (0, .class_ 4), (0, u "java/lang/Object")] 6

/-- java/lang/constant/Constable -/
def k5 : Class := { plain "java/lang/constant/Constable" (some 0) with
  accessFlags := 1537
  interfaces := #[]
  cf := some (fileOf pool5 1 #[] #[] 1537 3 #[] #[])
  fields := #[]
  methods := #[]
  instanceTypes := #[]
  staticTypes := #[]
  resolved := Array.replicate 11 none
  statics := none }

def pool6 : Array CpInfo := pool [(1, .class_ 2), (0, u "java/lang/constant/ConstantDesc"), (0, .class_ 4), (0, u "java/lang/Object")] 32

/-- java/lang/constant/ConstantDesc -/
def k6 : Class := { plain "java/lang/constant/ConstantDesc" (some 0) with
  accessFlags := 1537
  interfaces := #[]
  cf := some (fileOf pool6 1 #[] #[] 1537 3 #[] #[])
  fields := #[]
  methods := #[]
  instanceTypes := #[]
  staticTypes := #[]
  resolved := Array.replicate 37 none
  statics := none }

def pool7 : Array CpInfo := pool [(1, .methodref 2 3), (0, .class_ 4), (0, .nameAndType 5 6), (0, u "java/lang/Object"), (0, u "<init>"), (0, u "()V"), (2, .fieldref 10 11), (0, .class_ 12), (0, .nameAndType 13 14), (0, u "java/lang/String"), (0, u "value"), (0, u "[B"), (0, .fieldref 10 16), (0, .nameAndType 17 18), (0, u "coder"), (0, u "B"), (2, u "hash"), (0, u "I"), (2, u "hashIsZero"), (0, u "Z"), (0, .methodref 10 28), (0, .nameAndType 5 29), (0, u "([CIILjava/lang/Void;)V"), (8, .fieldref 10 39), (0, .nameAndType 40 26), (0, u "COMPACT_STRINGS"), (1, .class_ 44), (1, u "java/lang/StringUTF16"), (0, u "compress"), (1, .methodref 42 48), (0, .nameAndType 49 50), (0, u "coderFromArrayLen"), (0, u "([BI)B"), (56, .class_ 109), (1, u "java/lang/StringLatin1"), (32, u "()Z"), (34, .methodref 42 178), (0, .nameAndType 45 179), (0, u "([CII)[B"), (154, u "()I"), (0, .methodref 10 336), (0, .nameAndType 17 337), (0, u "()B"), (25, u "([BI)C"), (27, u "(II)V"), (35, u "(I)C"), (64, .methodref 10 493), (0, .nameAndType 494 142), (0, u "isLatin1"), (0, .methodref 107 496), (0, .nameAndType 497 363), (0, u "charAt"), (3, u "checkIndex"), (5, u "length"), (33, .methodref 107 542), (0, .nameAndType 543 544), (0, u "equals"), (0, u "([B[B)Z"), (28, u "(Ljava/lang/Object;)Z"), (1, .class_ 576), (0, u "java/lang/CharSequence"), (22, u "CASE_INSENSITIVE_ORDER"), (0, u "Ljava/util/Comparator;"), (91, u "isEmpty"), (317, u "([C)V"), (42, .fieldref 1054 1055), (0, .class_ 1056), (0, .nameAndType 1057 1058), (0, u "jdk/internal/util/Preconditions"), (0, u "SIOOBE_FORMATTER"), (0, u "Ljava/util/function/BiFunction;"), (0, .methodref 1054 1060), (0, .nameAndType 501 1061), (0, u "(IILjava/util/function/BiFunction;)I"), (39, u "serialPersistentFields"), (0, u "[Ljava/io/ObjectStreamField;"), (0, .class_ 1104), (0, u "java/lang/String$CaseInsensitiveComparator"), (1, .class_ 1107), (0, u "java/io/Serializable"), (0, .class_ 1109), (0, u "java/lang/Comparable"), (0, .class_ 1111), (0, u "java/lang/constant/Constable"), (0, .class_ 1113), (0, u "java/lang/constant/ConstantDesc"), (2, u "serialVersionUID"), (0, u "J"), (3, u "REPL"), (0, u "C"), (2, u "LATIN1"), (1, u "UTF16")] 323

def k7m0 : Method := { name := "<init>", desc := "()V", sig := { parameters := [], returnType := none }, accessFlags := 1, code := none }
def k7c1 : Code := { maxStack := 5, maxLocals := 2, code := jdk_42_method_3_code, exceptionTable := #[], attributes := #[] }
def k7m1 : Method := { name := "<init>", desc := "([C)V", sig := { parameters := [(.array .char)], returnType := none }, accessFlags := 1, code := some k7c1 }
def k7c2 : Code := { maxStack := 2, maxLocals := 1, code := jdk_42_method_54_code, exceptionTable := #[], attributes := #[] }
def k7m2 : Method := { name := "length", desc := "()I", sig := { parameters := [], returnType := some .int }, accessFlags := 1, code := some k7c2 }
def k7c3 : Code := { maxStack := 1, maxLocals := 1, code := jdk_42_method_55_code, exceptionTable := #[], attributes := #[] }
def k7m3 : Method := { name := "isEmpty", desc := "()Z", sig := { parameters := [], returnType := some .boolean }, accessFlags := 1, code := some k7c3 }
def k7c4 : Code := { maxStack := 2, maxLocals := 2, code := jdk_42_method_56_code, exceptionTable := #[], attributes := #[] }
def k7m4 : Method := { name := "charAt", desc := "(I)C", sig := { parameters := [.int], returnType := some .char }, accessFlags := 1, code := some k7c4 }
def k7c5 : Code := { maxStack := 2, maxLocals := 3, code := jdk_42_method_66_code, exceptionTable := #[], attributes := #[] }
def k7m5 : Method := { name := "equals", desc := "(Ljava/lang/Object;)Z", sig := { parameters := [(.object "java/lang/Object")], returnType := some .boolean }, accessFlags := 1, code := some k7c5 }
def k7c6 : Code := { maxStack := 4, maxLocals := 6, code := jdk_42_method_149_code, exceptionTable := #[], attributes := #[] }
def k7m6 : Method := { name := "<init>", desc := "([CIILjava/lang/Void;)V", sig := { parameters := [(.array .char), .int, .int, (.object "java/lang/Void")], returnType := none }, accessFlags := 2, code := some k7c6 }
def k7c7 : Code := { maxStack := 1, maxLocals := 1, code := jdk_42_method_152_code, exceptionTable := #[], attributes := #[] }
def k7m7 : Method := { name := "coder", desc := "()B", sig := { parameters := [], returnType := some .byte }, accessFlags := 0, code := some k7c7 }
def k7c8 : Code := { maxStack := 1, maxLocals := 1, code := jdk_42_method_154_code, exceptionTable := #[], attributes := #[] }
def k7m8 : Method := { name := "isLatin1", desc := "()Z", sig := { parameters := [], returnType := some .boolean }, accessFlags := 0, code := some k7c8 }
def k7c9 : Code := { maxStack := 3, maxLocals := 2, code := jdk_42_method_155_code, exceptionTable := #[], attributes := #[] }
def k7m9 : Method := { name := "checkIndex", desc := "(II)V", sig := { parameters := [.int, .int], returnType := none }, accessFlags := 8, code := some k7c9 }
/-- java/lang/String -/
def k7 : Class := { plain "java/lang/String" (some 0) with
  accessFlags := 49
  interfaces := #[2, 3, 4, 5, 6]
  cf := some (fileOf pool7 10 #[.nestMembers #[1103]] #[{ accessFlags := 1, nameIndex := 5, descriptorIndex := 6, attributes := #[] }, { accessFlags := 1, nameIndex := 5, descriptorIndex := 1010, attributes := #[] }, { accessFlags := 1, nameIndex := 507, descriptorIndex := 334, attributes := #[] }, { accessFlags := 1, nameIndex := 692, descriptorIndex := 142, attributes := #[] }, { accessFlags := 1, nameIndex := 497, descriptorIndex := 427, attributes := #[] }, { accessFlags := 1, nameIndex := 543, descriptorIndex := 573, attributes := #[] }, { accessFlags := 2, nameIndex := 5, descriptorIndex := 29, attributes := #[] }, { accessFlags := 0, nameIndex := 17, descriptorIndex := 337, attributes := #[] }, { accessFlags := 0, nameIndex := 494, descriptorIndex := 142, attributes := #[] }, { accessFlags := 8, nameIndex := 501, descriptorIndex := 391, attributes := #[] }] 49 2 #[1106, 1108, 575, 1110, 1112] #[{ accessFlags := 18, nameIndex := 13, descriptorIndex := 14, attributes := #[] }, { accessFlags := 18, nameIndex := 17, descriptorIndex := 18, attributes := #[] }, { accessFlags := 2, nameIndex := 21, descriptorIndex := 22, attributes := #[] }, { accessFlags := 2, nameIndex := 25, descriptorIndex := 26, attributes := #[] }, { accessFlags := 26, nameIndex := 1116, descriptorIndex := 1117, attributes := #[] }, { accessFlags := 24, nameIndex := 40, descriptorIndex := 26, attributes := #[] }, { accessFlags := 26, nameIndex := 1101, descriptorIndex := 1102, attributes := #[] }, { accessFlags := 26, nameIndex := 1121, descriptorIndex := 1122, attributes := #[] }, { accessFlags := 25, nameIndex := 599, descriptorIndex := 600, attributes := #[] }, { accessFlags := 24, nameIndex := 1125, descriptorIndex := 18, attributes := #[] }, { accessFlags := 24, nameIndex := 1127, descriptorIndex := 18, attributes := #[] }])
  fields := #[{ name := "value", type := (.array .byte), accessFlags := 18, slot := 0, constantValue := 0 }, { name := "coder", type := .byte, accessFlags := 18, slot := 1, constantValue := 0 }, { name := "hash", type := .int, accessFlags := 2, slot := 2, constantValue := 0 }, { name := "hashIsZero", type := .boolean, accessFlags := 2, slot := 3, constantValue := 0 }, { name := "serialVersionUID", type := .long, accessFlags := 26, slot := 0, constantValue := 0 }, { name := "COMPACT_STRINGS", type := .boolean, accessFlags := 24, slot := 1, constantValue := 0 }, { name := "serialPersistentFields", type := (.array (.object "java/io/ObjectStreamField")), accessFlags := 26, slot := 2, constantValue := 0 }, { name := "REPL", type := .char, accessFlags := 26, slot := 3, constantValue := 0 }, { name := "CASE_INSENSITIVE_ORDER", type := (.object "java/util/Comparator"), accessFlags := 25, slot := 4, constantValue := 0 }, { name := "LATIN1", type := .byte, accessFlags := 24, slot := 5, constantValue := 0 }, { name := "UTF16", type := .byte, accessFlags := 24, slot := 6, constantValue := 0 }]
  methods := #[k7m0, k7m1, k7m2, k7m3, k7m4, k7m5, k7m6, k7m7, k7m8, k7m9]
  instanceTypes := #[(.array .byte), .byte, .int, .boolean]
  staticTypes := #[.long, .boolean, (.array (.object "java/io/ObjectStreamField")), .char, (.object "java/util/Comparator"), .byte, .byte]
  resolved := Array.replicate 1451 none
  statics := some 0 }

def pool8 : Array CpInfo := pool [(6, .class_ 8), (1, u "java/lang/Object"), (0, u "<init>"), (0, u "()V"), (1, .class_ 14), (1, u "java/lang/StringUTF16"), (31, u "$assertionsDisabled"), (0, u "Z"), (13, u "HI_BYTE_SHIFT"), (0, u "I"), (2, u "LO_BYTE_SHIFT"), (49, .methodref 12 116), (0, .nameAndType 117 118), (0, u "compress"), (0, u "([CI[BII)I"), (3, u "([CII)[B"), (138, u "coderFromArrayLen"), (0, u "([BI)B"), (106, .class_ 371), (1, u "java/lang/StringUTF16$LinesSpliterator"), (58, u "MAX_LENGTH"), (196, .class_ 628), (0, u "java/lang/StringUTF16$CodePointsSpliterator"), (0, .class_ 630), (0, u "java/lang/StringUTF16$CharsSpliterator")] 4

def k8m0 : Method := { name := "<init>", desc := "()V", sig := { parameters := [], returnType := none }, accessFlags := 0, code := none }
def k8c1 : Code := { maxStack := 2, maxLocals := 2, code := jdk_52_method_15_code, exceptionTable := #[], attributes := #[] }
def k8m1 : Method := { name := "coderFromArrayLen", desc := "([BI)B", sig := { parameters := [(.array .byte), .int], returnType := some .byte }, accessFlags := 8, code := some k8c1 }
def k8c2 : Code := { maxStack := 5, maxLocals := 6, code := jdk_52_method_16_code, exceptionTable := #[], attributes := #[] }
def k8m2 : Method := { name := "compress", desc := "([CII)[B", sig := { parameters := [(.array .char), .int, .int], returnType := some (.array .byte) }, accessFlags := 9, code := some k8c2 }
def k8c3 : Code := { maxStack := 3, maxLocals := 7, code := jdk_52_method_21_code, exceptionTable := #[], attributes := #[] }
def k8m3 : Method := { name := "compress", desc := "([CI[BII)I", sig := { parameters := [(.array .char), .int, (.array .byte), .int, .int], returnType := some .int }, accessFlags := 9, code := some k8c3 }
/-- java/lang/StringUTF16 -/
def k8 : Class := { plain "java/lang/StringUTF16" (some 0) with
  accessFlags := 48
  interfaces := #[]
  cf := some (fileOf pool8 12 #[.nestMembers #[627, 629, 369]] #[{ accessFlags := 0, nameIndex := 9, descriptorIndex := 10, attributes := #[] }, { accessFlags := 8, nameIndex := 261, descriptorIndex := 262, attributes := #[] }, { accessFlags := 9, nameIndex := 117, descriptorIndex := 122, attributes := #[] }, { accessFlags := 9, nameIndex := 117, descriptorIndex := 118, attributes := #[] }] 48 6 #[] #[{ accessFlags := 26, nameIndex := 61, descriptorIndex := 62, attributes := #[] }, { accessFlags := 26, nameIndex := 65, descriptorIndex := 62, attributes := #[] }, { accessFlags := 24, nameIndex := 430, descriptorIndex := 62, attributes := #[] }, { accessFlags := 4120, nameIndex := 46, descriptorIndex := 47, attributes := #[] }])
  fields := #[{ name := "HI_BYTE_SHIFT", type := .int, accessFlags := 26, slot := 0, constantValue := 0 }, { name := "LO_BYTE_SHIFT", type := .int, accessFlags := 26, slot := 1, constantValue := 0 }, { name := "MAX_LENGTH", type := .int, accessFlags := 24, slot := 2, constantValue := 0 }, { name := "$assertionsDisabled", type := .boolean, accessFlags := 4120, slot := 3, constantValue := 0 }]
  methods := #[k8m0, k8m1, k8m2, k8m3]
  instanceTypes := #[]
  staticTypes := #[.int, .int, .int, .boolean]
  resolved := Array.replicate 635 none
  statics := none }

def pool9 : Array CpInfo := pool [(1, .class_ 2), (0, u "java/lang/String"), (1, .class_ 6), (1, u "java/lang/Object"), (0, u "<init>"), (0, u "()V"), (0, .methodref 1 10), (0, .nameAndType 11 12), (0, u "checkIndex"), (0, u "(II)V"), (1, .class_ 16), (1, u "java/lang/StringLatin1"), (36, u "([BI)C"), (67, u "$assertionsDisabled"), (0, u "Z"), (98, .class_ 223), (1, u "java/lang/StringLatin1$LinesSpliterator"), (28, u "charAt"), (28, u "equals"), (0, u "([B[B)Z"), (107, .class_ 391), (0, u "java/lang/StringLatin1$CharsSpliterator")] 3

def k9m0 : Method := { name := "<init>", desc := "()V", sig := { parameters := [], returnType := none }, accessFlags := 0, code := none }
def k9c1 : Code := { maxStack := 2, maxLocals := 2, code := jdk_43_method_2_code, exceptionTable := #[], attributes := #[] }
def k9m1 : Method := { name := "charAt", desc := "([BI)C", sig := { parameters := [(.array .byte), .int], returnType := some .char }, accessFlags := 9, code := some k9c1 }
def k9c2 : Code := { maxStack := 3, maxLocals := 3, code := jdk_43_method_13_code, exceptionTable := #[], attributes := #[] }
def k9m2 : Method := { name := "equals", desc := "([B[B)Z", sig := { parameters := [(.array .byte), (.array .byte)], returnType := some .boolean }, accessFlags := 9, code := some k9c2 }
/-- java/lang/StringLatin1 -/
def k9 : Class := { plain "java/lang/StringLatin1" (some 0) with
  accessFlags := 48
  interfaces := #[]
  cf := some (fileOf pool9 14 #[.nestMembers #[390, 221]] #[{ accessFlags := 0, nameIndex := 7, descriptorIndex := 8, attributes := #[] }, { accessFlags := 9, nameIndex := 252, descriptorIndex := 53, attributes := #[] }, { accessFlags := 9, nameIndex := 281, descriptorIndex := 282, attributes := #[] }] 48 4 #[] #[{ accessFlags := 4120, nameIndex := 121, descriptorIndex := 122, attributes := #[] }])
  fields := #[{ name := "$assertionsDisabled", type := .boolean, accessFlags := 4120, slot := 0, constantValue := 0 }]
  methods := #[k9m0, k9m1, k9m2]
  instanceTypes := #[]
  staticTypes := #[.boolean]
  resolved := Array.replicate 395 none
  statics := none }

def pool10 : Array CpInfo := pool [(2, .class_ 4), (1, u "java/lang/Object"), (0, u "<init>"), (0, u "()V"), (7, .string 15), (0, u "lock name"), (0, .class_ 17), (0, u "com/example/sem1/sem1/internal/LockNames"), (0, .methodref 16 19), (0, .nameAndType 20 21), (0, u "requireCharacters"), (0, u "(Ljava/lang/String;Ljava/lang/String;I)V"), (0, .string 23), (0, u "."), (0, .methodref 25 26), (0, .class_ 27), (0, .nameAndType 28 29), (0, u "java/lang/String"), (0, u "equals"), (0, u "(Ljava/lang/Object;)Z"), (0, .string 31), (0, u ".."), (3, u "(Ljava/lang/String;)Ljava/lang/String;"), (0, .methodref 25 37), (0, .nameAndType 38 39), (0, u "isEmpty"), (0, u "()Z"), (0, .methodref 25 41), (0, .nameAndType 42 43), (0, u "length"), (0, u "()I"), (3, .methodref 25 48), (0, .nameAndType 49 50), (0, u "charAt"), (0, u "(I)C"), (0, .methodref 16 52), (0, .nameAndType 53 54), (0, u "isAllowed"), (0, u "(C)Z"), (26, u "MAX_LENGTH"), (0, u "I"), (4, u "requireValid")] 24

def k10m0 : Method := { name := "<init>", desc := "()V", sig := { parameters := [], returnType := none }, accessFlags := 2, code := none }
def k10c1 : Code := { maxStack := 3, maxLocals := 1, code := prog_9_method_2_code, exceptionTable := #[], attributes := #[] }
def k10m1 : Method := { name := "requireValid", desc := "(Ljava/lang/String;)Ljava/lang/String;", sig := { parameters := [(.object "java/lang/String")], returnType := some (.object "java/lang/String") }, accessFlags := 9, code := some k10c1 }
def k10c2 : Code := { maxStack := 6, maxLocals := 4, code := prog_9_method_3_code, exceptionTable := #[], attributes := #[] }
def k10m2 : Method := { name := "requireCharacters", desc := "(Ljava/lang/String;Ljava/lang/String;I)V", sig := { parameters := [(.object "java/lang/String"), (.object "java/lang/String"), .int], returnType := none }, accessFlags := 9, code := some k10c2 }
def k10c3 : Code := { maxStack := 2, maxLocals := 1, code := prog_9_method_4_code, exceptionTable := #[], attributes := #[] }
def k10m3 : Method := { name := "isAllowed", desc := "(C)Z", sig := { parameters := [.char], returnType := some .boolean }, accessFlags := 10, code := some k10c3 }
/-- com/example/sem1/sem1/internal/LockNames -/
def k10 : Class := { plain "com/example/sem1/sem1/internal/LockNames" (some 0) with
  accessFlags := 49
  interfaces := #[]
  cf := some (fileOf pool10 16 #[] #[{ accessFlags := 2, nameIndex := 5, descriptorIndex := 6, attributes := #[] }, { accessFlags := 9, nameIndex := 87, descriptorIndex := 35, attributes := #[] }, { accessFlags := 9, nameIndex := 20, descriptorIndex := 21, attributes := #[] }, { accessFlags := 10, nameIndex := 53, descriptorIndex := 54, attributes := #[] }] 49 2 #[] #[{ accessFlags := 25, nameIndex := 81, descriptorIndex := 82, attributes := #[] }])
  fields := #[{ name := "MAX_LENGTH", type := .int, accessFlags := 25, slot := 0, constantValue := 0 }]
  methods := #[k10m0, k10m1, k10m2, k10m3]
  instanceTypes := #[]
  staticTypes := #[.int]
  resolved := Array.replicate 112 none
  statics := none }

def pool11 : Array CpInfo := pool [(2, .class_ 4), (1, u "java/lang/Object"), (0, u "<init>"), (0, u "()V"), (17, .class_ 26), (1, u "jdk/internal/util/Preconditions"), (6, u "checkIndex"), (21, .class_ 56), (0, u "jdk/internal/util/Preconditions$4"), (57, .class_ 115), (0, u "jdk/internal/util/Preconditions$1"), (7, u "SIOOBE_FORMATTER"), (0, u "Ljava/util/function/BiFunction;"), (0, .class_ 126), (0, u "jdk/internal/util/Preconditions$2"), (3, u "AIOOBE_FORMATTER"), (0, .class_ 132), (0, u "jdk/internal/util/Preconditions$3"), (3, u "IOOBE_FORMATTER"), (41, u "(IILjava/util/function/BiFunction;)I")] 15

def k11m0 : Method := { name := "<init>", desc := "()V", sig := { parameters := [], returnType := none }, accessFlags := 1, code := none }
def k11c1 : Code := { maxStack := 3, maxLocals := 3, code := jdk_41_method_11_code, exceptionTable := #[], attributes := #[] }
def k11m1 : Method := { name := "checkIndex", desc := "(IILjava/util/function/BiFunction;)I", sig := { parameters := [.int, .int, (.object "java/util/function/BiFunction")], returnType := some .int }, accessFlags := 9, code := some k11c1 }
/-- jdk/internal/util/Preconditions -/
def k11 : Class := { plain "jdk/internal/util/Preconditions" (some 0) with
  accessFlags := 33
  interfaces := #[]
  cf := some (fileOf pool11 24 #[.nestMembers #[55, 131, 125, 114]] #[{ accessFlags := 1, nameIndex := 5, descriptorIndex := 6, attributes := #[] }, { accessFlags := 9, nameIndex := 33, descriptorIndex := 178, attributes := #[] }] 33 2 #[] #[{ accessFlags := 25, nameIndex := 123, descriptorIndex := 124, attributes := #[] }, { accessFlags := 25, nameIndex := 130, descriptorIndex := 124, attributes := #[] }, { accessFlags := 25, nameIndex := 136, descriptorIndex := 124, attributes := #[] }])
  fields := #[{ name := "SIOOBE_FORMATTER", type := (.object "java/util/function/BiFunction"), accessFlags := 25, slot := 0, constantValue := 0 }, { name := "AIOOBE_FORMATTER", type := (.object "java/util/function/BiFunction"), accessFlags := 25, slot := 1, constantValue := 0 }, { name := "IOOBE_FORMATTER", type := (.object "java/util/function/BiFunction"), accessFlags := 25, slot := 2, constantValue := 0 }]
  methods := #[k11m0, k11m1]
  instanceTypes := #[]
  staticTypes := #[(.object "java/util/function/BiFunction"), (.object "java/util/function/BiFunction"), (.object "java/util/function/BiFunction")]
  resolved := Array.replicate 194 none
  statics := some 1 }

def pool12 : Array CpInfo := pool [(9, u "<init>"), (6, .class_ 18), (1, u "java/lang/Object"), (0, u "()V"), (1, .class_ 23), (1, u "jdk/internal/util/ArraysSupport"), (0, u "LOG2_ARRAY_LONG_INDEX_SCALE"), (0, u "I"), (2, u "U"), (0, u "Ljdk/internal/misc/Unsafe;"), (8, u "BIG_ENDIAN"), (0, u "Z"), (8, u "LOG2_BYTE_BIT_SIZE"), (4, u "LOG2_ARRAY_INT_INDEX_SCALE"), (54, u "JLA"), (0, u "Ljdk/internal/access/JavaLangAccess;"), (11, u "LOG2_ARRAY_BOOLEAN_INDEX_SCALE"), (9, u "LOG2_ARRAY_BYTE_INDEX_SCALE"), (5, u "LOG2_ARRAY_CHAR_INDEX_SCALE"), (5, u "LOG2_ARRAY_SHORT_INDEX_SCALE"), (18, u "LOG2_ARRAY_FLOAT_INDEX_SCALE"), (24, u "LOG2_ARRAY_DOUBLE_INDEX_SCALE"), (89, u "T_BOOLEAN"), (2, u "T_CHAR"), (1, u "T_FLOAT"), (1, u "T_DOUBLE"), (1, u "T_BYTE"), (1, u "T_SHORT"), (1, u "T_INT"), (1, u "T_LONG"), (1, u "SOFT_MAX_ARRAY_LENGTH")] 83

def k12m0 : Method := { name := "<init>", desc := "()V", sig := { parameters := [], returnType := none }, accessFlags := 2, code := none }
/-- jdk/internal/util/ArraysSupport -/
def k12 : Class := { plain "jdk/internal/util/ArraysSupport" (some 0) with
  accessFlags := 33
  interfaces := #[]
  cf := some (fileOf pool12 21 #[] #[{ accessFlags := 2, nameIndex := 9, descriptorIndex := 19, attributes := #[] }] 33 16 #[] #[{ accessFlags := 24, nameIndex := 28, descriptorIndex := 29, attributes := #[] }, { accessFlags := 26, nameIndex := 38, descriptorIndex := 39, attributes := #[] }, { accessFlags := 25, nameIndex := 121, descriptorIndex := 25, attributes := #[] }, { accessFlags := 25, nameIndex := 131, descriptorIndex := 25, attributes := #[] }, { accessFlags := 25, nameIndex := 137, descriptorIndex := 25, attributes := #[] }, { accessFlags := 25, nameIndex := 143, descriptorIndex := 25, attributes := #[] }, { accessFlags := 25, nameIndex := 53, descriptorIndex := 25, attributes := #[] }, { accessFlags := 25, nameIndex := 24, descriptorIndex := 25, attributes := #[] }, { accessFlags := 25, nameIndex := 162, descriptorIndex := 25, attributes := #[] }, { accessFlags := 25, nameIndex := 187, descriptorIndex := 25, attributes := #[] }, { accessFlags := 26, nameIndex := 48, descriptorIndex := 25, attributes := #[] }, { accessFlags := 25, nameIndex := 277, descriptorIndex := 25, attributes := #[] }, { accessFlags := 25, nameIndex := 280, descriptorIndex := 25, attributes := #[] }, { accessFlags := 25, nameIndex := 282, descriptorIndex := 25, attributes := #[] }, { accessFlags := 25, nameIndex := 284, descriptorIndex := 25, attributes := #[] }, { accessFlags := 25, nameIndex := 286, descriptorIndex := 25, attributes := #[] }, { accessFlags := 25, nameIndex := 288, descriptorIndex := 25, attributes := #[] }, { accessFlags := 25, nameIndex := 290, descriptorIndex := 25, attributes := #[] }, { accessFlags := 25, nameIndex := 292, descriptorIndex := 25, attributes := #[] }, { accessFlags := 26, nameIndex := 108, descriptorIndex := 109, attributes := #[] }, { accessFlags := 25, nameIndex := 294, descriptorIndex := 25, attributes := #[] }])
  fields := #[{ name := "U", type := (.object "jdk/internal/misc/Unsafe"), accessFlags := 24, slot := 0, constantValue := 0 }, { name := "BIG_ENDIAN", type := .boolean, accessFlags := 26, slot := 1, constantValue := 0 }, { name := "LOG2_ARRAY_BOOLEAN_INDEX_SCALE", type := .int, accessFlags := 25, slot := 2, constantValue := 0 }, { name := "LOG2_ARRAY_BYTE_INDEX_SCALE", type := .int, accessFlags := 25, slot := 3, constantValue := 0 }, { name := "LOG2_ARRAY_CHAR_INDEX_SCALE", type := .int, accessFlags := 25, slot := 4, constantValue := 0 }, { name := "LOG2_ARRAY_SHORT_INDEX_SCALE", type := .int, accessFlags := 25, slot := 5, constantValue := 0 }, { name := "LOG2_ARRAY_INT_INDEX_SCALE", type := .int, accessFlags := 25, slot := 6, constantValue := 0 }, { name := "LOG2_ARRAY_LONG_INDEX_SCALE", type := .int, accessFlags := 25, slot := 7, constantValue := 0 }, { name := "LOG2_ARRAY_FLOAT_INDEX_SCALE", type := .int, accessFlags := 25, slot := 8, constantValue := 0 }, { name := "LOG2_ARRAY_DOUBLE_INDEX_SCALE", type := .int, accessFlags := 25, slot := 9, constantValue := 0 }, { name := "LOG2_BYTE_BIT_SIZE", type := .int, accessFlags := 26, slot := 10, constantValue := 0 }, { name := "T_BOOLEAN", type := .int, accessFlags := 25, slot := 11, constantValue := 0 }, { name := "T_CHAR", type := .int, accessFlags := 25, slot := 12, constantValue := 0 }, { name := "T_FLOAT", type := .int, accessFlags := 25, slot := 13, constantValue := 0 }, { name := "T_DOUBLE", type := .int, accessFlags := 25, slot := 14, constantValue := 0 }, { name := "T_BYTE", type := .int, accessFlags := 25, slot := 15, constantValue := 0 }, { name := "T_SHORT", type := .int, accessFlags := 25, slot := 16, constantValue := 0 }, { name := "T_INT", type := .int, accessFlags := 25, slot := 17, constantValue := 0 }, { name := "T_LONG", type := .int, accessFlags := 25, slot := 18, constantValue := 0 }, { name := "JLA", type := (.object "jdk/internal/access/JavaLangAccess"), accessFlags := 26, slot := 19, constantValue := 0 }, { name := "SOFT_MAX_ARRAY_LENGTH", type := .int, accessFlags := 25, slot := 20, constantValue := 0 }]
  methods := #[k12m0]
  instanceTypes := #[]
  staticTypes := #[(.object "jdk/internal/misc/Unsafe"), .boolean, .int, .int, .int, .int, .int, .int, .int, .int, .int, .int, .int, .int, .int, .int, .int, .int, .int, (.object "jdk/internal/access/JavaLangAccess"), .int]
  resolved := Array.replicate 378 none
  statics := none }

def pool13 : Array CpInfo := pool [(1, u "java/lang/Cloneable"), (0, .class_ 1), (0, u "java/lang/Object"), (0, .class_ 3)] 3

/-- java/lang/Cloneable -/
def k13 : Class := { plain "java/lang/Cloneable" (some 0) with
  accessFlags := 1537
  interfaces := #[]
  cf := some (fileOf pool13 2 #[] #[] 1537 4 #[] #[])
  fields := #[]
  methods := #[]
  instanceTypes := #[]
  staticTypes := #[]
  resolved := Array.replicate 8 none
  statics := none }

/-- the primitive byte -/
def k14 : Class := { plain "byte" none with kind := .primitive 'B', accessFlags := 0x411 }
/-- [B -/
def k15 : Class := { plain "[B" (some 0) with kind := .array 14 .byte, interfaces := #[13, 2], accessFlags := 1041 }

/-- the primitive char -/
def k16 : Class := { plain "char" none with kind := .primitive 'C', accessFlags := 0x411 }
/-- [C -/
def k17 : Class := { plain "[C" (some 0) with kind := .array 16 .char, interfaces := #[13, 2], accessFlags := 1041 }

/-- the primitive int -/
def k18 : Class := { plain "int" none with kind := .primitive 'I', accessFlags := 0x411 }
/-- [I -/
def k19 : Class := { plain "[I" (some 0) with kind := .array 18 .int, interfaces := #[13, 2], accessFlags := 1041 }

def heap : Heap := #[{ cls := 7, slots := #[.long 0, .int 1, .null, .int 0, .null, .int 0, .int 0], vm := .statics 7 },
  { cls := 11, slots := #[.null, .null, .null], vm := .statics 11 }]
def classes : Array Class := #[k0, k1, k2, k3, k4, k5, k6, k7, k8, k9, k10, k11, k12, k13, k14, k15, k16, k17, k18, k19]
def interned : List (Array UInt16 × Addr) := []
def slotsUsed : Nat := 10
def theMethod : MethodId := ⟨1, 2⟩
def args0 : Array Value := #[.int 5, .int 6, .int 7, .int 8, .int 9]
def aboutOver (below : List Frame) : State where
  vm := { classes := classes, interned := interned.toArray }
  heap := heap
  slotsUsed := slotsUsed
  threads := #[{ frames := .invoking theMethod args0 :: below }]
def below0 : List Frame := [.native { method := ⟨0, 0⟩, args := #[] }]
def about1 : State := aboutOver below0
def p0 : Program := .bare "" "" ""
def e0 : Env := launch0.env 0 0 0
theorem w_frames : about1.frames = Frame.invoking theMethod args0 :: below0 := rfl
set_option maxRecDepth 65536 in
theorem w_args : argsFit about1.vm theMethod args0 = true := by decide +kernel
set_option maxRecDepth 65536 in
theorem w_heap : heapFits about1 = true := by decide +kernel
set_option maxRecDepth 65536 in
theorem w_runnable : about1.curStatus? = some .runnable := by decide +kernel
set_option maxRecDepth 65536 in
theorem w_alone : about1.alone = true := by decide +kernel
set_option maxRecDepth 65536 in
theorem w_named : about1.methodNamed? x = some theMethod := by decide +kernel
set_option maxRecDepth 65536 in
theorem w_hears : about1.hears theMethod below0 = true := by decide +kernel
set_option maxRecDepth 65536 in
theorem w_ripe : about1.ripe theMethod args0 below0 = true := by decide +kernel
theorem w_running : about1.status = .running := rfl
set_option maxRecDepth 65536 in
theorem w_room : about1.hasRoom e0.platform room_1 = true :=
  launch0.hasRoom_least _ room_1 (by decide +kernel) (by decide +kernel) (by decide +kernel) (by decide +kernel) (by decide +kernel) (by decide +kernel)
theorem allAtoms_all (ts : List Jvm.Cond) (a : Array Jvm.Value) (st : Jvm.State) : (allAtoms ts).before a st = ts.all (fun c => c.before a st) := by
  induction ts with
  | nil => rfl
  | cons c t ih =>
    show (Jvm.Cond.and c (allAtoms t)).before a st = _
    rw [Jvm.Cond.before_and, ih, List.all_cons]
def words1 : List Jvm.Cond := Jvm.Cond.code x code maxLocals ret :: tables_1
/-- a 'code' word, met by the world's own term for the bytes: nothing is compared byte by byte -/
theorem code_word {y : MethodName} {bytes : ByteArray} {mx : Nat} {rt : Option FieldType} {a : Array Value} {s : State} {m : MethodId} {meth : Method} {c : Code} (h1 : s.methodNamed? y = some m) (h2 : s.vm.method? m = some meth) (h3 : meth.code = some c) (h4 : c.code = bytes)
    (h5 : (c.maxLocals == mx && c.exceptionTable.isEmpty && decide (c.maxStack ≤ mostOperands) && decide (meth.sig.returnType = rt) && !meth.locks && decide (parseMethodDescriptor y.desc = some meth.sig)) = true) : (Jvm.Cond.code y bytes mx rt).before a s = true := by
  simp only [Bool.and_eq_true, beq_iff_eq, Bool.not_eq_true', decide_eq_true_eq] at h5
  obtain ⟨⟨⟨⟨⟨g1, g2⟩, g3⟩, g4⟩, g5⟩, g6⟩ := h5
  simp [Cond.before, Cond.holds, Cond.value, h1, h2, h3, h4, g1, g2, g3, g4, g5, g6]
def isCode : Jvm.Cond → Bool
  | .code _ _ _ _ => true
  | _ => false
theorem all_split {L : List Jvm.Cond} {P : Jvm.Cond → Bool} (h1 : L.all (fun c => isCode c || P c) = true) (h2 : ∀ c ∈ L.filter isCode, P c = true) : L.all P = true := by
  refine List.all_eq_true.mpr fun c hc => ?_
  have h := List.all_eq_true.mp h1 c hc
  rcases Bool.eq_false_or_eq_true (isCode c) with hi | hi
  · exact h2 c (List.mem_filter.mpr ⟨hc, hi⟩)
  · simpa [hi] using h
set_option maxRecDepth 65536 in
theorem w_c0 : (Jvm.Cond.code x code maxLocals ret).before args0 about1 = true := code_word (m := ⟨1, 2⟩) (meth := k1m2) (c := k1c2) (by decide +kernel) rfl rfl rfl (by decide +kernel)
set_option maxRecDepth 65536 in
theorem w_c1 : (Jvm.Cond.code ({ cls := "com/example/sem1/sem1/internal/LockNamesRequireValidPinLaw", name := "allowed", desc := "(I)C" } : Jvm.MethodName) method_2_code (2 : Nat) (Option.some Jvm.ClassFile.FieldType.char)).before args0 about1 = true := code_word (m := ⟨1, 1⟩) (meth := k1m1) (c := k1c1) (by decide +kernel) rfl rfl rfl (by decide +kernel)
set_option maxRecDepth 65536 in
theorem w_c2 : (Jvm.Cond.code ({ cls := "java/lang/String", name := "<init>", desc := "([C)V" } : Jvm.MethodName) jdk_42_method_3_code (2 : Nat) (Option.none : Option Jvm.ClassFile.FieldType)).before args0 about1 = true := code_word (m := ⟨7, 1⟩) (meth := k7m1) (c := k7c1) (by decide +kernel) rfl rfl rfl (by decide +kernel)
set_option maxRecDepth 65536 in
theorem w_c3 : (Jvm.Cond.code ({ cls := "java/lang/String", name := "<init>", desc := "([CIILjava/lang/Void;)V" } : Jvm.MethodName) jdk_42_method_149_code (6 : Nat) (Option.none : Option Jvm.ClassFile.FieldType)).before args0 about1 = true := code_word (m := ⟨7, 6⟩) (meth := k7m6) (c := k7c6) (by decide +kernel) rfl rfl rfl (by decide +kernel)
set_option maxRecDepth 65536 in
theorem w_c4 : (Jvm.Cond.code ({ cls := "java/lang/Object", name := "<init>", desc := "()V" } : Jvm.MethodName) object_method_1_code (1 : Nat) (Option.none : Option Jvm.ClassFile.FieldType)).before args0 about1 = true := code_word (m := ⟨0, 0⟩) (meth := k0m0) (c := k0c0) (by decide +kernel) rfl rfl rfl (by decide +kernel)
set_option maxRecDepth 65536 in
theorem w_c5 : (Jvm.Cond.code ({ cls := "java/lang/StringUTF16", name := "compress", desc := "([CII)[B" } : Jvm.MethodName) jdk_52_method_16_code (6 : Nat) (Option.some (Jvm.ClassFile.FieldType.array Jvm.ClassFile.FieldType.byte))).before args0 about1 = true := code_word (m := ⟨8, 2⟩) (meth := k8m2) (c := k8c2) (by decide +kernel) rfl rfl rfl (by decide +kernel)
set_option maxRecDepth 65536 in
theorem w_c6 : (Jvm.Cond.code ({ cls := "java/lang/StringUTF16", name := "compress", desc := "([CI[BII)I" } : Jvm.MethodName) jdk_52_method_21_code (7 : Nat) (Option.some Jvm.ClassFile.FieldType.int)).before args0 about1 = true := code_word (m := ⟨8, 3⟩) (meth := k8m3) (c := k8c3) (by decide +kernel) rfl rfl rfl (by decide +kernel)
set_option maxRecDepth 65536 in
theorem w_c7 : (Jvm.Cond.code ({ cls := "java/lang/StringUTF16", name := "coderFromArrayLen", desc := "([BI)B" } : Jvm.MethodName) jdk_52_method_15_code (2 : Nat) (Option.some Jvm.ClassFile.FieldType.byte)).before args0 about1 = true := code_word (m := ⟨8, 1⟩) (meth := k8m1) (c := k8c1) (by decide +kernel) rfl rfl rfl (by decide +kernel)
set_option maxRecDepth 65536 in
theorem w_c8 : (Jvm.Cond.code ({ cls := "java/lang/String", name := "equals", desc := "(Ljava/lang/Object;)Z" } : Jvm.MethodName) jdk_42_method_66_code (3 : Nat) (Option.some Jvm.ClassFile.FieldType.boolean)).before args0 about1 = true := code_word (m := ⟨7, 5⟩) (meth := k7m5) (c := k7c5) (by decide +kernel) rfl rfl rfl (by decide +kernel)
set_option maxRecDepth 65536 in
theorem w_c9 : (Jvm.Cond.code ({ cls := "java/lang/StringLatin1", name := "equals", desc := "([B[B)Z" } : Jvm.MethodName) jdk_43_method_13_code (3 : Nat) (Option.some Jvm.ClassFile.FieldType.boolean)).before args0 about1 = true := code_word (m := ⟨9, 2⟩) (meth := k9m2) (c := k9c2) (by decide +kernel) rfl rfl rfl (by decide +kernel)
set_option maxRecDepth 65536 in
theorem w_c10 : (Jvm.Cond.code ({ cls := "com/example/sem1/sem1/internal/LockNames", name := "requireValid", desc := "(Ljava/lang/String;)Ljava/lang/String;" } : Jvm.MethodName) prog_9_method_2_code (1 : Nat) (Option.some (Jvm.ClassFile.FieldType.object "java/lang/String"))).before args0 about1 = true := code_word (m := ⟨10, 1⟩) (meth := k10m1) (c := k10c1) (by decide +kernel) rfl rfl rfl (by decide +kernel)
set_option maxRecDepth 65536 in
theorem w_c11 : (Jvm.Cond.code ({ cls := "com/example/sem1/sem1/internal/LockNames", name := "requireCharacters", desc := "(Ljava/lang/String;Ljava/lang/String;I)V" } : Jvm.MethodName) prog_9_method_3_code (4 : Nat) (Option.none : Option Jvm.ClassFile.FieldType)).before args0 about1 = true := code_word (m := ⟨10, 2⟩) (meth := k10m2) (c := k10c2) (by decide +kernel) rfl rfl rfl (by decide +kernel)
set_option maxRecDepth 65536 in
theorem w_c12 : (Jvm.Cond.code ({ cls := "java/lang/String", name := "isEmpty", desc := "()Z" } : Jvm.MethodName) jdk_42_method_55_code (1 : Nat) (Option.some Jvm.ClassFile.FieldType.boolean)).before args0 about1 = true := code_word (m := ⟨7, 3⟩) (meth := k7m3) (c := k7c3) (by decide +kernel) rfl rfl rfl (by decide +kernel)
set_option maxRecDepth 65536 in
theorem w_c13 : (Jvm.Cond.code ({ cls := "java/lang/String", name := "length", desc := "()I" } : Jvm.MethodName) jdk_42_method_54_code (1 : Nat) (Option.some Jvm.ClassFile.FieldType.int)).before args0 about1 = true := code_word (m := ⟨7, 2⟩) (meth := k7m2) (c := k7c2) (by decide +kernel) rfl rfl rfl (by decide +kernel)
set_option maxRecDepth 65536 in
theorem w_c14 : (Jvm.Cond.code ({ cls := "java/lang/String", name := "coder", desc := "()B" } : Jvm.MethodName) jdk_42_method_152_code (1 : Nat) (Option.some Jvm.ClassFile.FieldType.byte)).before args0 about1 = true := code_word (m := ⟨7, 7⟩) (meth := k7m7) (c := k7c7) (by decide +kernel) rfl rfl rfl (by decide +kernel)
set_option maxRecDepth 65536 in
theorem w_c15 : (Jvm.Cond.code ({ cls := "java/lang/String", name := "charAt", desc := "(I)C" } : Jvm.MethodName) jdk_42_method_56_code (2 : Nat) (Option.some Jvm.ClassFile.FieldType.char)).before args0 about1 = true := code_word (m := ⟨7, 4⟩) (meth := k7m4) (c := k7c4) (by decide +kernel) rfl rfl rfl (by decide +kernel)
set_option maxRecDepth 65536 in
theorem w_c16 : (Jvm.Cond.code ({ cls := "java/lang/String", name := "isLatin1", desc := "()Z" } : Jvm.MethodName) jdk_42_method_154_code (1 : Nat) (Option.some Jvm.ClassFile.FieldType.boolean)).before args0 about1 = true := code_word (m := ⟨7, 8⟩) (meth := k7m8) (c := k7c8) (by decide +kernel) rfl rfl rfl (by decide +kernel)
set_option maxRecDepth 65536 in
theorem w_c17 : (Jvm.Cond.code ({ cls := "java/lang/StringLatin1", name := "charAt", desc := "([BI)C" } : Jvm.MethodName) jdk_43_method_2_code (2 : Nat) (Option.some Jvm.ClassFile.FieldType.char)).before args0 about1 = true := code_word (m := ⟨9, 1⟩) (meth := k9m1) (c := k9c1) (by decide +kernel) rfl rfl rfl (by decide +kernel)
set_option maxRecDepth 65536 in
theorem w_c18 : (Jvm.Cond.code ({ cls := "java/lang/String", name := "checkIndex", desc := "(II)V" } : Jvm.MethodName) jdk_42_method_155_code (2 : Nat) (Option.none : Option Jvm.ClassFile.FieldType)).before args0 about1 = true := code_word (m := ⟨7, 9⟩) (meth := k7m9) (c := k7c9) (by decide +kernel) rfl rfl rfl (by decide +kernel)
set_option maxRecDepth 65536 in
theorem w_c19 : (Jvm.Cond.code ({ cls := "jdk/internal/util/Preconditions", name := "checkIndex", desc := "(IILjava/util/function/BiFunction;)I" } : Jvm.MethodName) jdk_41_method_11_code (3 : Nat) (Option.some Jvm.ClassFile.FieldType.int)).before args0 about1 = true := code_word (m := ⟨11, 1⟩) (meth := k11m1) (c := k11c1) (by decide +kernel) rfl rfl rfl (by decide +kernel)
set_option maxRecDepth 65536 in
theorem w_c20 : (Jvm.Cond.code ({ cls := "com/example/sem1/sem1/internal/LockNames", name := "isAllowed", desc := "(C)Z" } : Jvm.MethodName) prog_9_method_4_code (1 : Nat) (Option.some Jvm.ClassFile.FieldType.boolean)).before args0 about1 = true := code_word (m := ⟨10, 3⟩) (meth := k10m3) (c := k10c3) (by decide +kernel) rfl rfl rfl (by decide +kernel)
def codes1 : List Jvm.Cond := [Jvm.Cond.code x code maxLocals ret, Jvm.Cond.code ({ cls := "com/example/sem1/sem1/internal/LockNamesRequireValidPinLaw", name := "allowed", desc := "(I)C" } : Jvm.MethodName) method_2_code (2 : Nat) (Option.some Jvm.ClassFile.FieldType.char), Jvm.Cond.code ({ cls := "java/lang/String", name := "<init>", desc := "([C)V" } : Jvm.MethodName) jdk_42_method_3_code (2 : Nat) (Option.none : Option Jvm.ClassFile.FieldType), Jvm.Cond.code ({ cls := "java/lang/String", name := "<init>", desc := "([CIILjava/lang/Void;)V" } : Jvm.MethodName) jdk_42_method_149_code (6 : Nat) (Option.none : Option Jvm.ClassFile.FieldType), Jvm.Cond.code ({ cls := "java/lang/Object", name := "<init>", desc := "()V" } : Jvm.MethodName) object_method_1_code (1 : Nat) (Option.none : Option Jvm.ClassFile.FieldType), Jvm.Cond.code ({ cls := "java/lang/StringUTF16", name := "compress", desc := "([CII)[B" } : Jvm.MethodName) jdk_52_method_16_code (6 : Nat) (Option.some (Jvm.ClassFile.FieldType.array Jvm.ClassFile.FieldType.byte)), Jvm.Cond.code ({ cls := "java/lang/StringUTF16", name := "compress", desc := "([CI[BII)I" } : Jvm.MethodName) jdk_52_method_21_code (7 : Nat) (Option.some Jvm.ClassFile.FieldType.int), Jvm.Cond.code ({ cls := "java/lang/StringUTF16", name := "coderFromArrayLen", desc := "([BI)B" } : Jvm.MethodName) jdk_52_method_15_code (2 : Nat) (Option.some Jvm.ClassFile.FieldType.byte), Jvm.Cond.code ({ cls := "java/lang/String", name := "equals", desc := "(Ljava/lang/Object;)Z" } : Jvm.MethodName) jdk_42_method_66_code (3 : Nat) (Option.some Jvm.ClassFile.FieldType.boolean), Jvm.Cond.code ({ cls := "java/lang/StringLatin1", name := "equals", desc := "([B[B)Z" } : Jvm.MethodName) jdk_43_method_13_code (3 : Nat) (Option.some Jvm.ClassFile.FieldType.boolean), Jvm.Cond.code ({ cls := "com/example/sem1/sem1/internal/LockNames", name := "requireValid", desc := "(Ljava/lang/String;)Ljava/lang/String;" } : Jvm.MethodName) prog_9_method_2_code (1 : Nat) (Option.some (Jvm.ClassFile.FieldType.object "java/lang/String")), Jvm.Cond.code ({ cls := "com/example/sem1/sem1/internal/LockNames", name := "requireCharacters", desc := "(Ljava/lang/String;Ljava/lang/String;I)V" } : Jvm.MethodName) prog_9_method_3_code (4 : Nat) (Option.none : Option Jvm.ClassFile.FieldType), Jvm.Cond.code ({ cls := "java/lang/String", name := "isEmpty", desc := "()Z" } : Jvm.MethodName) jdk_42_method_55_code (1 : Nat) (Option.some Jvm.ClassFile.FieldType.boolean), Jvm.Cond.code ({ cls := "java/lang/String", name := "length", desc := "()I" } : Jvm.MethodName) jdk_42_method_54_code (1 : Nat) (Option.some Jvm.ClassFile.FieldType.int), Jvm.Cond.code ({ cls := "java/lang/String", name := "coder", desc := "()B" } : Jvm.MethodName) jdk_42_method_152_code (1 : Nat) (Option.some Jvm.ClassFile.FieldType.byte), Jvm.Cond.code ({ cls := "java/lang/String", name := "charAt", desc := "(I)C" } : Jvm.MethodName) jdk_42_method_56_code (2 : Nat) (Option.some Jvm.ClassFile.FieldType.char), Jvm.Cond.code ({ cls := "java/lang/String", name := "isLatin1", desc := "()Z" } : Jvm.MethodName) jdk_42_method_154_code (1 : Nat) (Option.some Jvm.ClassFile.FieldType.boolean), Jvm.Cond.code ({ cls := "java/lang/StringLatin1", name := "charAt", desc := "([BI)C" } : Jvm.MethodName) jdk_43_method_2_code (2 : Nat) (Option.some Jvm.ClassFile.FieldType.char), Jvm.Cond.code ({ cls := "java/lang/String", name := "checkIndex", desc := "(II)V" } : Jvm.MethodName) jdk_42_method_155_code (2 : Nat) (Option.none : Option Jvm.ClassFile.FieldType), Jvm.Cond.code ({ cls := "jdk/internal/util/Preconditions", name := "checkIndex", desc := "(IILjava/util/function/BiFunction;)I" } : Jvm.MethodName) jdk_41_method_11_code (3 : Nat) (Option.some Jvm.ClassFile.FieldType.int), Jvm.Cond.code ({ cls := "com/example/sem1/sem1/internal/LockNames", name := "isAllowed", desc := "(C)Z" } : Jvm.MethodName) prog_9_method_4_code (1 : Nat) (Option.some Jvm.ClassFile.FieldType.boolean)]
set_option maxRecDepth 65536 in
theorem codes_eq : words1.filter isCode = codes1 := rfl
theorem w_codes : ∀ c ∈ words1.filter isCode, c.before args0 about1 = true := by
  rw [codes_eq]
  intro c hc
  simp only [codes1, List.mem_cons, List.not_mem_nil, or_false] at hc
  rcases hc with rfl | rfl | rfl | rfl | rfl | rfl | rfl | rfl | rfl | rfl | rfl | rfl | rfl | rfl | rfl | rfl | rfl | rfl | rfl | rfl | rfl
  · exact w_c0
  · exact w_c1
  · exact w_c2
  · exact w_c3
  · exact w_c4
  · exact w_c5
  · exact w_c6
  · exact w_c7
  · exact w_c8
  · exact w_c9
  · exact w_c10
  · exact w_c11
  · exact w_c12
  · exact w_c13
  · exact w_c14
  · exact w_c15
  · exact w_c16
  · exact w_c17
  · exact w_c18
  · exact w_c19
  · exact w_c20
set_option maxRecDepth 65536 in
theorem w_t1 : (words1.take 24).all (fun c => isCode c || c.before args0 about1) = true := by decide +kernel
set_option maxRecDepth 65536 in
theorem w_t2 : ((words1.drop 24).take 24).all (fun c => isCode c || c.before args0 about1) = true := by decide +kernel
set_option maxRecDepth 65536 in
theorem w_t3 : (((words1.drop 24).drop 24).take 24).all (fun c => isCode c || c.before args0 about1) = true := by decide +kernel
set_option maxRecDepth 65536 in
theorem w_t4 : ((((words1.drop 24).drop 24).drop 24).take 24).all (fun c => isCode c || c.before args0 about1) = true := by decide +kernel
set_option maxRecDepth 65536 in
theorem w_t5 : ((((words1.drop 24).drop 24).drop 24).drop 24).all (fun c => isCode c || c.before args0 about1) = true := by decide +kernel
theorem w_tables : (allAtoms (Jvm.Cond.code x code maxLocals ret :: tables_1)).before args0 about1 = true := by
  rw [allAtoms_all]
  show words1.all (fun c => c.before args0 about1) = true
  refine all_split ?_ w_codes
  rw [← List.take_append_drop 24 words1, List.all_append, w_t1, ← List.take_append_drop 24 (words1.drop 24), List.all_append, w_t2, ← List.take_append_drop 24 ((words1.drop 24).drop 24), List.all_append, w_t3, ← List.take_append_drop 24 (((words1.drop 24).drop 24).drop 24), List.all_append, w_t4, w_t5]
  rfl
set_option maxRecDepth 65536 in
theorem w_rest : rest_1_c.before args0 about1 = true := by decide +kernel
set_option maxRecDepth 65536 in
theorem w_case : (Jvm.Cond.and given_1 narrow_1).before args0 about1 = true := by decide +kernel
set_option maxRecDepth 65536 in
theorem w_consts : constsHeld consts_1 about1 := Jvm.Lit.constsHeldB_iff.mp (by decide +kernel)
theorem w_applies : (headSpec (Jvm.Cond.code x code maxLocals ret :: tables_1) room_1).applies x e0.platform about1 = true :=
  (Spec.applies_iff w_frames).mpr ⟨w_running, w_runnable, w_alone, w_named, w_hears, w_ripe, w_room, w_tables⟩
theorem atStart : AtStart classFile x code maxLocals ret World_1 tables_1 room_1 Calls_1 rest_1 Pre_1 launch0 p0 e0 about1 theMethod args0 below0 :=
  ⟨lists_1, trivial, launch0.admits_env _ _ _, launch0.least_env, fairChoices_fair.cas, fairChoices_fair.clock, w_frames, w_args, w_heap, w_applies, ⟨w_consts, trivial⟩, w_rest, w_case⟩
end start1
theorem witness_1 : WitnessClaimed_1 := ⟨start1.p0, start1.e0, start1.about1, start1.theMethod, start1.args0, start1.below0, start1.atStart⟩
end Jvm.Pilot.@@N@@
