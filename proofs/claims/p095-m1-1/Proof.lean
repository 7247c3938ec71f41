import JvmDerived
import JvmDerived.Pilot.@@N@@Statement
import JvmDerived.Pilot.@@N@@Code
set_option linter.unusedVariables false
set_option linter.unusedSimpArgs false
@@BLOCK:NumsL.lean.txt@@
@@BLOCK:SetKit.lean.txt@@
/- laws to paste: Road.backV (cut by pick.py; bodies as the Statement names them) -/
namespace Jvm.Pilot.@@N@@
namespace StrChars
open Jvm Sem ClassFile Op Lib Jvm.Stand Jvm.Free.XT Jvm.Free.ALB Jvm.Free.JM Jvm.Free
open Jvm.Lib.Cold (StaticIs)
/-- a char array whose places are chars -/
def Ch (a : Addr) (A : Cell) (U : State) : Prop := Arr .char a A U ∧ Typed .char A
theorem Ch.mv {a : Addr} {A : Cell} {U U' : State} (h : Ch a A U) (hal : U.vm.Alike U'.vm) (hh : U'.heap = U.heap) : Ch a A U' := ⟨h.1.mv hal hh, h.2⟩
theorem Ch.keep {a : Addr} {A : Cell} {U U' : State} (h : Ch a A U) (hal : U.vm.Alike U'.vm) (hk : U'.heap[a]? = some A) : Ch a A U' := ⟨h.1.keep hal hk, h.2⟩
/-- what place i of a char[]'s cell holds -/
def cv (A : Cell) (i : Nat) : Int32 := match A.slots[i]? with | some (.int x) => x | _ => 0
theorem Ch.get {a : Addr} {A : Cell} {U : State} (h : Ch a A U) {i : Nat} (hi : i < A.slots.size) : A.slots[i]? = some (.int (cv A i)) := by
  have e := Array.getElem?_eq_getElem hi
  have f := h.2 i _ e
  unfold cv; rw [e]
  generalize A.slots[i] = v at f
  cases v <;> simp [fits] at f ⊢
/-- the byte that i2b leaves of a char -/
def lo8 (x : Int32) : Int32 := x.toInt8.toInt32
theorem fits_lo8 (y : Int32) : fits .byte (.int (lo8 y)) = true := by
  have h1 := y.toInt8.le_toInt
  have h2 := y.toInt8.toInt_lt
  simp only [lo8, fits, Bool.and_eq_true, decide_eq_true_eq, Int32.le_iff_toInt_le, Int8.toInt_toInt32, show (-128 : Int32).toInt = -128 from by decide, show (127 : Int32).toInt = 127 from by decide]
  omega
/-- A' is A but that each place j of lo .. hi - 1 holds f j -/
def Laid (A A' : Cell) (lo hi : Nat) (f : Nat → Value) : Prop := A'.cls = A.cls ∧ A'.vm = A.vm ∧ A'.slots.size = A.slots.size ∧ ∀ i, A'.slots[i]? = if lo ≤ i ∧ i < hi then some (f i) else A.slots[i]?
theorem Laid.zero (A : Cell) (lo : Nat) (f : Nat → Value) : Laid A A lo (lo + 0) f := ⟨rfl, rfl, rfl, fun i => by rw [if_neg (by omega)]⟩
theorem Laid.step {A Ak : Cell} {lo k : Nat} {f : Nat → Value} {v : Value} (h : Laid A Ak lo k f) (hlo : lo ≤ k) (hk : k < Ak.slots.size) (hv : v = f k) : Laid A (Ak.setSlot k v) lo (k + 1) f := by
  refine ⟨h.1, h.2.1, by simpa [Cell.setSlot] using h.2.2.1, fun i => ?_⟩
  by_cases e : k = i
  · subst e; rw [Cell.slots_setSlot_self v hk, if_pos (by omega), hv]
  · rw [Cell.slots_setSlot_ne v e, h.2.2.2 i]
    by_cases q : lo ≤ i ∧ i < k
    · rw [if_pos q, if_pos (by omega)]
    · rw [if_neg q, if_neg (by omega)]
def U16 : String := "java/lang/StringUTF16"
namespace Cmp5
def yN : MethodName := ⟨"java/lang/StringUTF16", "compress", "([CI[BII)I"⟩
abbrev yB : ByteArray := jdk_52_method_21_code
theorem d0 : decode yB 0 = .ok (.iconst 0, 1) := by decide +kernel
theorem d1 : decode yB 1 = .ok (.istore 5, 2) := by decide +kernel
theorem d3 : decode yB 3 = .ok (.iload 5, 2) := by decide +kernel
theorem d5 : decode yB 5 = .ok (.iload 4, 2) := by decide +kernel
theorem d7 : decode yB 7 = .ok (.if_icmp (.ge) 37, 3) := by decide +kernel
theorem d10 : decode yB 10 = .ok (.aload_n 0, 1) := by decide +kernel
theorem d11 : decode yB 11 = .ok (.iload_n 1, 1) := by decide +kernel
theorem d12 : decode yB 12 = .ok (.caload, 1) := by decide +kernel
theorem d13 : decode yB 13 = .ok (.istore 6, 2) := by decide +kernel
theorem d15 : decode yB 15 = .ok (.iload 6, 2) := by decide +kernel
theorem d17 : decode yB 17 = .ok (.sipush 255, 3) := by decide +kernel
theorem d20 : decode yB 20 = .ok (.if_icmp (.le) 6, 3) := by decide +kernel
theorem d26 : decode yB 26 = .ok (.aload_n 2, 1) := by decide +kernel
theorem d27 : decode yB 27 = .ok (.iload_n 3, 1) := by decide +kernel
theorem d28 : decode yB 28 = .ok (.iload 6, 2) := by decide +kernel
theorem d30 : decode yB 30 = .ok (.i2b, 1) := by decide +kernel
theorem d31 : decode yB 31 = .ok (.bastore, 1) := by decide +kernel
theorem d32 : decode yB 32 = .ok (.iinc 1 1, 3) := by decide +kernel
theorem d35 : decode yB 35 = .ok (.iinc 3 1, 3) := by decide +kernel
theorem d38 : decode yB 38 = .ok (.iinc 5 1, 3) := by decide +kernel
theorem d41 : decode yB 41 = .ok (.goto (-38), 3) := by decide +kernel
theorem d44 : decode yB 44 = .ok (.iload 4, 2) := by decide +kernel
theorem d46 : decode yB 46 = .ok (.ireturn, 1) := by decide +kernel
def site : List Cond := []
def tab : Cond := tabOf yN yB 7 (some .int) site
def P (b : Addr) (A : Cell) (d : Addr) (B : Cell) (o q len : Nat) (args : Array Value) (s : State) : Prop := args = #[.ref b, .int (Int32.ofNat o), .ref d, .int (Int32.ofNat q), .int (Int32.ofNat len)] ∧ Ch b A s ∧ Arr .byte d B s ∧ b ≠ d ∧ o + len ≤ A.slots.size ∧ q + len ≤ B.slots.size ∧ ∀ i, i < len → ¬ 255 < cv A (o + i)
def E (b : Addr) (A : Cell) (d : Addr) (B : Cell) (o q len : Nat) (r : Option Value) (s u : State) : Prop := r = some (.int (Int32.ofNat len)) ∧ ∃ B', Put d B' s u ∧ Laid B B' q (q + len) (fun j => Value.int (lo8 (cv A (o + (j - q)))))
/-- no char of the range above 255: len; the places written hold each char's low byte -/
theorem law (l : Launch) (b : Addr) (A : Cell) (d : Addr) (B : Cell) (o q len : Nat) : Law l yN 5 5 0 0 yB 7 (some .int) site (P b A d B o q len) (E b A d B o q len) (copyLocs d q len) 0 0 := by
  refine Law.of_walk (plainFor_of_name (by decide +kernel)) (by decide +kernel) (by decide +kernel) (by decide) (fun _ _ h => by rw [h.1]; rfl) (fun _ U U' hal hh h => ⟨h.1, h.2.1.mv hal hh, h.2.2.1.mv hal hh, h.2.2.2⟩) (fun r U U' V V' h1 hal h2 h => ⟨h.1, h.2.elim fun B' q => ⟨B', q.1.mv h1 h2, q.2⟩⟩) ?_
  intro p e s m args below meth c s₁ X0 hexec hbytes hml hret hlk hnm hown hh0 W hP
  obtain ⟨rfl, hA, hB, hne, l1, l2, hp⟩ := hP
  have c1 : Steps p.tables e below (s₁.setTop (entryFrame m #[.ref b, .int (Int32.ofNat o), .ref d, .int (Int32.ofNat q), .int (Int32.ofNat len)] 7)) (s₁.setTop (mkF m 0 #[.val (.ref b), .val (.int (Int32.ofNat o)), .val (.ref d), .val (.int (Int32.ofNat q)), .val (.int (Int32.ofNat len)), .unset, .unset] [])) := entry rfl
  have hA0 := hA.1.mv X0.warmed.alike hh0
  have hB0 := hB.mv X0.warmed.alike hh0
  have a31 := hA.1.2.2.2
  have c2 : Steps p.tables e below (s₁.setTop (entryFrame m #[.ref b, .int (Int32.ofNat o), .ref d, .int (Int32.ofNat q), .int (Int32.ofNat len)] 7)) (s₁.setTop (mkF m 3 #[.val (.ref b), .val (.int (Int32.ofNat o)), .val (.ref d), .val (.int (Int32.ofNat q)), .val (.int (Int32.ofNat len)), .val (.int 0), .unset] [])) := c1.trans (by
    refine iconstV X0.here hexec rfl 0 (hb hbytes d0) (by decide) ?_
    refine XS.istore X0.here hexec rfl (hb hbytes d1) rfl rfl ?_
    exact Steps.refl _)
  have loop : ∀ (r i : Nat), i + r = len → ∀ (z : Slot), (z = .unset ∨ ∃ w, z = .val w ∧ w.category = 1) → ∀ (Tl : State) (Bk : Cell), Stand p l e { frames := 0, locals := 0, cells := 0, slots := 0 } s m #[.ref b, .int (Int32.ofNat o), .ref d, .int (Int32.ofNat q), .int (Int32.ofNat len)] below meth c Tl ([] ++ copyLocs d q i) 0 0 → Put d Bk s₁ Tl → Laid B Bk q (q + i) (fun j => Value.int (lo8 (cv A (o + (j - q))))) →
      Steps p.tables e below (s₁.setTop (entryFrame m #[.ref b, .int (Int32.ofNat o), .ref d, .int (Int32.ofNat q), .int (Int32.ofNat len)] 7)) (Tl.setTop (mkF m 3 #[.val (.ref b), .val (.int (Int32.ofNat (o + i))), .val (.ref d), .val (.int (Int32.ofNat (q + i))), .val (.int (Int32.ofNat len)), .val (.int (Int32.ofNat i)), z] [])) → ∃ (T' : State) (B' : Cell) (z' : Slot), Stand p l e { frames := 0, locals := 0, cells := 0, slots := 0 } s m #[.ref b, .int (Int32.ofNat o), .ref d, .int (Int32.ofNat q), .int (Int32.ofNat len)] below meth c T' ([] ++ copyLocs d q len) 0 0 ∧ Put d B' s₁ T' ∧ Laid B B' q (q + len) (fun j => Value.int (lo8 (cv A (o + (j - q))))) ∧
      Steps p.tables e below (s₁.setTop (entryFrame m #[.ref b, .int (Int32.ofNat o), .ref d, .int (Int32.ofNat q), .int (Int32.ofNat len)] 7)) (T'.setTop (mkF m 3 #[.val (.ref b), .val (.int (Int32.ofNat (o + len))), .val (.ref d), .val (.int (Int32.ofNat (q + len))), .val (.int (Int32.ofNat len)), .val (.int (Int32.ofNat len)), z'] [])) := by
    intro r
    induction r with
    | zero =>
      intro i hi z hz Tl Bk Xl pl fl cl
      have hil : i = len := by omega
      rw [hil] at Xl fl cl
      exact ⟨Tl, Bk, z, Xl, pl, fl, cl⟩
    | succ r ih =>
      intro i hi z hz Tl Bk Xl pl fl cl
      have all := X0.warmed.alike.symm.trans Xl.warmed.alike
      have hAl := hA0.keep all (pl.other hne hA0.1)
      have hBk := hB0.like all pl.1 fl.1 fl.2.1 fl.2.2.1
      have hlt : q + i < Bk.slots.size := by rw [fl.2.2.1]; omega
      have c3 : Steps p.tables e below (s₁.setTop (entryFrame m #[.ref b, .int (Int32.ofNat o), .ref d, .int (Int32.ofNat q), .int (Int32.ofNat len)] 7)) (Tl.setTop (mkF m 12 #[.val (.ref b), .val (.int (Int32.ofNat (o + i))), .val (.ref d), .val (.int (Int32.ofNat (q + i))), .val (.int (Int32.ofNat len)), .val (.int (Int32.ofNat i)), z] [.int (Int32.ofNat (o + i)), .ref b])) := cl.trans (by
        refine XS.iload Xl.here hexec rfl (hb hbytes d3) rfl ?_
        refine XS.iload Xl.here hexec rfl (hb hbytes d5) rfl ?_
        refine XS.icmpNo Xl.here hexec rfl (hb hbytes d7) rfl (ii_ge_f (lt32 (by omega) (by omega))) ?_
        refine XS.aloadN Xl.here hexec rfl (hb hbytes d10) rfl rfl ?_
        refine XS.iloadN Xl.here hexec rfl (hb hbytes d11) rfl ?_
        exact Steps.refl _)
      have c4 : Steps p.tables e below (s₁.setTop (entryFrame m #[.ref b, .int (Int32.ofNat o), .ref d, .int (Int32.ofNat q), .int (Int32.ofNat len)] 7)) (Tl.setTop (mkF m 13 #[.val (.ref b), .val (.int (Int32.ofNat (o + i))), .val (.ref d), .val (.int (Int32.ofNat (q + i))), .val (.int (Int32.ofNat len)), .val (.int (Int32.ofNat i)), z] [.int (cv A (o + i))])) := c3.trans (by
        refine Xl.aget hexec hAl rfl (hA.get (i := o + i) (by omega)) rfl rfl (hb hbytes d12) ?_
        exact Steps.refl _)
      have c5 : Steps p.tables e below (s₁.setTop (entryFrame m #[.ref b, .int (Int32.ofNat o), .ref d, .int (Int32.ofNat q), .int (Int32.ofNat len)] 7)) (Tl.setTop (mkF m 15 #[.val (.ref b), .val (.int (Int32.ofNat (o + i))), .val (.ref d), .val (.int (Int32.ofNat (q + i))), .val (.int (Int32.ofNat len)), .val (.int (Int32.ofNat i)), .val (.int (cv A (o + i)))] [])) := c4.trans (by
        refine XS.istoreS Xl.here hexec rfl (hb hbytes d13) rfl rfl hz ?_
        exact Steps.refl _)
      have c6 : Steps p.tables e below (s₁.setTop (entryFrame m #[.ref b, .int (Int32.ofNat o), .ref d, .int (Int32.ofNat q), .int (Int32.ofNat len)] 7)) (Tl.setTop (mkF m 31 #[.val (.ref b), .val (.int (Int32.ofNat (o + i))), .val (.ref d), .val (.int (Int32.ofNat (q + i))), .val (.int (Int32.ofNat len)), .val (.int (Int32.ofNat i)), .val (.int (cv A (o + i)))] [.int (lo8 (cv A (o + i))), .int (Int32.ofNat (q + i)), .ref d])) := c5.trans (by
        refine XS.iload Xl.here hexec rfl (hb hbytes d15) rfl ?_
        refine sipushV Xl.here hexec rfl 255 (hb hbytes d17) (by decide) ?_
        refine XS.icmpYes Xl.here hexec rfl (pc0 := 20) rfl (hb hbytes d20) rfl (ii_le_t (hp i (by omega))) (by decide) rfl ?_
        refine XS.aloadN Xl.here hexec rfl (hb hbytes d26) rfl rfl ?_
        refine XS.iloadN Xl.here hexec rfl (hb hbytes d27) rfl ?_
        refine XS.iload Xl.here hexec rfl (hb hbytes d28) rfl ?_
        refine i2b Xl.here hexec rfl (hb hbytes d30) rfl ?_
        exact Steps.refl _)
      obtain ⟨T7, X7, p7, st7⟩ := Xl.aput hexec hBk rfl hlt rfl (fits_lo8 (cv A (o + i))) (g := (mkF m 31 #[.val (.ref b), .val (.int (Int32.ofNat (o + i))), .val (.ref d), .val (.int (Int32.ofNat (q + i))), .val (.int (Int32.ofNat len)), .val (.int (Int32.ofNat i)), .val (.int (cv A (o + i)))] [.int (lo8 (cv A (o + i))), .int (Int32.ofNat (q + i)), .ref d])) rfl (rest := []) rfl (hb hbytes d31)
      have c8 : Steps p.tables e below (s₁.setTop (entryFrame m #[.ref b, .int (Int32.ofNat o), .ref d, .int (Int32.ofNat q), .int (Int32.ofNat len)] 7)) (T7.setTop (mkF m 32 #[.val (.ref b), .val (.int (Int32.ofNat (o + i))), .val (.ref d), .val (.int (Int32.ofNat (q + i))), .val (.int (Int32.ofNat len)), .val (.int (Int32.ofNat i)), .val (.int (cv A (o + i)))] [])) := c6.trans (st7 _ (Steps.refl _))
      have c9 : Steps p.tables e below (s₁.setTop (entryFrame m #[.ref b, .int (Int32.ofNat o), .ref d, .int (Int32.ofNat q), .int (Int32.ofNat len)] 7)) (T7.setTop (mkF m 3 #[.val (.ref b), .val (.int (Int32.ofNat (o + i) + 1)), .val (.ref d), .val (.int (Int32.ofNat (q + i) + 1)), .val (.int (Int32.ofNat len)), .val (.int (Int32.ofNat i + 1)), .val (.int (cv A (o + i)))] [])) := c8.trans (by
        refine iincV X7.here hexec rfl 1 (hb hbytes d32) (by decide) rfl rfl ?_
        refine iincV X7.here hexec rfl 1 (hb hbytes d35) (by decide) rfl rfl ?_
        refine iincV X7.here hexec rfl 1 (hb hbytes d38) (by decide) rfl rfl ?_
        refine XS.goto X7.here hexec rfl (pc0 := 41) rfl (hb hbytes d41) (by decide) rfl ?_
        exact Steps.refl _)
      have c10 : Steps p.tables e below (s₁.setTop (entryFrame m #[.ref b, .int (Int32.ofNat o), .ref d, .int (Int32.ofNat q), .int (Int32.ofNat len)] 7)) (T7.setTop (mkF m 3 #[.val (.ref b), .val (.int (Int32.ofNat (o + (i + 1)))), .val (.ref d), .val (.int (Int32.ofNat (q + (i + 1)))), .val (.int (Int32.ofNat len)), .val (.int (Int32.ofNat (i + 1))), .val (.int (cv A (o + i)))] [])) := by
        have := c9
        rw [succ32, succ32, succ32] at this
        exact this
      exact ih (i + 1) (by omega) _ (Or.inr ⟨_, rfl, rfl⟩) T7 _ (by rw [copyLocs_step, ← List.append_assoc]; exact X7) (pl.trans p7) (fl.step (by omega) hlt (by simp)) c10
  obtain ⟨T9, B9, z9, X9, p9, f9, g9⟩ := loop len 0 (by omega) .unset (Or.inl rfl) s₁ B (by simpa [copyLocs] using X0) ⟨hB0.1, fun _ _ => rfl, rfl⟩ (Laid.zero _ _ _) c2
  have c11 : Steps p.tables e below (s₁.setTop (entryFrame m #[.ref b, .int (Int32.ofNat o), .ref d, .int (Int32.ofNat q), .int (Int32.ofNat len)] 7)) (T9.setTop (mkF m 46 #[.val (.ref b), .val (.int (Int32.ofNat (o + len))), .val (.ref d), .val (.int (Int32.ofNat (q + len))), .val (.int (Int32.ofNat len)), .val (.int (Int32.ofNat len)), z9] [.int (Int32.ofNat len)])) := g9.trans (by
    refine XS.iload X9.here hexec rfl (hb hbytes d3) rfl ?_
    refine XS.iload X9.here hexec rfl (hb hbytes d5) rfl ?_
    refine XS.icmpYes X9.here hexec rfl (pc0 := 7) rfl (hb hbytes d7) rfl (ii_ge_t (nlt32 (by omega) (Nat.le_refl _))) (by decide) rfl ?_
    refine XS.iload X9.here hexec rfl (hb hbytes d44) rfl ?_
    exact Steps.refl _)
  exact ⟨T9, some (.int (Int32.ofNat len)), _, _, _, X9, by simp, rfl, rfl, (fun h => by cases h), ⟨rfl, B9, p9.from hh0, f9⟩, fun fs hl => c11.trans (X9.ireturnOut hexec hret rfl (Or.inl rfl) (hb hbytes d46) hl)⟩
end Cmp5
namespace Cmp3
def yN : MethodName := ⟨"java/lang/StringUTF16", "compress", "([CII)[B"⟩
abbrev yB : ByteArray := jdk_52_method_16_code
theorem d0 : decode yB 0 = .ok (.iload_n 2, 1) := by decide +kernel
theorem d1 : decode yB 1 = .ok (.newarray .byte, 2) := by decide +kernel
theorem d3 : decode yB 3 = .ok (.astore_n 3, 1) := by decide +kernel
theorem d4 : decode yB 4 = .ok (.aload_n 0, 1) := by decide +kernel
theorem d5 : decode yB 5 = .ok (.iload_n 1, 1) := by decide +kernel
theorem d6 : decode yB 6 = .ok (.aload_n 3, 1) := by decide +kernel
theorem d7 : decode yB 7 = .ok (.iconst 0, 1) := by decide +kernel
theorem d8 : decode yB 8 = .ok (.iload_n 2, 1) := by decide +kernel
theorem d9 : decode yB 9 = .ok (.invokestatic 115, 3) := by decide +kernel
theorem d12 : decode yB 12 = .ok (.istore 4, 2) := by decide +kernel
theorem d14 : decode yB 14 = .ok (.iload 4, 2) := by decide +kernel
theorem d16 : decode yB 16 = .ok (.iload_n 2, 1) := by decide +kernel
theorem d17 : decode yB 17 = .ok (.if_icmp (.eq) 40, 3) := by decide +kernel
theorem d57 : decode yB 57 = .ok (.aload_n 3, 1) := by decide +kernel
theorem d58 : decode yB 58 = .ok (.areturn, 1) := by decide +kernel
def site : List Cond := [.arrayClass .byte, Cmp5.tab] ++ staticW U16 115 Cmp5.yN
def tab : Cond := tabOf yN yB 6 (some (.array .byte)) site
def P (b : Addr) (A : Cell) (o len : Nat) (args : Array Value) (s : State) : Prop := args = #[.ref b, .int (Int32.ofNat o), .int (Int32.ofNat len)] ∧ Ch b A s ∧ o + len ≤ A.slots.size ∧ len ≤ 536870912 ∧ ∀ i, i < len → ¬ 255 < cv A (o + i)
def E (b : Addr) (A : Cell) (o len : Nat) (r : Option Value) (s u : State) : Prop := NewArr .byte "[B" len (fun j => .int (lo8 (cv A (o + j)))) r s u ∧ u.heap.size = s.heap.size + 1
/-- no char of the range above 255: a new byte[] of their low bytes -/
theorem law (l : Launch) (b : Addr) (A : Cell) (o len : Nat) : Law l yN 3 3 1 18 yB 6 (some (.array .byte)) site (P b A o len) (E b A o len) [] 1 len := by
  refine Law.of_walk (plainFor_of_name (by decide +kernel)) (by decide +kernel) (by decide +kernel) (by decide) (fun _ _ h => by rw [h.1]; rfl) (fun _ U U' hal hh h => ⟨h.1, h.2.1.mv hal hh, h.2.2⟩) (fun r U U' V V' h1 hal h2 h => ⟨NewArr.mv r U U' V V' h1 hal h2 h.1, by rw [h1, h2]; exact h.2⟩) ?_
  intro p e s m args below meth c s₁ X0 hexec hbytes hml hret hlk hnm hown hh0 W hP
  obtain ⟨rfl, hA, l1, l2, hp⟩ := hP
  have a31 := hA.1.2.2.2
  have c1 : Steps p.tables e below (s₁.setTop (entryFrame m #[.ref b, .int (Int32.ofNat o), .int (Int32.ofNat len)] 6)) (s₁.setTop (mkF m 0 #[.val (.ref b), .val (.int (Int32.ofNat o)), .val (.int (Int32.ofNat len)), .unset, .unset, .unset] [])) := entry rfl
  have c2 : Steps p.tables e below (s₁.setTop (entryFrame m #[.ref b, .int (Int32.ofNat o), .int (Int32.ofNat len)] 6)) (s₁.setTop (mkF m 1 #[.val (.ref b), .val (.int (Int32.ofNat o)), .val (.int (Int32.ofNat len)), .unset, .unset, .unset] [.int (Int32.ofNat len)])) := c1.trans (by
    refine XS.iloadN X0.here hexec rfl (hb hbytes d0) rfl ?_
    exact Steps.refl _)
  obtain ⟨T3, B3, X3, ba3, bs3, bv3, bh3, bf3, st3⟩ := X0.anew hexec (atype := .byte) (wk W (.arrayClass .byte)) rfl (by show len * 1 ≤ _; omega) (by omega) (g := (mkF m 1 #[.val (.ref b), .val (.int (Int32.ofNat o)), .val (.int (Int32.ofNat len)), .unset, .unset, .unset] [.int (Int32.ofNat len)])) rfl (hb hbytes d1) (rest := []) rfl (Nat.le_refl _) (by show 0 + len ≤ len; omega)
  rw [hh0] at ba3 st3
  have kp3 : XT.Kept s T3 := (XT.Kept.of_eq hh0).push bh3
  have hA3 := hA.keep X3.warmed.alike (kp3 _ _ hA.1.1)
  have hne : b ≠ s.heap.size := hA.1.ne
  have c4 : Steps p.tables e below (s₁.setTop (entryFrame m #[.ref b, .int (Int32.ofNat o), .int (Int32.ofNat len)] 6)) (T3.setTop (mkF m 3 #[.val (.ref b), .val (.int (Int32.ofNat o)), .val (.int (Int32.ofNat len)), .unset, .unset, .unset] [.ref s.heap.size])) := c2.trans (st3 _ (Steps.refl _))
  have c5 : Steps p.tables e below (s₁.setTop (entryFrame m #[.ref b, .int (Int32.ofNat o), .int (Int32.ofNat len)] 6)) (T3.setTop (mkF m 9 #[.val (.ref b), .val (.int (Int32.ofNat o)), .val (.int (Int32.ofNat len)), .val (.ref s.heap.size), .unset, .unset] [.int (Int32.ofNat len), .int 0, .ref s.heap.size, .int (Int32.ofNat o), .ref b])) := c4.trans (by
    refine XS.astoreN X3.here hexec rfl (hb hbytes d3) rfl rfl rfl ?_
    refine XS.aloadN X3.here hexec rfl (hb hbytes d4) rfl rfl ?_
    refine XS.iloadN X3.here hexec rfl (hb hbytes d5) rfl ?_
    refine XS.aloadN X3.here hexec rfl (hb hbytes d6) rfl rfl ?_
    refine iconstV X3.here hexec rfl 0 (hb hbytes d7) (by decide) ?_
    refine XS.iloadN X3.here hexec rfl (hb hbytes d8) rfl ?_
    exact Steps.refl _)
  obtain ⟨v6, T6, X6, E6, g6⟩ := X3.callS hexec (Cmp5.law l b A s.heap.size B3 o 0 len) hown (wks W (staticW U16 115 Cmp5.yN)) (wk W Cmp5.tab) (W := 0) (Nat.le_of_ble_eq_true rfl) (Nat.le_of_ble_eq_true rfl) (Nat.le_refl _) (by show 0 + len + 0 ≤ len; omega) (g := (mkF m 9 #[.val (.ref b), .val (.int (Int32.ofNat o)), .val (.int (Int32.ofNat len)), .val (.ref s.heap.size), .unset, .unset] [.int (Int32.ofNat len), .int (Int32.ofNat 0), .ref s.heap.size, .int (Int32.ofNat o), .ref b])) rfl (by rw [hml]; rfl) c5 (argsL := [.ref b, .int (Int32.ofNat o), .ref s.heap.size, .int (Int32.ofNat 0), .int (Int32.ofNat len)]) (rest := []) rfl rfl (by show 2 * 0 + 0 ≤ _; decide) (hb hbytes d9) (⟨rfl, hA3, ba3, hne, l1, by rw [bs3]; simp, hp⟩)
  obtain ⟨rfl, B6, p6, f6⟩ := E6
  have c7 : Steps p.tables e below (s₁.setTop (entryFrame m #[.ref b, .int (Int32.ofNat o), .int (Int32.ofNat len)] 6)) (T6.setTop (mkF m 12 #[.val (.ref b), .val (.int (Int32.ofNat o)), .val (.int (Int32.ofNat len)), .val (.ref s.heap.size), .unset, .unset] [.int (Int32.ofNat len)])) := g6
  have c8 : Steps p.tables e below (s₁.setTop (entryFrame m #[.ref b, .int (Int32.ofNat o), .int (Int32.ofNat len)] 6)) (T6.setTop (mkF m 58 #[.val (.ref b), .val (.int (Int32.ofNat o)), .val (.int (Int32.ofNat len)), .val (.ref s.heap.size), .val (.int (Int32.ofNat len)), .unset] [.ref s.heap.size])) := c7.trans (by
    refine XS.istore X6.here hexec rfl (hb hbytes d12) rfl rfl ?_
    refine XS.iload X6.here hexec rfl (hb hbytes d14) rfl ?_
    refine XS.iloadN X6.here hexec rfl (hb hbytes d16) rfl ?_
    refine XS.icmpYes X6.here hexec rfl (pc0 := 17) rfl (hb hbytes d17) rfl (ii_eq_t rfl) (by decide) rfl ?_
    refine XS.aloadN X6.here hexec rfl (hb hbytes d57) rfl rfl ?_
    exact Steps.refl _)
  have X8 := X6.wide (L' := []) (cells' := 1) (slots' := len) (fun x hx hlt => by
    simp only [List.nil_append, copyLocs, List.mem_map, List.mem_range] at hx
    obtain ⟨i, -, rfl⟩ := hx
    exact absurd hlt (Nat.lt_irrefl _)) (Nat.le_refl _) (by omega)
  exact ⟨T6, some (.ref s.heap.size), _, _, _, X8, rfl, rfl, rfl, (fun h => by cases h), ⟨⟨rfl, B6, ba3.like (X3.warmed.alike.symm.trans X6.warmed.alike) p6.1 f6.1 f6.2.1 f6.2.2.1, f6.2.1.trans bv3, by rw [X6.warmed.alike.findClass, f6.1]; exact bf3, by rw [f6.2.2.1, bs3]; simp, fun j hj => by rw [f6.2.2.2 j, if_pos (by omega)]; rfl, kp3.put p6 (Nat.le_refl _)⟩, by rw [p6.2.2, bh3, hh0]; simp⟩, fun fs hl => c8.trans (X8.areturnOut hexec rfl hret rfl (hb hbytes d58) hl)⟩
end Cmp3
namespace CodL
def yN : MethodName := ⟨"java/lang/StringUTF16", "coderFromArrayLen", "([BI)B"⟩
abbrev yB : ByteArray := jdk_52_method_15_code
theorem d0 : decode yB 0 = .ok (.iload_n 1, 1) := by decide +kernel
theorem d1 : decode yB 1 = .ok (.aload_n 0, 1) := by decide +kernel
theorem d2 : decode yB 2 = .ok (.arraylength, 1) := by decide +kernel
theorem d3 : decode yB 3 = .ok (.isub, 1) := by decide +kernel
theorem d4 : decode yB 4 = .ok (.bipush 31, 2) := by decide +kernel
theorem d6 : decode yB 6 = .ok (.iushr, 1) := by decide +kernel
theorem d7 : decode yB 7 = .ok (.i2b, 1) := by decide +kernel
theorem d8 : decode yB 8 = .ok (.ireturn, 1) := by decide +kernel
def site : List Cond := []
def tab : Cond := tabOf yN yB 2 (some .byte) site
def P (d : Addr) (B : Cell) (args : Array Value) (s : State) : Prop := args = #[.ref d, .int (Int32.ofNat B.slots.size)] ∧ Arr .byte d B s
def E (r : Option Value) (s u : State) : Prop := XT.PureE (some (.int 0)) r s u
/-- an array as long as the number of chars: LATIN1 -/
theorem law (l : Launch) (d : Addr) (B : Cell) : Law l yN 2 2 0 0 yB 2 (some .byte) site (P d B) E [] 0 0 := by
  refine Law.of_walk (plainFor_of_name (by decide +kernel)) (by decide +kernel) (by decide +kernel) (by decide) (fun _ _ h => by rw [h.1]; rfl) (fun _ U U' hal hh h => ⟨h.1, h.2.mv hal hh⟩) (fun r U U' V V' h1 hal h2 h => XT.PureE.mv r U U' V V' h1 hal h2 h) ?_
  intro p e s m args below meth c s₁ X0 hexec hbytes hml hret hlk hnm hown hh0 W hP
  obtain ⟨rfl, hB⟩ := hP
  have hB0 := hB.mv X0.warmed.alike hh0
  have c1 : Steps p.tables e below (s₁.setTop (entryFrame m #[.ref d, .int (Int32.ofNat B.slots.size)] 2)) (s₁.setTop (mkF m 0 #[.val (.ref d), .val (.int (Int32.ofNat B.slots.size))] [])) := entry rfl
  have c2 : Steps p.tables e below (s₁.setTop (entryFrame m #[.ref d, .int (Int32.ofNat B.slots.size)] 2)) (s₁.setTop (mkF m 2 #[.val (.ref d), .val (.int (Int32.ofNat B.slots.size))] [.ref d, .int (Int32.ofNat B.slots.size)])) := c1.trans (by
    refine XS.iloadN X0.here hexec rfl (hb hbytes d0) rfl ?_
    refine XS.aloadN X0.here hexec rfl (hb hbytes d1) rfl rfl ?_
    exact Steps.refl _)
  have c3 : Steps p.tables e below (s₁.setTop (entryFrame m #[.ref d, .int (Int32.ofNat B.slots.size)] 2)) (s₁.setTop (mkF m 8 #[.val (.ref d), .val (.int (Int32.ofNat B.slots.size))] [.int (lo8 (ushr (Int32.ofNat B.slots.size - Int32.ofNat B.slots.size) 31))])) := c2.trans (by
    refine X0.alen hexec hB0 rfl rfl (hb hbytes d2) ?_
    refine XS.isub X0.here hexec rfl (hb hbytes d3) rfl ?_
    refine bipushV X0.here hexec rfl 31 (hb hbytes d4) (by decide) ?_
    refine iushr X0.here hexec rfl (hb hbytes d6) rfl ?_
    refine i2b X0.here hexec rfl (hb hbytes d7) rfl ?_
    exact Steps.refl _)
  have e0 : lo8 (ushr (Int32.ofNat B.slots.size - Int32.ofNat B.slots.size) 31) = 0 := by rw [Int32.sub_self]; decide
  rw [e0] at c3
  exact ⟨s₁, some (.int 0), _, _, _, X0, rfl, rfl, rfl, (fun h => by cases h), ⟨rfl, hh0⟩, fun fs hl => c3.trans (X0.ireturnOut hexec hret rfl (Or.inr (Or.inr (Or.inl rfl))) (hb hbytes d8) hl)⟩
end CodL
/-- the String at a is Latin-1 over a new byte[] (the heap's one new cell): the low bytes of the len chars of A from o on; every cell but a is kept -/
def Got (a : Addr) (D : Cell) (fV fC : Field) (A : Cell) (o len : Nat) (r : Option Value) (s u : State) : Prop := r = none ∧ ∃ D' V : Cell, Blank "java/lang/String" a D' u ∧ Same D D' [fV.slot, fC.slot] ∧ D'.slots[fV.slot]? = some (.ref s.heap.size) ∧ D'.slots[fC.slot]? = some (.int 0) ∧ Arr .byte s.heap.size V u ∧ V.vm = .none ∧ u.vm.findClass "[B" = some V.cls ∧ V.slots.size = len ∧ (∀ j, j < len → V.slots[j]? = some (.int (lo8 (cv A (o + j))))) ∧ (∀ (y : Addr) (c : Cell), y ≠ a → s.heap[y]? = some c → u.heap[y]? = some c) ∧ u.heap.size = s.heap.size + 1
theorem Got.mv {a : Addr} {D A : Cell} {fV fC : Field} {o len : Nat} : ∀ r (U U' V V' : State), U'.heap = U.heap → V.vm.Alike V'.vm → V'.heap = V.heap → Got a D fV fC A o len r U V → Got a D fV fC A o len r U' V' :=
  fun r U U' V V' h1 hal h2 ⟨e0, D', X, a1, a2, a3, a4, a5, a6, a7, a8, a9, a10, a11⟩ => ⟨e0, D', X, a1.mv hal h2, a2, by rw [h1]; exact a3, a4, by rw [h1]; exact a5.mv hal h2, a6, by rw [hal.findClass]; exact a7, a8, a9, by rw [h1, h2]; exact a10, by rw [h1, h2]; exact a11⟩
namespace New4
def yN : MethodName := ⟨"java/lang/String", "<init>", "([CIILjava/lang/Void;)V"⟩
abbrev yB : ByteArray := jdk_42_method_149_code
theorem d0 : decode yB 0 = .ok (.aload_n 0, 1) := by decide +kernel
theorem d1 : decode yB 1 = .ok (.invokespecial 1, 3) := by decide +kernel
theorem d4 : decode yB 4 = .ok (.iload_n 3, 1) := by decide +kernel
theorem d5 : decode yB 5 = .ok (.ifCond (.ne) 22, 3) := by decide +kernel
theorem d27 : decode yB 27 = .ok (.getstatic 38, 3) := by decide +kernel
theorem d30 : decode yB 30 = .ok (.ifCond (.eq) 28, 3) := by decide +kernel
theorem d33 : decode yB 33 = .ok (.aload_n 1, 1) := by decide +kernel
theorem d34 : decode yB 34 = .ok (.iload_n 2, 1) := by decide +kernel
theorem d35 : decode yB 35 = .ok (.iload_n 3, 1) := by decide +kernel
theorem d36 : decode yB 36 = .ok (.invokestatic 177, 3) := by decide +kernel
theorem d39 : decode yB 39 = .ok (.astore 5, 2) := by decide +kernel
theorem d41 : decode yB 41 = .ok (.aload_n 0, 1) := by decide +kernel
theorem d42 : decode yB 42 = .ok (.aload 5, 2) := by decide +kernel
theorem d44 : decode yB 44 = .ok (.iload_n 3, 1) := by decide +kernel
theorem d45 : decode yB 45 = .ok (.invokestatic 47, 3) := by decide +kernel
theorem d48 : decode yB 48 = .ok (.putfield 15, 3) := by decide +kernel
theorem d51 : decode yB 51 = .ok (.aload_n 0, 1) := by decide +kernel
theorem d52 : decode yB 52 = .ok (.aload 5, 2) := by decide +kernel
theorem d54 : decode yB 54 = .ok (.putfield 9, 3) := by decide +kernel
theorem d57 : decode yB 57 = .ok (.return_, 1) := by decide +kernel
def site : List Cond := [.fieldLink "java/lang/String" 38 "java/lang/String" "COMPACT_STRINGS" "Z", Cmp3.tab, CodL.tab, .laysFinal "java/lang/String" "java/lang/String" "value" "[B", .fieldLink "java/lang/String" 9 "java/lang/String" "value" "[B", .laysFinal "java/lang/String" "java/lang/String" "coder" "B", .fieldLink "java/lang/String" 15 "java/lang/String" "coder" "B"] ++ objW "java/lang/String" 1 ++ staticW "java/lang/String" 177 Cmp3.yN ++ staticW "java/lang/String" 47 CodL.yN
def tab : Cond := tabOf yN yB 6 none site
def P (a : Addr) (D : Cell) (fV fC : Field) (b : Addr) (A : Cell) (z : Int32) (o len : Nat) (args : Array Value) (s : State) : Prop := args = #[.ref a, .ref b, .int (Int32.ofNat o), .int (Int32.ofNat len), .null] ∧ Blank "java/lang/String" a D s ∧ Found "java/lang/String" "value" "[B" fV s ∧ Found "java/lang/String" "coder" "B" fC s ∧ Ch b A s ∧ StaticIs s "java/lang/String" "COMPACT_STRINGS" "Z" (.int z) ∧ ¬ z = 0 ∧ 0 < len ∧ o + len ≤ A.slots.size ∧ len ≤ 536870912 ∧ ∀ i, i < len → ¬ 255 < cv A (o + i)
def E (a : Addr) (D : Cell) (fV fC : Field) (A : Cell) (o len : Nat) (r : Option Value) (s u : State) : Prop := Got a D fV fC A o len r s u
/-- len > 0, no char of the range above 255: a Latin-1 String of their low bytes -/
theorem law (l : Launch) (a : Addr) (D : Cell) (fV fC : Field) (b : Addr) (A : Cell) (z : Int32) (o len : Nat) : Law l yN 5 4 2 35 yB 6 none site (P a D fV fC b A z o len) (E a D fV fC A o len) [⟨a, fC.slot⟩, ⟨a, fV.slot⟩] 1 len := by
  refine Law.of_walk (plainFor_of_name (by decide +kernel)) (by decide +kernel) (by decide +kernel) (by decide) (fun _ _ h => by rw [h.1]; rfl) (fun _ U U' hal hh h => ⟨h.1, h.2.1.mv hal hh, h.2.2.1.al hal, h.2.2.2.1.al hal, h.2.2.2.2.1.mv hal hh, h.2.2.2.2.2.1.there hal hh, h.2.2.2.2.2.2⟩) (fun r U U' V V' h1 hal h2 h => Got.mv r U U' V V' h1 hal h2 h) ?_
  intro p e s m args below meth c s₁ X0 hexec hbytes hml hret hlk hnm hown hh0 W hP
  obtain ⟨rfl, hB, f1, f2, hA, s1, hz, l0, l1, l2, hp⟩ := hP
  have a31 := hA.1.2.2.2
  have c1 : Steps p.tables e below (s₁.setTop (entryFrame m #[.ref a, .ref b, .int (Int32.ofNat o), .int (Int32.ofNat len), .null] 6)) (s₁.setTop (mkF m 0 #[.val (.ref a), .val (.ref b), .val (.int (Int32.ofNat o)), .val (.int (Int32.ofNat len)), .val .null, .unset] [])) := entry rfl
  have c2 : Steps p.tables e below (s₁.setTop (entryFrame m #[.ref a, .ref b, .int (Int32.ofNat o), .int (Int32.ofNat len), .null] 6)) (s₁.setTop (mkF m 1 #[.val (.ref a), .val (.ref b), .val (.int (Int32.ofNat o)), .val (.int (Int32.ofNat len)), .val .null, .unset] [.ref a])) := c1.trans (by
    refine XS.aloadN X0.here hexec rfl (hb hbytes d0) rfl rfl ?_
    exact Steps.refl _)
  obtain ⟨T3, X3, q3, st3⟩ := X0.oinit hexec hown (wks W (objW "java/lang/String" 1)) (g := (mkF m 1 #[.val (.ref a), .val (.ref b), .val (.int (Int32.ofNat o)), .val (.int (Int32.ofNat len)), .val .null, .unset] [.ref a])) rfl (by rw [hml]; rfl) (rest := []) rfl (hb hbytes d1) (W := 0) (by show 2 * 0 + 0 ≤ _; decide) (Nat.le_of_ble_eq_true rfl) (Nat.le_of_ble_eq_true rfl)
  have hh3 := q3.trans hh0
  have c4 : Steps p.tables e below (s₁.setTop (entryFrame m #[.ref a, .ref b, .int (Int32.ofNat o), .int (Int32.ofNat len), .null] 6)) (T3.setTop (mkF m 27 #[.val (.ref a), .val (.ref b), .val (.int (Int32.ofNat o)), .val (.int (Int32.ofNat len)), .val .null, .unset] [])) := (c2.trans (st3 _ (Steps.refl _))).trans (by
    refine XS.iloadN X3.here hexec rfl (hb hbytes d4) rfl ?_
    refine XS.ifYes X3.here hexec rfl (pc0 := 5) rfl (hb hbytes d5) rfl (i0_ne_t (nz32 (by omega) l0)) (by decide) rfl ?_
    exact Steps.refl _)
  obtain ⟨T5, X5, q5, st5⟩ := X3.sget hexec hown (wk W (.fieldLink "java/lang/String" 38 "java/lang/String" "COMPACT_STRINGS" "Z")) s1 (fun _ _ h => by rw [hh3]; exact h) (g := (mkF m 27 #[.val (.ref a), .val (.ref b), .val (.int (Int32.ofNat o)), .val (.int (Int32.ofNat len)), .val .null, .unset] [])) rfl (hb hbytes d27)
  have hh5 := q5.trans hh3
  have c6 : Steps p.tables e below (s₁.setTop (entryFrame m #[.ref a, .ref b, .int (Int32.ofNat o), .int (Int32.ofNat len), .null] 6)) (T5.setTop (mkF m 30 #[.val (.ref a), .val (.ref b), .val (.int (Int32.ofNat o)), .val (.int (Int32.ofNat len)), .val .null, .unset] [.int z])) := c4.trans (st5 _ (Steps.refl _))
  have c7 : Steps p.tables e below (s₁.setTop (entryFrame m #[.ref a, .ref b, .int (Int32.ofNat o), .int (Int32.ofNat len), .null] 6)) (T5.setTop (mkF m 36 #[.val (.ref a), .val (.ref b), .val (.int (Int32.ofNat o)), .val (.int (Int32.ofNat len)), .val .null, .unset] [.int (Int32.ofNat len), .int (Int32.ofNat o), .ref b])) := c6.trans (by
    refine XS.ifNo X5.here hexec rfl (hb hbytes d30) rfl (i0_eq_f hz) ?_
    refine XS.aloadN X5.here hexec rfl (hb hbytes d33) rfl rfl ?_
    refine XS.iloadN X5.here hexec rfl (hb hbytes d34) rfl ?_
    refine XS.iloadN X5.here hexec rfl (hb hbytes d35) rfl ?_
    exact Steps.refl _)
  obtain ⟨v8, T8, X8, E8, g8⟩ := X5.callS hexec (Cmp3.law l b A o len) hown (wks W (staticW "java/lang/String" 177 Cmp3.yN)) (wk W Cmp3.tab) (W := 0) (Nat.le_of_ble_eq_true rfl) (Nat.le_of_ble_eq_true rfl) (Nat.le_refl _) (by show 0 + len ≤ len; omega) (g := (mkF m 36 #[.val (.ref a), .val (.ref b), .val (.int (Int32.ofNat o)), .val (.int (Int32.ofNat len)), .val .null, .unset] [.int (Int32.ofNat len), .int (Int32.ofNat o), .ref b])) rfl (by rw [hml]; rfl) c7 (argsL := [.ref b, .int (Int32.ofNat o), .int (Int32.ofNat len)]) (rest := []) rfl rfl (by show 2 * 0 + 0 ≤ _; decide) (hb hbytes d36) (⟨rfl, hA.mv X5.warmed.alike hh5, l1, l2, hp⟩)
  obtain ⟨e8, z8⟩ := E8
  obtain ⟨rfl, N, n1, n2, n3, n4, n5, n6⟩ := NewArr.mv _ T5 s _ _ hh5.symm (Vm.Alike.refl _) rfl e8
  rw [hh5] at z8
  have hB1 := hB.keep X8.warmed.alike (n6 _ _ hB.1)
  have hne : s.heap.size ≠ a := (Nat.ne_of_lt (Array.getElem?_eq_some_iff.mp hB.1).1).symm
  have c9 : Steps p.tables e below (s₁.setTop (entryFrame m #[.ref a, .ref b, .int (Int32.ofNat o), .int (Int32.ofNat len), .null] 6)) (T8.setTop (mkF m 39 #[.val (.ref a), .val (.ref b), .val (.int (Int32.ofNat o)), .val (.int (Int32.ofNat len)), .val .null, .unset] [.ref s.heap.size])) := g8
  have c10 : Steps p.tables e below (s₁.setTop (entryFrame m #[.ref a, .ref b, .int (Int32.ofNat o), .int (Int32.ofNat len), .null] 6)) (T8.setTop (mkF m 45 #[.val (.ref a), .val (.ref b), .val (.int (Int32.ofNat o)), .val (.int (Int32.ofNat len)), .val .null, .val (.ref s.heap.size)] [.int (Int32.ofNat N.slots.size), .ref s.heap.size, .ref a])) := by
    have hc : Steps p.tables e below (s₁.setTop (entryFrame m #[.ref a, .ref b, .int (Int32.ofNat o), .int (Int32.ofNat len), .null] 6)) (T8.setTop (mkF m 45 #[.val (.ref a), .val (.ref b), .val (.int (Int32.ofNat o)), .val (.int (Int32.ofNat len)), .val .null, .val (.ref s.heap.size)] [.int (Int32.ofNat len), .ref s.heap.size, .ref a])) := c9.trans (by
      refine XS.astore X8.here hexec rfl (hb hbytes d39) rfl rfl rfl ?_
      refine XS.aloadN X8.here hexec rfl (hb hbytes d41) rfl rfl ?_
      refine XS.aload X8.here hexec rfl (hb hbytes d42) rfl rfl ?_
      refine XS.iloadN X8.here hexec rfl (hb hbytes d44) rfl ?_
      exact Steps.refl _)
    rw [n4]; exact hc
  obtain ⟨v11, T11, X11, E11, g11⟩ := X8.callS hexec (CodL.law l s.heap.size N) hown (wks W (staticW "java/lang/String" 47 CodL.yN)) (wk W CodL.tab) (W := 1) (Nat.le_of_ble_eq_true rfl) (Nat.le_of_ble_eq_true rfl) (Nat.le_refl _) (by show 0 + len + 0 ≤ len; omega) (g := (mkF m 45 #[.val (.ref a), .val (.ref b), .val (.int (Int32.ofNat o)), .val (.int (Int32.ofNat len)), .val .null, .val (.ref s.heap.size)] [.int (Int32.ofNat N.slots.size), .ref s.heap.size, .ref a])) rfl (by rw [hml]; rfl) c10 (argsL := [.ref s.heap.size, .int (Int32.ofNat N.slots.size)]) (rest := [.ref a]) rfl rfl (by show 2 * 0 + (1 + 0) ≤ _; decide) (hb hbytes d45) (⟨rfl, n1⟩)
  obtain ⟨rfl, q11⟩ := E11
  have hB11 := hB1.mv (X8.warmed.alike.symm.trans X11.warmed.alike) q11
  have c12 : Steps p.tables e below (s₁.setTop (entryFrame m #[.ref a, .ref b, .int (Int32.ofNat o), .int (Int32.ofNat len), .null] 6)) (T11.setTop (mkF m 48 #[.val (.ref a), .val (.ref b), .val (.int (Int32.ofNat o)), .val (.int (Int32.ofNat len)), .val .null, .val (.ref s.heap.size)] [.int 0, .ref a])) := g11
  obtain ⟨T13, X13, p13, bl13, sl13, st13⟩ := X11.finit hexec hown (wk W (.fieldLink "java/lang/String" 15 "java/lang/String" "coder" "B")) (Or.inr ⟨_, (wk W (.laysFinal "java/lang/String" "java/lang/String" "coder" "B"))⟩) (Or.inl ⟨rfl, hnm⟩) f2 (Or.inl rfl) hB11 (t := .byte) (by decide +kernel) rfl (g := (mkF m 48 #[.val (.ref a), .val (.ref b), .val (.int (Int32.ofNat o)), .val (.int (Int32.ofNat len)), .val .null, .val (.ref s.heap.size)] [.int 0, .ref a])) rfl (rest := []) rfl (hb hbytes d48)
  have c14 : Steps p.tables e below (s₁.setTop (entryFrame m #[.ref a, .ref b, .int (Int32.ofNat o), .int (Int32.ofNat len), .null] 6)) (T13.setTop (mkF m 54 #[.val (.ref a), .val (.ref b), .val (.int (Int32.ofNat o)), .val (.int (Int32.ofNat len)), .val .null, .val (.ref s.heap.size)] [.ref s.heap.size, .ref a])) := (c12.trans (st13 _ (Steps.refl _))).trans (by
    refine XS.aloadN X13.here hexec rfl (hb hbytes d51) rfl rfl ?_
    refine XS.aload X13.here hexec rfl (hb hbytes d52) rfl rfl ?_
    exact Steps.refl _)
  obtain ⟨T15, X15, p15, bl15, sl15, st15⟩ := X13.finit hexec hown (wk W (.fieldLink "java/lang/String" 9 "java/lang/String" "value" "[B")) (Or.inr ⟨_, (wk W (.laysFinal "java/lang/String" "java/lang/String" "value" "[B"))⟩) (Or.inl ⟨rfl, hnm⟩) f1 (Or.inl rfl) bl13 (t := (.array .byte)) (by decide +kernel) rfl (g := (mkF m 54 #[.val (.ref a), .val (.ref b), .val (.int (Int32.ofNat o)), .val (.int (Int32.ofNat len)), .val .null, .val (.ref s.heap.size)] [.ref s.heap.size, .ref a])) rfl (rest := []) rfl (hb hbytes d54)
  have c16 : Steps p.tables e below (s₁.setTop (entryFrame m #[.ref a, .ref b, .int (Int32.ofNat o), .int (Int32.ofNat len), .null] 6)) (T15.setTop (mkF m 57 #[.val (.ref a), .val (.ref b), .val (.int (Int32.ofNat o)), .val (.int (Int32.ofNat len)), .val .null, .val (.ref s.heap.size)] [])) := c14.trans (st15 _ (Steps.refl _))
  have ap := apart (Or.inr ⟨_, (wk W (.laysFinal "java/lang/String" "java/lang/String" "value" "[B"))⟩) (Or.inr ⟨_, (wk W (.laysFinal "java/lang/String" "java/lang/String" "coder" "B"))⟩) f1 f2 (t₁ := .array .byte) (t₂ := .byte) (by decide +kernel) (by decide +kernel) (by decide)
  have al := X8.warmed.alike.symm.trans X15.warmed.alike
  have n7 : T11.heap[s.heap.size]? = some N := by rw [q11]; exact n1.1
  exact ⟨T15, none, _, _, _, X15, by simp, rfl, by omega, (fun _ => rfl), ⟨rfl, _, N, bl15, ((Same.refl D _).set _ (by simp)).set _ (by simp), sl15, (Cell.slots_setSlot_ne _ ap).trans sl13, n1.keep al (p15.other hne (p13.other hne n7)), n2, by rw [al.findClass]; exact n3, n4, n5, fun y c h1 h2 => p15.other h1 (p13.other h1 (by rw [q11]; exact n6 y c h2)), by rw [p15.2.2, p13.2.2, q11]; exact z8⟩, fun fs hl => c16.trans (X15.returnOut hexec hret (hb hbytes d57) hl)⟩
end New4
namespace New1
def yN : MethodName := ⟨"java/lang/String", "<init>", "([C)V"⟩
abbrev yB : ByteArray := jdk_42_method_3_code
theorem d0 : decode yB 0 = .ok (.aload_n 0, 1) := by decide +kernel
theorem d1 : decode yB 1 = .ok (.aload_n 1, 1) := by decide +kernel
theorem d2 : decode yB 2 = .ok (.iconst 0, 1) := by decide +kernel
theorem d3 : decode yB 3 = .ok (.aload_n 1, 1) := by decide +kernel
theorem d4 : decode yB 4 = .ok (.arraylength, 1) := by decide +kernel
theorem d5 : decode yB 5 = .ok (.aconst_null, 1) := by decide +kernel
theorem d6 : decode yB 6 = .ok (.invokespecial 27, 3) := by decide +kernel
theorem d9 : decode yB 9 = .ok (.return_, 1) := by decide +kernel
def site : List Cond := [New4.tab] ++ initW "java/lang/String" 27 New4.yN
def tab : Cond := tabOf yN yB 2 none site
def P (a : Addr) (D : Cell) (fV fC : Field) (b : Addr) (A : Cell) (z : Int32) (args : Array Value) (s : State) : Prop := args = #[.ref a, .ref b] ∧ Blank "java/lang/String" a D s ∧ Found "java/lang/String" "value" "[B" fV s ∧ Found "java/lang/String" "coder" "B" fC s ∧ Ch b A s ∧ StaticIs s "java/lang/String" "COMPACT_STRINGS" "Z" (.int z) ∧ ¬ z = 0 ∧ 0 < A.slots.size ∧ A.slots.size ≤ 536870912 ∧ ∀ i, i < A.slots.size → ¬ 255 < cv A i
def E (a : Addr) (D : Cell) (fV fC : Field) (A : Cell) (r : Option Value) (s u : State) : Prop := Got a D fV fC A 0 A.slots.size r s u
/-- new String(chars), not empty, no char above 255: a Latin-1 String of their low bytes -/
theorem law (l : Launch) (a : Addr) (D : Cell) (fV fC : Field) (b : Addr) (A : Cell) (z : Int32) : Law l yN 2 1 3 52 yB 2 none site (P a D fV fC b A z) (E a D fV fC A) [⟨a, fC.slot⟩, ⟨a, fV.slot⟩] 1 A.slots.size := by
  refine Law.of_walk (plainFor_of_name (by decide +kernel)) (by decide +kernel) (by decide +kernel) (by decide) (fun _ _ h => by rw [h.1]; rfl) (fun _ U U' hal hh h => ⟨h.1, h.2.1.mv hal hh, h.2.2.1.al hal, h.2.2.2.1.al hal, h.2.2.2.2.1.mv hal hh, h.2.2.2.2.2.1.there hal hh, h.2.2.2.2.2.2⟩) (fun r U U' V V' h1 hal h2 h => Got.mv r U U' V V' h1 hal h2 h) ?_
  intro p e s m args below meth c s₁ X0 hexec hbytes hml hret hlk hnm hown hh0 W hP
  obtain ⟨rfl, hB, f1, f2, hA, s1, hz, l0, l2, hp⟩ := hP
  have c1 : Steps p.tables e below (s₁.setTop (entryFrame m #[.ref a, .ref b] 2)) (s₁.setTop (mkF m 0 #[.val (.ref a), .val (.ref b)] [])) := entry rfl
  have c2 : Steps p.tables e below (s₁.setTop (entryFrame m #[.ref a, .ref b] 2)) (s₁.setTop (mkF m 6 #[.val (.ref a), .val (.ref b)] [.null, .int (Int32.ofNat A.slots.size), .int 0, .ref b, .ref a])) := c1.trans (by
    refine XS.aloadN X0.here hexec rfl (hb hbytes d0) rfl rfl ?_
    refine XS.aloadN X0.here hexec rfl (hb hbytes d1) rfl rfl ?_
    refine iconstV X0.here hexec rfl 0 (hb hbytes d2) (by decide) ?_
    refine XS.aloadN X0.here hexec rfl (hb hbytes d3) rfl rfl ?_
    refine X0.alen hexec (hA.1.mv X0.warmed.alike hh0) rfl rfl (hb hbytes d4) ?_
    refine XS.aconstNull X0.here hexec rfl (hb hbytes d5) ?_
    exact Steps.refl _)
  obtain ⟨v3, T3, X3, E3, g3⟩ := X0.callN hexec (New4.law l a D fV fC b A z 0 A.slots.size) rfl hown (wks W (initW "java/lang/String" 27 New4.yN)) (W New4.tab (by simp only [site, List.mem_cons, List.mem_append, true_or, or_true])) (W := 0) (Nat.le_of_ble_eq_true rfl) (Nat.le_of_ble_eq_true rfl) (Nat.le_refl _) (by show 0 + A.slots.size ≤ A.slots.size; omega) (g := (mkF m 6 #[.val (.ref a), .val (.ref b)] [.null, .int (Int32.ofNat A.slots.size), .int (Int32.ofNat 0), .ref b, .ref a])) rfl (by rw [hml]; rfl) c2 (argsL := [.ref b, .int (Int32.ofNat 0), .int (Int32.ofNat A.slots.size), .null]) (rest := []) rfl rfl (by show 2 * 0 + 0 ≤ _; decide) (hb hbytes d6) (⟨rfl, hB.mv X0.warmed.alike hh0, f1.al X0.warmed.alike, f2.al X0.warmed.alike, hA.mv X0.warmed.alike hh0, s1.there X0.warmed.alike hh0, hz, l0, by omega, l2, fun i hi => by rw [Nat.zero_add]; exact hp i hi⟩)
  have e0 := Got.mv _ s₁ s _ _ hh0.symm (Vm.Alike.refl _) rfl E3
  obtain rfl := e0.1
  have c4 : Steps p.tables e below (s₁.setTop (entryFrame m #[.ref a, .ref b] 2)) (T3.setTop (mkF m 9 #[.val (.ref a), .val (.ref b)] [])) := g3
  exact ⟨T3, none, _, _, _, X3, by simp, rfl, by omega, (fun _ => rfl), e0, fun fs hl => c4.trans (X3.returnOut hexec hret (hb hbytes d9) hl)⟩
theorem pays {l : Launch} {R : Room} {p : Program} {e : Env} {below : List Frame} {s : State} {sargs : Array Value} {len W : Nat} (a : Addr) (D : Cell) (fV fC : Field) (b : Addr) (A : Cell) (z : Int32) (htab : tab.before sargs s = true) (hfr : 4 ≤ R.frames) (hlo : W + 65 ≤ R.locals) :
    Back l R p e below s sargs yN len W (fun A₁ a₁ => A₁.cells + 1 ≤ R.cells ∧ A₁.slots + A.slots.size ≤ R.slots ∧ P a D fV fC b A z a₁ A₁.U) (fun A₁ _ v₁ B₁ => E a D fV fC A v₁ A₁.U B₁.U ∧ B₁.locs = A₁.locs ++ [⟨a, fC.slot⟩, ⟨a, fV.slot⟩] ∧ B₁.cells = A₁.cells + 1 ∧ B₁.slots = A₁.slots + A.slots.size) :=
  (law l a D fV fC b A z).pays htab hfr (by omega)
end New1
end StrChars
namespace StrChars.Road
open Jvm Sem ClassFile Op Lib Jvm.Stand Jvm.Free Jvm.Free.XT
open Jvm.Lib.Cold (StaticIs)
abbrev ST : String := "java/lang/String"
/-- every table word that New1's law asks, flat -/
abbrev words : List Jvm.Cond := [.code New1.yN New1.yB 2 none, .initialized ST, .methodLink ST 27 New4.yN, .instanceMethod New4.yN,
  .code New4.yN New4.yB 6 none, .fieldLink ST 38 ST "COMPACT_STRINGS" "Z", .laysFinal ST ST "value" "[B", .fieldLink ST 9 ST "value" "[B", .laysFinal ST ST "coder" "B", .fieldLink ST 15 ST "coder" "B",
  .methodLink ST 1 Lib.objectInit, .instanceMethod Lib.objectInit, .code Lib.objectInit ⟨#[0xb1]⟩ 1 none, .methodLink ST 177 Cmp3.yN, .static Cmp3.yN, .methodLink ST 47 CodL.yN, .static CodL.yN,
  .code Cmp3.yN Cmp3.yB 6 (some (.array .byte)), .initialized U16, .arrayClass .byte, .methodLink U16 115 Cmp5.yN, .static Cmp5.yN, .code Cmp5.yN Cmp5.yB 7 (some .int), .code CodL.yN CodL.yB 2 (some .byte)]
theorem tab_of {a : Array Value} {s : State} (h : ∀ w ∈ words, w.before a s = true) : New1.tab.before a s = true := by
  have h5 : Cmp5.tab.before a s = true := unparts (wk h (.code Cmp5.yN Cmp5.yB 7 (some .int))) (wks h (.initialized Cmp5.yN.cls :: Cmp5.site))
  have hc : CodL.tab.before a s = true := unparts (wk h (.code CodL.yN CodL.yB 2 (some .byte))) (wks h (.initialized CodL.yN.cls :: CodL.site))
  have q5 : ∀ w ∈ Cmp5.tab :: words, w.before a s = true := fun w hw => (List.mem_cons.mp hw).elim (fun e => e ▸ h5) (h w)
  have h3 : Cmp3.tab.before a s = true := unparts (wk q5 (.code Cmp3.yN Cmp3.yB 6 (some (.array .byte)))) (wks q5 (.initialized Cmp3.yN.cls :: Cmp3.site))
  have q3 : ∀ w ∈ Cmp3.tab :: CodL.tab :: words, w.before a s = true := fun w hw => (List.mem_cons.mp hw).elim (fun e => e ▸ h3) fun hw => (List.mem_cons.mp hw).elim (fun e => e ▸ hc) (h w)
  have h4 : New4.tab.before a s = true := unparts (wk q3 (.code New4.yN New4.yB 6 none)) (wks q3 (.initialized New4.yN.cls :: New4.site))
  have q4 : ∀ w ∈ New4.tab :: words, w.before a s = true := fun w hw => (List.mem_cons.mp hw).elim (fun e => e ▸ h4) (h w)
  exact unparts (wk q4 (.code New1.yN New1.yB 2 none)) (wks q4 (.initialized New1.yN.cls :: New1.site))
/-- the words ride from the start Z to the walk's own state -/
theorem moved {Z s : State} {a0 args : Array Value} (hZ : Z.Warmed39 s.vm) (hw : ∀ d ∈ words, d.before a0 Z = true) : ∀ d ∈ words, d.before args s = true := fun d hd => by
  have q := hw d hd
  have t : ∀ d ∈ words, d = .arrayClass .byte ∨ (d.onTables && d.keepsFace) = true := by decide +kernel
  rcases t d hd with rfl | t
  · exact RoadKit.mvA hZ q
  · exact RoadKit.mv hZ q t
/-- WHAT COMES BACK, over the tables of the start Z: h the heap at the call, h' behind it -/
def Q (Z : State) (x : Addr) (A : Cell) (h : Heap) (v : Option Value) (h' : Heap) (L : List Loc) : Prop := v = none ∧ (∀ y ∈ L, y.base = x) ∧ RoadKit.Keep h h' [x] ∧ h'.size = h.size + 1 ∧ RoadKit.Exa Z h' x ST ∧ RoadKit.Fld Z h' x ST "value" "[B" (.ref h.size) ∧ RoadKit.Fld Z h' x ST "coder" "B" (.int 0) ∧
  (∃ V : Cell, RoadKit.Arr Z h' h.size V .byte ∧ V.vm = .none ∧ Z.vm.findClass "[B" = some V.cls ∧ V.slots.size = A.slots.size ∧ ∀ j, j < A.slots.size → V.slots[j]? = some (.int (lo8 (cv A j)))) ∧
  ∀ (O n d : String) (w : Value), RoadKit.Fld Z h x O n d w → RoadKit.slotOf Z O n d ≠ RoadKit.slotOf Z ST "value" "[B" → RoadKit.slotOf Z O n d ≠ RoadKit.slotOf Z ST "coder" "B" → RoadKit.Fld Z h' x O n d w
/-- **new String(chars) AT A CALL, IN THE ROAD'S FORM**: for specialBack behind newO: x the fresh String, b the char[] with the cell A -/
theorem back {p : Program} {l : Launch} {e : Env} {R : Room} {s : State} {args : Array Value} {below : List Frame} {len W : Nat} {Z : State} {a0 : Array Value} {h : Heap} (hZ : Z.Warmed39 s.vm) (hw : ∀ d ∈ words, d.before a0 Z = true) {kI : Nat} (wi : (Jvm.Cond.instantiable ST kI).before a0 Z = true)
    {x b : Addr} {A : Cell} {z : Int32} {v0 c0 : Value} (E : RoadKit.Exa Z h x ST) (V : RoadKit.Fld Z h x ST "value" "[B" v0) (C : RoadKit.Fld Z h x ST "coder" "B" c0) (K : RoadKit.Arr Z h b A .char) (hty : Typed .char A) (S : RoadKit.Sta Z h ST "COMPACT_STRINGS" "Z" (.int z)) (hz : ¬ z = 0)
    (l0 : 0 < A.slots.size) (l2 : A.slots.size ≤ 536870912) (hp : ∀ i, i < A.slots.size → ¬ 255 < cv A i) (hfr : 4 ≤ R.frames) (hlo : W + 65 ≤ R.locals) :
    Back l R p e below s args New1.yN len W (fun P a => a = #[.ref x, .ref b] ∧ P.U.heap = h ∧ P.cells + 1 ≤ R.cells ∧ P.slots + A.slots.size ≤ R.slots)
      (fun P _ v B => ∃ L, Q Z x A h v B.U.heap L ∧ B.locs = P.locs ++ L ∧ B.cells = P.cells + 1 ∧ B.slots = P.slots + A.slots.size) := by
  intro m meth c P g ig mk a X hg hsize hdg hW hn hp'
  obtain ⟨rfl, rfl, r1, r2⟩ := hp'
  have al : Z.vm.Alike P.U.vm := hZ.alike.trans X.warmed.alike
  obtain ⟨D, cfV, kV, iV, fV, hD, gV, stV, knV, obV, asV, slV⟩ := id V
  obtain ⟨D', cfC, kC, iC, fC, hD', gC, stC, -, -, asC, slC⟩ := id C
  cases hD.symm.trans hD'
  obtain ⟨D2, kD, e1, e2, e3, e4, e5⟩ := id E
  cases hD.symm.trans e1
  obtain ⟨c2, k2, i1, i2, i3, -⟩ := Cond.instantiable_spec wi
  cases e2.symm.trans i1
  cases e3.symm.trans i2
  obtain ⟨kU, u1, u2⟩ := al.2.2 _ _ e3
  have hB : Blank ST x D P.U := ⟨hD, ⟨knV, fun q hq => by rw [hq] at obV; cases obV⟩, by rw [al.findClass]; exact e2, kU, u1, by rw [u2]; exact i3, by rw [u2]; exact e5 i3⟩
  have F1 : Found ST "value" "[B" fV P.U := ⟨SBG.found_only al ⟨cfV, kV, iV, gV⟩, stV⟩
  have F2 : Found ST "coder" "B" fC P.U := ⟨SBG.found_only al ⟨cfC, kC, iC, gC⟩, stC⟩
  have hA : Ch b A P.U := ⟨⟨K.1, State.isArrayOf_alike al K.2.1, K.2.2, by omega⟩, hty⟩
  have hS : StaticIs P.U ST "COMPACT_STRINGS" "Z" (.int z) := by
    obtain ⟨cfS, iS, kS, fS, st, cS, t1, t2, t3, t4, t5, t6, t7⟩ := S
    exact StaticIs.there (s := { Z with heap := P.U.heap }) ⟨cfS, iS, kS, fS, st, cS, t1, t2, t3, t4, t5, (fun q => by rw [q] at t6; cases t6), t7⟩ al rfl
  obtain ⟨v, B, X', ⟨⟨hv, E', V', q1, q2, q3, q4, q5, q6, q7, q8, q9, q10, q11⟩, hl, hc, hs⟩, st⟩ := New1.pays x D fV fC b A z (tab_of (moved hZ hw)) hfr hlo m meth c P g ig mk _ X hg hsize hdg hW hn ⟨r1, r2, rfl, hB, F1, F2, hA, hS, hz, l0, l2, hp⟩
  have al' : Z.vm.Alike B.U.vm := hZ.alike.trans X'.warmed.alike
  have hsz : E'.slots.size = D.slots.size := by
    obtain ⟨-, -, -, kB, w1, w2, w3⟩ := q1
    obtain ⟨kB', y1, y2⟩ := al'.2.2 _ _ e3
    rw [q2.2.1] at w1
    cases w1.symm.trans y1
    rw [w3, e5 i3, y2]
  refine ⟨v, B, X', ⟨_, ⟨hv, ?_, ⟨by omega, fun y cy hy hn' => q10 y cy (by simpa using hn') hy, fun y cy hy => ?_⟩, q11, ⟨E', _, q1.1, by rw [q2.2.1]; exact e2, by rw [q2.2.1]; exact e3, by rw [q2.1]; exact obV, fun _ => by rw [hsz]; exact e5 i3⟩,
    ⟨E', cfV, kV, iV, fV, q1.1, gV, stV, by rw [q2.1]; exact knV, by rw [q2.1]; exact obV, by rw [q2.2.1]; exact asV, q3⟩, ⟨E', cfC, kC, iC, fC, q1.1, gC, stC, by rw [q2.1]; exact knV, by rw [q2.1]; exact obV, by rw [q2.2.1]; exact asC, q4⟩,
    ⟨V', ⟨q5.1, State.isArrayOf_alike al'.symm q5.2.1, q5.2.2.1⟩, q6, by rw [← al'.findClass]; exact q7, q8, fun j hj => by have := q9 j hj; rwa [Nat.zero_add] at this⟩, fun O n d w F n1 n2 => ?_⟩, hl, hc, hs⟩, st⟩
  · intro y hy
    simp only [List.mem_cons, List.not_mem_nil, or_false] at hy
    rcases hy with rfl | rfl <;> rfl
  · by_cases q : y = x
    · subst q
      cases hD.symm.trans hy
      exact ⟨E', q1.1, q2.2.1, q2.1, hsz⟩
    · exact ⟨cy, q10 y cy q hy, rfl, rfl, rfl⟩
  · obtain ⟨D3, cf, k, i, f, g1, g2, g3, g4, g5, g6, g7⟩ := F
    cases hD.symm.trans g1
    simp only [RoadKit.slotOf, g2, gV, gC, Option.map_some, Option.getD_some] at n1 n2
    exact ⟨E', cf, k, i, f, q1.1, g2, g3, by rw [q2.1]; exact g4, by rw [q2.1]; exact g5, by rw [q2.2.1]; exact g6, by rw [q2.2.2 f.slot (by simp [n1, n2])]; exact g7⟩
end StrChars.Road
namespace StrChars.Road
open Jvm Sem ClassFile Op Lib Jvm.Stand Jvm.Free Jvm.Free.XT
/-- WHAT COMES BACK, the byte[] as a list of values -/
def QA (Z : State) (x : Addr) (zn : Int32) (cs : List Int32) (h : Heap) (v : Option Value) (h' : Heap) (L : List Loc) : Prop := v = none ∧ (∀ y ∈ L, y.base = x) ∧ RoadKit.Keep h h' [x] ∧ h'.size = h.size + 1 ∧ RoadKit.Exa Z h' x ST ∧ RoadKit.Fld Z h' x ST "value" "[B" (.ref h.size) ∧ RoadKit.Fld Z h' x ST "coder" "B" (.int 0) ∧
  (∃ kb, Z.vm.findClass "[B" = some kb ∧ RoadKit.Arv Z h' h.size kb .byte zn (cs.map fun c => .int (lo8 c)) (.int 0)) ∧
  ∀ (O n d : String) (w : Value), RoadKit.Fld Z h x O n d w → RoadKit.slotOf Z O n d ≠ RoadKit.slotOf Z ST "value" "[B" → RoadKit.slotOf Z O n d ≠ RoadKit.slotOf Z ST "coder" "B" → RoadKit.Fld Z h' x O n d w
/-- **new String(chars) AT A CALL, THE ARRAYS AS LISTS**: the char[] at b holds cs, not empty, no char above 255 -/
theorem backArv {p : Program} {l : Launch} {e : Env} {R : Room} {s : State} {args : Array Value} {below : List Frame} {len W : Nat} {Z : State} {a0 : Array Value} {h : Heap} (hZ : Z.Warmed39 s.vm) (hw : ∀ d ∈ words, d.before a0 Z = true) {kI : Nat} (wi : (Jvm.Cond.instantiable ST kI).before a0 Z = true)
    {x b : Addr} {k : ClassId} {zn z : Int32} {cs : List Int32} {dv v0 c0 : Value} (E : RoadKit.Exa Z h x ST) (V : RoadKit.Fld Z h x ST "value" "[B" v0) (C : RoadKit.Fld Z h x ST "coder" "B" c0) (K : RoadKit.Arv Z h b k .char zn (cs.map Value.int) dv) (S : RoadKit.Sta Z h ST "COMPACT_STRINGS" "Z" (.int z)) (hz : ¬ z = 0)
    (hlen : zn.toNatClampNeg = cs.length) (h0 : 0 < cs.length) (hbig : cs.length ≤ 536870912) (hall : ∀ c ∈ cs, ¬ 255 < c) (hfr : 4 ≤ R.frames) (hlo : W + 65 ≤ R.locals) :
    Back l R p e below s args New1.yN len W (fun P a => a = #[.ref x, .ref b] ∧ P.U.heap = h ∧ P.cells + 1 ≤ R.cells ∧ P.slots + cs.length ≤ R.slots)
      (fun P _ v B => ∃ L, QA Z x zn cs h v B.U.heap L ∧ B.locs = P.locs ++ L ∧ B.cells = P.cells + 1 ∧ B.slots = P.slots + cs.length) := by
  obtain ⟨A, K1, K2, K3, K4, K5, K6⟩ := K
  have e : A.slots.size = cs.length := K3.trans hlen
  have hat : ∀ (i : Nat) (hi : i < cs.length), A.slots[i]? = some (.int cs[i]) := fun i hi => by rw [K5 i (by omega)]; simp [List.getD_eq_getElem?_getD, hi]
  have hcv : ∀ (i : Nat) (hi : i < cs.length), cv A i = cs[i] := fun i hi => by unfold cv; rw [hat i hi]
  have hty : Typed .char A := fun i v hv => by
    have hi : i < A.slots.size := (Array.getElem?_eq_some_iff.mp hv).1
    have q := K5 i hi
    rw [hv] at q
    rw [Option.some.inj q]
    exact K6 i hi
  refine Back.mono (back hZ hw wi E V C K1 hty S hz (by omega) (by omega) (fun i hi => by rw [hcv i (by omega)]; exact hall _ (List.getElem_mem _)) hfr hlo) (fun P a hp => ⟨hp.1, hp.2.1, hp.2.2.1, by rw [e]; exact hp.2.2.2⟩) (fun P a v B hp hq => ?_)
  obtain ⟨L, ⟨q1, q2, q3, q4, q5, q6, q7, ⟨V', v1, v2, v3, v4, v5⟩, q9⟩, hl, hc, hs⟩ := hq
  refine ⟨L, ⟨q1, q2, q3, q4, q5, q6, q7, ⟨V'.cls, v3, V', v1, rfl, by rw [v4, e, hlen], K4, fun i hi => ?_, fun i hi => ?_⟩, q9⟩, hl, hc, by rw [hs, e]⟩
  · have hi' : i < cs.length := by omega
    rw [v5 i (by omega), hcv i hi']; simp [List.getD_eq_getElem?_getD, hi']
  · have hi' : i < cs.length := by omega
    simp only [List.getD_eq_getElem?_getD, List.getElem?_map, List.getElem?_eq_getElem hi', Option.map_some, Option.getD_some]
    exact fits_lo8 _
end StrChars.Road
namespace StrChars.Road
open Jvm Sem ClassFile Op Lib Jvm.Stand Jvm.Free Jvm.Free.XT
/-- WHAT COMES BACK, in the writer's own shape -/
def QV (Z : State) (x : Addr) (N : Int32) (bs : List Int32) (h : Heap) (n0 : Nat) (v : Option Value) (h' : Heap) (L : List Loc) : Prop := v = none ∧ RoadKit.Fr n0 L ∧ RoadKit.Keep h h' [x] ∧ RoadKit.Exa Z h' x ST ∧ RoadKit.Fld Z h' x ST "coder" "B" (.int 0) ∧
  ∃ (t : Addr) (kb : ClassId), n0 ≤ t ∧ h.size ≤ t ∧ ¬ t = x ∧ RoadKit.Fld Z h' x ST "value" "[B" (.ref t) ∧ RoadKit.Arv Z h' t kb .byte N (bs.map Value.int) (.int 0)
/-- **new String(chars) AT A CALL, FOR THE WRITER**: a char[] of n known ints, each 0 to 255 -/
theorem backV {p : Program} {l : Launch} {e : Env} {R : Room} {s : State} {args : Array Value} {below : List Frame} {len W : Nat} {Z : State} {a0 : Array Value} {h : Heap} (hZ : Z.Warmed39 s.vm) (hw : ∀ d ∈ words, d.before a0 Z = true) {kI : Nat} (wi : (Jvm.Cond.instantiable ST kI).before a0 Z = true)
    {x b : Addr} {kC : ClassId} {cs bs : List Int32} {d v0 c0 : Value} {z N : Int32} {n n0 : Nat} (hx0 : n0 ≤ x) (hh0 : n0 ≤ h.size) (E : RoadKit.Exa Z h x ST) (V : RoadKit.Fld Z h x ST "value" "[B" v0) (C : RoadKit.Fld Z h x ST "coder" "B" c0) (K : RoadKit.Arv Z h b kC .char N (cs.map Value.int) d) (S : RoadKit.Sta Z h ST "COMPACT_STRINGS" "Z" (.int z)) (hz : ¬ z = 0)
    (hn : cs.length = n) (hN : N = Int32.ofNat n) (l0 : 0 < n) (l2 : n ≤ 4000) (hp : ∀ c ∈ cs, ¬ c < 0 ∧ ¬ (255 : Int32) < c) (hb : bs = cs.map (fun c => c.toInt8.toInt32)) (hfr : 4 ≤ R.frames) (hlo : W + 65 ≤ R.locals) :
    Back l R p e below s args (⟨"java/lang/String", "<init>", "([C)V"⟩ : MethodName) len W (fun P a => a = #[.ref x, .ref b] ∧ P.U.heap = h ∧ P.cells + 1 ≤ R.cells ∧ P.slots + n ≤ R.slots)
      (fun P _ v B => ∃ L, QV Z x N bs h n0 v B.U.heap L ∧ B.locs = P.locs ++ L ∧ B.cells = P.cells + 1 ∧ B.slots = P.slots + n) := by
  subst hn hN hb
  refine Back.mono (backArv hZ hw wi E V C K S hz (n32 (by omega)) l0 (by omega) (fun c hc => (hp c hc).2) hfr hlo) (fun P a hp => hp) (fun P a v B hp hq => ?_)
  obtain ⟨L, ⟨q1, q2, q3, q4, q5, q6, q7, ⟨kb, v1, v2⟩, q9⟩, hl, hc, hs⟩ := hq
  exact ⟨L, ⟨q1, fun y hy => by rw [q2 y hy]; exact hx0, q3, q5, q7, h.size, kb, hh0, Nat.le_refl _, Nat.ne_of_gt E.lt, q6, by rw [List.map_map]; exact v2⟩, hl, hc, hs⟩
end StrChars.Road
end Jvm.Pilot.@@N@@
namespace Jvm.RoadKit
open Sem ClassFile Op Lib Jvm.Stand Jvm.Free Jvm.LawKit
section New
variable {p : Program} {l : Launch} {e : Env} {R : Room} {s : State} {m : MethodId} {args : Array Value} {below : List Frame} {meth : Method} {c : Code} {T : State} {locs : List Loc} {cells slots : Nat}
theorem retI (X : Stand p l e R s m args below meth c T locs cells slots) (hx : p.tables.exec = Jvm.exec) {pc : Nat} {Ls : Array Slot} {z : Int32} {rest : List Value} (hret : meth.sig.returnType = some .int) (hd : decode c.code pc = .ok (.ireturn, 1)) {fs : List Frame}
    (hl : ∀ (f : JFrame) (acts : List Action), f.method = m → f.locked = none → f.entered = [] → (doReturn e (T.setTop f) acts (some (.int z))).1 = T.setFrames fs) : Steps p.tables e below (T.setTop (mkF m pc Ls (.int z :: rest))) (T.setFrames fs) := by
  have hm' : T.vm.method? m = some meth := X.method'
  have hn : narrow .int (.int z) = .int z := rfl
  show Steps p.tables e below (T.setTop { method := m, pc := pc, locals := Ls, stack := _ :: rest, locked := none }) _
  jvm_step X.here [X.here.top, hx, hd, hm', hret, hn]
  first | (intro acts; rw [hl _ acts rfl rfl rfl]) | rw [hl _ _ rfl rfl rfl]
  exact Steps.refl _
end New
/-- the run has come from where P looks on to this frame -/
def Go (p : Program) (e : Env) (below : List Frame) (P : State → Prop) (T : State) (g : JFrame) : Prop := ∀ t, Steps p.tables e below (T.setTop g) t → P t
/-- where roads that move the state meet: one of them has come to this frame (wide: it may have interned) -/
def PosW (p : Program) (l : Launch) (e : Env) (R : Room) (s : State) (m : MethodId) (args : Array Value) (below : List Frame) (meth : Method) (c : Code) (P : State → Prop) (Z : State) (n0 : Nat) (own : String) (EL : List (String × Nat)) (h0 hf : Heap) (ws : List Addr) (cells slots : Nat) (g : JFrame) (K : Heap → Prop) : Prop :=
  ∃ (vm : Vm) (T : State) (locs : List Loc) (k : Nat), Stand p l e R (s.setVm vm) m args below meth c T locs cells slots ∧ Fr n0 locs ∧ Keep hf T.heap ws ∧ s.Since vm k ∧ k ≤ T.heap.size ∧ Z.Warmed39 vm ∧ vm.findClass own = some m.cls ∧ CHr Z EL s.vm h0 vm T.heap ∧ Go p e below P T g ∧ K T.heap
def PosN (p : Program) (l : Launch) (e : Env) (R : Room) (s : State) (m : MethodId) (args : Array Value) (below : List Frame) (meth : Method) (c : Code) (P : State → Prop) (n0 : Nat) (hf : Heap) (ws : List Addr) (cells slots : Nat) (g : JFrame) (K : Heap → Prop) : Prop :=
  ∃ (T : State) (locs : List Loc), Stand p l e R s m args below meth c T locs cells slots ∧ Fr n0 locs ∧ Keep hf T.heap ws ∧ Go p e below P T g ∧ K T.heap
theorem oldLe {Z : State} {n0 : Nat} {h : Heap} (O : Old Z n0 h) : n0 ≤ h.size := O.1 ▸ O.2.1
theorem ownNarRef {t : FieldType} {v : Value} (h : v.isRef = true) : narrow t v = v := by
  rcases ref_cases h with rfl | ⟨_, rfl⟩ <;> cases t <;> rfl
theorem fits_refV {C : String} {v : Value} (h : v.isRef = true) : fits (.object C) v = true := by
  rcases ref_cases h with rfl | ⟨_, rfl⟩ <;> rfl
end Jvm.RoadKit
namespace Jvm.Pilot.@@N@@
open Jvm Jvm.ClassFile Sem Op Lib Jvm.Free Jvm.Stand Jvm.LawKit Jvm.RoadKit Bundle Jvm.Pilot.@@N@@.Jvm.D
theorem eq_int {args : Array Value} {first s : State} {o : Option Outcome} {idx : List Nat} {a b : Term} {x : Value} {z : Int32} (ha : a.eval args first o idx s = some x) (hb : b.eval args first o idx s = some (.int z)) (h : (Jvm.Cond.eq a b).value args first o s idx = some true) : x = .int z := by
  cases x <;> simp [Cond.value, ha, hb] at h ⊢ <;> exact h
theorem nar_b0 : nar .boolean 0 = 0 := by decide
theorem nar_b1 : nar .boolean 1 = 1 := by decide
theorem nar_b8 (x : Int32) : nar .byte (x.toInt8.toInt32) = x.toInt8.toInt32 := by show (x.toInt8.toInt32).toInt8.toInt32 = x.toInt8.toInt32; simp
theorem eq_I {args : Array Value} {first s : State} {o : Option Outcome} {idx : List Nat} {a b : Term} {x y : Int32} (ha : a.eval args first o idx s = some (.int x)) (hb : b.eval args first o idx s = some (.int y)) : (Jvm.Cond.eq a b).value args first o s idx = some (decide (x = y)) := by simp [Cond.value, ha, hb]
theorem chr255 (x : Int32) : nar .char ((x &&& (255 : Int32)).toUInt32.toUInt16.toUInt32.toInt32) = ((x &&& (255 : Int32)).toUInt32.toUInt16.toUInt32.toInt32) ∧ ¬ ((x &&& (255 : Int32)).toUInt32.toUInt16.toUInt32.toInt32) < 0 ∧ ¬ (255 : Int32) < ((x &&& (255 : Int32)).toUInt32.toUInt16.toUInt32.toInt32) := by
  have t : ∀ k : Fin 256, nar .char ((Int32.ofNat k.val).toUInt32.toUInt16.toUInt32.toInt32) = ((Int32.ofNat k.val).toUInt32.toUInt16.toUInt32.toInt32) ∧ ¬ ((Int32.ofNat k.val).toUInt32.toUInt16.toUInt32.toInt32) < 0 ∧ ¬ (255 : Int32) < ((Int32.ofNat k.val).toUInt32.toUInt16.toUInt32.toInt32) := by decide +kernel
  have h : (x &&& 255).toBitVec.toNat < 256 := by
    simp only [Int32.toBitVec_and, BitVec.toNat_and]
    exact Nat.lt_succ_of_le Nat.and_le_right
  have e : (x &&& 255) = Int32.ofNat (x &&& 255).toBitVec.toNat := by
    apply Int32.toBitVec_inj.mp
    show _ = BitVec.ofNat 32 _
    rw [BitVec.ofNat_toNat]; simp
  rw [e]
  exact t ⟨_, h⟩
theorem nsRoot {Z : State} {a0 : Array Value} {O K : String} {n : Nat} (wr : (Jvm.Cond.noSuperclass O).before a0 Z = true) (wk : (Jvm.Cond.instantiable K n).before a0 Z = true) (hn : O ≠ K) : NS Z O K := by
  obtain ⟨t, k', g0, g2, g5, g7, -, -⟩ := Cond.instantiable_spec wk
  obtain ⟨r, kr, r1, r2, r3, -, -⟩ := Cond.noSuperclass_spec wr
  have ner := ids_ne r1 g0 hn
  exact ⟨r, t, r1, g0, fun fuel => by
    cases fuel with
    | zero => rfl
    | succ f => simp [Vm.isSubclassAux, ner, r2, r3]⟩
theorem nsNo {Z : State} {a0 : Array Value} {C S K : String} {n : Nat} (w : (Jvm.Cond.superclass C S).before a0 Z = true) (wk : (Jvm.Cond.instantiable K n).before a0 Z = true) (N : NS Z C K) (hn : C ≠ K) : ∃ c t, Z.vm.findClass C = some c ∧ Z.vm.findClass K = some t ∧ Z.vm.assignable c t = false := by
  obtain ⟨t, k', g0, g2, g5, g7, -, -⟩ := Cond.instantiable_spec wk
  obtain ⟨c, t', h0, g0', n3⟩ := N
  cases g0.symm.trans g0'
  obtain ⟨p, k, kp, h1, h2, h3, h4, h5, -, h7⟩ := Cond.superclass_spec h0 w
  have ne := ids_ne h0 g0 hn
  have g7' : k'.isInterface = false := by simp at g7; exact g7.1
  refine ⟨c, t, h0, g0, ?_⟩
  show Z.vm.assignableAux (255 + 1) c t = false
  simp [Vm.assignableAux, ne, h2, g2, h5, g5, g7', Vm.isSubclass, n3]
theorem its_in : ∀ w ∈ Jvm.SetKit.leaves Jvm.Free.Str.ITS.tab, w ∈ tables_1 := by decide +kernel
theorem itsMoved {Z s : State} {a0 args : Array Value} (hZ : Z.Warmed39 s.vm) (hw : ∀ d ∈ tables_1, d.before a0 Z = true) : Jvm.Free.Str.ITS.tab.before args s = true := Jvm.SetKit.of_leaves _ fun d hd => by
  have q := hw d (its_in d hd)
  have t : ∀ d ∈ Jvm.SetKit.leaves Jvm.Free.Str.ITS.tab, d = .arrayClass .byte ∨ (d.onTables && d.keepsFace) = true := by decide +kernel
  rcases t d hd with rfl | t
  · exact mvA hZ q
  · exact mv hZ q t
theorem itsBack {p : Program} {l : Launch} {e : Env} {R : Room} {s : State} {args : Array Value} {below : List Frame} {len W : Nat} {Z : State} {a0 : Array Value} {h : Heap} {n0 : Nat} (hZ : Z.Warmed39 s.vm) (hw : ∀ d ∈ tables_1, d.before a0 Z = true)
    (wb : (Jvm.Cond.arrayClass .byte).before a0 Z = true) {x z : Int32} {st d1 d2 : Addr} {D1 D2 : Cell} (O : Old Z n0 h) (S : Sta Z Z.heap "java/lang/String" "COMPACT_STRINGS" "Z" (.int z)) (hz : ¬ z = 0) (T1 : Jvm.Free.SBG.Tbl Z "DigitOnes" st d1 D1) (T2 : Jvm.Free.SBG.Tbl Z "DigitTens" st d2 D2) (hfr : 4 ≤ R.frames) (hlo : W + 134 ≤ R.locals) :
    Back l R p e below s args (⟨"java/lang/Integer", "toString", "(I)Ljava/lang/String;"⟩ : MethodName) len W (fun P a => a = #[.int x] ∧ P.U.heap = h ∧ P.cells + 2 ≤ R.cells ∧ P.slots + 15 ≤ R.slots)
      (fun P _ v B => ∃ L, (v = some (.ref (h.size + 1)) ∧ Fr n0 L ∧ Keep h B.U.heap []) ∧ B.locs = P.locs ++ L ∧ B.cells = P.cells + 2 ∧ B.slots = P.slots + 15) := by
  intro m meth c P g ig mk a X hg hsize hdg hW hn hp'
  obtain ⟨rfl, rfl, r1, r2⟩ := hp'
  have al : Z.vm.Alike P.U.vm := hZ.alike.trans X.warmed.alike
  obtain ⟨n, hn1, hn2⟩ := Jvm.Free.SBG.negI_of x
  obtain ⟨cA, kA, comp, hA, hkA, hkind⟩ := Cond.arrayClass_spec wb
  rw [show ("[" ++ FieldType.toString .byte) = "[B" from by decide] at hA
  have hS : Jvm.Lib.Cold.StaticIs P.U "java/lang/String" "COMPACT_STRINGS" "Z" (.int z) := by
    obtain ⟨cfS, iS, kS, fS, st, cS, t1, t2, t3, t4, t5, t6, t7⟩ := S.ext O.2
    exact Jvm.Lib.Cold.StaticIs.there (s := { Z with heap := P.U.heap }) ⟨cfS, iS, kS, fS, st, cS, t1, t2, t3, t4, t5, (fun q => by rw [q] at t6; cases t6), t7⟩ al rfl
  have hd : ∀ {nm : String} {d : Addr} {D : Cell}, Jvm.Free.SBG.Tbl Z nm st d D → Jvm.Free.SBG.Tbl P.U nm st d D := fun {nm d D} T => by
    obtain ⟨_, _, _, _, _, -, -, -, -, -, -, -, q, -⟩ := id T
    exact T.move al (fun c hc => O.2.2 _ _ hc) (O.2.2 _ _ q)
  obtain ⟨v, B, X', ⟨C, fC, fV, hv, hSt, hC, b1, b2, b3, b4⟩, stp⟩ := Jvm.Free.Str.ITS.pays (len := len) (W := W) ⟨x, n, z, cA, st, d1, D1, d2, D2⟩ (itsMoved hZ hw) hfr (by omega) m meth c P g ig mk _ X hg hsize hdg hW hn ⟨r1, r2, rfl, hS, hz, by rw [al.findClass]; exact hA, hn1, hn2, hd T1, hd T2⟩
  have hlt := (Array.getElem?_eq_some_iff.mp hSt.1).1
  refine ⟨v, (B.U, B.locs, P.cells + 2, P.slots + 15), X'.more b1 b2, ⟨[], ⟨hv, Fr.nil _, ⟨by show P.U.heap.size ≤ B.U.heap.size; omega, fun x c q _ => b4 x c q, fun x c q => ⟨c, b4 x c q, rfl, rfl, rfl⟩⟩⟩, ?_, rfl, rfl⟩, stp⟩
  show B.locs = P.locs ++ []
  rw [List.append_nil]; exact b3
theorem w_backV {Z : State} {a0 : Array Value} (hw : ∀ d ∈ tables_1, d.before a0 Z = true) : ∀ d ∈ StrChars.Road.words, d.before a0 Z = true := fun d hd => hw d ((by decide +kernel : ∀ d ∈ StrChars.Road.words, d ∈ tables_1) d hd)
def eqI (cs ds : List Int32) : Int32 := if cs = ds then 1 else 0
theorem sub_i {args : Array Value} {first s : State} {o : Option Outcome} {idx : List Nat} {a b : Term} {x y : Int32} (ha : a.eval args first o idx s = some (.int x)) (hb : b.eval args first o idx s = some (.int y)) : (Jvm.Term.sub a b).eval args first o idx s = some (.int (x - y)) := by simp [Term.eval, ha, hb]
theorem cacheInb {v : Int32} {N : Nat} (h1 : ¬ v < (-128 : Int32)) (h2 : ¬ (127 : Int32) < v) (hN : N = (256 : Int32).toNatClampNeg) : ¬ ((v + (128 : Int32)) < 0 ∨ N ≤ (v + (128 : Int32)).toNatClampNeg) := by
  have e1 : (-128 : Int32).toInt = -128 := by decide
  have e2 : (127 : Int32).toInt = 127 := by decide
  have e3 : (128 : Int32).toInt = 128 := by decide
  have e0 : (0 : Int32).toInt = 0 := by decide
  have eN : (256 : Int32).toNatClampNeg = 256 := by decide
  rw [Int32.lt_iff_toInt_lt, e1] at h1
  rw [Int32.lt_iff_toInt_lt, e2] at h2
  have e : (v + 128).toInt = v.toInt + 128 := by rw [Int32.toInt_add, e3]; exact Jvm.Free.SBG.bm (by omega) (by omega)
  rintro (h | h)
  · rw [Int32.lt_iff_toInt_lt, e, e0] at h; omega
  · rw [hN, eN] at h; unfold Int32.toNatClampNeg at h; rw [e] at h; omega
theorem kind8 (y : Int32) : (y &&& 7) = 0 ∨ (y &&& 7) = 1 ∨ (y &&& 7) = 2 ∨ (y &&& 7) = 3 ∨ (y &&& 7) = 4 ∨ (y &&& 7) = 5 ∨ (y &&& 7) = 6 ∨ (y &&& 7) = 7 := by
  have e1 : (y &&& 7).toInt = y.toInt % 2 ^ 3 := Jvm.Kit.i32_mask y 7 (k := 3) (by decide) (by decide)
  have t : ∀ k : Fin 8, Int32.ofNat k.val = 0 ∨ Int32.ofNat k.val = 1 ∨ Int32.ofNat k.val = 2 ∨ Int32.ofNat k.val = 3 ∨ Int32.ofNat k.val = 4 ∨ Int32.ofNat k.val = 5 ∨ Int32.ofNat k.val = 6 ∨ Int32.ofNat k.val = 7 := by decide
  have h := t ⟨(y &&& 7).toInt.toNat, by omega⟩
  have e2 : Int32.ofNat (y &&& 7).toInt.toNat = (y &&& 7) := by
    apply Int32.toInt_inj.mp
    rw [Int32.toInt_ofNat_of_lt (by omega)]; omega
  rw [e2] at h; exact h
theorem pn_33272568 : plainName "java/lang/Number" = true := by first | (simp [plainName, overriddenIn]; done) | decide +kernel
theorem ef_numI_ (m : MethodId) (x0 : Addr) : entryFrame m #[(.ref x0)] 1 = mkF m 0 #[.val (.ref x0)] [] := by first | (simp [entryFrame, mkF, argsToLocals, Value.category]; done) | rfl
theorem d13_0 : decode jdk_18_method_1_code 0 = .ok (.aload_n 0, 1) := by decide +kernel
theorem d13_1 : decode jdk_18_method_1_code 1 = .ok (.invokespecial 1, 3) := by decide +kernel
theorem d13_4 : decode jdk_18_method_1_code 4 = .ok (.return_, 1) := by decide +kernel
def Q_numI_ (Z : State) (a : Addr) (h0 : Heap) (n0 : Nat) (rv_ : Option Value) (rh_ : Heap) (rL_ : List Loc) : Prop := (rv_ = none) ∧ (Fr n0 rL_) ∧ (rh_ = h0)
set_option maxRecDepth 65536 in
set_option maxHeartbeats 40000000 in
theorem numI_ (l : Launch) (Z : State) (a0 : Array Value) (hw : ∀ d ∈ tables_1, d.before a0 Z = true) (ws : List Jvm.Cond) (a : Addr) (h0 : Heap) (n0 : Nat) (O0 : Old Z n0 h0) :
    MetFree l (⟨"java/lang/Number", "<init>", "()V"⟩ : MethodName) (head1 (Jvm.Cond.code (⟨"java/lang/Number", "<init>", "()V"⟩ : MethodName) jdk_18_method_1_code 1 none :: ws) ({ frames := 1, cells := 0, slots := 0, locals := 12 } : Room)) (fun a_ U_ => a_ = #[(.ref a)] ∧ Z.Warmed39 U_.vm ∧ U_.heap = h0) (fun _ _ _ _ _ => True) (fun _ U_ o_ U_' => ∃ v_ L_, o_ = .returned v_ ∧ Q_numI_ Z a h0 n0 v_ U_'.heap L_ ∧ FrameEnd U_ o_ U_' L_ ({ frames := 1, cells := 0, slots := 0, locals := 12 } : Room).cells ({ frames := 1, cells := 0, slots := 0, locals := 12 } : Room).slots) := by
  refine MetFree.of_bodySF (plainFor_of_name pn_33272568) hisR ?_
  intro p e s m args below meth c s₁ Bd hml0 hP0 hK
  obtain ⟨rfl, hZ, hh⟩ := hP0
  have hx := Bd.exec
  have hby := Bd.bytes
  have hml : c.maxLocals = 1 := hml0
  have hown : s.vm.findClass "java/lang/Number" = some m.cls := findClass_of_methodNamed Bd.named
  have hnm := (name_of_methodNamed Bd.named Bd.method).1
  have X0 : Stand p l e ({ frames := 1, cells := 0, slots := 0, locals := 12 } : Room) s m #[(.ref a)] below meth c s₁ [] 0 0 := Stand.of_body Bd
  have e0 : s₁.heap = h0 := by rw [← hh, Bd.state]; rfl
  have N0 := Fr.nil n0
  obtain ⟨P, hP, R0⟩ : ∃ P : State → Prop, (∀ t_, P t_ → Steps p.tables e below (s₁.setTop (entryFrame m #[(.ref a)] 1)) t_) ∧ Go p e below P s₁ (mkF m 0 #[.val (.ref a)] []) := ⟨_, fun _ h => h, fun t_ k_ => castTop (ef_numI_ m a) k_⟩
  have R1 : Go p e below P s₁ (mkF m 1 #[.val (.ref a)] [(.ref a)]) := fun t_ k_ => R0 t_ (XS.aloadN X0.here hx rfl (hb hby d13_0) rfl rfl k_)
  obtain ⟨T2, X2, e2, st2⟩ := initO X0 hx hZ hown (hw _ (List.mem_of_getElem? (i := 75) rfl)) (hw _ (List.mem_of_getElem? (i := 12) rfl)) (hw _ (List.mem_of_getElem? (i := 13) rfl)) e0 (g := (mkF m 1 #[.val (.ref a)] [(.ref a)])) rfl (by rw [hml]; rfl) rfl (hb hby d13_1) (by decide) (W := 0) (by show 2 * 0 + _ ≤ _; exact Nat.le_of_eq rfl) (by decide)
  have R3 : Go p e below P T2 (mkF m 4 #[.val (.ref a)] []) := fun t_ k_ => R1 t_ (st2 t_ k_)
  obtain ⟨fs, hr, hrun, hended, hW, hsame⟩ := X2.leave (v := none) (fun _ => rfl)
  exact ⟨_, _, hP _ (R3 _ (X2.returnOut hx Bd.returns (hb hby d13_4) hr)), hrun, hended, _, _, rfl, ⟨rfl, N0, e2⟩, ⟨_, rfl⟩, hW, hsame.mono (by decide) (by decide)⟩
theorem pn_33830251 : plainName "java/lang/Integer" = true := by first | (simp [plainName, overriddenIn]; done) | decide +kernel
theorem ef_intI_ (m : MethodId) (x0 : Addr) (x1 : Int32) : entryFrame m #[(.ref x0), (.int x1)] 2 = mkF m 0 #[.val (.ref x0), .val (.int x1)] [] := by first | (simp [entryFrame, mkF, argsToLocals, Value.category]; done) | rfl
theorem d12_0 : decode jdk_33_method_23_code 0 = .ok (.aload_n 0, 1) := by decide +kernel
theorem d12_1 : decode jdk_33_method_23_code 1 = .ok (.invokespecial 202, 3) := by decide +kernel
theorem pd_16428534 : parseMethodDescriptor "()V" = some ⟨[], none⟩ := by decide +kernel
theorem d12_4 : decode jdk_33_method_23_code 4 = .ok (.aload_n 0, 1) := by decide +kernel
theorem d12_5 : decode jdk_33_method_23_code 5 = .ok (.iload_n 1, 1) := by decide +kernel
theorem d12_6 : decode jdk_33_method_23_code 6 = .ok (.putfield 205, 3) := by decide +kernel
theorem d12_9 : decode jdk_33_method_23_code 9 = .ok (.return_, 1) := by decide +kernel
def Q_intI_ (Z : State) (a : Addr) (v : Int32) (h0 : Heap) (n0 : Nat) (rv_ : Option Value) (rh_ : Heap) (rL_ : List Loc) : Prop := (rv_ = none) ∧ (Fr n0 rL_) ∧ (Keep h0 rh_ [a]) ∧ (Exa Z rh_ a "java/lang/Integer") ∧ (Fld Z rh_ a "java/lang/Integer" "value" "I" (.int v))
set_option maxRecDepth 65536 in
set_option maxHeartbeats 40000000 in
theorem intI_ (l : Launch) (Z : State) (a0 : Array Value) (hw : ∀ d ∈ tables_1, d.before a0 Z = true) (ws : List Jvm.Cond) (a : Addr) (v : Int32) (h0 : Heap) (n0 : Nat) (O0 : Old Z n0 h0) (P0 : Exa Z h0 a "java/lang/Integer") (P1 : Fld Z h0 a "java/lang/Integer" "value" "I" (.int (0 : Int32))) (P2 : n0 ≤ a) :
    MetFree l (⟨"java/lang/Integer", "<init>", "(I)V"⟩ : MethodName) (head1 (Jvm.Cond.code (⟨"java/lang/Integer", "<init>", "(I)V"⟩ : MethodName) jdk_33_method_23_code 2 none :: ws) ({ frames := 2, cells := 0, slots := 0, locals := 24 } : Room)) (fun a_ U_ => a_ = #[(.ref a), (.int v)] ∧ Z.Warmed39 U_.vm ∧ U_.heap = h0) (fun _ _ _ _ _ => True) (fun _ U_ o_ U_' => ∃ v_ L_, o_ = .returned v_ ∧ Q_intI_ Z a v h0 n0 v_ U_'.heap L_ ∧ FrameEnd U_ o_ U_' L_ ({ frames := 2, cells := 0, slots := 0, locals := 24 } : Room).cells ({ frames := 2, cells := 0, slots := 0, locals := 24 } : Room).slots) := by
  refine MetFree.of_bodySF (plainFor_of_name pn_33830251) hisR ?_
  intro p e s m args below meth c s₁ Bd hml0 hP0 hK
  obtain ⟨rfl, hZ, hh⟩ := hP0
  have hx := Bd.exec
  have hby := Bd.bytes
  have hml : c.maxLocals = 2 := hml0
  have hown : s.vm.findClass "java/lang/Integer" = some m.cls := findClass_of_methodNamed Bd.named
  have hnm := (name_of_methodNamed Bd.named Bd.method).1
  have X0 : Stand p l e ({ frames := 2, cells := 0, slots := 0, locals := 24 } : Room) s m #[(.ref a), (.int v)] below meth c s₁ [] 0 0 := Stand.of_body Bd
  have e0 : s₁.heap = h0 := by rw [← hh, Bd.state]; rfl
  have N0 := Fr.nil n0
  obtain ⟨P, hP, R0⟩ : ∃ P : State → Prop, (∀ t_, P t_ → Steps p.tables e below (s₁.setTop (entryFrame m #[(.ref a), (.int v)] 2)) t_) ∧ Go p e below P s₁ (mkF m 0 #[.val (.ref a), .val (.int v)] []) := ⟨_, fun _ h => h, fun t_ k_ => castTop (ef_intI_ m a v) k_⟩
  have R4 : Go p e below P s₁ (mkF m 1 #[.val (.ref a), .val (.int v)] [(.ref a)]) := fun t_ k_ => R0 t_ (XS.aloadN X0.here hx rfl (hb hby d12_0) rfl rfl k_)
  obtain ⟨rv5, _, ⟨T5, L5, k5, n5⟩, -, X5, ⟨Lc5, hQ5, l5, y5, z5⟩, st5⟩ := X0.specialBack hx (y := (⟨"java/lang/Number", "<init>", "()V"⟩ : MethodName)) rfl hown (mvT hZ (hw _ (List.mem_of_getElem? (i := 69) rfl))) (mvT hZ (hw _ (List.mem_of_getElem? (i := 70) rfl))) (mvT hZ (hw _ (List.mem_of_getElem? (i := 74) rfl))) (by decide) (backOf (W := 0) (numI_ l Z a0 hw [] a h0 n0 O0) hZ (hw _ (List.mem_of_getElem? (i := 74) rfl)) (hw _ (List.mem_of_getElem? (i := 73) rfl)) (by decide) (by decide)) (g := (mkF m 1 #[.val (.ref a), .val (.int v)] [(.ref a)])) rfl (by rw [hml]; rfl) (Steps.refl _) (a := a) (argsL := []) (rest := []) (lenOf pd_16428534 rfl) rfl (by show 2 * 0 + _ ≤ _; exact Nat.le_of_eq rfl) (hb hby d12_1) (fun _ _ => ⟨rfl, e0, (by decide : 0 + 0 ≤ _), (by decide : 0 + 0 ≤ _)⟩)
  dsimp only [Pt.U, Pt.locs, Pt.cells, Pt.slots] at X5 l5 y5 z5 st5 hQ5
  subst l5 y5 z5
  obtain ⟨rfl, N5q, K5⟩ := hQ5
  have N5 := Fr.app N0 N5q
  have R6 : Go p e below P T5 (mkF m 4 #[.val (.ref a), .val (.int v)] []) := fun t_ k_ => R4 t_ (st5.trans k_)
  have R7 : Go p e below P T5 (mkF m 5 #[.val (.ref a), .val (.int v)] [(.ref a)]) := fun t_ k_ => R6 t_ (XS.aloadN X5.here hx rfl (hb hby d12_4) rfl rfl k_)
  have R8 : Go p e below P T5 (mkF m 6 #[.val (.ref a), .val (.int v)] [(.int v), (.ref a)]) := fun t_ k_ => R7 t_ (XS.iloadN X5.here hx rfl (hb hby d12_5) rfl k_)
  obtain ⟨T9, h9, X9, e9, W9, st9⟩ := putF X5 hx hZ hown (host := "") (Or.inl (hw _ (List.mem_of_getElem? (i := 76) rfl))) Via.refl K5 P1 P0 (Or.inr ⟨(hw _ (List.mem_of_getElem? (i := 77) rfl)), rfl, hnm⟩) (hw _ (List.mem_of_getElem? (i := 64) rfl)) (ty := .int) (by decide) rfl rfl (g := (mkF m 6 #[.val (.ref a), .val (.int v)] [(.int v), (.ref a)])) rfl rfl (hb hby d12_6)
  have N9 := Fr.snoc X9 N5 P2
  have Fw9 := P1.same W9
  have O9 := O0.wr W9 P2
  have R10 : Go p e below P T9 (mkF m 9 #[.val (.ref a), .val (.int v)] []) := fun t_ k_ => R8 t_ (st9 t_ k_)
  obtain ⟨fs, hr, hrun, hended, hW, hsame⟩ := X9.leave (v := none) (fun _ => rfl)
  have f11 := (P0.wr W9)
  exact ⟨_, _, hP _ (R10 _ (X9.returnOut hx Bd.returns (hb hby d12_9) hr)), hrun, hended, _, _, rfl, ⟨rfl, N9, (e9.symm ▸ ((Keep.refl h0 [a]).wr W9 (Or.inl (List.mem_of_getElem? (i := 0) rfl)))), (e9.symm ▸ f11), (e9.symm ▸ Fw9)⟩, ⟨_, rfl⟩, hW, hsame.mono (by decide) (by decide)⟩
theorem ef_intV_ (m : MethodId) (x0 : Int32) : entryFrame m #[(.int x0)] 1 = mkF m 0 #[.val (.int x0)] [] := by first | (simp [entryFrame, mkF, argsToLocals, Value.category]; done) | rfl
theorem d7_0 : decode jdk_33_method_22_code 0 = .ok (.iload_n 0, 1) := by decide +kernel
theorem d7_1 : decode jdk_33_method_22_code 1 = .ok (.bipush (-128), 2) := by decide +kernel
theorem d7_3 : decode jdk_33_method_22_code 3 = .ok (.if_icmp .lt 20, 3) := by decide +kernel
theorem d7_23 : decode jdk_33_method_22_code 23 = .ok (.new 1, 3) := by decide +kernel
theorem d7_26 : decode jdk_33_method_22_code 26 = .ok (.dup, 1) := by decide +kernel
theorem d7_27 : decode jdk_33_method_22_code 27 = .ok (.iload_n 0, 1) := by decide +kernel
theorem d7_28 : decode jdk_33_method_22_code 28 = .ok (.invokespecial 199, 3) := by decide +kernel
theorem pd_52681297 : parseMethodDescriptor "(I)V" = some ⟨[.int], none⟩ := by decide +kernel
theorem d7_31 : decode jdk_33_method_22_code 31 = .ok (.areturn, 1) := by decide +kernel
theorem d7_6 : decode jdk_33_method_22_code 6 = .ok (.iload_n 0, 1) := by decide +kernel
theorem d7_7 : decode jdk_33_method_22_code 7 = .ok (.getstatic 191, 3) := by decide +kernel
theorem d7_10 : decode jdk_33_method_22_code 10 = .ok (.if_icmp .gt 13, 3) := by decide +kernel
theorem d7_13 : decode jdk_33_method_22_code 13 = .ok (.getstatic 195, 3) := by decide +kernel
theorem d7_16 : decode jdk_33_method_22_code 16 = .ok (.iload_n 0, 1) := by decide +kernel
theorem d7_17 : decode jdk_33_method_22_code 17 = .ok (.sipush 128, 3) := by decide +kernel
theorem d7_20 : decode jdk_33_method_22_code 20 = .ok (.iadd, 1) := by decide +kernel
theorem d7_21 : decode jdk_33_method_22_code 21 = .ok (.aaload, 1) := by decide +kernel
theorem d7_22 : decode jdk_33_method_22_code 22 = .ok (.areturn, 1) := by decide +kernel
def Q_intV_ (Z : State) (v : Int32) (ca : Addr) (cl : Cell) (h0 : Heap) (n0 : Nat) (rv_ : Option Value) (rh_ : Heap) (rL_ : List Loc) : Prop := ∃ b : Addr, (rv_ = some (.ref b)) ∧ (Fr n0 rL_) ∧ (Keep h0 rh_ []) ∧ (Exa Z rh_ b "java/lang/Integer") ∧ (Fld Z rh_ b "java/lang/Integer" "value" "I" (.int v))
set_option maxRecDepth 65536 in
set_option maxHeartbeats 40000000 in
theorem intV_ (l : Launch) (Z : State) (a0 : Array Value) (hw : ∀ d ∈ tables_1, d.before a0 Z = true) (ws : List Jvm.Cond) (v : Int32) (ca : Addr) (cl : Cell) (h0 : Heap) (n0 : Nat) (O0 : Old Z n0 h0) (P0 : Sta Z Z.heap "java/lang/Integer$IntegerCache" "high" "I" (.int (127 : Int32))) (P1 : Sta Z Z.heap "java/lang/Integer$IntegerCache" "cache" "[Ljava/lang/Integer;" (.ref ca)) (P2 : Bxs Z ca cl "java/lang/Integer" "I" (256 : Int32) (fun j => .int (j - (128 : Int32)))) :
    MetFree l (⟨"java/lang/Integer", "valueOf", "(I)Ljava/lang/Integer;"⟩ : MethodName) (head1 (Jvm.Cond.code (⟨"java/lang/Integer", "valueOf", "(I)Ljava/lang/Integer;"⟩ : MethodName) jdk_33_method_22_code 1 (some (.object "java/lang/Integer")) :: ws) ({ frames := 3, cells := 1, slots := 1, locals := 38 } : Room)) (fun a_ U_ => a_ = #[(.int v)] ∧ Z.Warmed39 U_.vm ∧ U_.heap = h0) (fun _ _ _ _ _ => True) (fun _ U_ o_ U_' => ∃ v_ L_, o_ = .returned v_ ∧ Q_intV_ Z v ca cl h0 n0 v_ U_'.heap L_ ∧ FrameEnd U_ o_ U_' L_ ({ frames := 3, cells := 1, slots := 1, locals := 38 } : Room).cells ({ frames := 3, cells := 1, slots := 1, locals := 38 } : Room).slots) := by
  have hbx := P2
  refine MetFree.of_bodySF (plainFor_of_name pn_33830251) hisR ?_
  intro p e s m args below meth c s₁ Bd hml0 hP0 hK
  obtain ⟨rfl, hZ, hh⟩ := hP0
  have hx := Bd.exec
  have hby := Bd.bytes
  have hml : c.maxLocals = 1 := hml0
  have hown : s.vm.findClass "java/lang/Integer" = some m.cls := findClass_of_methodNamed Bd.named
  have hnm := (name_of_methodNamed Bd.named Bd.method).1
  have X0 : Stand p l e ({ frames := 3, cells := 1, slots := 1, locals := 38 } : Room) s m #[(.int v)] below meth c s₁ [] 0 0 := Stand.of_body Bd
  have e0 : s₁.heap = h0 := by rw [← hh, Bd.state]; rfl
  have N0 := Fr.nil n0
  obtain ⟨P, hP, R0⟩ : ∃ P : State → Prop, (∀ t_, P t_ → Steps p.tables e below (s₁.setTop (entryFrame m #[(.int v)] 1)) t_) ∧ Go p e below P s₁ (mkF m 0 #[.val (.int v)] []) := ⟨_, fun _ h => h, fun t_ k_ => castTop (ef_intV_ m v) k_⟩
  have R12 : Go p e below P s₁ (mkF m 1 #[.val (.int v)] [(.int v)]) := fun t_ k_ => R0 t_ (XS.iloadN X0.here hx rfl (hb hby d7_0) rfl k_)
  have R13 : Go p e below P s₁ (mkF m 3 #[.val (.int v)] [(.int (-128 : Int32)), (.int v)]) := fun t_ k_ => R12 t_ (XS.bipush X0.here hx rfl (hb hby d7_1) k_)
  by_cases hc14 : v < (-128 : Int32)
  · have R15 : Go p e below P s₁ (mkF m 23 #[.val (.int v)] []) := fun t_ k_ => R13 t_ (XS.icmpYes X0.here hx rfl (pc0 := 3) (pc' := 23) rfl (hb hby d7_3) rfl (tlt hc14).1 (by decide) (by decide) k_)
    obtain ⟨T16, h16, X16, e16, E16, A16, D16, -, st16⟩ := newO X0 hx hZ hown (hw _ (List.mem_of_getElem? (i := 63) rfl)) (hw _ (List.mem_of_getElem? (i := 64) rfl)) (hw _ (List.mem_of_getElem? (i := 32) rfl)) e0 (g := (mkF m 23 #[.val (.int v)] [])) rfl (hb hby d7_23) (by decide) (by decide)
    obtain ⟨b16, g16⟩ : ∃ z, z = h0.size := ⟨_, rfl⟩
    rw [← g16] at A16 D16 st16
    have O16 := O0.ext E16
    have F16_77 : Fld Z h16 b16 "java/lang/Integer" "value" "I" (.int (0 : Int32)) := D16 (Or.inr (hw _ (List.mem_of_getElem? (i := 77) rfl))) (ty := .int) (by decide)
    have R17 : Go p e below P T16 (mkF m 26 #[.val (.int v)] [(.ref b16)]) := fun t_ k_ => R15 t_ (st16 t_ k_)
    have R18 : Go p e below P T16 (mkF m 27 #[.val (.int v)] [(.ref b16), (.ref b16)]) := fun t_ k_ => R17 t_ (XS.dup X16.here hx rfl (hb hby d7_26) rfl rfl k_)
    have R19 : Go p e below P T16 (mkF m 28 #[.val (.int v)] [(.int v), (.ref b16), (.ref b16)]) := fun t_ k_ => R18 t_ (XS.iloadN X16.here hx rfl (hb hby d7_27) rfl k_)
    obtain ⟨rv20, _, ⟨T20, L20, k20, n20⟩, -, X20, ⟨Lc20, hQ20, l20, y20, z20⟩, st20⟩ := X16.specialBack hx (y := (⟨"java/lang/Integer", "<init>", "(I)V"⟩ : MethodName)) rfl hown (mvT hZ (hw _ (List.mem_of_getElem? (i := 65) rfl))) (mvT hZ (hw _ (List.mem_of_getElem? (i := 66) rfl))) (mvT hZ (hw _ (List.mem_of_getElem? (i := 68) rfl))) (by decide) (backOf (W := 1) (intI_ l Z a0 hw [] b16 v h16 n0 O16 A16 F16_77 (Nat.le_trans (oldLe O0) (Nat.le_of_eq g16.symm))) hZ (hw _ (List.mem_of_getElem? (i := 68) rfl)) (hw _ (List.mem_of_getElem? (i := 32) rfl)) (by decide) (by decide)) (g := (mkF m 28 #[.val (.int v)] [(.int v), (.ref b16), (.ref b16)])) rfl (by rw [hml]; rfl) (Steps.refl _) (a := b16) (argsL := [(.int v)]) (rest := [(.ref b16)]) (lenOf pd_52681297 rfl) rfl (by show 2 * 0 + _ ≤ _; exact Nat.le_of_eq rfl) (hb hby d7_28) (fun _ _ => ⟨rfl, e16, (by decide : 1 + 0 ≤ _), (by decide : 1 + 0 ≤ _)⟩)
    dsimp only [Pt.U, Pt.locs, Pt.cells, Pt.slots] at X20 l20 y20 z20 st20 hQ20
    subst l20 y20 z20
    obtain ⟨rfl, N20q, K20, p20_0, p20_1⟩ := hQ20
    have N20 := Fr.app N0 N20q
    have O20 := O16.keep K20 (allS (Nat.le_trans (oldLe O0) (Nat.le_of_eq g16.symm)) all0)
    have R21 : Go p e below P T20 (mkF m 31 #[.val (.int v)] [(.ref b16)]) := fun t_ k_ => R19 t_ (st20.trans k_)
    obtain ⟨fs, hr, hrun, hended, hW, hsame⟩ := X20.leave (v := some (.ref b16)) (fun h => by rw [Bd.returns] at h; cases h)
    exact ⟨_, _, hP _ (R21 _ (retOut X20 hx Bd.returns rfl (Or.inr (Or.inr (Or.inr (Or.inr ⟨rfl, rfl, rfl⟩)))) (hb hby d7_31) hr)), hrun, hended, _, _, rfl, ⟨b16, rfl, N20, (((Keep.refl h0 []).ext E16).trans K20 (allS (Or.inr (Nat.le_of_eq g16.symm)) all0)), p20_0, p20_1⟩, ⟨_, rfl⟩, hW, hsame.mono (by decide) (by decide)⟩
  · have R22 : Go p e below P s₁ (mkF m 6 #[.val (.int v)] []) := fun t_ k_ => R13 t_ (XS.icmpNo X0.here hx rfl (hb hby d7_3) rfl (flt hc14).1 k_)
    have R23 : Go p e below P s₁ (mkF m 7 #[.val (.int v)] [(.int v)]) := fun t_ k_ => R22 t_ (XS.iloadN X0.here hx rfl (hb hby d7_6) rfl k_)
    obtain ⟨T24, X24, e24, st24⟩ := getS2 X0 hx hZ hown (host := "") (Or.inl (hw _ (List.mem_of_getElem? (i := 34) rfl))) Via.refl e0 (P0.ext O0.2) (g := (mkF m 7 #[.val (.int v)] [(.int v)])) rfl (hb hby d7_7)
    have R25 : Go p e below P T24 (mkF m 10 #[.val (.int v)] [(.int (127 : Int32)), (.int v)]) := fun t_ k_ => R23 t_ (st24 t_ k_)
    by_cases hc26 : (127 : Int32) < v
    · have R27 : Go p e below P T24 (mkF m 23 #[.val (.int v)] []) := fun t_ k_ => R25 t_ (XS.icmpYes X24.here hx rfl (pc0 := 10) (pc' := 23) rfl (hb hby d7_10) rfl (tlt hc26).2.2.1 (by decide) (by decide) k_)
      obtain ⟨T28, h28, X28, e28, E28, A28, D28, -, st28⟩ := newO X24 hx hZ hown (hw _ (List.mem_of_getElem? (i := 63) rfl)) (hw _ (List.mem_of_getElem? (i := 64) rfl)) (hw _ (List.mem_of_getElem? (i := 32) rfl)) e24 (g := (mkF m 23 #[.val (.int v)] [])) rfl (hb hby d7_23) (by decide) (by decide)
      obtain ⟨b28, g28⟩ : ∃ z, z = h0.size := ⟨_, rfl⟩
      rw [← g28] at A28 D28 st28
      have O28 := O0.ext E28
      have F28_77 : Fld Z h28 b28 "java/lang/Integer" "value" "I" (.int (0 : Int32)) := D28 (Or.inr (hw _ (List.mem_of_getElem? (i := 77) rfl))) (ty := .int) (by decide)
      have R29 : Go p e below P T28 (mkF m 26 #[.val (.int v)] [(.ref b28)]) := fun t_ k_ => R27 t_ (st28 t_ k_)
      have R30 : Go p e below P T28 (mkF m 27 #[.val (.int v)] [(.ref b28), (.ref b28)]) := fun t_ k_ => R29 t_ (XS.dup X28.here hx rfl (hb hby d7_26) rfl rfl k_)
      have R31 : Go p e below P T28 (mkF m 28 #[.val (.int v)] [(.int v), (.ref b28), (.ref b28)]) := fun t_ k_ => R30 t_ (XS.iloadN X28.here hx rfl (hb hby d7_27) rfl k_)
      obtain ⟨rv32, _, ⟨T32, L32, k32, n32⟩, -, X32, ⟨Lc32, hQ32, l32, y32, z32⟩, st32⟩ := X28.specialBack hx (y := (⟨"java/lang/Integer", "<init>", "(I)V"⟩ : MethodName)) rfl hown (mvT hZ (hw _ (List.mem_of_getElem? (i := 65) rfl))) (mvT hZ (hw _ (List.mem_of_getElem? (i := 66) rfl))) (mvT hZ (hw _ (List.mem_of_getElem? (i := 68) rfl))) (by decide) (backOf (W := 1) (intI_ l Z a0 hw [] b28 v h28 n0 O28 A28 F28_77 (Nat.le_trans (oldLe O0) (Nat.le_of_eq g28.symm))) hZ (hw _ (List.mem_of_getElem? (i := 68) rfl)) (hw _ (List.mem_of_getElem? (i := 32) rfl)) (by decide) (by decide)) (g := (mkF m 28 #[.val (.int v)] [(.int v), (.ref b28), (.ref b28)])) rfl (by rw [hml]; rfl) (Steps.refl _) (a := b28) (argsL := [(.int v)]) (rest := [(.ref b28)]) (lenOf pd_52681297 rfl) rfl (by show 2 * 0 + _ ≤ _; exact Nat.le_of_eq rfl) (hb hby d7_28) (fun _ _ => ⟨rfl, e28, (by decide : 1 + 0 ≤ _), (by decide : 1 + 0 ≤ _)⟩)
      dsimp only [Pt.U, Pt.locs, Pt.cells, Pt.slots] at X32 l32 y32 z32 st32 hQ32
      subst l32 y32 z32
      obtain ⟨rfl, N32q, K32, p32_0, p32_1⟩ := hQ32
      have N32 := Fr.app N0 N32q
      have O32 := O28.keep K32 (allS (Nat.le_trans (oldLe O0) (Nat.le_of_eq g28.symm)) all0)
      have R33 : Go p e below P T32 (mkF m 31 #[.val (.int v)] [(.ref b28)]) := fun t_ k_ => R31 t_ (st32.trans k_)
      obtain ⟨fs, hr, hrun, hended, hW, hsame⟩ := X32.leave (v := some (.ref b28)) (fun h => by rw [Bd.returns] at h; cases h)
      exact ⟨_, _, hP _ (R33 _ (retOut X32 hx Bd.returns rfl (Or.inr (Or.inr (Or.inr (Or.inr ⟨rfl, rfl, rfl⟩)))) (hb hby d7_31) hr)), hrun, hended, _, _, rfl, ⟨b28, rfl, N32, (((Keep.refl h0 []).ext E28).trans K32 (allS (Or.inr (Nat.le_of_eq g28.symm)) all0)), p32_0, p32_1⟩, ⟨_, rfl⟩, hW, hsame.mono (by decide) (by decide)⟩
    · have R34 : Go p e below P T24 (mkF m 13 #[.val (.int v)] []) := fun t_ k_ => R25 t_ (XS.icmpNo X24.here hx rfl (hb hby d7_10) rfl (flt hc26).2.2.1 k_)
      obtain ⟨T35, X35, e35, st35⟩ := getS2 X24 hx hZ hown (host := "") (Or.inl (hw _ (List.mem_of_getElem? (i := 36) rfl))) Via.refl e24 (P1.ext O0.2) (g := (mkF m 13 #[.val (.int v)] [])) rfl (hb hby d7_13)
      have R36 : Go p e below P T35 (mkF m 16 #[.val (.int v)] [(.ref ca)]) := fun t_ k_ => R34 t_ (st35 t_ k_)
      have R37 : Go p e below P T35 (mkF m 17 #[.val (.int v)] [(.int v), (.ref ca)]) := fun t_ k_ => R36 t_ (XS.iloadN X35.here hx rfl (hb hby d7_16) rfl k_)
      have R38 : Go p e below P T35 (mkF m 20 #[.val (.int v)] [(.int (128 : Int32)), (.int v), (.ref ca)]) := fun t_ k_ => R37 t_ (XS.sipush X35.here hx rfl (hb hby d7_17) k_)
      have R39 : Go p e below P T35 (mkF m 21 #[.val (.int v)] [(.int (v + (128 : Int32))), (.ref ca)]) := fun t_ k_ => R38 t_ (XS.iadd X35.here hx rfl (hb hby d7_20) rfl k_)
      have hj40 : ¬ ((v + (128 : Int32)) < 0 ∨ cl.slots.size ≤ ((v + (128 : Int32))).toNatClampNeg) := cacheInb hc14 hc26 hbx.2.1
      obtain ⟨bx40, u40, eb40, fb40'⟩ := hbx.2.2.2 _ hj40
      have A40 := hbx.1.ext O0.2
      have fb40 : Fld Z Z.heap bx40 "java/lang/Integer" "value" "I" (.int v) := by have q : Fld Z Z.heap bx40 "java/lang/Integer" "value" "I" (.int (v + (128 : Int32) - (128 : Int32))) := fb40'; rwa [Int32.add_sub_cancel] at q
      have R41 : Go p e below P T35 (mkF m 22 #[.val (.int v)] [(.ref bx40)]) := fun t_ k_ => R39 t_ (X35.aaload hx (j := (v + (128 : Int32))) (v := .ref bx40) (by rw [e35]; exact A40.1) (State.isArrayOf_alike hZ.alike A40.2.1) rfl A40.2.2 hj40 u40 (g := (mkF m 21 #[.val (.int v)] [(.int (v + (128 : Int32))), (.ref ca)])) rfl rfl (hb hby d7_21) _ k_)
      obtain ⟨fs, hr, hrun, hended, hW, hsame⟩ := X35.leave (v := some (.ref bx40)) (fun h => by rw [Bd.returns] at h; cases h)
      exact ⟨_, _, hP _ (R41 _ (retOut X35 hx Bd.returns rfl (Or.inr (Or.inr (Or.inr (Or.inr ⟨rfl, rfl, rfl⟩)))) (hb hby d7_22) hr)), hrun, hended, _, _, rfl, ⟨bx40, rfl, N0, (e35.symm ▸ (Keep.refl h0 [])), (e35.symm ▸ (eb40.ext O0.2)), (e35.symm ▸ (fb40.ext O0.2))⟩, ⟨_, rfl⟩, hW, hsame.mono (by decide) (by decide)⟩
theorem pn_84123379 : plainName "com/example/rowset/rowset/model/SqlValue" = true := by first | (simp [plainName, overriddenIn]; done) | decide +kernel
theorem ef_sqlI_ (m : MethodId) (x0 : Addr) (x1 : Value) (x2 : Addr) (r1 : x1.isRef = true) : entryFrame m #[(.ref x0), x1, (.ref x2)] 3 = mkF m 0 #[.val (.ref x0), .val x1, .val (.ref x2)] [] := by first | (simp [entryFrame, mkF, argsToLocals, Value.category]; done) | rfl | (rcases ref_cases r1 with rfl | ⟨_, rfl⟩ <;> first | (simp [entryFrame, mkF, argsToLocals, Value.category]; done) | rfl)
theorem d11_0 : decode prog_43_method_1_code 0 = .ok (.aload_n 0, 1) := by decide +kernel
theorem d11_1 : decode prog_43_method_1_code 1 = .ok (.invokespecial 1, 3) := by decide +kernel
theorem d11_4 : decode prog_43_method_1_code 4 = .ok (.aload_n 0, 1) := by decide +kernel
theorem d11_5 : decode prog_43_method_1_code 5 = .ok (.aload_n 1, 1) := by decide +kernel
theorem d11_6 : decode prog_43_method_1_code 6 = .ok (.putfield 7, 3) := by decide +kernel
theorem d11_9 : decode prog_43_method_1_code 9 = .ok (.aload_n 0, 1) := by decide +kernel
theorem d11_10 : decode prog_43_method_1_code 10 = .ok (.aload_n 2, 1) := by decide +kernel
theorem d11_11 : decode prog_43_method_1_code 11 = .ok (.putfield 13, 3) := by decide +kernel
theorem d11_14 : decode prog_43_method_1_code 14 = .ok (.return_, 1) := by decide +kernel
def Q_sqlI_ (Z : State) (a : Addr) (u : Value) (t : Addr) (h0 : Heap) (n0 : Nat) (rv_ : Option Value) (rh_ : Heap) (rL_ : List Loc) : Prop := (rv_ = none) ∧ (Fr n0 rL_) ∧ (Keep h0 rh_ [a]) ∧ (Exa Z rh_ a "com/example/rowset/rowset/model/SqlValue") ∧ (Fld Z rh_ a "com/example/rowset/rowset/model/SqlValue" "value" "Ljava/lang/Object;" u)
set_option maxRecDepth 65536 in
set_option maxHeartbeats 40000000 in
theorem sqlI_ (l : Launch) (Z : State) (a0 : Array Value) (hw : ∀ d ∈ tables_1, d.before a0 Z = true) (ws : List Jvm.Cond) (a : Addr) (u : Value) (t : Addr) (h0 : Heap) (n0 : Nat) (O0 : Old Z n0 h0) (P0 : u.isRef = true) (P1 : Exa Z h0 a "com/example/rowset/rowset/model/SqlValue") (P2 : Fld Z h0 a "com/example/rowset/rowset/model/SqlValue" "value" "Ljava/lang/Object;" .null) (P3 : Fld Z h0 a "com/example/rowset/rowset/model/SqlValue" "text" "Ljava/lang/String;" .null) (P4 : n0 ≤ a) :
    MetFree l (⟨"com/example/rowset/rowset/model/SqlValue", "<init>", "(Ljava/lang/Object;Ljava/lang/String;)V"⟩ : MethodName) (head1 (Jvm.Cond.code (⟨"com/example/rowset/rowset/model/SqlValue", "<init>", "(Ljava/lang/Object;Ljava/lang/String;)V"⟩ : MethodName) prog_43_method_1_code 3 none :: ws) ({ frames := 1, cells := 0, slots := 0, locals := 12 } : Room)) (fun a_ U_ => a_ = #[(.ref a), u, (.ref t)] ∧ Z.Warmed39 U_.vm ∧ U_.heap = h0) (fun _ _ _ _ _ => True) (fun _ U_ o_ U_' => ∃ v_ L_, o_ = .returned v_ ∧ Q_sqlI_ Z a u t h0 n0 v_ U_'.heap L_ ∧ FrameEnd U_ o_ U_' L_ ({ frames := 1, cells := 0, slots := 0, locals := 12 } : Room).cells ({ frames := 1, cells := 0, slots := 0, locals := 12 } : Room).slots) := by
  have hu := P0
  refine MetFree.of_bodySF (plainFor_of_name pn_84123379) hisR ?_
  intro p e s m args below meth c s₁ Bd hml0 hP0 hK
  obtain ⟨rfl, hZ, hh⟩ := hP0
  have hx := Bd.exec
  have hby := Bd.bytes
  have hml : c.maxLocals = 3 := hml0
  have hown : s.vm.findClass "com/example/rowset/rowset/model/SqlValue" = some m.cls := findClass_of_methodNamed Bd.named
  have hnm := (name_of_methodNamed Bd.named Bd.method).1
  have X0 : Stand p l e ({ frames := 1, cells := 0, slots := 0, locals := 12 } : Room) s m #[(.ref a), u, (.ref t)] below meth c s₁ [] 0 0 := Stand.of_body Bd
  have e0 : s₁.heap = h0 := by rw [← hh, Bd.state]; rfl
  have N0 := Fr.nil n0
  obtain ⟨P, hP, R0⟩ : ∃ P : State → Prop, (∀ t_, P t_ → Steps p.tables e below (s₁.setTop (entryFrame m #[(.ref a), u, (.ref t)] 3)) t_) ∧ Go p e below P s₁ (mkF m 0 #[.val (.ref a), .val u, .val (.ref t)] []) := ⟨_, fun _ h => h, fun t_ k_ => castTop (ef_sqlI_ m a u t hu) k_⟩
  have R42 : Go p e below P s₁ (mkF m 1 #[.val (.ref a), .val u, .val (.ref t)] [(.ref a)]) := fun t_ k_ => R0 t_ (XS.aloadN X0.here hx rfl (hb hby d11_0) rfl rfl k_)
  obtain ⟨T43, X43, e43, st43⟩ := initO X0 hx hZ hown (hw _ (List.mem_of_getElem? (i := 58) rfl)) (hw _ (List.mem_of_getElem? (i := 12) rfl)) (hw _ (List.mem_of_getElem? (i := 13) rfl)) e0 (g := (mkF m 1 #[.val (.ref a), .val u, .val (.ref t)] [(.ref a)])) rfl (by rw [hml]; rfl) rfl (hb hby d11_1) (by decide) (W := 0) (by show 2 * 0 + _ ≤ _; exact Nat.le_of_eq rfl) (by decide)
  have R44 : Go p e below P T43 (mkF m 4 #[.val (.ref a), .val u, .val (.ref t)] []) := fun t_ k_ => R42 t_ (st43 t_ k_)
  have R45 : Go p e below P T43 (mkF m 5 #[.val (.ref a), .val u, .val (.ref t)] [(.ref a)]) := fun t_ k_ => R44 t_ (XS.aloadN X43.here hx rfl (hb hby d11_4) rfl rfl k_)
  have R46 : Go p e below P T43 (mkF m 6 #[.val (.ref a), .val u, .val (.ref t)] [u, (.ref a)]) := fun t_ k_ => R45 t_ (XS.aloadN X43.here hx rfl (hb hby d11_5) rfl hu k_)
  obtain ⟨T47, h47, X47, e47, W47, st47⟩ := putF X43 hx hZ hown (host := "") (Or.inl (hw _ (List.mem_of_getElem? (i := 51) rfl))) Via.refl e43 P2 P1 (Or.inr ⟨(hw _ (List.mem_of_getElem? (i := 52) rfl)), rfl, hnm⟩) (hw _ (List.mem_of_getElem? (i := 54) rfl)) (ty := (.object "java/lang/Object")) (by decide) (ownNarRef hu) (fits_refV hu) (g := (mkF m 6 #[.val (.ref a), .val u, .val (.ref t)] [u, (.ref a)])) rfl rfl (hb hby d11_6)
  have N47 := Fr.snoc X47 N0 P4
  have Fw47 := P2.same W47
  have O47 := O0.wr W47 P4
  have R48 : Go p e below P T47 (mkF m 9 #[.val (.ref a), .val u, .val (.ref t)] []) := fun t_ k_ => R46 t_ (st47 t_ k_)
  have R49 : Go p e below P T47 (mkF m 10 #[.val (.ref a), .val u, .val (.ref t)] [(.ref a)]) := fun t_ k_ => R48 t_ (XS.aloadN X47.here hx rfl (hb hby d11_9) rfl rfl k_)
  have R50 : Go p e below P T47 (mkF m 11 #[.val (.ref a), .val u, .val (.ref t)] [(.ref t), (.ref a)]) := fun t_ k_ => R49 t_ (XS.aloadN X47.here hx rfl (hb hby d11_10) rfl rfl k_)
  have f51 := (P1.wr W47)
  have f52 := (P3.other W47 (Or.inr (slot_ne (Or.inr (hw _ (List.mem_of_getElem? (i := 60) rfl))) (Or.inr (hw _ (List.mem_of_getElem? (i := 52) rfl))) (by decide) (t := (.object "java/lang/String")) (t' := (.object "java/lang/Object")) (by decide) (by decide))))
  obtain ⟨T53, h53, X53, e53, W53, st53⟩ := putF X47 hx hZ hown (host := "") (Or.inl (hw _ (List.mem_of_getElem? (i := 59) rfl))) Via.refl e47 f52 f51 (Or.inr ⟨(hw _ (List.mem_of_getElem? (i := 60) rfl)), rfl, hnm⟩) (hw _ (List.mem_of_getElem? (i := 54) rfl)) (ty := (.object "java/lang/String")) (by decide) rfl rfl (g := (mkF m 11 #[.val (.ref a), .val u, .val (.ref t)] [(.ref t), (.ref a)])) rfl rfl (hb hby d11_11)
  have N53 := Fr.snoc X53 N47 P4
  have Fw53 := f52.same W53
  have O53 := O47.wr W53 P4
  have R54 : Go p e below P T53 (mkF m 14 #[.val (.ref a), .val u, .val (.ref t)] []) := fun t_ k_ => R50 t_ (st53 t_ k_)
  obtain ⟨fs, hr, hrun, hended, hW, hsame⟩ := X53.leave (v := none) (fun _ => rfl)
  have f55 := (f51.wr W53)
  have f56 := (Fw47.other W53 (Or.inr (slot_ne (Or.inr (hw _ (List.mem_of_getElem? (i := 52) rfl))) (Or.inr (hw _ (List.mem_of_getElem? (i := 60) rfl))) (by decide) (t := (.object "java/lang/Object")) (t' := (.object "java/lang/String")) (by decide) (by decide))))
  exact ⟨_, _, hP _ (R54 _ (X53.returnOut hx Bd.returns (hb hby d11_14) hr)), hrun, hended, _, _, rfl, ⟨rfl, N53, (e53.symm ▸ (((Keep.refl h0 [a]).wr W47 (Or.inl (List.mem_of_getElem? (i := 0) rfl))).wr W53 (Or.inl (List.mem_of_getElem? (i := 0) rfl)))), (e53.symm ▸ f55), (e53.symm ▸ f56)⟩, ⟨_, rfl⟩, hW, hsame.mono (by decide) (by decide)⟩
theorem ef_sqlG_ (m : MethodId) (x0 : Addr) : entryFrame m #[(.ref x0)] 1 = mkF m 0 #[.val (.ref x0)] [] := by first | (simp [entryFrame, mkF, argsToLocals, Value.category]; done) | rfl
theorem d10_0 : decode prog_43_method_5_code 0 = .ok (.aload_n 0, 1) := by decide +kernel
theorem d10_1 : decode prog_43_method_5_code 1 = .ok (.getfield 7, 3) := by decide +kernel
theorem d10_4 : decode prog_43_method_5_code 4 = .ok (.areturn, 1) := by decide +kernel
def Q_sqlG_ (Z : State) (a : Addr) (u : Value) (h0 : Heap) (n0 : Nat) (rv_ : Option Value) (rh_ : Heap) (rL_ : List Loc) : Prop := (rv_ = some u) ∧ (Fr n0 rL_) ∧ (rh_ = h0)
set_option maxRecDepth 65536 in
set_option maxHeartbeats 40000000 in
theorem sqlG_ (l : Launch) (Z : State) (a0 : Array Value) (hw : ∀ d ∈ tables_1, d.before a0 Z = true) (ws : List Jvm.Cond) (a : Addr) (u : Value) (h0 : Heap) (n0 : Nat) (O0 : Old Z n0 h0) (P0 : u.isRef = true) (P1 : Fld Z h0 a "com/example/rowset/rowset/model/SqlValue" "value" "Ljava/lang/Object;" u) :
    MetFree l (⟨"com/example/rowset/rowset/model/SqlValue", "value", "()Ljava/lang/Object;"⟩ : MethodName) (head1 (Jvm.Cond.code (⟨"com/example/rowset/rowset/model/SqlValue", "value", "()Ljava/lang/Object;"⟩ : MethodName) prog_43_method_5_code 1 (some (.object "java/lang/Object")) :: ws) ({ frames := 0, cells := 0, slots := 0, locals := 0 } : Room)) (fun a_ U_ => a_ = #[(.ref a)] ∧ Z.Warmed39 U_.vm ∧ U_.heap = h0) (fun _ _ _ _ _ => True) (fun _ U_ o_ U_' => ∃ v_ L_, o_ = .returned v_ ∧ Q_sqlG_ Z a u h0 n0 v_ U_'.heap L_ ∧ FrameEnd U_ o_ U_' L_ ({ frames := 0, cells := 0, slots := 0, locals := 0 } : Room).cells ({ frames := 0, cells := 0, slots := 0, locals := 0 } : Room).slots) := by
  have hu := P0
  refine MetFree.of_bodySF (plainFor_of_name pn_84123379) hisR ?_
  intro p e s m args below meth c s₁ Bd hml0 hP0 hK
  obtain ⟨rfl, hZ, hh⟩ := hP0
  have hx := Bd.exec
  have hby := Bd.bytes
  have hml : c.maxLocals = 1 := hml0
  have hown : s.vm.findClass "com/example/rowset/rowset/model/SqlValue" = some m.cls := findClass_of_methodNamed Bd.named
  have hnm := (name_of_methodNamed Bd.named Bd.method).1
  have X0 : Stand p l e ({ frames := 0, cells := 0, slots := 0, locals := 0 } : Room) s m #[(.ref a)] below meth c s₁ [] 0 0 := Stand.of_body Bd
  have e0 : s₁.heap = h0 := by rw [← hh, Bd.state]; rfl
  have N0 := Fr.nil n0
  obtain ⟨P, hP, R0⟩ : ∃ P : State → Prop, (∀ t_, P t_ → Steps p.tables e below (s₁.setTop (entryFrame m #[(.ref a)] 1)) t_) ∧ Go p e below P s₁ (mkF m 0 #[.val (.ref a)] []) := ⟨_, fun _ h => h, fun t_ k_ => castTop (ef_sqlG_ m a) k_⟩
  have R57 : Go p e below P s₁ (mkF m 1 #[.val (.ref a)] [(.ref a)]) := fun t_ k_ => R0 t_ (XS.aloadN X0.here hx rfl (hb hby d10_0) rfl rfl k_)
  obtain ⟨T58, X58, e58, st58⟩ := getF X0 hx hZ hown (host := "") (Or.inl (hw _ (List.mem_of_getElem? (i := 51) rfl))) Via.refl e0 P1 (g := (mkF m 1 #[.val (.ref a)] [(.ref a)])) rfl rfl (hb hby d10_1)
  have R59 : Go p e below P T58 (mkF m 4 #[.val (.ref a)] [u]) := fun t_ k_ => R57 t_ (st58 t_ k_)
  obtain ⟨fs, hr, hrun, hended, hW, hsame⟩ := X58.leave (v := some u) (fun h => by rw [Bd.returns] at h; cases h)
  exact ⟨_, _, hP _ (R59 _ (retOut X58 hx Bd.returns (ownNarRef hu) (Or.inr (Or.inr (Or.inr (Or.inr ⟨rfl, rfl, hu⟩)))) (hb hby d10_4) hr)), hrun, hended, _, _, rfl, ⟨rfl, N0, e58⟩, ⟨_, rfl⟩, hW, hsame.mono (by decide) (by decide)⟩
theorem ef_voN_ (m : MethodId)  : entryFrame m #[.null] 2 = mkF m 0 #[.val .null, .unset] [] := by first | (simp [entryFrame, mkF, argsToLocals, Value.category]; done) | rfl
theorem d8_0 : decode prog_43_method_3_code 0 = .ok (.aload_n 0, 1) := by decide +kernel
theorem d8_1 : decode prog_43_method_3_code 1 = .ok (.instanceof 8, 3) := by decide +kernel
theorem d8_4 : decode prog_43_method_3_code 4 = .ok (.ifCond .eq 15, 3) := by decide +kernel
theorem d8_19 : decode prog_43_method_3_code 19 = .ok (.aload_n 0, 1) := by decide +kernel
theorem d8_20 : decode prog_43_method_3_code 20 = .ok (.areturn, 1) := by decide +kernel
def Q_voN_ (Z : State)  (h0 : Heap) (n0 : Nat) (rv_ : Option Value) (rh_ : Heap) (rL_ : List Loc) : Prop := (rv_ = some .null) ∧ (Fr n0 rL_) ∧ (rh_ = h0)
set_option maxRecDepth 65536 in
set_option maxHeartbeats 40000000 in
theorem voN_ (l : Launch) (Z : State) (a0 : Array Value) (hw : ∀ d ∈ tables_1, d.before a0 Z = true) (ws : List Jvm.Cond)  (h0 : Heap) (n0 : Nat) (O0 : Old Z n0 h0) :
    MetFree l (⟨"com/example/rowset/rowset/model/SqlValue", "valueOf", "(Ljava/lang/Object;)Ljava/lang/Object;"⟩ : MethodName) (head1 (Jvm.Cond.code (⟨"com/example/rowset/rowset/model/SqlValue", "valueOf", "(Ljava/lang/Object;)Ljava/lang/Object;"⟩ : MethodName) prog_43_method_3_code 2 (some (.object "java/lang/Object")) :: ws) ({ frames := 0, cells := 0, slots := 0, locals := 0 } : Room)) (fun a_ U_ => a_ = #[.null] ∧ Z.Warmed39 U_.vm ∧ U_.heap = h0) (fun _ _ _ _ _ => True) (fun _ U_ o_ U_' => ∃ v_ L_, o_ = .returned v_ ∧ Q_voN_ Z  h0 n0 v_ U_'.heap L_ ∧ FrameEnd U_ o_ U_' L_ ({ frames := 0, cells := 0, slots := 0, locals := 0 } : Room).cells ({ frames := 0, cells := 0, slots := 0, locals := 0 } : Room).slots) := by
  refine MetFree.of_bodySF (plainFor_of_name pn_84123379) hisR ?_
  intro p e s m args below meth c s₁ Bd hml0 hP0 hK
  obtain ⟨rfl, hZ, hh⟩ := hP0
  have hx := Bd.exec
  have hby := Bd.bytes
  have hml : c.maxLocals = 2 := hml0
  have hown : s.vm.findClass "com/example/rowset/rowset/model/SqlValue" = some m.cls := findClass_of_methodNamed Bd.named
  have hnm := (name_of_methodNamed Bd.named Bd.method).1
  have X0 : Stand p l e ({ frames := 0, cells := 0, slots := 0, locals := 0 } : Room) s m #[.null] below meth c s₁ [] 0 0 := Stand.of_body Bd
  have e0 : s₁.heap = h0 := by rw [← hh, Bd.state]; rfl
  have N0 := Fr.nil n0
  obtain ⟨P, hP, R0⟩ : ∃ P : State → Prop, (∀ t_, P t_ → Steps p.tables e below (s₁.setTop (entryFrame m #[.null] 2)) t_) ∧ Go p e below P s₁ (mkF m 0 #[.val .null, .unset] []) := ⟨_, fun _ h => h, fun t_ k_ => castTop (ef_voN_ m) k_⟩
  have R60 : Go p e below P s₁ (mkF m 1 #[.val .null, .unset] [.null]) := fun t_ k_ => R0 t_ (XS.aloadN X0.here hx rfl (hb hby d8_0) rfl rfl k_)
  have R61 : Go p e below P s₁ (mkF m 4 #[.val .null, .unset] [(.int (0 : Int32))]) := fun t_ k_ => R60 t_ (X0.instanceofNull hx (g := (mkF m 1 #[.val .null, .unset] [.null])) rfl rfl (hb hby d8_1) t_ k_)
  have R62 : Go p e below P s₁ (mkF m 19 #[.val .null, .unset] []) := fun t_ k_ => R61 t_ (XS.ifYes X0.here hx rfl (pc0 := 4) (pc' := 19) rfl (hb hby d8_4) rfl ((if0 _ _).trans (teq rfl).1) (by decide) (by decide) k_)
  have R63 : Go p e below P s₁ (mkF m 20 #[.val .null, .unset] [.null]) := fun t_ k_ => R62 t_ (XS.aloadN X0.here hx rfl (hb hby d8_19) rfl rfl k_)
  obtain ⟨fs, hr, hrun, hended, hW, hsame⟩ := X0.leave (v := some .null) (fun h => by rw [Bd.returns] at h; cases h)
  exact ⟨_, _, hP _ (R63 _ (retOut X0 hx Bd.returns rfl (Or.inr (Or.inr (Or.inr (Or.inr ⟨rfl, rfl, rfl⟩)))) (hb hby d8_20) hr)), hrun, hended, _, _, rfl, ⟨rfl, N0, e0⟩, ⟨_, rfl⟩, hW, hsame.mono (by decide) (by decide)⟩
theorem ef_voI_ (m : MethodId) (x0 : Addr) : entryFrame m #[(.ref x0)] 2 = mkF m 0 #[.val (.ref x0), .unset] [] := by first | (simp [entryFrame, mkF, argsToLocals, Value.category]; done) | rfl
def Q_voI_ (Z : State) (a : Addr) (h0 : Heap) (n0 : Nat) (rv_ : Option Value) (rh_ : Heap) (rL_ : List Loc) : Prop := (rv_ = some (.ref a)) ∧ (Fr n0 rL_) ∧ (rh_ = h0)
set_option maxRecDepth 65536 in
set_option maxHeartbeats 40000000 in
theorem voI_ (l : Launch) (Z : State) (a0 : Array Value) (hw : ∀ d ∈ tables_1, d.before a0 Z = true) (ws : List Jvm.Cond) (a : Addr) (h0 : Heap) (n0 : Nat) (O0 : Old Z n0 h0) (P0 : Exa Z h0 a "java/lang/Integer") :
    MetFree l (⟨"com/example/rowset/rowset/model/SqlValue", "valueOf", "(Ljava/lang/Object;)Ljava/lang/Object;"⟩ : MethodName) (head1 (Jvm.Cond.code (⟨"com/example/rowset/rowset/model/SqlValue", "valueOf", "(Ljava/lang/Object;)Ljava/lang/Object;"⟩ : MethodName) prog_43_method_3_code 2 (some (.object "java/lang/Object")) :: ws) ({ frames := 0, cells := 0, slots := 0, locals := 0 } : Room)) (fun a_ U_ => a_ = #[(.ref a)] ∧ Z.Warmed39 U_.vm ∧ U_.heap = h0) (fun _ _ _ _ _ => True) (fun _ U_ o_ U_' => ∃ v_ L_, o_ = .returned v_ ∧ Q_voI_ Z a h0 n0 v_ U_'.heap L_ ∧ FrameEnd U_ o_ U_' L_ ({ frames := 0, cells := 0, slots := 0, locals := 0 } : Room).cells ({ frames := 0, cells := 0, slots := 0, locals := 0 } : Room).slots) := by
  refine MetFree.of_bodySF (plainFor_of_name pn_84123379) hisR ?_
  intro p e s m args below meth c s₁ Bd hml0 hP0 hK
  obtain ⟨rfl, hZ, hh⟩ := hP0
  have hx := Bd.exec
  have hby := Bd.bytes
  have hml : c.maxLocals = 2 := hml0
  have hown : s.vm.findClass "com/example/rowset/rowset/model/SqlValue" = some m.cls := findClass_of_methodNamed Bd.named
  have hnm := (name_of_methodNamed Bd.named Bd.method).1
  have X0 : Stand p l e ({ frames := 0, cells := 0, slots := 0, locals := 0 } : Room) s m #[(.ref a)] below meth c s₁ [] 0 0 := Stand.of_body Bd
  have e0 : s₁.heap = h0 := by rw [← hh, Bd.state]; rfl
  have N0 := Fr.nil n0
  obtain ⟨P, hP, R0⟩ : ∃ P : State → Prop, (∀ t_, P t_ → Steps p.tables e below (s₁.setTop (entryFrame m #[(.ref a)] 2)) t_) ∧ Go p e below P s₁ (mkF m 0 #[.val (.ref a), .unset] []) := ⟨_, fun _ h => h, fun t_ k_ => castTop (ef_voI_ m a) k_⟩
  have R64 : Go p e below P s₁ (mkF m 1 #[.val (.ref a), .unset] [(.ref a)]) := fun t_ k_ => R0 t_ (XS.aloadN X0.here hx rfl (hb hby d8_0) rfl rfl k_)
  obtain ⟨T65, X65, e65, st65⟩ := instNo X0 hx hZ hown (hw _ (List.mem_of_getElem? (i := 61) rfl)) e0 P0 (nsNo (hw _ (List.mem_of_getElem? (i := 87) rfl)) (hw _ (List.mem_of_getElem? (i := 54) rfl)) (NS.step (hw _ (List.mem_of_getElem? (i := 87) rfl)) (NS.step (hw _ (List.mem_of_getElem? (i := 88) rfl)) (nsRoot (hw _ (List.mem_of_getElem? (i := 79) rfl)) (hw _ (List.mem_of_getElem? (i := 54) rfl)) (by decide)) (by decide)) (by decide)) (by decide)) (g := (mkF m 1 #[.val (.ref a), .unset] [(.ref a)])) rfl rfl (hb hby d8_1)
  have R66 : Go p e below P T65 (mkF m 4 #[.val (.ref a), .unset] [(.int (0 : Int32))]) := fun t_ k_ => R64 t_ (st65 t_ k_)
  have R67 : Go p e below P T65 (mkF m 19 #[.val (.ref a), .unset] []) := fun t_ k_ => R66 t_ (XS.ifYes X65.here hx rfl (pc0 := 4) (pc' := 19) rfl (hb hby d8_4) rfl ((if0 _ _).trans (teq rfl).1) (by decide) (by decide) k_)
  have R68 : Go p e below P T65 (mkF m 20 #[.val (.ref a), .unset] [(.ref a)]) := fun t_ k_ => R67 t_ (XS.aloadN X65.here hx rfl (hb hby d8_19) rfl rfl k_)
  obtain ⟨fs, hr, hrun, hended, hW, hsame⟩ := X65.leave (v := some (.ref a)) (fun h => by rw [Bd.returns] at h; cases h)
  exact ⟨_, _, hP _ (R68 _ (retOut X65 hx Bd.returns rfl (Or.inr (Or.inr (Or.inr (Or.inr ⟨rfl, rfl, rfl⟩)))) (hb hby d8_20) hr)), hrun, hended, _, _, rfl, ⟨rfl, N0, e65⟩, ⟨_, rfl⟩, hW, hsame.mono (by decide) (by decide)⟩
theorem ef_voS_ (m : MethodId) (x0 : Addr) : entryFrame m #[(.ref x0)] 2 = mkF m 0 #[.val (.ref x0), .unset] [] := by first | (simp [entryFrame, mkF, argsToLocals, Value.category]; done) | rfl
def Q_voS_ (Z : State) (a : Addr) (h0 : Heap) (n0 : Nat) (rv_ : Option Value) (rh_ : Heap) (rL_ : List Loc) : Prop := (rv_ = some (.ref a)) ∧ (Fr n0 rL_) ∧ (rh_ = h0)
set_option maxRecDepth 65536 in
set_option maxHeartbeats 40000000 in
theorem voS_ (l : Launch) (Z : State) (a0 : Array Value) (hw : ∀ d ∈ tables_1, d.before a0 Z = true) (ws : List Jvm.Cond) (a : Addr) (h0 : Heap) (n0 : Nat) (O0 : Old Z n0 h0) (P0 : Exa Z h0 a "java/lang/String") :
    MetFree l (⟨"com/example/rowset/rowset/model/SqlValue", "valueOf", "(Ljava/lang/Object;)Ljava/lang/Object;"⟩ : MethodName) (head1 (Jvm.Cond.code (⟨"com/example/rowset/rowset/model/SqlValue", "valueOf", "(Ljava/lang/Object;)Ljava/lang/Object;"⟩ : MethodName) prog_43_method_3_code 2 (some (.object "java/lang/Object")) :: ws) ({ frames := 0, cells := 0, slots := 0, locals := 0 } : Room)) (fun a_ U_ => a_ = #[(.ref a)] ∧ Z.Warmed39 U_.vm ∧ U_.heap = h0) (fun _ _ _ _ _ => True) (fun _ U_ o_ U_' => ∃ v_ L_, o_ = .returned v_ ∧ Q_voS_ Z a h0 n0 v_ U_'.heap L_ ∧ FrameEnd U_ o_ U_' L_ ({ frames := 0, cells := 0, slots := 0, locals := 0 } : Room).cells ({ frames := 0, cells := 0, slots := 0, locals := 0 } : Room).slots) := by
  refine MetFree.of_bodySF (plainFor_of_name pn_84123379) hisR ?_
  intro p e s m args below meth c s₁ Bd hml0 hP0 hK
  obtain ⟨rfl, hZ, hh⟩ := hP0
  have hx := Bd.exec
  have hby := Bd.bytes
  have hml : c.maxLocals = 2 := hml0
  have hown : s.vm.findClass "com/example/rowset/rowset/model/SqlValue" = some m.cls := findClass_of_methodNamed Bd.named
  have hnm := (name_of_methodNamed Bd.named Bd.method).1
  have X0 : Stand p l e ({ frames := 0, cells := 0, slots := 0, locals := 0 } : Room) s m #[(.ref a)] below meth c s₁ [] 0 0 := Stand.of_body Bd
  have e0 : s₁.heap = h0 := by rw [← hh, Bd.state]; rfl
  have N0 := Fr.nil n0
  obtain ⟨P, hP, R0⟩ : ∃ P : State → Prop, (∀ t_, P t_ → Steps p.tables e below (s₁.setTop (entryFrame m #[(.ref a)] 2)) t_) ∧ Go p e below P s₁ (mkF m 0 #[.val (.ref a), .unset] []) := ⟨_, fun _ h => h, fun t_ k_ => castTop (ef_voS_ m a) k_⟩
  have R69 : Go p e below P s₁ (mkF m 1 #[.val (.ref a), .unset] [(.ref a)]) := fun t_ k_ => R0 t_ (XS.aloadN X0.here hx rfl (hb hby d8_0) rfl rfl k_)
  obtain ⟨T70, X70, e70, st70⟩ := instNo X0 hx hZ hown (hw _ (List.mem_of_getElem? (i := 61) rfl)) e0 P0 (nsNo (hw _ (List.mem_of_getElem? (i := 78) rfl)) (hw _ (List.mem_of_getElem? (i := 54) rfl)) (NS.step (hw _ (List.mem_of_getElem? (i := 78) rfl)) (nsRoot (hw _ (List.mem_of_getElem? (i := 79) rfl)) (hw _ (List.mem_of_getElem? (i := 54) rfl)) (by decide)) (by decide)) (by decide)) (g := (mkF m 1 #[.val (.ref a), .unset] [(.ref a)])) rfl rfl (hb hby d8_1)
  have R71 : Go p e below P T70 (mkF m 4 #[.val (.ref a), .unset] [(.int (0 : Int32))]) := fun t_ k_ => R69 t_ (st70 t_ k_)
  have R72 : Go p e below P T70 (mkF m 19 #[.val (.ref a), .unset] []) := fun t_ k_ => R71 t_ (XS.ifYes X70.here hx rfl (pc0 := 4) (pc' := 19) rfl (hb hby d8_4) rfl ((if0 _ _).trans (teq rfl).1) (by decide) (by decide) k_)
  have R73 : Go p e below P T70 (mkF m 20 #[.val (.ref a), .unset] [(.ref a)]) := fun t_ k_ => R72 t_ (XS.aloadN X70.here hx rfl (hb hby d8_19) rfl rfl k_)
  obtain ⟨fs, hr, hrun, hended, hW, hsame⟩ := X70.leave (v := some (.ref a)) (fun h => by rw [Bd.returns] at h; cases h)
  exact ⟨_, _, hP _ (R73 _ (retOut X70 hx Bd.returns rfl (Or.inr (Or.inr (Or.inr (Or.inr ⟨rfl, rfl, rfl⟩)))) (hb hby d8_20) hr)), hrun, hended, _, _, rfl, ⟨rfl, N0, e70⟩, ⟨_, rfl⟩, hW, hsame.mono (by decide) (by decide)⟩
theorem ef_voV_ (m : MethodId) (x0 : Addr) : entryFrame m #[(.ref x0)] 2 = mkF m 0 #[.val (.ref x0), .unset] [] := by first | (simp [entryFrame, mkF, argsToLocals, Value.category]; done) | rfl
theorem d8_7 : decode prog_43_method_3_code 7 = .ok (.aload_n 0, 1) := by decide +kernel
theorem d8_8 : decode prog_43_method_3_code 8 = .ok (.checkcast 8, 3) := by decide +kernel
theorem d8_11 : decode prog_43_method_3_code 11 = .ok (.astore_n 1, 1) := by decide +kernel
theorem d8_12 : decode prog_43_method_3_code 12 = .ok (.aload_n 1, 1) := by decide +kernel
theorem d8_13 : decode prog_43_method_3_code 13 = .ok (.getfield 7, 3) := by decide +kernel
theorem d8_16 : decode prog_43_method_3_code 16 = .ok (.goto 4, 3) := by decide +kernel
def Q_voV_ (Z : State) (a : Addr) (u : Value) (h0 : Heap) (n0 : Nat) (rv_ : Option Value) (rh_ : Heap) (rL_ : List Loc) : Prop := (rv_ = some u) ∧ (Fr n0 rL_) ∧ (rh_ = h0)
set_option maxRecDepth 65536 in
set_option maxHeartbeats 40000000 in
theorem voV_ (l : Launch) (Z : State) (a0 : Array Value) (hw : ∀ d ∈ tables_1, d.before a0 Z = true) (ws : List Jvm.Cond) (a : Addr) (u : Value) (h0 : Heap) (n0 : Nat) (O0 : Old Z n0 h0) (P0 : u.isRef = true) (P1 : Exa Z h0 a "com/example/rowset/rowset/model/SqlValue") (P2 : Fld Z h0 a "com/example/rowset/rowset/model/SqlValue" "value" "Ljava/lang/Object;" u) :
    MetFree l (⟨"com/example/rowset/rowset/model/SqlValue", "valueOf", "(Ljava/lang/Object;)Ljava/lang/Object;"⟩ : MethodName) (head1 (Jvm.Cond.code (⟨"com/example/rowset/rowset/model/SqlValue", "valueOf", "(Ljava/lang/Object;)Ljava/lang/Object;"⟩ : MethodName) prog_43_method_3_code 2 (some (.object "java/lang/Object")) :: ws) ({ frames := 0, cells := 0, slots := 0, locals := 0 } : Room)) (fun a_ U_ => a_ = #[(.ref a)] ∧ Z.Warmed39 U_.vm ∧ U_.heap = h0) (fun _ _ _ _ _ => True) (fun _ U_ o_ U_' => ∃ v_ L_, o_ = .returned v_ ∧ Q_voV_ Z a u h0 n0 v_ U_'.heap L_ ∧ FrameEnd U_ o_ U_' L_ ({ frames := 0, cells := 0, slots := 0, locals := 0 } : Room).cells ({ frames := 0, cells := 0, slots := 0, locals := 0 } : Room).slots) := by
  have hu := P0
  refine MetFree.of_bodySF (plainFor_of_name pn_84123379) hisR ?_
  intro p e s m args below meth c s₁ Bd hml0 hP0 hK
  obtain ⟨rfl, hZ, hh⟩ := hP0
  have hx := Bd.exec
  have hby := Bd.bytes
  have hml : c.maxLocals = 2 := hml0
  have hown : s.vm.findClass "com/example/rowset/rowset/model/SqlValue" = some m.cls := findClass_of_methodNamed Bd.named
  have hnm := (name_of_methodNamed Bd.named Bd.method).1
  have X0 : Stand p l e ({ frames := 0, cells := 0, slots := 0, locals := 0 } : Room) s m #[(.ref a)] below meth c s₁ [] 0 0 := Stand.of_body Bd
  have e0 : s₁.heap = h0 := by rw [← hh, Bd.state]; rfl
  have N0 := Fr.nil n0
  obtain ⟨P, hP, R0⟩ : ∃ P : State → Prop, (∀ t_, P t_ → Steps p.tables e below (s₁.setTop (entryFrame m #[(.ref a)] 2)) t_) ∧ Go p e below P s₁ (mkF m 0 #[.val (.ref a), .unset] []) := ⟨_, fun _ h => h, fun t_ k_ => castTop (ef_voV_ m a) k_⟩
  have R74 : Go p e below P s₁ (mkF m 1 #[.val (.ref a), .unset] [(.ref a)]) := fun t_ k_ => R0 t_ (XS.aloadN X0.here hx rfl (hb hby d8_0) rfl rfl k_)
  obtain ⟨T75, X75, e75, st75⟩ := instY X0 hx hZ hown (hw _ (List.mem_of_getElem? (i := 61) rfl)) e0 (Ins.self P1) (g := (mkF m 1 #[.val (.ref a), .unset] [(.ref a)])) rfl rfl (hb hby d8_1)
  have R76 : Go p e below P T75 (mkF m 4 #[.val (.ref a), .unset] [(.int (1 : Int32))]) := fun t_ k_ => R74 t_ (st75 t_ k_)
  have R77 : Go p e below P T75 (mkF m 7 #[.val (.ref a), .unset] []) := fun t_ k_ => R76 t_ (XS.ifNo X75.here hx rfl (hb hby d8_4) rfl ((if0 _ _).trans (feq (by decide : ¬ ((1 : Int32) = (0 : Int32)))).1) k_)
  have R78 : Go p e below P T75 (mkF m 8 #[.val (.ref a), .unset] [(.ref a)]) := fun t_ k_ => R77 t_ (XS.aloadN X75.here hx rfl (hb hby d8_7) rfl rfl k_)
  obtain ⟨T79, X79, e79, st79⟩ := castY X75 hx hZ hown (hw _ (List.mem_of_getElem? (i := 61) rfl)) e75 (Ins.self P1) (g := (mkF m 8 #[.val (.ref a), .unset] [(.ref a)])) rfl rfl (hb hby d8_8)
  have R80 : Go p e below P T79 (mkF m 11 #[.val (.ref a), .unset] [(.ref a)]) := fun t_ k_ => R78 t_ (st79 t_ k_)
  have R81 : Go p e below P T79 (mkF m 12 #[.val (.ref a), .val (.ref a)] []) := fun t_ k_ => R80 t_ (XS.astoreN X79.here hx rfl (hb hby d8_11) rfl rfl (l' := #[.val (.ref a), .val (.ref a)]) rfl k_)
  have R82 : Go p e below P T79 (mkF m 13 #[.val (.ref a), .val (.ref a)] [(.ref a)]) := fun t_ k_ => R81 t_ (XS.aloadN X79.here hx rfl (hb hby d8_12) rfl rfl k_)
  obtain ⟨T83, X83, e83, st83⟩ := getF X79 hx hZ hown (host := "") (Or.inl (hw _ (List.mem_of_getElem? (i := 51) rfl))) Via.refl e79 P2 (g := (mkF m 13 #[.val (.ref a), .val (.ref a)] [(.ref a)])) rfl rfl (hb hby d8_13)
  have R84 : Go p e below P T83 (mkF m 16 #[.val (.ref a), .val (.ref a)] [u]) := fun t_ k_ => R82 t_ (st83 t_ k_)
  have R85 : Go p e below P T83 (mkF m 20 #[.val (.ref a), .val (.ref a)] [u]) := fun t_ k_ => R84 t_ (XS.goto X83.here hx rfl (pc0 := 16) (pc' := 20) rfl (hb hby d8_16) (by decide) (by decide) k_)
  obtain ⟨fs, hr, hrun, hended, hW, hsame⟩ := X83.leave (v := some u) (fun h => by rw [Bd.returns] at h; cases h)
  exact ⟨_, _, hP _ (R85 _ (retOut X83 hx Bd.returns (ownNarRef hu) (Or.inr (Or.inr (Or.inr (Or.inr ⟨rfl, rfl, hu⟩)))) (hb hby d8_20) hr)), hrun, hended, _, _, rfl, ⟨rfl, N0, e83⟩, ⟨_, rfl⟩, hW, hsame.mono (by decide) (by decide)⟩
theorem pn_47582652 : plainName "java/lang/String" = true := by first | (simp [plainName, overriddenIn]; done) | decide +kernel
theorem ef_strT_ (m : MethodId) (x0 : Addr) : entryFrame m #[(.ref x0)] 1 = mkF m 0 #[.val (.ref x0)] [] := by first | (simp [entryFrame, mkF, argsToLocals, Value.category]; done) | rfl
theorem d14_0 : decode jdk_42_method_126_code 0 = .ok (.aload_n 0, 1) := by decide +kernel
theorem d14_1 : decode jdk_42_method_126_code 1 = .ok (.areturn, 1) := by decide +kernel
def Q_strT_ (Z : State) (a : Addr) (h0 : Heap) (n0 : Nat) (rv_ : Option Value) (rh_ : Heap) (rL_ : List Loc) : Prop := (rv_ = some (.ref a)) ∧ (Fr n0 rL_) ∧ (rh_ = h0)
set_option maxRecDepth 65536 in
set_option maxHeartbeats 40000000 in
theorem strT_ (l : Launch) (Z : State) (a0 : Array Value) (hw : ∀ d ∈ tables_1, d.before a0 Z = true) (ws : List Jvm.Cond) (a : Addr) (h0 : Heap) (n0 : Nat) (O0 : Old Z n0 h0) :
    MetFree l (⟨"java/lang/String", "toString", "()Ljava/lang/String;"⟩ : MethodName) (head1 (Jvm.Cond.code (⟨"java/lang/String", "toString", "()Ljava/lang/String;"⟩ : MethodName) jdk_42_method_126_code 1 (some (.object "java/lang/String")) :: ws) ({ frames := 0, cells := 0, slots := 0, locals := 0 } : Room)) (fun a_ U_ => a_ = #[(.ref a)] ∧ Z.Warmed39 U_.vm ∧ U_.heap = h0) (fun _ _ _ _ _ => True) (fun _ U_ o_ U_' => ∃ v_ L_, o_ = .returned v_ ∧ Q_strT_ Z a h0 n0 v_ U_'.heap L_ ∧ FrameEnd U_ o_ U_' L_ ({ frames := 0, cells := 0, slots := 0, locals := 0 } : Room).cells ({ frames := 0, cells := 0, slots := 0, locals := 0 } : Room).slots) := by
  refine MetFree.of_bodySF (plainFor_of_name pn_47582652) hisR ?_
  intro p e s m args below meth c s₁ Bd hml0 hP0 hK
  obtain ⟨rfl, hZ, hh⟩ := hP0
  have hx := Bd.exec
  have hby := Bd.bytes
  have hml : c.maxLocals = 1 := hml0
  have hown : s.vm.findClass "java/lang/String" = some m.cls := findClass_of_methodNamed Bd.named
  have hnm := (name_of_methodNamed Bd.named Bd.method).1
  have X0 : Stand p l e ({ frames := 0, cells := 0, slots := 0, locals := 0 } : Room) s m #[(.ref a)] below meth c s₁ [] 0 0 := Stand.of_body Bd
  have e0 : s₁.heap = h0 := by rw [← hh, Bd.state]; rfl
  have N0 := Fr.nil n0
  obtain ⟨P, hP, R0⟩ : ∃ P : State → Prop, (∀ t_, P t_ → Steps p.tables e below (s₁.setTop (entryFrame m #[(.ref a)] 1)) t_) ∧ Go p e below P s₁ (mkF m 0 #[.val (.ref a)] []) := ⟨_, fun _ h => h, fun t_ k_ => castTop (ef_strT_ m a) k_⟩
  have R86 : Go p e below P s₁ (mkF m 1 #[.val (.ref a)] [(.ref a)]) := fun t_ k_ => R0 t_ (XS.aloadN X0.here hx rfl (hb hby d14_0) rfl rfl k_)
  obtain ⟨fs, hr, hrun, hended, hW, hsame⟩ := X0.leave (v := some (.ref a)) (fun h => by rw [Bd.returns] at h; cases h)
  exact ⟨_, _, hP _ (R86 _ (retOut X0 hx Bd.returns rfl (Or.inr (Or.inr (Or.inr (Or.inr ⟨rfl, rfl, rfl⟩)))) (hb hby d14_1) hr)), hrun, hended, _, _, rfl, ⟨rfl, N0, e0⟩, ⟨_, rfl⟩, hW, hsame.mono (by decide) (by decide)⟩
theorem ef_intT_ (m : MethodId) (x0 : Addr) : entryFrame m #[(.ref x0)] 1 = mkF m 0 #[.val (.ref x0)] [] := by first | (simp [entryFrame, mkF, argsToLocals, Value.category]; done) | rfl
theorem d15_0 : decode jdk_33_method_31_code 0 = .ok (.aload_n 0, 1) := by decide +kernel
theorem d15_1 : decode jdk_33_method_31_code 1 = .ok (.getfield 205, 3) := by decide +kernel
theorem d15_4 : decode jdk_33_method_31_code 4 = .ok (.invokestatic 9, 3) := by decide +kernel
theorem pd_78731567 : parseMethodDescriptor "(I)Ljava/lang/String;" = some ⟨[.int], some (.object "java/lang/String")⟩ := by decide +kernel
theorem d15_7 : decode jdk_33_method_31_code 7 = .ok (.areturn, 1) := by decide +kernel
def Q_intT_ (Z : State) (a : Addr) (v : Int32) (zc : Int32) (st : Addr) (d1 : Addr) (D1 : Cell) (d2 : Addr) (D2 : Cell) (h0 : Heap) (n0 : Nat) (rv_ : Option Value) (rh_ : Heap) (rL_ : List Loc) : Prop := ∃ x : Addr, (rv_ = some (.ref x)) ∧ (Fr n0 rL_) ∧ (Keep h0 rh_ []) ∧ (h0.size ≤ x)
set_option maxRecDepth 65536 in
set_option maxHeartbeats 40000000 in
theorem intT_ (l : Launch) (Z : State) (a0 : Array Value) (hw : ∀ d ∈ tables_1, d.before a0 Z = true) (ws : List Jvm.Cond) (a : Addr) (v : Int32) (zc : Int32) (st : Addr) (d1 : Addr) (D1 : Cell) (d2 : Addr) (D2 : Cell) (h0 : Heap) (n0 : Nat) (O0 : Old Z n0 h0) (P0 : Fld Z h0 a "java/lang/Integer" "value" "I" (.int v)) (P1 : Sta Z Z.heap "java/lang/String" "COMPACT_STRINGS" "Z" (.int zc)) (P2 : ¬ zc = 0) (P3 : Jvm.Free.SBG.Tbl Z "DigitOnes" st d1 D1) (P4 : Jvm.Free.SBG.Tbl Z "DigitTens" st d2 D2) :
    MetFree l (⟨"java/lang/Integer", "toString", "()Ljava/lang/String;"⟩ : MethodName) (head1 (Jvm.Cond.code (⟨"java/lang/Integer", "toString", "()Ljava/lang/String;"⟩ : MethodName) jdk_33_method_31_code 1 (some (.object "java/lang/String")) :: ws) ({ frames := 4, cells := 2, slots := 15, locals := 134 } : Room)) (fun a_ U_ => a_ = #[(.ref a)] ∧ Z.Warmed39 U_.vm ∧ U_.heap = h0) (fun _ _ _ _ _ => True) (fun _ U_ o_ U_' => ∃ v_ L_, o_ = .returned v_ ∧ Q_intT_ Z a v zc st d1 D1 d2 D2 h0 n0 v_ U_'.heap L_ ∧ FrameEnd U_ o_ U_' L_ ({ frames := 4, cells := 2, slots := 15, locals := 134 } : Room).cells ({ frames := 4, cells := 2, slots := 15, locals := 134 } : Room).slots) := by
  have hzc := P2
  have hT1 := P3
  have hT2 := P4
  refine MetFree.of_bodySF (plainFor_of_name pn_33830251) hisR ?_
  intro p e s m args below meth c s₁ Bd hml0 hP0 hK
  obtain ⟨rfl, hZ, hh⟩ := hP0
  have hx := Bd.exec
  have hby := Bd.bytes
  have hml : c.maxLocals = 1 := hml0
  have hown : s.vm.findClass "java/lang/Integer" = some m.cls := findClass_of_methodNamed Bd.named
  have hnm := (name_of_methodNamed Bd.named Bd.method).1
  have X0 : Stand p l e ({ frames := 4, cells := 2, slots := 15, locals := 134 } : Room) s m #[(.ref a)] below meth c s₁ [] 0 0 := Stand.of_body Bd
  have e0 : s₁.heap = h0 := by rw [← hh, Bd.state]; rfl
  have N0 := Fr.nil n0
  obtain ⟨P, hP, R0⟩ : ∃ P : State → Prop, (∀ t_, P t_ → Steps p.tables e below (s₁.setTop (entryFrame m #[(.ref a)] 1)) t_) ∧ Go p e below P s₁ (mkF m 0 #[.val (.ref a)] []) := ⟨_, fun _ h => h, fun t_ k_ => castTop (ef_intT_ m a) k_⟩
  have R87 : Go p e below P s₁ (mkF m 1 #[.val (.ref a)] [(.ref a)]) := fun t_ k_ => R0 t_ (XS.aloadN X0.here hx rfl (hb hby d15_0) rfl rfl k_)
  obtain ⟨T88, X88, e88, st88⟩ := getF X0 hx hZ hown (host := "") (Or.inl (hw _ (List.mem_of_getElem? (i := 76) rfl))) Via.refl e0 P0 (g := (mkF m 1 #[.val (.ref a)] [(.ref a)])) rfl rfl (hb hby d15_1)
  have R89 : Go p e below P T88 (mkF m 4 #[.val (.ref a)] [(.int v)]) := fun t_ k_ => R87 t_ (st88 t_ k_)
  obtain ⟨rv90, _, ⟨T90, L90, k90, n90⟩, -, X90, ⟨Lc90, hQ90, l90, y90, z90⟩, st90⟩ := Jvm.LawKit.callS X88 hx (y := (⟨"java/lang/Integer", "toString", "(I)Ljava/lang/String;"⟩ : MethodName)) hown (mvT hZ (hw _ (List.mem_of_getElem? (i := 92) rfl))) (mvT hZ (hw _ (List.mem_of_getElem? (i := 93) rfl))) (mvT hZ (hw _ (List.mem_of_getElem? (i := 32) rfl))) (mvT hZ (hw _ (List.mem_of_getElem? (i := 94) rfl))) (by decide) (itsBack (W := 0) hZ hw (hw _ (List.mem_of_getElem? (i := 19) rfl)) O0 P1 hzc hT1 hT2 (by decide) (by decide)) (g := (mkF m 4 #[.val (.ref a)] [(.int v)])) rfl (by rw [hml]; rfl) (argsL := [(.int v)]) (rest := []) (lenOf pd_78731567 rfl) rfl (by show 2 * 0 + _ ≤ _; exact Nat.le_of_eq rfl) (hb hby d15_4) (fun _ _ => ⟨rfl, e88, (by decide : 0 + 2 ≤ _), (by decide : 0 + 15 ≤ _)⟩)
  dsimp only [Pt.U, Pt.locs, Pt.cells, Pt.slots] at X90 l90 y90 z90 st90 hQ90
  subst l90 y90 z90
  obtain ⟨rfl, N90q, K90⟩ := hQ90
  have N90 := Fr.app N0 N90q
  have O90 := O0.keep K90 all0
  have R91 : Go p e below P T90 (mkF m 7 #[.val (.ref a)] [(.ref (h0.size + 1))]) := fun t_ k_ => R89 t_ (st90 t_ k_)
  obtain ⟨fs, hr, hrun, hended, hW, hsame⟩ := X90.leave (v := some (.ref (h0.size + 1))) (fun h => by rw [Bd.returns] at h; cases h)
  exact ⟨_, _, hP _ (R91 _ (retOut X90 hx Bd.returns rfl (Or.inr (Or.inr (Or.inr (Or.inr ⟨rfl, rfl, rfl⟩)))) (hb hby d15_7) hr)), hrun, hended, _, _, rfl, ⟨(h0.size + 1), rfl, N90, ((Keep.refl h0 []).trans K90 all0), (Nat.le_succ h0.size)⟩, ⟨_, rfl⟩, hW, hsame.mono (by decide) (by decide)⟩
theorem ef_ofN_ (m : MethodId)  : entryFrame m #[.null] 3 = mkF m 0 #[.val .null, .unset, .unset] [] := by first | (simp [entryFrame, mkF, argsToLocals, Value.category]; done) | rfl
theorem d9_0 : decode prog_43_method_2_code 0 = .ok (.aload_n 0, 1) := by decide +kernel
theorem d9_1 : decode prog_43_method_2_code 1 = .ok (.ifnonnull 10, 3) := by decide +kernel
theorem d9_4 : decode prog_43_method_2_code 4 = .ok (.getstatic 17, 3) := by decide +kernel
theorem d9_7 : decode prog_43_method_2_code 7 = .ok (.astore_n 1, 1) := by decide +kernel
theorem d9_8 : decode prog_43_method_2_code 8 = .ok (.goto 33, 3) := by decide +kernel
theorem d9_41 : decode prog_43_method_2_code 41 = .ok (.aload_n 1, 1) := by decide +kernel
theorem d9_42 : decode prog_43_method_2_code 42 = .ok (.areturn, 1) := by decide +kernel
def Q_ofN_ (Z : State) (wN : Addr) (h0 : Heap) (n0 : Nat) (rv_ : Option Value) (rh_ : Heap) (rL_ : List Loc) : Prop := (rv_ = some (.ref wN)) ∧ (Fr n0 rL_) ∧ (rh_ = h0)
set_option maxRecDepth 65536 in
set_option maxHeartbeats 40000000 in
theorem ofN_ (l : Launch) (Z : State) (a0 : Array Value) (hw : ∀ d ∈ tables_1, d.before a0 Z = true) (ws : List Jvm.Cond) (wN : Addr) (h0 : Heap) (n0 : Nat) (O0 : Old Z n0 h0) (P0 : Sta Z Z.heap "com/example/rowset/rowset/model/SqlValue" "NULL" "Lcom/example/rowset/rowset/model/SqlValue;" (.ref wN)) :
    MetFree l (⟨"com/example/rowset/rowset/model/SqlValue", "of", "(Ljava/lang/Object;)Lcom/example/rowset/rowset/model/SqlValue;"⟩ : MethodName) (head1 (Jvm.Cond.code (⟨"com/example/rowset/rowset/model/SqlValue", "of", "(Ljava/lang/Object;)Lcom/example/rowset/rowset/model/SqlValue;"⟩ : MethodName) prog_43_method_2_code 3 (some (.object "com/example/rowset/rowset/model/SqlValue")) :: ws) ({ frames := 0, cells := 0, slots := 0, locals := 0 } : Room)) (fun a_ U_ => a_ = #[.null] ∧ Z.Warmed39 U_.vm ∧ U_.heap = h0) (fun _ _ _ _ _ => True) (fun _ U_ o_ U_' => ∃ v_ L_, o_ = .returned v_ ∧ Q_ofN_ Z wN h0 n0 v_ U_'.heap L_ ∧ FrameEnd U_ o_ U_' L_ ({ frames := 0, cells := 0, slots := 0, locals := 0 } : Room).cells ({ frames := 0, cells := 0, slots := 0, locals := 0 } : Room).slots) := by
  refine MetFree.of_bodySF (plainFor_of_name pn_84123379) hisR ?_
  intro p e s m args below meth c s₁ Bd hml0 hP0 hK
  obtain ⟨rfl, hZ, hh⟩ := hP0
  have hx := Bd.exec
  have hby := Bd.bytes
  have hml : c.maxLocals = 3 := hml0
  have hown : s.vm.findClass "com/example/rowset/rowset/model/SqlValue" = some m.cls := findClass_of_methodNamed Bd.named
  have hnm := (name_of_methodNamed Bd.named Bd.method).1
  have X0 : Stand p l e ({ frames := 0, cells := 0, slots := 0, locals := 0 } : Room) s m #[.null] below meth c s₁ [] 0 0 := Stand.of_body Bd
  have e0 : s₁.heap = h0 := by rw [← hh, Bd.state]; rfl
  have N0 := Fr.nil n0
  obtain ⟨P, hP, R0⟩ : ∃ P : State → Prop, (∀ t_, P t_ → Steps p.tables e below (s₁.setTop (entryFrame m #[.null] 3)) t_) ∧ Go p e below P s₁ (mkF m 0 #[.val .null, .unset, .unset] []) := ⟨_, fun _ h => h, fun t_ k_ => castTop (ef_ofN_ m) k_⟩
  have R92 : Go p e below P s₁ (mkF m 1 #[.val .null, .unset, .unset] [.null]) := fun t_ k_ => R0 t_ (XS.aloadN X0.here hx rfl (hb hby d9_0) rfl rfl k_)
  have R93 : Go p e below P s₁ (mkF m 4 #[.val .null, .unset, .unset] []) := fun t_ k_ => R92 t_ (XS.ifnonnullNo X0.here hx rfl (hb hby d9_1) rfl k_)
  obtain ⟨T94, X94, e94, st94⟩ := getS2 X0 hx hZ hown (host := "") (Or.inl (hw _ (List.mem_of_getElem? (i := 44) rfl))) Via.refl e0 (P0.ext O0.2) (g := (mkF m 4 #[.val .null, .unset, .unset] [])) rfl (hb hby d9_4)
  have R95 : Go p e below P T94 (mkF m 7 #[.val .null, .unset, .unset] [(.ref wN)]) := fun t_ k_ => R93 t_ (st94 t_ k_)
  have R96 : Go p e below P T94 (mkF m 8 #[.val .null, .val (.ref wN), .unset] []) := fun t_ k_ => R95 t_ (XS.astoreN X94.here hx rfl (hb hby d9_7) rfl rfl (l' := #[.val .null, .val (.ref wN), .unset]) rfl k_)
  have R97 : Go p e below P T94 (mkF m 41 #[.val .null, .val (.ref wN), .unset] []) := fun t_ k_ => R96 t_ (XS.goto X94.here hx rfl (pc0 := 8) (pc' := 41) rfl (hb hby d9_8) (by decide) (by decide) k_)
  have R98 : Go p e below P T94 (mkF m 42 #[.val .null, .val (.ref wN), .unset] [(.ref wN)]) := fun t_ k_ => R97 t_ (XS.aloadN X94.here hx rfl (hb hby d9_41) rfl rfl k_)
  obtain ⟨fs, hr, hrun, hended, hW, hsame⟩ := X94.leave (v := some (.ref wN)) (fun h => by rw [Bd.returns] at h; cases h)
  exact ⟨_, _, hP _ (R98 _ (retOut X94 hx Bd.returns rfl (Or.inr (Or.inr (Or.inr (Or.inr ⟨rfl, rfl, rfl⟩)))) (hb hby d9_42) hr)), hrun, hended, _, _, rfl, ⟨rfl, N0, e94⟩, ⟨_, rfl⟩, hW, hsame.mono (by decide) (by decide)⟩
theorem ef_ofV_ (m : MethodId) (x0 : Addr) : entryFrame m #[(.ref x0)] 3 = mkF m 0 #[.val (.ref x0), .unset, .unset] [] := by first | (simp [entryFrame, mkF, argsToLocals, Value.category]; done) | rfl
theorem d9_11 : decode prog_43_method_2_code 11 = .ok (.aload_n 0, 1) := by decide +kernel
theorem d9_12 : decode prog_43_method_2_code 12 = .ok (.instanceof 8, 3) := by decide +kernel
theorem d9_15 : decode prog_43_method_2_code 15 = .ok (.ifCond .eq 13, 3) := by decide +kernel
theorem d9_18 : decode prog_43_method_2_code 18 = .ok (.aload_n 0, 1) := by decide +kernel
theorem d9_19 : decode prog_43_method_2_code 19 = .ok (.checkcast 8, 3) := by decide +kernel
theorem d9_22 : decode prog_43_method_2_code 22 = .ok (.astore_n 2, 1) := by decide +kernel
theorem d9_23 : decode prog_43_method_2_code 23 = .ok (.aload_n 2, 1) := by decide +kernel
theorem d9_24 : decode prog_43_method_2_code 24 = .ok (.astore_n 1, 1) := by decide +kernel
theorem d9_25 : decode prog_43_method_2_code 25 = .ok (.goto 16, 3) := by decide +kernel
def Q_ofV_ (Z : State) (a : Addr) (h0 : Heap) (n0 : Nat) (rv_ : Option Value) (rh_ : Heap) (rL_ : List Loc) : Prop := (rv_ = some (.ref a)) ∧ (Fr n0 rL_) ∧ (rh_ = h0)
set_option maxRecDepth 65536 in
set_option maxHeartbeats 40000000 in
theorem ofV_ (l : Launch) (Z : State) (a0 : Array Value) (hw : ∀ d ∈ tables_1, d.before a0 Z = true) (ws : List Jvm.Cond) (a : Addr) (h0 : Heap) (n0 : Nat) (O0 : Old Z n0 h0) (P0 : Exa Z h0 a "com/example/rowset/rowset/model/SqlValue") :
    MetFree l (⟨"com/example/rowset/rowset/model/SqlValue", "of", "(Ljava/lang/Object;)Lcom/example/rowset/rowset/model/SqlValue;"⟩ : MethodName) (head1 (Jvm.Cond.code (⟨"com/example/rowset/rowset/model/SqlValue", "of", "(Ljava/lang/Object;)Lcom/example/rowset/rowset/model/SqlValue;"⟩ : MethodName) prog_43_method_2_code 3 (some (.object "com/example/rowset/rowset/model/SqlValue")) :: ws) ({ frames := 0, cells := 0, slots := 0, locals := 0 } : Room)) (fun a_ U_ => a_ = #[(.ref a)] ∧ Z.Warmed39 U_.vm ∧ U_.heap = h0) (fun _ _ _ _ _ => True) (fun _ U_ o_ U_' => ∃ v_ L_, o_ = .returned v_ ∧ Q_ofV_ Z a h0 n0 v_ U_'.heap L_ ∧ FrameEnd U_ o_ U_' L_ ({ frames := 0, cells := 0, slots := 0, locals := 0 } : Room).cells ({ frames := 0, cells := 0, slots := 0, locals := 0 } : Room).slots) := by
  refine MetFree.of_bodySF (plainFor_of_name pn_84123379) hisR ?_
  intro p e s m args below meth c s₁ Bd hml0 hP0 hK
  obtain ⟨rfl, hZ, hh⟩ := hP0
  have hx := Bd.exec
  have hby := Bd.bytes
  have hml : c.maxLocals = 3 := hml0
  have hown : s.vm.findClass "com/example/rowset/rowset/model/SqlValue" = some m.cls := findClass_of_methodNamed Bd.named
  have hnm := (name_of_methodNamed Bd.named Bd.method).1
  have X0 : Stand p l e ({ frames := 0, cells := 0, slots := 0, locals := 0 } : Room) s m #[(.ref a)] below meth c s₁ [] 0 0 := Stand.of_body Bd
  have e0 : s₁.heap = h0 := by rw [← hh, Bd.state]; rfl
  have N0 := Fr.nil n0
  obtain ⟨P, hP, R0⟩ : ∃ P : State → Prop, (∀ t_, P t_ → Steps p.tables e below (s₁.setTop (entryFrame m #[(.ref a)] 3)) t_) ∧ Go p e below P s₁ (mkF m 0 #[.val (.ref a), .unset, .unset] []) := ⟨_, fun _ h => h, fun t_ k_ => castTop (ef_ofV_ m a) k_⟩
  have R99 : Go p e below P s₁ (mkF m 1 #[.val (.ref a), .unset, .unset] [(.ref a)]) := fun t_ k_ => R0 t_ (XS.aloadN X0.here hx rfl (hb hby d9_0) rfl rfl k_)
  have R100 : Go p e below P s₁ (mkF m 11 #[.val (.ref a), .unset, .unset] []) := fun t_ k_ => R99 t_ (XS.ifnonnullYes X0.here hx rfl (pc0 := 1) (pc' := 11) rfl (hb hby d9_1) rfl (by decide) (by decide) k_)
  have R101 : Go p e below P s₁ (mkF m 12 #[.val (.ref a), .unset, .unset] [(.ref a)]) := fun t_ k_ => R100 t_ (XS.aloadN X0.here hx rfl (hb hby d9_11) rfl rfl k_)
  obtain ⟨T102, X102, e102, st102⟩ := instY X0 hx hZ hown (hw _ (List.mem_of_getElem? (i := 61) rfl)) e0 (Ins.self P0) (g := (mkF m 12 #[.val (.ref a), .unset, .unset] [(.ref a)])) rfl rfl (hb hby d9_12)
  have R103 : Go p e below P T102 (mkF m 15 #[.val (.ref a), .unset, .unset] [(.int (1 : Int32))]) := fun t_ k_ => R101 t_ (st102 t_ k_)
  have R104 : Go p e below P T102 (mkF m 18 #[.val (.ref a), .unset, .unset] []) := fun t_ k_ => R103 t_ (XS.ifNo X102.here hx rfl (hb hby d9_15) rfl ((if0 _ _).trans (feq (by decide : ¬ ((1 : Int32) = (0 : Int32)))).1) k_)
  have R105 : Go p e below P T102 (mkF m 19 #[.val (.ref a), .unset, .unset] [(.ref a)]) := fun t_ k_ => R104 t_ (XS.aloadN X102.here hx rfl (hb hby d9_18) rfl rfl k_)
  obtain ⟨T106, X106, e106, st106⟩ := castY X102 hx hZ hown (hw _ (List.mem_of_getElem? (i := 61) rfl)) e102 (Ins.self P0) (g := (mkF m 19 #[.val (.ref a), .unset, .unset] [(.ref a)])) rfl rfl (hb hby d9_19)
  have R107 : Go p e below P T106 (mkF m 22 #[.val (.ref a), .unset, .unset] [(.ref a)]) := fun t_ k_ => R105 t_ (st106 t_ k_)
  have R108 : Go p e below P T106 (mkF m 23 #[.val (.ref a), .unset, .val (.ref a)] []) := fun t_ k_ => R107 t_ (XS.astoreN X106.here hx rfl (hb hby d9_22) rfl rfl (l' := #[.val (.ref a), .unset, .val (.ref a)]) rfl k_)
  have R109 : Go p e below P T106 (mkF m 24 #[.val (.ref a), .unset, .val (.ref a)] [(.ref a)]) := fun t_ k_ => R108 t_ (XS.aloadN X106.here hx rfl (hb hby d9_23) rfl rfl k_)
  have R110 : Go p e below P T106 (mkF m 25 #[.val (.ref a), .val (.ref a), .val (.ref a)] []) := fun t_ k_ => R109 t_ (XS.astoreN X106.here hx rfl (hb hby d9_24) rfl rfl (l' := #[.val (.ref a), .val (.ref a), .val (.ref a)]) rfl k_)
  have R111 : Go p e below P T106 (mkF m 41 #[.val (.ref a), .val (.ref a), .val (.ref a)] []) := fun t_ k_ => R110 t_ (XS.goto X106.here hx rfl (pc0 := 25) (pc' := 41) rfl (hb hby d9_25) (by decide) (by decide) k_)
  have R112 : Go p e below P T106 (mkF m 42 #[.val (.ref a), .val (.ref a), .val (.ref a)] [(.ref a)]) := fun t_ k_ => R111 t_ (XS.aloadN X106.here hx rfl (hb hby d9_41) rfl rfl k_)
  obtain ⟨fs, hr, hrun, hended, hW, hsame⟩ := X106.leave (v := some (.ref a)) (fun h => by rw [Bd.returns] at h; cases h)
  exact ⟨_, _, hP _ (R112 _ (retOut X106 hx Bd.returns rfl (Or.inr (Or.inr (Or.inr (Or.inr ⟨rfl, rfl, rfl⟩)))) (hb hby d9_42) hr)), hrun, hended, _, _, rfl, ⟨rfl, N0, e106⟩, ⟨_, rfl⟩, hW, hsame.mono (by decide) (by decide)⟩
theorem ef_ofS_ (m : MethodId) (x0 : Addr) : entryFrame m #[(.ref x0)] 3 = mkF m 0 #[.val (.ref x0), .unset, .unset] [] := by first | (simp [entryFrame, mkF, argsToLocals, Value.category]; done) | rfl
theorem d9_28 : decode prog_43_method_2_code 28 = .ok (.new 8, 3) := by decide +kernel
theorem d9_31 : decode prog_43_method_2_code 31 = .ok (.dup, 1) := by decide +kernel
theorem d9_32 : decode prog_43_method_2_code 32 = .ok (.aload_n 0, 1) := by decide +kernel
theorem d9_33 : decode prog_43_method_2_code 33 = .ok (.aload_n 0, 1) := by decide +kernel
theorem d9_34 : decode prog_43_method_2_code 34 = .ok (.invokevirtual 21, 3) := by decide +kernel
theorem pd_14309214 : parseMethodDescriptor "()Ljava/lang/String;" = some ⟨[], some (.object "java/lang/String")⟩ := by decide +kernel
theorem d9_37 : decode prog_43_method_2_code 37 = .ok (.invokespecial 25, 3) := by decide +kernel
theorem pd_44503560 : parseMethodDescriptor "(Ljava/lang/Object;Ljava/lang/String;)V" = some ⟨[(.object "java/lang/Object"), (.object "java/lang/String")], none⟩ := by decide +kernel
theorem d9_40 : decode prog_43_method_2_code 40 = .ok (.astore_n 1, 1) := by decide +kernel
def Q_ofS_ (Z : State) (a : Addr) (h0 : Heap) (n0 : Nat) (rv_ : Option Value) (rh_ : Heap) (rL_ : List Loc) : Prop := ∃ x : Addr, (rv_ = some (.ref x)) ∧ (Fr n0 rL_) ∧ (Keep h0 rh_ []) ∧ (h0.size ≤ x) ∧ (Exa Z rh_ x "com/example/rowset/rowset/model/SqlValue") ∧ (Fld Z rh_ x "com/example/rowset/rowset/model/SqlValue" "value" "Ljava/lang/Object;" (.ref a))
set_option maxRecDepth 65536 in
set_option maxHeartbeats 40000000 in
theorem ofS_ (l : Launch) (Z : State) (a0 : Array Value) (hw : ∀ d ∈ tables_1, d.before a0 Z = true) (ws : List Jvm.Cond) (a : Addr) (h0 : Heap) (n0 : Nat) (O0 : Old Z n0 h0) (P0 : Exa Z h0 a "java/lang/String") :
    MetFree l (⟨"com/example/rowset/rowset/model/SqlValue", "of", "(Ljava/lang/Object;)Lcom/example/rowset/rowset/model/SqlValue;"⟩ : MethodName) (head1 (Jvm.Cond.code (⟨"com/example/rowset/rowset/model/SqlValue", "of", "(Ljava/lang/Object;)Lcom/example/rowset/rowset/model/SqlValue;"⟩ : MethodName) prog_43_method_2_code 3 (some (.object "com/example/rowset/rowset/model/SqlValue")) :: ws) ({ frames := 2, cells := 1, slots := 2, locals := 27 } : Room)) (fun a_ U_ => a_ = #[(.ref a)] ∧ Z.Warmed39 U_.vm ∧ U_.heap = h0) (fun _ _ _ _ _ => True) (fun _ U_ o_ U_' => ∃ v_ L_, o_ = .returned v_ ∧ Q_ofS_ Z a h0 n0 v_ U_'.heap L_ ∧ FrameEnd U_ o_ U_' L_ ({ frames := 2, cells := 1, slots := 2, locals := 27 } : Room).cells ({ frames := 2, cells := 1, slots := 2, locals := 27 } : Room).slots) := by
  refine MetFree.of_bodySF (plainFor_of_name pn_84123379) hisR ?_
  intro p e s m args below meth c s₁ Bd hml0 hP0 hK
  obtain ⟨rfl, hZ, hh⟩ := hP0
  have hx := Bd.exec
  have hby := Bd.bytes
  have hml : c.maxLocals = 3 := hml0
  have hown : s.vm.findClass "com/example/rowset/rowset/model/SqlValue" = some m.cls := findClass_of_methodNamed Bd.named
  have hnm := (name_of_methodNamed Bd.named Bd.method).1
  have X0 : Stand p l e ({ frames := 2, cells := 1, slots := 2, locals := 27 } : Room) s m #[(.ref a)] below meth c s₁ [] 0 0 := Stand.of_body Bd
  have e0 : s₁.heap = h0 := by rw [← hh, Bd.state]; rfl
  have N0 := Fr.nil n0
  obtain ⟨P, hP, R0⟩ : ∃ P : State → Prop, (∀ t_, P t_ → Steps p.tables e below (s₁.setTop (entryFrame m #[(.ref a)] 3)) t_) ∧ Go p e below P s₁ (mkF m 0 #[.val (.ref a), .unset, .unset] []) := ⟨_, fun _ h => h, fun t_ k_ => castTop (ef_ofS_ m a) k_⟩
  have R113 : Go p e below P s₁ (mkF m 1 #[.val (.ref a), .unset, .unset] [(.ref a)]) := fun t_ k_ => R0 t_ (XS.aloadN X0.here hx rfl (hb hby d9_0) rfl rfl k_)
  have R114 : Go p e below P s₁ (mkF m 11 #[.val (.ref a), .unset, .unset] []) := fun t_ k_ => R113 t_ (XS.ifnonnullYes X0.here hx rfl (pc0 := 1) (pc' := 11) rfl (hb hby d9_1) rfl (by decide) (by decide) k_)
  have R115 : Go p e below P s₁ (mkF m 12 #[.val (.ref a), .unset, .unset] [(.ref a)]) := fun t_ k_ => R114 t_ (XS.aloadN X0.here hx rfl (hb hby d9_11) rfl rfl k_)
  obtain ⟨T116, X116, e116, st116⟩ := instNo X0 hx hZ hown (hw _ (List.mem_of_getElem? (i := 61) rfl)) e0 P0 (nsNo (hw _ (List.mem_of_getElem? (i := 78) rfl)) (hw _ (List.mem_of_getElem? (i := 54) rfl)) (NS.step (hw _ (List.mem_of_getElem? (i := 78) rfl)) (nsRoot (hw _ (List.mem_of_getElem? (i := 79) rfl)) (hw _ (List.mem_of_getElem? (i := 54) rfl)) (by decide)) (by decide)) (by decide)) (g := (mkF m 12 #[.val (.ref a), .unset, .unset] [(.ref a)])) rfl rfl (hb hby d9_12)
  have R117 : Go p e below P T116 (mkF m 15 #[.val (.ref a), .unset, .unset] [(.int (0 : Int32))]) := fun t_ k_ => R115 t_ (st116 t_ k_)
  have R118 : Go p e below P T116 (mkF m 28 #[.val (.ref a), .unset, .unset] []) := fun t_ k_ => R117 t_ (XS.ifYes X116.here hx rfl (pc0 := 15) (pc' := 28) rfl (hb hby d9_15) rfl ((if0 _ _).trans (teq rfl).1) (by decide) (by decide) k_)
  obtain ⟨T119, h119, X119, e119, E119, A119, D119, -, st119⟩ := newO X116 hx hZ hown (hw _ (List.mem_of_getElem? (i := 61) rfl)) (hw _ (List.mem_of_getElem? (i := 54) rfl)) (hw _ (List.mem_of_getElem? (i := 39) rfl)) e116 (g := (mkF m 28 #[.val (.ref a), .unset, .unset] [])) rfl (hb hby d9_28) (by decide) (by decide)
  obtain ⟨b119, g119⟩ : ∃ z, z = h0.size := ⟨_, rfl⟩
  rw [← g119] at A119 D119 st119
  have O119 := O0.ext E119
  have F119_52 : Fld Z h119 b119 "com/example/rowset/rowset/model/SqlValue" "value" "Ljava/lang/Object;" .null := D119 (Or.inr (hw _ (List.mem_of_getElem? (i := 52) rfl))) (ty := (.object "java/lang/Object")) (by decide)
  have F119_60 : Fld Z h119 b119 "com/example/rowset/rowset/model/SqlValue" "text" "Ljava/lang/String;" .null := D119 (Or.inr (hw _ (List.mem_of_getElem? (i := 60) rfl))) (ty := (.object "java/lang/String")) (by decide)
  have R120 : Go p e below P T119 (mkF m 31 #[.val (.ref a), .unset, .unset] [(.ref b119)]) := fun t_ k_ => R118 t_ (st119 t_ k_)
  have R121 : Go p e below P T119 (mkF m 32 #[.val (.ref a), .unset, .unset] [(.ref b119), (.ref b119)]) := fun t_ k_ => R120 t_ (XS.dup X119.here hx rfl (hb hby d9_31) rfl rfl k_)
  have R122 : Go p e below P T119 (mkF m 33 #[.val (.ref a), .unset, .unset] [(.ref a), (.ref b119), (.ref b119)]) := fun t_ k_ => R121 t_ (XS.aloadN X119.here hx rfl (hb hby d9_32) rfl rfl k_)
  have R123 : Go p e below P T119 (mkF m 34 #[.val (.ref a), .unset, .unset] [(.ref a), (.ref a), (.ref b119), (.ref b119)]) := fun t_ k_ => R122 t_ (XS.aloadN X119.here hx rfl (hb hby d9_33) rfl rfl k_)
  have f124 := (P0.ext E119)
  obtain ⟨cq125, kq125, q125a, q125b, q125c⟩ := isOf hZ e119 f124
  obtain ⟨rv125, _, ⟨T125, L125, k125, n125⟩, -, X125, ⟨Lc125, hQ125, l125, y125, z125⟩, st125⟩ := X119.virtualBack hx (y := (⟨"java/lang/Object", "toString", "()Ljava/lang/String;"⟩ : MethodName)) (z := (⟨"java/lang/String", "toString", "()Ljava/lang/String;"⟩ : MethodName)) hown (mvT hZ (hw _ (List.mem_of_getElem? (i := 80) rfl))) (mvT hZ (hw _ (List.mem_of_getElem? (i := 81) rfl))) (nf_top (y := (⟨"java/lang/Object", "toString", "()Ljava/lang/String;"⟩ : MethodName)) (args := #[]) (mvT hZ (hw _ (List.mem_of_getElem? (i := 79) rfl)))) (mvT hZ (hw _ (List.mem_of_getElem? (i := 83) rfl))) (mvT hZ (hw _ (List.mem_of_getElem? (i := 84) rfl))) (by decide) (backOf (W := 3) (strT_ l Z a0 hw [] a h119 n0 O119) hZ (hw _ (List.mem_of_getElem? (i := 85) rfl)) (hw _ (List.mem_of_getElem? (i := 3) rfl)) (by decide) (by decide)) q125a q125c (g := (mkF m 34 #[.val (.ref a), .unset, .unset] [(.ref a), (.ref a), (.ref b119), (.ref b119)])) rfl (by rw [hml]; rfl) (Steps.refl _) (argsL := []) (rest := [(.ref a), (.ref b119), (.ref b119)]) (lenOf pd_14309214 rfl) rfl (by show 2 * 0 + _ ≤ _; exact Nat.le_of_eq rfl) (hb hby d9_34) (fun _ _ => ⟨rfl, e119, (by decide : 1 + 0 ≤ _), (by decide : 2 + 0 ≤ _)⟩)
  dsimp only [Pt.U, Pt.locs, Pt.cells, Pt.slots] at X125 l125 y125 z125 st125 hQ125
  subst l125 y125 z125
  obtain ⟨rfl, N125q, K125⟩ := hQ125
  have N125 := Fr.app N0 N125q
  have R126 : Go p e below P T125 (mkF m 37 #[.val (.ref a), .unset, .unset] [(.ref a), (.ref a), (.ref b119), (.ref b119)]) := fun t_ k_ => R123 t_ (st125.trans k_)
  obtain ⟨rv127, _, ⟨T127, L127, k127, n127⟩, -, X127, ⟨Lc127, hQ127, l127, y127, z127⟩, st127⟩ := X125.specialBack hx (y := (⟨"com/example/rowset/rowset/model/SqlValue", "<init>", "(Ljava/lang/Object;Ljava/lang/String;)V"⟩ : MethodName)) rfl hown (mvT hZ (hw _ (List.mem_of_getElem? (i := 86) rfl))) (mvT hZ (hw _ (List.mem_of_getElem? (i := 56) rfl))) (mvT hZ (hw _ (List.mem_of_getElem? (i := 57) rfl))) (by decide) (backOf (W := 1) (sqlI_ l Z a0 hw [] b119 (.ref a) a h119 n0 O119 rfl A119 F119_52 F119_60 (Nat.le_trans (oldLe O0) (Nat.le_of_eq g119.symm))) hZ (hw _ (List.mem_of_getElem? (i := 57) rfl)) (hw _ (List.mem_of_getElem? (i := 39) rfl)) (by decide) (by decide)) (g := (mkF m 37 #[.val (.ref a), .unset, .unset] [(.ref a), (.ref a), (.ref b119), (.ref b119)])) rfl (by rw [hml]; rfl) (Steps.refl _) (a := b119) (argsL := [(.ref a), (.ref a)]) (rest := [(.ref b119)]) (lenOf pd_44503560 rfl) rfl (by show 2 * 0 + _ ≤ _; exact Nat.le_of_eq rfl) (hb hby d9_37) (fun _ _ => ⟨rfl, K125, (by decide : 1 + 0 ≤ _), (by decide : 2 + 0 ≤ _)⟩)
  dsimp only [Pt.U, Pt.locs, Pt.cells, Pt.slots] at X127 l127 y127 z127 st127 hQ127
  subst l127 y127 z127
  obtain ⟨rfl, N127q, K127, p127_0, p127_1⟩ := hQ127
  have N127 := Fr.app N125 N127q
  have O127 := O119.keep K127 (allS (Nat.le_trans (oldLe O0) (Nat.le_of_eq g119.symm)) all0)
  have R128 : Go p e below P T127 (mkF m 40 #[.val (.ref a), .unset, .unset] [(.ref b119)]) := fun t_ k_ => R126 t_ (st127.trans k_)
  have R129 : Go p e below P T127 (mkF m 41 #[.val (.ref a), .val (.ref b119), .unset] []) := fun t_ k_ => R128 t_ (XS.astoreN X127.here hx rfl (hb hby d9_40) rfl rfl (l' := #[.val (.ref a), .val (.ref b119), .unset]) rfl k_)
  have R130 : Go p e below P T127 (mkF m 42 #[.val (.ref a), .val (.ref b119), .unset] [(.ref b119)]) := fun t_ k_ => R129 t_ (XS.aloadN X127.here hx rfl (hb hby d9_41) rfl rfl k_)
  obtain ⟨fs, hr, hrun, hended, hW, hsame⟩ := X127.leave (v := some (.ref b119)) (fun h => by rw [Bd.returns] at h; cases h)
  exact ⟨_, _, hP _ (R130 _ (retOut X127 hx Bd.returns rfl (Or.inr (Or.inr (Or.inr (Or.inr ⟨rfl, rfl, rfl⟩)))) (hb hby d9_42) hr)), hrun, hended, _, _, rfl, ⟨b119, rfl, N127, (((Keep.refl h0 []).ext E119).trans K127 (allS (Or.inr (Nat.le_of_eq g119.symm)) all0)), (Nat.le_of_eq g119.symm), p127_0, p127_1⟩, ⟨_, rfl⟩, hW, hsame.mono (by decide) (by decide)⟩
theorem ef_ofI_ (m : MethodId) (x0 : Addr) : entryFrame m #[(.ref x0)] 3 = mkF m 0 #[.val (.ref x0), .unset, .unset] [] := by first | (simp [entryFrame, mkF, argsToLocals, Value.category]; done) | rfl
def Q_ofI_ (Z : State) (a : Addr) (v : Int32) (zc : Int32) (st : Addr) (d1 : Addr) (D1 : Cell) (d2 : Addr) (D2 : Cell) (h0 : Heap) (n0 : Nat) (rv_ : Option Value) (rh_ : Heap) (rL_ : List Loc) : Prop := ∃ x : Addr, (rv_ = some (.ref x)) ∧ (Fr n0 rL_) ∧ (Keep h0 rh_ []) ∧ (h0.size ≤ x) ∧ (Exa Z rh_ x "com/example/rowset/rowset/model/SqlValue") ∧ (Fld Z rh_ x "com/example/rowset/rowset/model/SqlValue" "value" "Ljava/lang/Object;" (.ref a))
set_option maxRecDepth 65536 in
set_option maxHeartbeats 40000000 in
theorem ofI_ (l : Launch) (Z : State) (a0 : Array Value) (hw : ∀ d ∈ tables_1, d.before a0 Z = true) (ws : List Jvm.Cond) (a : Addr) (v : Int32) (zc : Int32) (st : Addr) (d1 : Addr) (D1 : Cell) (d2 : Addr) (D2 : Cell) (h0 : Heap) (n0 : Nat) (O0 : Old Z n0 h0) (P0 : Exa Z h0 a "java/lang/Integer") (P1 : Fld Z h0 a "java/lang/Integer" "value" "I" (.int v)) (P2 : Sta Z Z.heap "java/lang/String" "COMPACT_STRINGS" "Z" (.int zc)) (P3 : ¬ zc = 0) (P4 : Jvm.Free.SBG.Tbl Z "DigitOnes" st d1 D1) (P5 : Jvm.Free.SBG.Tbl Z "DigitTens" st d2 D2) :
    MetFree l (⟨"com/example/rowset/rowset/model/SqlValue", "of", "(Ljava/lang/Object;)Lcom/example/rowset/rowset/model/SqlValue;"⟩ : MethodName) (head1 (Jvm.Cond.code (⟨"com/example/rowset/rowset/model/SqlValue", "of", "(Ljava/lang/Object;)Lcom/example/rowset/rowset/model/SqlValue;"⟩ : MethodName) prog_43_method_2_code 3 (some (.object "com/example/rowset/rowset/model/SqlValue")) :: ws) ({ frames := 5, cells := 3, slots := 17, locals := 149 } : Room)) (fun a_ U_ => a_ = #[(.ref a)] ∧ Z.Warmed39 U_.vm ∧ U_.heap = h0) (fun _ _ _ _ _ => True) (fun _ U_ o_ U_' => ∃ v_ L_, o_ = .returned v_ ∧ Q_ofI_ Z a v zc st d1 D1 d2 D2 h0 n0 v_ U_'.heap L_ ∧ FrameEnd U_ o_ U_' L_ ({ frames := 5, cells := 3, slots := 17, locals := 149 } : Room).cells ({ frames := 5, cells := 3, slots := 17, locals := 149 } : Room).slots) := by
  have hzc := P3
  have hT1 := P4
  have hT2 := P5
  refine MetFree.of_bodySF (plainFor_of_name pn_84123379) hisR ?_
  intro p e s m args below meth c s₁ Bd hml0 hP0 hK
  obtain ⟨rfl, hZ, hh⟩ := hP0
  have hx := Bd.exec
  have hby := Bd.bytes
  have hml : c.maxLocals = 3 := hml0
  have hown : s.vm.findClass "com/example/rowset/rowset/model/SqlValue" = some m.cls := findClass_of_methodNamed Bd.named
  have hnm := (name_of_methodNamed Bd.named Bd.method).1
  have X0 : Stand p l e ({ frames := 5, cells := 3, slots := 17, locals := 149 } : Room) s m #[(.ref a)] below meth c s₁ [] 0 0 := Stand.of_body Bd
  have e0 : s₁.heap = h0 := by rw [← hh, Bd.state]; rfl
  have N0 := Fr.nil n0
  obtain ⟨P, hP, R0⟩ : ∃ P : State → Prop, (∀ t_, P t_ → Steps p.tables e below (s₁.setTop (entryFrame m #[(.ref a)] 3)) t_) ∧ Go p e below P s₁ (mkF m 0 #[.val (.ref a), .unset, .unset] []) := ⟨_, fun _ h => h, fun t_ k_ => castTop (ef_ofI_ m a) k_⟩
  have R131 : Go p e below P s₁ (mkF m 1 #[.val (.ref a), .unset, .unset] [(.ref a)]) := fun t_ k_ => R0 t_ (XS.aloadN X0.here hx rfl (hb hby d9_0) rfl rfl k_)
  have R132 : Go p e below P s₁ (mkF m 11 #[.val (.ref a), .unset, .unset] []) := fun t_ k_ => R131 t_ (XS.ifnonnullYes X0.here hx rfl (pc0 := 1) (pc' := 11) rfl (hb hby d9_1) rfl (by decide) (by decide) k_)
  have R133 : Go p e below P s₁ (mkF m 12 #[.val (.ref a), .unset, .unset] [(.ref a)]) := fun t_ k_ => R132 t_ (XS.aloadN X0.here hx rfl (hb hby d9_11) rfl rfl k_)
  obtain ⟨T134, X134, e134, st134⟩ := instNo X0 hx hZ hown (hw _ (List.mem_of_getElem? (i := 61) rfl)) e0 P0 (nsNo (hw _ (List.mem_of_getElem? (i := 87) rfl)) (hw _ (List.mem_of_getElem? (i := 54) rfl)) (NS.step (hw _ (List.mem_of_getElem? (i := 87) rfl)) (NS.step (hw _ (List.mem_of_getElem? (i := 88) rfl)) (nsRoot (hw _ (List.mem_of_getElem? (i := 79) rfl)) (hw _ (List.mem_of_getElem? (i := 54) rfl)) (by decide)) (by decide)) (by decide)) (by decide)) (g := (mkF m 12 #[.val (.ref a), .unset, .unset] [(.ref a)])) rfl rfl (hb hby d9_12)
  have R135 : Go p e below P T134 (mkF m 15 #[.val (.ref a), .unset, .unset] [(.int (0 : Int32))]) := fun t_ k_ => R133 t_ (st134 t_ k_)
  have R136 : Go p e below P T134 (mkF m 28 #[.val (.ref a), .unset, .unset] []) := fun t_ k_ => R135 t_ (XS.ifYes X134.here hx rfl (pc0 := 15) (pc' := 28) rfl (hb hby d9_15) rfl ((if0 _ _).trans (teq rfl).1) (by decide) (by decide) k_)
  obtain ⟨T137, h137, X137, e137, E137, A137, D137, -, st137⟩ := newO X134 hx hZ hown (hw _ (List.mem_of_getElem? (i := 61) rfl)) (hw _ (List.mem_of_getElem? (i := 54) rfl)) (hw _ (List.mem_of_getElem? (i := 39) rfl)) e134 (g := (mkF m 28 #[.val (.ref a), .unset, .unset] [])) rfl (hb hby d9_28) (by decide) (by decide)
  obtain ⟨b137, g137⟩ : ∃ z, z = h0.size := ⟨_, rfl⟩
  rw [← g137] at A137 D137 st137
  have O137 := O0.ext E137
  have F137_52 : Fld Z h137 b137 "com/example/rowset/rowset/model/SqlValue" "value" "Ljava/lang/Object;" .null := D137 (Or.inr (hw _ (List.mem_of_getElem? (i := 52) rfl))) (ty := (.object "java/lang/Object")) (by decide)
  have F137_60 : Fld Z h137 b137 "com/example/rowset/rowset/model/SqlValue" "text" "Ljava/lang/String;" .null := D137 (Or.inr (hw _ (List.mem_of_getElem? (i := 60) rfl))) (ty := (.object "java/lang/String")) (by decide)
  have R138 : Go p e below P T137 (mkF m 31 #[.val (.ref a), .unset, .unset] [(.ref b137)]) := fun t_ k_ => R136 t_ (st137 t_ k_)
  have R139 : Go p e below P T137 (mkF m 32 #[.val (.ref a), .unset, .unset] [(.ref b137), (.ref b137)]) := fun t_ k_ => R138 t_ (XS.dup X137.here hx rfl (hb hby d9_31) rfl rfl k_)
  have R140 : Go p e below P T137 (mkF m 33 #[.val (.ref a), .unset, .unset] [(.ref a), (.ref b137), (.ref b137)]) := fun t_ k_ => R139 t_ (XS.aloadN X137.here hx rfl (hb hby d9_32) rfl rfl k_)
  have R141 : Go p e below P T137 (mkF m 34 #[.val (.ref a), .unset, .unset] [(.ref a), (.ref a), (.ref b137), (.ref b137)]) := fun t_ k_ => R140 t_ (XS.aloadN X137.here hx rfl (hb hby d9_33) rfl rfl k_)
  have f142 := (P0.ext E137)
  have f143 := (P1.ext E137)
  obtain ⟨cq144, kq144, q144a, q144b, q144c⟩ := isOf hZ e137 f142
  obtain ⟨rv144, _, ⟨T144, L144, k144, n144⟩, -, X144, ⟨Lc144, hQ144, l144, y144, z144⟩, st144⟩ := X137.virtualBack hx (y := (⟨"java/lang/Object", "toString", "()Ljava/lang/String;"⟩ : MethodName)) (z := (⟨"java/lang/Integer", "toString", "()Ljava/lang/String;"⟩ : MethodName)) hown (mvT hZ (hw _ (List.mem_of_getElem? (i := 80) rfl))) (mvT hZ (hw _ (List.mem_of_getElem? (i := 81) rfl))) (nf_top (y := (⟨"java/lang/Object", "toString", "()Ljava/lang/String;"⟩ : MethodName)) (args := #[]) (mvT hZ (hw _ (List.mem_of_getElem? (i := 79) rfl)))) (mvT hZ (hw _ (List.mem_of_getElem? (i := 89) rfl))) (mvT hZ (hw _ (List.mem_of_getElem? (i := 90) rfl))) (by decide) (backOf (W := 3) (intT_ l Z a0 hw [] a v zc st d1 D1 d2 D2 h137 n0 O137 f143 P2 hzc hT1 hT2) hZ (hw _ (List.mem_of_getElem? (i := 91) rfl)) (hw _ (List.mem_of_getElem? (i := 32) rfl)) (by decide) (by decide)) q144a q144c (g := (mkF m 34 #[.val (.ref a), .unset, .unset] [(.ref a), (.ref a), (.ref b137), (.ref b137)])) rfl (by rw [hml]; rfl) (Steps.refl _) (argsL := []) (rest := [(.ref a), (.ref b137), (.ref b137)]) (lenOf pd_14309214 rfl) rfl (by show 2 * 0 + _ ≤ _; exact Nat.le_of_eq rfl) (hb hby d9_34) (fun _ _ => ⟨rfl, e137, (by decide : 1 + 2 ≤ _), (by decide : 2 + 15 ≤ _)⟩)
  dsimp only [Pt.U, Pt.locs, Pt.cells, Pt.slots] at X144 l144 y144 z144 st144 hQ144
  subst l144 y144 z144
  obtain ⟨x_144, rfl, N144q, K144, p144_0⟩ := hQ144
  have N144 := Fr.app N0 N144q
  have O144 := O137.keep K144 all0
  have R145 : Go p e below P T144 (mkF m 37 #[.val (.ref a), .unset, .unset] [(.ref x_144), (.ref a), (.ref b137), (.ref b137)]) := fun t_ k_ => R141 t_ (st144.trans k_)
  have f146 := (A137.keep K144)
  have f147 := (F137_52.keep K144 nin0)
  have f148 := (F137_60.keep K144 nin0)
  obtain ⟨rv149, _, ⟨T149, L149, k149, n149⟩, -, X149, ⟨Lc149, hQ149, l149, y149, z149⟩, st149⟩ := X144.specialBack hx (y := (⟨"com/example/rowset/rowset/model/SqlValue", "<init>", "(Ljava/lang/Object;Ljava/lang/String;)V"⟩ : MethodName)) rfl hown (mvT hZ (hw _ (List.mem_of_getElem? (i := 86) rfl))) (mvT hZ (hw _ (List.mem_of_getElem? (i := 56) rfl))) (mvT hZ (hw _ (List.mem_of_getElem? (i := 57) rfl))) (by decide) (backOf (W := 1) (sqlI_ l Z a0 hw [] b137 (.ref a) x_144 T144.heap n0 O144 rfl f146 f147 f148 (Nat.le_trans (oldLe O0) (Nat.le_of_eq g137.symm))) hZ (hw _ (List.mem_of_getElem? (i := 57) rfl)) (hw _ (List.mem_of_getElem? (i := 39) rfl)) (by decide) (by decide)) (g := (mkF m 37 #[.val (.ref a), .unset, .unset] [(.ref x_144), (.ref a), (.ref b137), (.ref b137)])) rfl (by rw [hml]; rfl) (Steps.refl _) (a := b137) (argsL := [(.ref a), (.ref x_144)]) (rest := [(.ref b137)]) (lenOf pd_44503560 rfl) rfl (by show 2 * 0 + _ ≤ _; exact Nat.le_of_eq rfl) (hb hby d9_37) (fun _ _ => ⟨rfl, (rfl : T144.heap = T144.heap), (by decide : 3 + 0 ≤ _), (by decide : 17 + 0 ≤ _)⟩)
  dsimp only [Pt.U, Pt.locs, Pt.cells, Pt.slots] at X149 l149 y149 z149 st149 hQ149
  subst l149 y149 z149
  obtain ⟨rfl, N149q, K149, p149_0, p149_1⟩ := hQ149
  have N149 := Fr.app N144 N149q
  have O149 := O144.keep K149 (allS (Nat.le_trans (oldLe O0) (Nat.le_of_eq g137.symm)) all0)
  have R150 : Go p e below P T149 (mkF m 40 #[.val (.ref a), .unset, .unset] [(.ref b137)]) := fun t_ k_ => R145 t_ (st149.trans k_)
  have R151 : Go p e below P T149 (mkF m 41 #[.val (.ref a), .val (.ref b137), .unset] []) := fun t_ k_ => R150 t_ (XS.astoreN X149.here hx rfl (hb hby d9_40) rfl rfl (l' := #[.val (.ref a), .val (.ref b137), .unset]) rfl k_)
  have R152 : Go p e below P T149 (mkF m 42 #[.val (.ref a), .val (.ref b137), .unset] [(.ref b137)]) := fun t_ k_ => R151 t_ (XS.aloadN X149.here hx rfl (hb hby d9_41) rfl rfl k_)
  obtain ⟨fs, hr, hrun, hended, hW, hsame⟩ := X149.leave (v := some (.ref b137)) (fun h => by rw [Bd.returns] at h; cases h)
  exact ⟨_, _, hP _ (R152 _ (retOut X149 hx Bd.returns rfl (Or.inr (Or.inr (Or.inr (Or.inr ⟨rfl, rfl, rfl⟩)))) (hb hby d9_42) hr)), hrun, hended, _, _, rfl, ⟨b137, rfl, N149, ((((Keep.refl h0 []).ext E137).trans K144 all0).trans K149 (allS (Or.inr (Nat.le_of_eq g137.symm)) all0)), (Nat.le_of_eq g137.symm), p149_0, p149_1⟩, ⟨_, rfl⟩, hW, hsame.mono (by decide) (by decide)⟩
theorem pn_42765006 : plainName "com/example/rowset/rowset/model/SqlValueValueOfPinLaw" = true := by first | (simp [plainName, overriddenIn]; done) | decide +kernel
theorem ef_law_ (m : MethodId) (x0 : Int32) (x1 : Int32) (x2 : Int32) (x3 : Int32) : entryFrame m #[(.int x0), (.int x1), (.int x2), (.int x3)] maxLocals = mkF m 0 #[.val (.int x0), .val (.int x1), .val (.int x2), .val (.int x3), .unset, .unset, .unset, .unset, .unset, .unset, .unset] [] := by first | (simp [entryFrame, mkF, argsToLocals, Value.category, maxLocals]; done) | rfl
theorem pd_42155922 : parseMethodDescriptor "([C)V" = some ⟨[(.array .char)], none⟩ := by decide +kernel
theorem pd_57006396 : parseMethodDescriptor "(I)Ljava/lang/Integer;" = some ⟨[.int], some (.object "java/lang/Integer")⟩ := by decide +kernel
theorem pd_72566344 : parseMethodDescriptor "(Ljava/lang/Object;)Ljava/lang/Object;" = some ⟨[(.object "java/lang/Object")], some (.object "java/lang/Object")⟩ := by decide +kernel
theorem pd_47527223 : parseMethodDescriptor "(Ljava/lang/Object;)Lcom/example/rowset/rowset/model/SqlValue;" = some ⟨[(.object "java/lang/Object")], some (.object "com/example/rowset/rowset/model/SqlValue")⟩ := by decide +kernel
theorem pd_65739572 : parseMethodDescriptor "()Ljava/lang/Object;" = some ⟨[], some (.object "java/lang/Object")⟩ := by decide +kernel
def Q_law_ (Z : State) (k : Int32) (v : Int32) (c0 : Int32) (c1 : Int32) (ca : Addr) (cl : Cell) (wN : Addr) (zc : Int32) (st : Addr) (d1 : Addr) (D1 : Cell) (d2 : Addr) (D2 : Cell) (h0 : Heap) (n0 : Nat) (rv_ : Option Value) (rh_ : Heap) (rL_ : List Loc) : Prop := (rv_ = some (.int (1 : Int32))) ∧ (Fr n0 rL_) ∧ (Keep h0 rh_ [])
set_option maxRecDepth 65536 in
set_option maxHeartbeats 40000000 in
theorem law_ (l : Launch) (Z : State) (a0 : Array Value) (hw : ∀ d ∈ tables_1, d.before a0 Z = true) (ws : List Jvm.Cond) (k : Int32) (v : Int32) (c0 : Int32) (c1 : Int32) (ca : Addr) (cl : Cell) (wN : Addr) (zc : Int32) (st : Addr) (d1 : Addr) (D1 : Cell) (d2 : Addr) (D2 : Cell) (h0 : Heap) (n0 : Nat) (O0 : Old Z n0 h0) (P0 : Sta Z Z.heap "java/lang/Integer$IntegerCache" "high" "I" (.int (127 : Int32))) (P1 : Sta Z Z.heap "java/lang/Integer$IntegerCache" "cache" "[Ljava/lang/Integer;" (.ref ca)) (P2 : Bxs Z ca cl "java/lang/Integer" "I" (256 : Int32) (fun j => .int (j - (128 : Int32)))) (P3 : Sta Z Z.heap "java/lang/String" "COMPACT_STRINGS" "Z" (.int zc)) (P4 : ¬ zc = 0) (P5 : Jvm.Free.SBG.Tbl Z "DigitOnes" st d1 D1) (P6 : Jvm.Free.SBG.Tbl Z "DigitTens" st d2 D2) (P7 : Sta Z Z.heap "com/example/rowset/rowset/model/SqlValue" "NULL" "Lcom/example/rowset/rowset/model/SqlValue;" (.ref wN)) (P8 : Exa Z Z.heap wN "com/example/rowset/rowset/model/SqlValue") (P9 : Fld Z Z.heap wN "com/example/rowset/rowset/model/SqlValue" "value" "Ljava/lang/Object;" .null) :
    MetFree l x (head1 (Jvm.Cond.code x code maxLocals ret :: ws) room_1) (fun a_ U_ => a_ = #[(.int k), (.int v), (.int c0), (.int c1)] ∧ Z.Warmed39 U_.vm ∧ U_.heap = h0) (fun _ _ _ _ _ => True) (fun _ U_ o_ U_' => ∃ v_ L_, o_ = .returned v_ ∧ Q_law_ Z k v c0 c1 ca cl wN zc st d1 D1 d2 D2 h0 n0 v_ U_'.heap L_ ∧ FrameEnd U_ o_ U_' L_ room_1.cells room_1.slots) := by
  have hbx := P2
  have hzc := P4
  have hT1 := P5
  have hT2 := P6
  refine MetFree.of_bodySF (plainFor_of_name pn_42765006) hisR ?_
  intro p e s m args below meth c s₁ Bd hml0 hP0 hK
  obtain ⟨rfl, hZ, hh⟩ := hP0
  have hx := Bd.exec
  have hby := Bd.bytes
  have hml : c.maxLocals = 11 := hml0
  have hown : s.vm.findClass "com/example/rowset/rowset/model/SqlValueValueOfPinLaw" = some m.cls := findClass_of_methodNamed Bd.named
  have hnm := (name_of_methodNamed Bd.named Bd.method).1
  have X0 : Stand p l e room_1 s m #[(.int k), (.int v), (.int c0), (.int c1)] below meth c s₁ [] 0 0 := Stand.of_body Bd
  have e0 : s₁.heap = h0 := by rw [← hh, Bd.state]; rfl
  have N0 := Fr.nil n0
  obtain ⟨P, hP, R0⟩ : ∃ P : State → Prop, (∀ t_, P t_ → Steps p.tables e below (s₁.setTop (entryFrame m #[(.int k), (.int v), (.int c0), (.int c1)] maxLocals)) t_) ∧ Go p e below P s₁ (mkF m 0 #[.val (.int k), .val (.int v), .val (.int c0), .val (.int c1), .unset, .unset, .unset, .unset, .unset, .unset, .unset] []) := ⟨_, fun _ h => h, fun t_ k_ => castTop (ef_law_ m k v c0 c1) k_⟩
  have R153 : Go p e below P s₁ (mkF m 1 #[.val (.int k), .val (.int v), .val (.int c0), .val (.int c1), .unset, .unset, .unset, .unset, .unset, .unset, .unset] [(.int (2 : Int32))]) := fun t_ k_ => R0 t_ (XS.iconst X0.here hx rfl (hb hby at_0) k_)
  obtain ⟨T154, h154, k154, X154, e154, E154, A154, st154⟩ := newP X0 hx hZ (hw _ (List.mem_of_getElem? (i := 0) rfl)) e0 (g := (mkF m 1 #[.val (.int k), .val (.int v), .val (.int c0), .val (.int c1), .unset, .unset, .unset, .unset, .unset, .unset, .unset] [(.int (2 : Int32))])) rfl (hb hby at_1) rfl (by decide) (cap := 2) (by decide) (by decide) (by decide) (by decide)
  obtain ⟨b154, g154⟩ : ∃ z, z = h0.size := ⟨_, rfl⟩
  rw [← g154] at A154 st154
  have O154 := O0.ext E154
  have V154 : Arv Z h154 b154 k154 .char (2 : Int32) [(.int (0 : Int32)), (.int (0 : Int32))] (.int (0 : Int32)) := (Arv.new A154 (by decide)).pad (pad_rep [] (.int (0 : Int32)) 2)
  have R155 : Go p e below P T154 (mkF m 3 #[.val (.int k), .val (.int v), .val (.int c0), .val (.int c1), .unset, .unset, .unset, .unset, .unset, .unset, .unset] [(.ref b154)]) := fun t_ k_ => R153 t_ (st154 t_ k_)
  have R156 : Go p e below P T154 (mkF m 4 #[.val (.int k), .val (.int v), .val (.int c0), .val (.int c1), .unset, .unset, .unset, .unset, .unset, .unset, .unset] [(.ref b154), (.ref b154)]) := fun t_ k_ => R155 t_ (XS.dup X154.here hx rfl (hb hby at_3) rfl rfl k_)
  have R157 : Go p e below P T154 (mkF m 5 #[.val (.int k), .val (.int v), .val (.int c0), .val (.int c1), .unset, .unset, .unset, .unset, .unset, .unset, .unset] [(.int (0 : Int32)), (.ref b154), (.ref b154)]) := fun t_ k_ => R156 t_ (XS.iconst X154.here hx rfl (hb hby at_4) k_)
  have R158 : Go p e below P T154 (mkF m 6 #[.val (.int k), .val (.int v), .val (.int c0), .val (.int c1), .unset, .unset, .unset, .unset, .unset, .unset, .unset] [(.int c0), (.int (0 : Int32)), (.ref b154), (.ref b154)]) := fun t_ k_ => R157 t_ (XS.iloadN X154.here hx rfl (hb hby at_5) rfl k_)
  have R159 : Go p e below P T154 (mkF m 9 #[.val (.int k), .val (.int v), .val (.int c0), .val (.int c1), .unset, .unset, .unset, .unset, .unset, .unset, .unset] [(.int (255 : Int32)), (.int c0), (.int (0 : Int32)), (.ref b154), (.ref b154)]) := fun t_ k_ => R158 t_ (XS.sipush X154.here hx rfl (hb hby at_6) k_)
  have R160 : Go p e below P T154 (mkF m 10 #[.val (.int k), .val (.int v), .val (.int c0), .val (.int c1), .unset, .unset, .unset, .unset, .unset, .unset, .unset] [(.int (c0 &&& (255 : Int32))), (.int (0 : Int32)), (.ref b154), (.ref b154)]) := fun t_ k_ => R159 t_ (XS.iand X154.here hx rfl (hb hby at_9) rfl k_)
  have R161 : Go p e below P T154 (mkF m 11 #[.val (.int k), .val (.int v), .val (.int c0), .val (.int c1), .unset, .unset, .unset, .unset, .unset, .unset, .unset] [(.int ((c0 &&& (255 : Int32)).toUInt32.toUInt16.toUInt32.toInt32)), (.int (0 : Int32)), (.ref b154), (.ref b154)]) := fun t_ k_ => R160 t_ (XS.i2c X154.here hx rfl (hb hby at_10) rfl k_)
  obtain ⟨x0, hx0⟩ : ∃ z : Int32, z = ((c0 &&& (255 : Int32)).toUInt32.toUInt16.toUInt32.toInt32) := ⟨_, rfl⟩
  have R162 : Go p e below P T154 (mkF m 11 #[.val (.int k), .val (.int v), .val (.int c0), .val (.int c1), .unset, .unset, .unset, .unset, .unset, .unset, .unset] [(.int x0), (.int (0 : Int32)), (.ref b154), (.ref b154)]) := by rw [hx0]; exact R161
  have cx0 : nar .char x0 = x0 ∧ ¬ x0 < 0 ∧ ¬ (255 : Int32) < x0 := by rw [hx0]; exact chr255 _
  obtain ⟨cl163, cl163A, cl163q, cl163S, cl163N, cl163H, cl163G⟩ := id V154
  obtain ⟨T164, h164, X164, e164, W164, st164⟩ := stC X154 hx hZ e154 cl163A (j := (0 : Int32)) (inb_of cl163S ⟨by decide, by decide⟩) (g := (mkF m 11 #[.val (.int k), .val (.int v), .val (.int c0), .val (.int c1), .unset, .unset, .unset, .unset, .unset, .unset, .unset] [(.int x0), (.int (0 : Int32)), (.ref b154), (.ref b154)])) rfl rfl (hb hby at_11)
  have V164 : Arv Z h164 b154 k154 .char (2 : Int32) [(.int (nar .char x0)), (.int (0 : Int32))] (.int (0 : Int32)) := Arv.set cl163A cl163q cl163S cl163N cl163H cl163G (fits_nar_char _) W164 0 rfl (Nat.le_of_ble_eq_true rfl)
  have N164 := Fr.snoc X164 N0 (Nat.le_trans (oldLe O0) (Nat.le_of_eq g154.symm))
  have O164 := O154.wr W164 (Nat.le_trans (oldLe O0) (Nat.le_of_eq g154.symm))
  have V164s : Arv Z h164 b154 k154 .char (2 : Int32) [(.int x0), (.int (0 : Int32))] (.int (0 : Int32)) := by have q := V164; rw [cx0.1] at q; exact q
  have R165 : Go p e below P T164 (mkF m 12 #[.val (.int k), .val (.int v), .val (.int c0), .val (.int c1), .unset, .unset, .unset, .unset, .unset, .unset, .unset] [(.ref b154)]) := fun t_ k_ => R162 t_ (st164 t_ k_)
  have R166 : Go p e below P T164 (mkF m 13 #[.val (.int k), .val (.int v), .val (.int c0), .val (.int c1), .unset, .unset, .unset, .unset, .unset, .unset, .unset] [(.ref b154), (.ref b154)]) := fun t_ k_ => R165 t_ (XS.dup X164.here hx rfl (hb hby at_12) rfl rfl k_)
  have R167 : Go p e below P T164 (mkF m 14 #[.val (.int k), .val (.int v), .val (.int c0), .val (.int c1), .unset, .unset, .unset, .unset, .unset, .unset, .unset] [(.int (1 : Int32)), (.ref b154), (.ref b154)]) := fun t_ k_ => R166 t_ (XS.iconst X164.here hx rfl (hb hby at_13) k_)
  have R168 : Go p e below P T164 (mkF m 15 #[.val (.int k), .val (.int v), .val (.int c0), .val (.int c1), .unset, .unset, .unset, .unset, .unset, .unset, .unset] [(.int c1), (.int (1 : Int32)), (.ref b154), (.ref b154)]) := fun t_ k_ => R167 t_ (XS.iloadN X164.here hx rfl (hb hby at_14) rfl k_)
  have R169 : Go p e below P T164 (mkF m 18 #[.val (.int k), .val (.int v), .val (.int c0), .val (.int c1), .unset, .unset, .unset, .unset, .unset, .unset, .unset] [(.int (255 : Int32)), (.int c1), (.int (1 : Int32)), (.ref b154), (.ref b154)]) := fun t_ k_ => R168 t_ (XS.sipush X164.here hx rfl (hb hby at_15) k_)
  have R170 : Go p e below P T164 (mkF m 19 #[.val (.int k), .val (.int v), .val (.int c0), .val (.int c1), .unset, .unset, .unset, .unset, .unset, .unset, .unset] [(.int (c1 &&& (255 : Int32))), (.int (1 : Int32)), (.ref b154), (.ref b154)]) := fun t_ k_ => R169 t_ (XS.iand X164.here hx rfl (hb hby at_18) rfl k_)
  have R171 : Go p e below P T164 (mkF m 20 #[.val (.int k), .val (.int v), .val (.int c0), .val (.int c1), .unset, .unset, .unset, .unset, .unset, .unset, .unset] [(.int ((c1 &&& (255 : Int32)).toUInt32.toUInt16.toUInt32.toInt32)), (.int (1 : Int32)), (.ref b154), (.ref b154)]) := fun t_ k_ => R170 t_ (XS.i2c X164.here hx rfl (hb hby at_19) rfl k_)
  obtain ⟨x1, hx1⟩ : ∃ z : Int32, z = ((c1 &&& (255 : Int32)).toUInt32.toUInt16.toUInt32.toInt32) := ⟨_, rfl⟩
  have R172 : Go p e below P T164 (mkF m 20 #[.val (.int k), .val (.int v), .val (.int c0), .val (.int c1), .unset, .unset, .unset, .unset, .unset, .unset, .unset] [(.int x1), (.int (1 : Int32)), (.ref b154), (.ref b154)]) := by rw [hx1]; exact R171
  have cx1 : nar .char x1 = x1 ∧ ¬ x1 < 0 ∧ ¬ (255 : Int32) < x1 := by rw [hx1]; exact chr255 _
  obtain ⟨cl173, cl173A, cl173q, cl173S, cl173N, cl173H, cl173G⟩ := id V164s
  obtain ⟨T174, h174, X174, e174, W174, st174⟩ := stC X164 hx hZ e164 cl173A (j := (1 : Int32)) (inb_of cl173S ⟨by decide, by decide⟩) (g := (mkF m 20 #[.val (.int k), .val (.int v), .val (.int c0), .val (.int c1), .unset, .unset, .unset, .unset, .unset, .unset, .unset] [(.int x1), (.int (1 : Int32)), (.ref b154), (.ref b154)])) rfl rfl (hb hby at_20)
  have V174 : Arv Z h174 b154 k154 .char (2 : Int32) [(.int x0), (.int (nar .char x1))] (.int (0 : Int32)) := Arv.set cl173A cl173q cl173S cl173N cl173H cl173G (fits_nar_char _) W174 1 rfl (Nat.le_of_ble_eq_true rfl)
  have N174 := Fr.snoc X174 N164 (Nat.le_trans (oldLe O0) (Nat.le_of_eq g154.symm))
  have O174 := O164.wr W174 (Nat.le_trans (oldLe O0) (Nat.le_of_eq g154.symm))
  have V174s : Arv Z h174 b154 k154 .char (2 : Int32) [(.int x0), (.int x1)] (.int (0 : Int32)) := by have q := V174; rw [cx1.1] at q; exact q
  have R175 : Go p e below P T174 (mkF m 21 #[.val (.int k), .val (.int v), .val (.int c0), .val (.int c1), .unset, .unset, .unset, .unset, .unset, .unset, .unset] [(.ref b154)]) := fun t_ k_ => R172 t_ (st174 t_ k_)
  have R176 : Go p e below P T174 (mkF m 23 #[.val (.int k), .val (.int v), .val (.int c0), .val (.int c1), .val (.ref b154), .unset, .unset, .unset, .unset, .unset, .unset] []) := fun t_ k_ => R175 t_ (XS.astore X174.here hx rfl (hb hby at_21) rfl rfl (l' := #[.val (.int k), .val (.int v), .val (.int c0), .val (.int c1), .val (.ref b154), .unset, .unset, .unset, .unset, .unset, .unset]) rfl k_)
  obtain ⟨T177, h177, X177, e177, E177, A177, D177, -, st177⟩ := newO X174 hx hZ hown (hw _ (List.mem_of_getElem? (i := 1) rfl)) (hw _ (List.mem_of_getElem? (i := 2) rfl)) (hw _ (List.mem_of_getElem? (i := 3) rfl)) e174 (g := (mkF m 23 #[.val (.int k), .val (.int v), .val (.int c0), .val (.int c1), .val (.ref b154), .unset, .unset, .unset, .unset, .unset, .unset] [])) rfl (hb hby at_23) (by decide) (by decide)
  obtain ⟨b177, g177⟩ : ∃ z, z = h174.size := ⟨_, rfl⟩
  rw [← g177] at A177 D177 st177
  have O177 := O174.ext E177
  have F177_27 : Fld Z h177 b177 "java/lang/String" "coder" "B" (.int (0 : Int32)) := D177 (Or.inr (hw _ (List.mem_of_getElem? (i := 27) rfl))) (ty := .byte) (by decide)
  have F177_29 : Fld Z h177 b177 "java/lang/String" "value" "[B" .null := D177 (Or.inr (hw _ (List.mem_of_getElem? (i := 29) rfl))) (ty := (.array .byte)) (by decide)
  have R178 : Go p e below P T177 (mkF m 26 #[.val (.int k), .val (.int v), .val (.int c0), .val (.int c1), .val (.ref b154), .unset, .unset, .unset, .unset, .unset, .unset] [(.ref b177)]) := fun t_ k_ => R176 t_ (st177 t_ k_)
  have R179 : Go p e below P T177 (mkF m 27 #[.val (.int k), .val (.int v), .val (.int c0), .val (.int c1), .val (.ref b154), .unset, .unset, .unset, .unset, .unset, .unset] [(.ref b177), (.ref b177)]) := fun t_ k_ => R178 t_ (XS.dup X177.here hx rfl (hb hby at_26) rfl rfl k_)
  have R180 : Go p e below P T177 (mkF m 29 #[.val (.int k), .val (.int v), .val (.int c0), .val (.int c1), .val (.ref b154), .unset, .unset, .unset, .unset, .unset, .unset] [(.ref b154), (.ref b177), (.ref b177)]) := fun t_ k_ => R179 t_ (XS.aload X177.here hx rfl (hb hby at_27) rfl rfl k_)
  have f181 := (V174s.ext E177)
  obtain ⟨rv182, _, ⟨T182, L182, k182, n182⟩, -, X182, ⟨Lc182, hQ182, l182, y182, z182⟩, st182⟩ := X177.specialBack hx (y := (⟨"java/lang/String", "<init>", "([C)V"⟩ : MethodName)) rfl hown (mvT hZ (hw _ (List.mem_of_getElem? (i := 4) rfl))) (mvT hZ (hw _ (List.mem_of_getElem? (i := 5) rfl))) (mvT hZ (hw _ (List.mem_of_getElem? (i := 6) rfl))) (by decide) (StrChars.Road.backV (W := 1) hZ (w_backV hw) (kI := 4) (hw _ (List.mem_of_getElem? (i := 2) rfl)) (cs := ([x0, x1] : List Int32)) (bs := ([x0, x1] : List Int32).map (fun c => c.toInt8.toInt32)) (n := 2) (Nat.le_trans (oldLe O174) (Nat.le_of_eq g177.symm)) (oldLe O177) A177 F177_29 F177_27 f181 (P3.ext O177.2) hzc rfl rfl (by decide) (by decide) (by intro c hc; simp only [List.mem_cons, List.not_mem_nil, or_false] at hc; rcases hc with rfl | rfl <;> first | exact cx0.2 | exact cx1.2) rfl (by decide) (by decide)) (g := (mkF m 29 #[.val (.int k), .val (.int v), .val (.int c0), .val (.int c1), .val (.ref b154), .unset, .unset, .unset, .unset, .unset, .unset] [(.ref b154), (.ref b177), (.ref b177)])) rfl (by rw [hml]; rfl) (Steps.refl _) (a := b177) (argsL := [(.ref b154)]) (rest := [(.ref b177)]) (lenOf pd_42155922 rfl) rfl (by show 2 * 0 + _ ≤ _; exact Nat.le_of_eq rfl) (hb hby at_29) (fun _ _ => ⟨rfl, e177, (by decide : 2 + 1 ≤ _), (by decide : 6 + 2 ≤ _)⟩)
  dsimp only [Pt.U, Pt.locs, Pt.cells, Pt.slots] at X182 l182 y182 z182 st182 hQ182
  subst l182 y182 z182
  obtain ⟨rfl, N182q, K182, pE182, pC182, t182, kb182, -, lt182, tn182, pV182, pA182⟩ := hQ182
  have N182 := Fr.app N174 N182q
  have O182 := O177.keep K182 (allS (Nat.le_trans (oldLe O174) (Nat.le_of_eq g177.symm)) all0)
  have pB182 : Arv Z T182.heap t182 kb182 .byte (Int32.ofNat ([x0, x1] : List Int32).length) ((([x0, x1] : List Int32).map StrChars.lo8).map Value.int) (.int (0 : Int32)) := pA182
  have R183 : Go p e below P T182 (mkF m 32 #[.val (.int k), .val (.int v), .val (.int c0), .val (.int c1), .val (.ref b154), .unset, .unset, .unset, .unset, .unset, .unset] [(.ref b177)]) := fun t_ k_ => R180 t_ (st182.trans k_)
  have R184 : Go p e below P T182 (mkF m 34 #[.val (.int k), .val (.int v), .val (.int c0), .val (.int c1), .val (.ref b154), .val (.ref b177), .unset, .unset, .unset, .unset, .unset] []) := fun t_ k_ => R183 t_ (XS.astore X182.here hx rfl (hb hby at_32) rfl rfl (l' := #[.val (.int k), .val (.int v), .val (.int c0), .val (.int c1), .val (.ref b154), .val (.ref b177), .unset, .unset, .unset, .unset, .unset]) rfl k_)
  have R185 : Go p e below P T182 (mkF m 35 #[.val (.int k), .val (.int v), .val (.int c0), .val (.int c1), .val (.ref b154), .val (.ref b177), .unset, .unset, .unset, .unset, .unset] [(.int v)]) := fun t_ k_ => R184 t_ (XS.iloadN X182.here hx rfl (hb hby at_34) rfl k_)
  obtain ⟨rv186, _, ⟨T186, L186, k186, n186⟩, -, X186, ⟨Lc186, hQ186, l186, y186, z186⟩, st186⟩ := Jvm.LawKit.callS X182 hx (y := (⟨"java/lang/Integer", "valueOf", "(I)Ljava/lang/Integer;"⟩ : MethodName)) hown (mvT hZ (hw _ (List.mem_of_getElem? (i := 30) rfl))) (mvT hZ (hw _ (List.mem_of_getElem? (i := 31) rfl))) (mvT hZ (hw _ (List.mem_of_getElem? (i := 32) rfl))) (mvT hZ (hw _ (List.mem_of_getElem? (i := 33) rfl))) (by decide) (backOf (W := 0) (intV_ l Z a0 hw [] v ca cl T182.heap n0 O182 P0 P1 hbx) hZ (hw _ (List.mem_of_getElem? (i := 33) rfl)) (hw _ (List.mem_of_getElem? (i := 32) rfl)) (by decide) (by decide)) (g := (mkF m 35 #[.val (.int k), .val (.int v), .val (.int c0), .val (.int c1), .val (.ref b154), .val (.ref b177), .unset, .unset, .unset, .unset, .unset] [(.int v)])) rfl (by rw [hml]; rfl) (argsL := [(.int v)]) (rest := []) (lenOf pd_57006396 rfl) rfl (by show 2 * 0 + _ ≤ _; exact Nat.le_of_eq rfl) (hb hby at_35) (fun _ _ => ⟨rfl, (rfl : T182.heap = T182.heap), (by decide : 3 + 1 ≤ _), (by decide : 8 + 1 ≤ _)⟩)
  dsimp only [Pt.U, Pt.locs, Pt.cells, Pt.slots] at X186 l186 y186 z186 st186 hQ186
  subst l186 y186 z186
  obtain ⟨b_186, rfl, N186q, K186, p186_0, p186_1⟩ := hQ186
  have N186 := Fr.app N182 N186q
  have O186 := O182.keep K186 all0
  have R187 : Go p e below P T186 (mkF m 38 #[.val (.int k), .val (.int v), .val (.int c0), .val (.int c1), .val (.ref b154), .val (.ref b177), .unset, .unset, .unset, .unset, .unset] [(.ref b_186)]) := fun t_ k_ => R185 t_ (st186 t_ k_)
  have R188 : Go p e below P T186 (mkF m 40 #[.val (.int k), .val (.int v), .val (.int c0), .val (.int c1), .val (.ref b154), .val (.ref b177), .val (.ref b_186), .unset, .unset, .unset, .unset] []) := fun t_ k_ => R187 t_ (XS.astore X186.here hx rfl (hb hby at_38) rfl rfl (l' := #[.val (.int k), .val (.int v), .val (.int c0), .val (.int c1), .val (.ref b154), .val (.ref b177), .val (.ref b_186), .unset, .unset, .unset, .unset]) rfl k_)
  have R189 : Go p e below P T186 (mkF m 41 #[.val (.int k), .val (.int v), .val (.int c0), .val (.int c1), .val (.ref b154), .val (.ref b177), .val (.ref b_186), .unset, .unset, .unset, .unset] [(.int k)]) := fun t_ k_ => R188 t_ (XS.iloadN X186.here hx rfl (hb hby at_40) rfl k_)
  have R190 : Go p e below P T186 (mkF m 43 #[.val (.int k), .val (.int v), .val (.int c0), .val (.int c1), .val (.ref b154), .val (.ref b177), .val (.ref b_186), .unset, .unset, .unset, .unset] [(.int (7 : Int32)), (.int k)]) := fun t_ k_ => R189 t_ (XS.bipush X186.here hx rfl (hb hby at_41) k_)
  have R191 : Go p e below P T186 (mkF m 44 #[.val (.int k), .val (.int v), .val (.int c0), .val (.int c1), .val (.ref b154), .val (.ref b177), .val (.ref b_186), .unset, .unset, .unset, .unset] [(.int (k &&& (7 : Int32)))]) := fun t_ k_ => R190 t_ (XS.iand X186.here hx rfl (hb hby at_43) rfl k_)
  obtain ⟨kk, hkk⟩ : ∃ z : Int32, z = (k &&& (7 : Int32)) := ⟨_, rfl⟩
  have R192 : Go p e below P T186 (mkF m 44 #[.val (.int k), .val (.int v), .val (.int c0), .val (.int c1), .val (.ref b154), .val (.ref b177), .val (.ref b_186), .unset, .unset, .unset, .unset] [(.int kk)]) := by rw [hkk]; exact R191
  have R193 : Go p e below P T186 (mkF m 46 #[.val (.int k), .val (.int v), .val (.int c0), .val (.int c1), .val (.ref b154), .val (.ref b177), .val (.ref b_186), .val (.int kk), .unset, .unset, .unset] []) := fun t_ k_ => R192 t_ (XS.istore X186.here hx rfl (hb hby at_44) rfl (l' := #[.val (.int k), .val (.int v), .val (.int c0), .val (.int c1), .val (.ref b154), .val (.ref b177), .val (.ref b_186), .val (.int kk), .unset, .unset, .unset]) rfl k_)
  have R194 : Go p e below P T186 (mkF m 48 #[.val (.int k), .val (.int v), .val (.int c0), .val (.int c1), .val (.ref b154), .val (.ref b177), .val (.ref b_186), .val (.int kk), .unset, .unset, .unset] [(.int kk)]) := fun t_ k_ => R193 t_ (XS.iload X186.here hx rfl (hb hby at_46) rfl k_)
  by_cases hc195 : kk = (0 : Int32)
  · have R196 : Go p e below P T186 (mkF m 51 #[.val (.int k), .val (.int v), .val (.int c0), .val (.int c1), .val (.ref b154), .val (.ref b177), .val (.ref b_186), .val (.int kk), .unset, .unset, .unset] []) := fun t_ k_ => R194 t_ (XS.ifNo X186.here hx rfl (hb hby at_48) rfl ((if0 _ _).trans (teq hc195).2) k_)
    have R197 : Go p e below P T186 (mkF m 52 #[.val (.int k), .val (.int v), .val (.int c0), .val (.int c1), .val (.ref b154), .val (.ref b177), .val (.ref b_186), .val (.int kk), .unset, .unset, .unset] [.null]) := fun t_ k_ => R196 t_ (XS.aconstNull X186.here hx rfl (hb hby at_51) k_)
    have R198 : Go p e below P T186 (mkF m 54 #[.val (.int k), .val (.int v), .val (.int c0), .val (.int c1), .val (.ref b154), .val (.ref b177), .val (.ref b_186), .val (.int kk), .val .null, .unset, .unset] []) := fun t_ k_ => R197 t_ (XS.astore X186.here hx rfl (hb hby at_52) rfl rfl (l' := #[.val (.int k), .val (.int v), .val (.int c0), .val (.int c1), .val (.ref b154), .val (.ref b177), .val (.ref b_186), .val (.int kk), .val .null, .unset, .unset]) rfl k_)
    have R199 : Go p e below P T186 (mkF m 55 #[.val (.int k), .val (.int v), .val (.int c0), .val (.int c1), .val (.ref b154), .val (.ref b177), .val (.ref b_186), .val (.int kk), .val .null, .unset, .unset] [.null]) := fun t_ k_ => R198 t_ (XS.aconstNull X186.here hx rfl (hb hby at_54) k_)
    have R200 : Go p e below P T186 (mkF m 57 #[.val (.int k), .val (.int v), .val (.int c0), .val (.int c1), .val (.ref b154), .val (.ref b177), .val (.ref b_186), .val (.int kk), .val .null, .val .null, .unset] []) := fun t_ k_ => R199 t_ (XS.astore X186.here hx rfl (hb hby at_55) rfl rfl (l' := #[.val (.int k), .val (.int v), .val (.int c0), .val (.int c1), .val (.ref b154), .val (.ref b177), .val (.ref b_186), .val (.int kk), .val .null, .val .null, .unset]) rfl k_)
    have R201 : Go p e below P T186 (mkF m 180 #[.val (.int k), .val (.int v), .val (.int c0), .val (.int c1), .val (.ref b154), .val (.ref b177), .val (.ref b_186), .val (.int kk), .val .null, .val .null, .unset] []) := fun t_ k_ => R200 t_ (XS.goto X186.here hx rfl (pc0 := 57) (pc' := 180) rfl (hb hby at_57) (by decide) (by decide) k_)
    have R202 : Go p e below P T186 (mkF m 182 #[.val (.int k), .val (.int v), .val (.int c0), .val (.int c1), .val (.ref b154), .val (.ref b177), .val (.ref b_186), .val (.int kk), .val .null, .val .null, .unset] [.null]) := fun t_ k_ => R201 t_ (XS.aload X186.here hx rfl (hb hby at_180) rfl rfl k_)
    obtain ⟨rv203, _, ⟨T203, L203, k203, n203⟩, -, X203, ⟨Lc203, hQ203, l203, y203, z203⟩, st203⟩ := Jvm.LawKit.callS X186 hx (y := (⟨"com/example/rowset/rowset/model/SqlValue", "valueOf", "(Ljava/lang/Object;)Ljava/lang/Object;"⟩ : MethodName)) hown (mvT hZ (hw _ (List.mem_of_getElem? (i := 37) rfl))) (mvT hZ (hw _ (List.mem_of_getElem? (i := 38) rfl))) (mvT hZ (hw _ (List.mem_of_getElem? (i := 39) rfl))) (mvT hZ (hw _ (List.mem_of_getElem? (i := 40) rfl))) (by decide) (backOf (W := 0) (voN_ l Z a0 hw []  T186.heap n0 O186) hZ (hw _ (List.mem_of_getElem? (i := 40) rfl)) (hw _ (List.mem_of_getElem? (i := 39) rfl)) (by decide) (by decide)) (g := (mkF m 182 #[.val (.int k), .val (.int v), .val (.int c0), .val (.int c1), .val (.ref b154), .val (.ref b177), .val (.ref b_186), .val (.int kk), .val .null, .val .null, .unset] [.null])) rfl (by rw [hml]; rfl) (argsL := [.null]) (rest := []) (lenOf pd_72566344 rfl) rfl (by show 2 * 0 + _ ≤ _; exact Nat.le_of_eq rfl) (hb hby at_182) (fun _ _ => ⟨rfl, (rfl : T186.heap = T186.heap), (by decide : 4 + 0 ≤ _), (by decide : 9 + 0 ≤ _)⟩)
    dsimp only [Pt.U, Pt.locs, Pt.cells, Pt.slots] at X203 l203 y203 z203 st203 hQ203
    subst l203 y203 z203
    obtain ⟨rfl, N203q, K203⟩ := hQ203
    have N203 := Fr.app N186 N203q
    have R204 : Go p e below P T203 (mkF m 185 #[.val (.int k), .val (.int v), .val (.int c0), .val (.int c1), .val (.ref b154), .val (.ref b177), .val (.ref b_186), .val (.int kk), .val .null, .val .null, .unset] [.null]) := fun t_ k_ => R202 t_ (st203 t_ k_)
    have R205 : Go p e below P T203 (mkF m 187 #[.val (.int k), .val (.int v), .val (.int c0), .val (.int c1), .val (.ref b154), .val (.ref b177), .val (.ref b_186), .val (.int kk), .val .null, .val .null, .val .null] []) := fun t_ k_ => R204 t_ (XS.astore X203.here hx rfl (hb hby at_185) rfl rfl (l' := #[.val (.int k), .val (.int v), .val (.int c0), .val (.int c1), .val (.ref b154), .val (.ref b177), .val (.ref b_186), .val (.int kk), .val .null, .val .null, .val .null]) rfl k_)
    have R206 : Go p e below P T203 (mkF m 189 #[.val (.int k), .val (.int v), .val (.int c0), .val (.int c1), .val (.ref b154), .val (.ref b177), .val (.ref b_186), .val (.int kk), .val .null, .val .null, .val .null] [.null]) := fun t_ k_ => R205 t_ (XS.aload X203.here hx rfl (hb hby at_187) rfl rfl k_)
    have R207 : Go p e below P T203 (mkF m 191 #[.val (.int k), .val (.int v), .val (.int c0), .val (.int c1), .val (.ref b154), .val (.ref b177), .val (.ref b_186), .val (.int kk), .val .null, .val .null, .val .null] [.null, .null]) := fun t_ k_ => R206 t_ (XS.aload X203.here hx rfl (hb hby at_189) rfl rfl k_)
    have R208 : Go p e below P T203 (mkF m 194 #[.val (.int k), .val (.int v), .val (.int c0), .val (.int c1), .val (.ref b154), .val (.ref b177), .val (.ref b_186), .val (.int kk), .val .null, .val .null, .val .null] []) := fun t_ k_ => R207 t_ (Jvm.RoadKit.acmp (g := (mkF m 191 #[.val (.int k), .val (.int v), .val (.int c0), .val (.int c1), .val (.ref b154), .val (.ref b177), .val (.ref b_186), .val (.int kk), .val .null, .val .null, .val .null] [.null, .null])) X203 hx rfl rfl rfl (pc0 := 191) (pc' := 194) (same := true) rfl (hb hby at_191) rfl (decide_eq_true rfl) (by decide) (by decide) k_)
    have R209 : Go p e below P T203 (mkF m 196 #[.val (.int k), .val (.int v), .val (.int c0), .val (.int c1), .val (.ref b154), .val (.ref b177), .val (.ref b_186), .val (.int kk), .val .null, .val .null, .val .null] [.null]) := fun t_ k_ => R208 t_ (XS.aload X203.here hx rfl (hb hby at_194) rfl rfl k_)
    have R210 : Go p e below P T203 (mkF m 198 #[.val (.int k), .val (.int v), .val (.int c0), .val (.int c1), .val (.ref b154), .val (.ref b177), .val (.ref b_186), .val (.int kk), .val .null, .val .null, .val .null] [.null, .null]) := fun t_ k_ => R209 t_ (XS.aload X203.here hx rfl (hb hby at_196) rfl rfl k_)
    obtain ⟨rv211, _, ⟨T211, L211, k211, n211⟩, -, X211, ⟨Lc211, hQ211, l211, y211, z211⟩, st211⟩ := Jvm.LawKit.callS X203 hx (y := (⟨"com/example/rowset/rowset/model/SqlValue", "of", "(Ljava/lang/Object;)Lcom/example/rowset/rowset/model/SqlValue;"⟩ : MethodName)) hown (mvT hZ (hw _ (List.mem_of_getElem? (i := 41) rfl))) (mvT hZ (hw _ (List.mem_of_getElem? (i := 42) rfl))) (mvT hZ (hw _ (List.mem_of_getElem? (i := 39) rfl))) (mvT hZ (hw _ (List.mem_of_getElem? (i := 43) rfl))) (by decide) (backOf (W := 1) (ofN_ l Z a0 hw [] wN T186.heap n0 O186 P7) hZ (hw _ (List.mem_of_getElem? (i := 43) rfl)) (hw _ (List.mem_of_getElem? (i := 39) rfl)) (by decide) (by decide)) (g := (mkF m 198 #[.val (.int k), .val (.int v), .val (.int c0), .val (.int c1), .val (.ref b154), .val (.ref b177), .val (.ref b_186), .val (.int kk), .val .null, .val .null, .val .null] [.null, .null])) rfl (by rw [hml]; rfl) (argsL := [.null]) (rest := [.null]) (lenOf pd_47527223 rfl) rfl (by show 2 * 0 + _ ≤ _; exact Nat.le_of_eq rfl) (hb hby at_198) (fun _ _ => ⟨rfl, K203, (by decide : 4 + 0 ≤ _), (by decide : 9 + 0 ≤ _)⟩)
    dsimp only [Pt.U, Pt.locs, Pt.cells, Pt.slots] at X211 l211 y211 z211 st211 hQ211
    subst l211 y211 z211
    obtain ⟨rfl, N211q, K211⟩ := hQ211
    have N211 := Fr.app N203 N211q
    have R212 : Go p e below P T211 (mkF m 201 #[.val (.int k), .val (.int v), .val (.int c0), .val (.int c1), .val (.ref b154), .val (.ref b177), .val (.ref b_186), .val (.int kk), .val .null, .val .null, .val .null] [(.ref wN), .null]) := fun t_ k_ => R210 t_ (st211 t_ k_)
    obtain ⟨cq213, kq213, q213a, q213b, q213c⟩ := isOf hZ K211 (P8.ext O186.2)
    obtain ⟨rv213, _, ⟨T213, L213, k213, n213⟩, -, X213, ⟨Lc213, hQ213, l213, y213, z213⟩, st213⟩ := X211.virtualBack hx (y := (⟨"com/example/rowset/rowset/model/SqlValue", "value", "()Ljava/lang/Object;"⟩ : MethodName)) (z := (⟨"com/example/rowset/rowset/model/SqlValue", "value", "()Ljava/lang/Object;"⟩ : MethodName)) hown (mvT hZ (hw _ (List.mem_of_getElem? (i := 46) rfl))) (mvT hZ (hw _ (List.mem_of_getElem? (i := 47) rfl))) (notFace_of_selects (args := #[]) (mvT hZ (hw _ (List.mem_of_getElem? (i := 49) rfl)))) (mvT hZ (hw _ (List.mem_of_getElem? (i := 49) rfl))) (mvT hZ (hw _ (List.mem_of_getElem? (i := 48) rfl))) (by decide) (backOf (W := 1) (sqlG_ l Z a0 hw [] wN .null T186.heap n0 O186 rfl (P9.ext O186.2)) hZ (hw _ (List.mem_of_getElem? (i := 50) rfl)) (hw _ (List.mem_of_getElem? (i := 39) rfl)) (by decide) (by decide)) q213a q213c (g := (mkF m 201 #[.val (.int k), .val (.int v), .val (.int c0), .val (.int c1), .val (.ref b154), .val (.ref b177), .val (.ref b_186), .val (.int kk), .val .null, .val .null, .val .null] [(.ref wN), .null])) rfl (by rw [hml]; rfl) (Steps.refl _) (argsL := []) (rest := [.null]) (lenOf pd_65739572 rfl) rfl (by show 2 * 0 + _ ≤ _; exact Nat.le_of_eq rfl) (hb hby at_201) (fun _ _ => ⟨rfl, K211, (by decide : 4 + 0 ≤ _), (by decide : 9 + 0 ≤ _)⟩)
    dsimp only [Pt.U, Pt.locs, Pt.cells, Pt.slots] at X213 l213 y213 z213 st213 hQ213
    subst l213 y213 z213
    obtain ⟨rfl, N213q, K213⟩ := hQ213
    have N213 := Fr.app N211 N213q
    have R214 : Go p e below P T213 (mkF m 204 #[.val (.int k), .val (.int v), .val (.int c0), .val (.int c1), .val (.ref b154), .val (.ref b177), .val (.ref b_186), .val (.int kk), .val .null, .val .null, .val .null] [.null, .null]) := fun t_ k_ => R212 t_ (st213.trans k_)
    have R215 : Go p e below P T213 (mkF m 207 #[.val (.int k), .val (.int v), .val (.int c0), .val (.int c1), .val (.ref b154), .val (.ref b177), .val (.ref b_186), .val (.int kk), .val .null, .val .null, .val .null] []) := fun t_ k_ => R214 t_ (Jvm.RoadKit.acmp (g := (mkF m 204 #[.val (.int k), .val (.int v), .val (.int c0), .val (.int c1), .val (.ref b154), .val (.ref b177), .val (.ref b_186), .val (.int kk), .val .null, .val .null, .val .null] [.null, .null])) X213 hx rfl rfl rfl (pc0 := 204) (pc' := 207) (same := true) rfl (hb hby at_204) rfl (decide_eq_true rfl) (by decide) (by decide) k_)
    have R216 : Go p e below P T213 (mkF m 208 #[.val (.int k), .val (.int v), .val (.int c0), .val (.int c1), .val (.ref b154), .val (.ref b177), .val (.ref b_186), .val (.int kk), .val .null, .val .null, .val .null] [(.int (1 : Int32))]) := fun t_ k_ => R215 t_ (XS.iconst X213.here hx rfl (hb hby at_207) k_)
    have R217 : Go p e below P T213 (mkF m 212 #[.val (.int k), .val (.int v), .val (.int c0), .val (.int c1), .val (.ref b154), .val (.ref b177), .val (.ref b_186), .val (.int kk), .val .null, .val .null, .val .null] [(.int (1 : Int32))]) := fun t_ k_ => R216 t_ (XS.goto X213.here hx rfl (pc0 := 208) (pc' := 212) rfl (hb hby at_208) (by decide) (by decide) k_)
    obtain ⟨fs, hr, hrun, hended, hW, hsame⟩ := X213.leave (v := some (.int (nar .boolean (1 : Int32)))) (fun h => by rw [Bd.returns] at h; cases h)
    exact ⟨_, _, hP _ (R217 _ (retN X213 hx (t := .boolean) Bd.returns (by simp) (hb hby at_212) hr)), hrun, hended, _, _, rfl, ⟨rfl, N213, (K213.symm ▸ (((((((Keep.refl h0 []).ext E154).wr W164 (Or.inr (Nat.le_of_eq g154.symm))).wr W174 (Or.inr (Nat.le_of_eq g154.symm))).ext E177).trans K182 (allS (Or.inr (Nat.le_trans ((((Keep.refl h0 []).ext E154).wr W164 (Or.inr (Nat.le_of_eq g154.symm))).wr W174 (Or.inr (Nat.le_of_eq g154.symm))).1 (Nat.le_of_eq g177.symm))) all0)).trans K186 all0))⟩, ⟨_, rfl⟩, hW, hsame.mono (by decide) (by decide)⟩
  · have R218 : Go p e below P T186 (mkF m 60 #[.val (.int k), .val (.int v), .val (.int c0), .val (.int c1), .val (.ref b154), .val (.ref b177), .val (.ref b_186), .val (.int kk), .unset, .unset, .unset] []) := fun t_ k_ => R194 t_ (XS.ifYes X186.here hx rfl (pc0 := 48) (pc' := 60) rfl (hb hby at_48) rfl ((if0 _ _).trans (feq hc195).2) (by decide) (by decide) k_)
    have R219 : Go p e below P T186 (mkF m 62 #[.val (.int k), .val (.int v), .val (.int c0), .val (.int c1), .val (.ref b154), .val (.ref b177), .val (.ref b_186), .val (.int kk), .unset, .unset, .unset] [(.int kk)]) := fun t_ k_ => R218 t_ (XS.iload X186.here hx rfl (hb hby at_60) rfl k_)
    have R220 : Go p e below P T186 (mkF m 63 #[.val (.int k), .val (.int v), .val (.int c0), .val (.int c1), .val (.ref b154), .val (.ref b177), .val (.ref b_186), .val (.int kk), .unset, .unset, .unset] [(.int (1 : Int32)), (.int kk)]) := fun t_ k_ => R219 t_ (XS.iconst X186.here hx rfl (hb hby at_62) k_)
    by_cases hc221 : kk = (1 : Int32)
    · have R222 : Go p e below P T186 (mkF m 66 #[.val (.int k), .val (.int v), .val (.int c0), .val (.int c1), .val (.ref b154), .val (.ref b177), .val (.ref b_186), .val (.int kk), .unset, .unset, .unset] []) := fun t_ k_ => R220 t_ (XS.icmpNo X186.here hx rfl (hb hby at_63) rfl (teq hc221).2 k_)
      have R223 : Go p e below P T186 (mkF m 68 #[.val (.int k), .val (.int v), .val (.int c0), .val (.int c1), .val (.ref b154), .val (.ref b177), .val (.ref b_186), .val (.int kk), .unset, .unset, .unset] [(.ref b_186)]) := fun t_ k_ => R222 t_ (XS.aload X186.here hx rfl (hb hby at_66) rfl rfl k_)
      have R224 : Go p e below P T186 (mkF m 70 #[.val (.int k), .val (.int v), .val (.int c0), .val (.int c1), .val (.ref b154), .val (.ref b177), .val (.ref b_186), .val (.int kk), .val (.ref b_186), .unset, .unset] []) := fun t_ k_ => R223 t_ (XS.astore X186.here hx rfl (hb hby at_68) rfl rfl (l' := #[.val (.int k), .val (.int v), .val (.int c0), .val (.int c1), .val (.ref b154), .val (.ref b177), .val (.ref b_186), .val (.int kk), .val (.ref b_186), .unset, .unset]) rfl k_)
      have R225 : Go p e below P T186 (mkF m 72 #[.val (.int k), .val (.int v), .val (.int c0), .val (.int c1), .val (.ref b154), .val (.ref b177), .val (.ref b_186), .val (.int kk), .val (.ref b_186), .unset, .unset] [(.ref b_186)]) := fun t_ k_ => R224 t_ (XS.aload X186.here hx rfl (hb hby at_70) rfl rfl k_)
      have R226 : Go p e below P T186 (mkF m 74 #[.val (.int k), .val (.int v), .val (.int c0), .val (.int c1), .val (.ref b154), .val (.ref b177), .val (.ref b_186), .val (.int kk), .val (.ref b_186), .val (.ref b_186), .unset] []) := fun t_ k_ => R225 t_ (XS.astore X186.here hx rfl (hb hby at_72) rfl rfl (l' := #[.val (.int k), .val (.int v), .val (.int c0), .val (.int c1), .val (.ref b154), .val (.ref b177), .val (.ref b_186), .val (.int kk), .val (.ref b_186), .val (.ref b_186), .unset]) rfl k_)
      have R227 : Go p e below P T186 (mkF m 180 #[.val (.int k), .val (.int v), .val (.int c0), .val (.int c1), .val (.ref b154), .val (.ref b177), .val (.ref b_186), .val (.int kk), .val (.ref b_186), .val (.ref b_186), .unset] []) := fun t_ k_ => R226 t_ (XS.goto X186.here hx rfl (pc0 := 74) (pc' := 180) rfl (hb hby at_74) (by decide) (by decide) k_)
      have R228 : Go p e below P T186 (mkF m 182 #[.val (.int k), .val (.int v), .val (.int c0), .val (.int c1), .val (.ref b154), .val (.ref b177), .val (.ref b_186), .val (.int kk), .val (.ref b_186), .val (.ref b_186), .unset] [(.ref b_186)]) := fun t_ k_ => R227 t_ (XS.aload X186.here hx rfl (hb hby at_180) rfl rfl k_)
      obtain ⟨rv229, _, ⟨T229, L229, k229, n229⟩, -, X229, ⟨Lc229, hQ229, l229, y229, z229⟩, st229⟩ := Jvm.LawKit.callS X186 hx (y := (⟨"com/example/rowset/rowset/model/SqlValue", "valueOf", "(Ljava/lang/Object;)Ljava/lang/Object;"⟩ : MethodName)) hown (mvT hZ (hw _ (List.mem_of_getElem? (i := 37) rfl))) (mvT hZ (hw _ (List.mem_of_getElem? (i := 38) rfl))) (mvT hZ (hw _ (List.mem_of_getElem? (i := 39) rfl))) (mvT hZ (hw _ (List.mem_of_getElem? (i := 40) rfl))) (by decide) (backOf (W := 0) (voI_ l Z a0 hw [] b_186 T186.heap n0 O186 p186_0) hZ (hw _ (List.mem_of_getElem? (i := 40) rfl)) (hw _ (List.mem_of_getElem? (i := 39) rfl)) (by decide) (by decide)) (g := (mkF m 182 #[.val (.int k), .val (.int v), .val (.int c0), .val (.int c1), .val (.ref b154), .val (.ref b177), .val (.ref b_186), .val (.int kk), .val (.ref b_186), .val (.ref b_186), .unset] [(.ref b_186)])) rfl (by rw [hml]; rfl) (argsL := [(.ref b_186)]) (rest := []) (lenOf pd_72566344 rfl) rfl (by show 2 * 0 + _ ≤ _; exact Nat.le_of_eq rfl) (hb hby at_182) (fun _ _ => ⟨rfl, (rfl : T186.heap = T186.heap), (by decide : 4 + 0 ≤ _), (by decide : 9 + 0 ≤ _)⟩)
      dsimp only [Pt.U, Pt.locs, Pt.cells, Pt.slots] at X229 l229 y229 z229 st229 hQ229
      subst l229 y229 z229
      obtain ⟨rfl, N229q, K229⟩ := hQ229
      have N229 := Fr.app N186 N229q
      have R230 : Go p e below P T229 (mkF m 185 #[.val (.int k), .val (.int v), .val (.int c0), .val (.int c1), .val (.ref b154), .val (.ref b177), .val (.ref b_186), .val (.int kk), .val (.ref b_186), .val (.ref b_186), .unset] [(.ref b_186)]) := fun t_ k_ => R228 t_ (st229 t_ k_)
      have R231 : Go p e below P T229 (mkF m 187 #[.val (.int k), .val (.int v), .val (.int c0), .val (.int c1), .val (.ref b154), .val (.ref b177), .val (.ref b_186), .val (.int kk), .val (.ref b_186), .val (.ref b_186), .val (.ref b_186)] []) := fun t_ k_ => R230 t_ (XS.astore X229.here hx rfl (hb hby at_185) rfl rfl (l' := #[.val (.int k), .val (.int v), .val (.int c0), .val (.int c1), .val (.ref b154), .val (.ref b177), .val (.ref b_186), .val (.int kk), .val (.ref b_186), .val (.ref b_186), .val (.ref b_186)]) rfl k_)
      have R232 : Go p e below P T229 (mkF m 189 #[.val (.int k), .val (.int v), .val (.int c0), .val (.int c1), .val (.ref b154), .val (.ref b177), .val (.ref b_186), .val (.int kk), .val (.ref b_186), .val (.ref b_186), .val (.ref b_186)] [(.ref b_186)]) := fun t_ k_ => R231 t_ (XS.aload X229.here hx rfl (hb hby at_187) rfl rfl k_)
      have R233 : Go p e below P T229 (mkF m 191 #[.val (.int k), .val (.int v), .val (.int c0), .val (.int c1), .val (.ref b154), .val (.ref b177), .val (.ref b_186), .val (.int kk), .val (.ref b_186), .val (.ref b_186), .val (.ref b_186)] [(.ref b_186), (.ref b_186)]) := fun t_ k_ => R232 t_ (XS.aload X229.here hx rfl (hb hby at_189) rfl rfl k_)
      have R234 : Go p e below P T229 (mkF m 194 #[.val (.int k), .val (.int v), .val (.int c0), .val (.int c1), .val (.ref b154), .val (.ref b177), .val (.ref b_186), .val (.int kk), .val (.ref b_186), .val (.ref b_186), .val (.ref b_186)] []) := fun t_ k_ => R233 t_ (Jvm.RoadKit.acmp (g := (mkF m 191 #[.val (.int k), .val (.int v), .val (.int c0), .val (.int c1), .val (.ref b154), .val (.ref b177), .val (.ref b_186), .val (.int kk), .val (.ref b_186), .val (.ref b_186), .val (.ref b_186)] [(.ref b_186), (.ref b_186)])) X229 hx rfl rfl rfl (pc0 := 191) (pc' := 194) (same := true) rfl (hb hby at_191) rfl (decide_eq_true (congrArg Value.ref rfl)) (by decide) (by decide) k_)
      have R235 : Go p e below P T229 (mkF m 196 #[.val (.int k), .val (.int v), .val (.int c0), .val (.int c1), .val (.ref b154), .val (.ref b177), .val (.ref b_186), .val (.int kk), .val (.ref b_186), .val (.ref b_186), .val (.ref b_186)] [(.ref b_186)]) := fun t_ k_ => R234 t_ (XS.aload X229.here hx rfl (hb hby at_194) rfl rfl k_)
      have R236 : Go p e below P T229 (mkF m 198 #[.val (.int k), .val (.int v), .val (.int c0), .val (.int c1), .val (.ref b154), .val (.ref b177), .val (.ref b_186), .val (.int kk), .val (.ref b_186), .val (.ref b_186), .val (.ref b_186)] [(.ref b_186), (.ref b_186)]) := fun t_ k_ => R235 t_ (XS.aload X229.here hx rfl (hb hby at_196) rfl rfl k_)
      obtain ⟨rv237, _, ⟨T237, L237, k237, n237⟩, -, X237, ⟨Lc237, hQ237, l237, y237, z237⟩, st237⟩ := Jvm.LawKit.callS X229 hx (y := (⟨"com/example/rowset/rowset/model/SqlValue", "of", "(Ljava/lang/Object;)Lcom/example/rowset/rowset/model/SqlValue;"⟩ : MethodName)) hown (mvT hZ (hw _ (List.mem_of_getElem? (i := 41) rfl))) (mvT hZ (hw _ (List.mem_of_getElem? (i := 42) rfl))) (mvT hZ (hw _ (List.mem_of_getElem? (i := 39) rfl))) (mvT hZ (hw _ (List.mem_of_getElem? (i := 43) rfl))) (by decide) (backOf (W := 1) (ofI_ l Z a0 hw [] b_186 v zc st d1 D1 d2 D2 T186.heap n0 O186 p186_0 p186_1 P3 hzc hT1 hT2) hZ (hw _ (List.mem_of_getElem? (i := 43) rfl)) (hw _ (List.mem_of_getElem? (i := 39) rfl)) (by decide) (by decide)) (g := (mkF m 198 #[.val (.int k), .val (.int v), .val (.int c0), .val (.int c1), .val (.ref b154), .val (.ref b177), .val (.ref b_186), .val (.int kk), .val (.ref b_186), .val (.ref b_186), .val (.ref b_186)] [(.ref b_186), (.ref b_186)])) rfl (by rw [hml]; rfl) (argsL := [(.ref b_186)]) (rest := [(.ref b_186)]) (lenOf pd_47527223 rfl) rfl (by show 2 * 0 + _ ≤ _; exact Nat.le_of_eq rfl) (hb hby at_198) (fun _ _ => ⟨rfl, K229, (by decide : 4 + 3 ≤ _), (by decide : 9 + 17 ≤ _)⟩)
      dsimp only [Pt.U, Pt.locs, Pt.cells, Pt.slots] at X237 l237 y237 z237 st237 hQ237
      subst l237 y237 z237
      obtain ⟨x_237, rfl, N237q, K237, p237_0, p237_1, p237_2⟩ := hQ237
      have N237 := Fr.app N229 N237q
      have O237 := O186.keep K237 all0
      have R238 : Go p e below P T237 (mkF m 201 #[.val (.int k), .val (.int v), .val (.int c0), .val (.int c1), .val (.ref b154), .val (.ref b177), .val (.ref b_186), .val (.int kk), .val (.ref b_186), .val (.ref b_186), .val (.ref b_186)] [(.ref x_237), (.ref b_186)]) := fun t_ k_ => R236 t_ (st237 t_ k_)
      obtain ⟨cq239, kq239, q239a, q239b, q239c⟩ := isOf hZ (rfl : T237.heap = T237.heap) p237_1
      obtain ⟨rv239, _, ⟨T239, L239, k239, n239⟩, -, X239, ⟨Lc239, hQ239, l239, y239, z239⟩, st239⟩ := X237.virtualBack hx (y := (⟨"com/example/rowset/rowset/model/SqlValue", "value", "()Ljava/lang/Object;"⟩ : MethodName)) (z := (⟨"com/example/rowset/rowset/model/SqlValue", "value", "()Ljava/lang/Object;"⟩ : MethodName)) hown (mvT hZ (hw _ (List.mem_of_getElem? (i := 46) rfl))) (mvT hZ (hw _ (List.mem_of_getElem? (i := 47) rfl))) (notFace_of_selects (args := #[]) (mvT hZ (hw _ (List.mem_of_getElem? (i := 49) rfl)))) (mvT hZ (hw _ (List.mem_of_getElem? (i := 49) rfl))) (mvT hZ (hw _ (List.mem_of_getElem? (i := 48) rfl))) (by decide) (backOf (W := 1) (sqlG_ l Z a0 hw [] x_237 (.ref b_186) T237.heap n0 O237 rfl p237_2) hZ (hw _ (List.mem_of_getElem? (i := 50) rfl)) (hw _ (List.mem_of_getElem? (i := 39) rfl)) (by decide) (by decide)) q239a q239c (g := (mkF m 201 #[.val (.int k), .val (.int v), .val (.int c0), .val (.int c1), .val (.ref b154), .val (.ref b177), .val (.ref b_186), .val (.int kk), .val (.ref b_186), .val (.ref b_186), .val (.ref b_186)] [(.ref x_237), (.ref b_186)])) rfl (by rw [hml]; rfl) (Steps.refl _) (argsL := []) (rest := [(.ref b_186)]) (lenOf pd_65739572 rfl) rfl (by show 2 * 0 + _ ≤ _; exact Nat.le_of_eq rfl) (hb hby at_201) (fun _ _ => ⟨rfl, (rfl : T237.heap = T237.heap), (by decide : 7 + 0 ≤ _), (by decide : 26 + 0 ≤ _)⟩)
      dsimp only [Pt.U, Pt.locs, Pt.cells, Pt.slots] at X239 l239 y239 z239 st239 hQ239
      subst l239 y239 z239
      obtain ⟨rfl, N239q, K239⟩ := hQ239
      have N239 := Fr.app N237 N239q
      have R240 : Go p e below P T239 (mkF m 204 #[.val (.int k), .val (.int v), .val (.int c0), .val (.int c1), .val (.ref b154), .val (.ref b177), .val (.ref b_186), .val (.int kk), .val (.ref b_186), .val (.ref b_186), .val (.ref b_186)] [(.ref b_186), (.ref b_186)]) := fun t_ k_ => R238 t_ (st239.trans k_)
      have R241 : Go p e below P T239 (mkF m 207 #[.val (.int k), .val (.int v), .val (.int c0), .val (.int c1), .val (.ref b154), .val (.ref b177), .val (.ref b_186), .val (.int kk), .val (.ref b_186), .val (.ref b_186), .val (.ref b_186)] []) := fun t_ k_ => R240 t_ (Jvm.RoadKit.acmp (g := (mkF m 204 #[.val (.int k), .val (.int v), .val (.int c0), .val (.int c1), .val (.ref b154), .val (.ref b177), .val (.ref b_186), .val (.int kk), .val (.ref b_186), .val (.ref b_186), .val (.ref b_186)] [(.ref b_186), (.ref b_186)])) X239 hx rfl rfl rfl (pc0 := 204) (pc' := 207) (same := true) rfl (hb hby at_204) rfl (decide_eq_true (congrArg Value.ref rfl)) (by decide) (by decide) k_)
      have R242 : Go p e below P T239 (mkF m 208 #[.val (.int k), .val (.int v), .val (.int c0), .val (.int c1), .val (.ref b154), .val (.ref b177), .val (.ref b_186), .val (.int kk), .val (.ref b_186), .val (.ref b_186), .val (.ref b_186)] [(.int (1 : Int32))]) := fun t_ k_ => R241 t_ (XS.iconst X239.here hx rfl (hb hby at_207) k_)
      have R243 : Go p e below P T239 (mkF m 212 #[.val (.int k), .val (.int v), .val (.int c0), .val (.int c1), .val (.ref b154), .val (.ref b177), .val (.ref b_186), .val (.int kk), .val (.ref b_186), .val (.ref b_186), .val (.ref b_186)] [(.int (1 : Int32))]) := fun t_ k_ => R242 t_ (XS.goto X239.here hx rfl (pc0 := 208) (pc' := 212) rfl (hb hby at_208) (by decide) (by decide) k_)
      obtain ⟨fs, hr, hrun, hended, hW, hsame⟩ := X239.leave (v := some (.int (nar .boolean (1 : Int32)))) (fun h => by rw [Bd.returns] at h; cases h)
      exact ⟨_, _, hP _ (R243 _ (retN X239 hx (t := .boolean) Bd.returns (by simp) (hb hby at_212) hr)), hrun, hended, _, _, rfl, ⟨rfl, N239, (K239.symm ▸ ((((((((Keep.refl h0 []).ext E154).wr W164 (Or.inr (Nat.le_of_eq g154.symm))).wr W174 (Or.inr (Nat.le_of_eq g154.symm))).ext E177).trans K182 (allS (Or.inr (Nat.le_trans ((((Keep.refl h0 []).ext E154).wr W164 (Or.inr (Nat.le_of_eq g154.symm))).wr W174 (Or.inr (Nat.le_of_eq g154.symm))).1 (Nat.le_of_eq g177.symm))) all0)).trans K186 all0).trans K237 all0))⟩, ⟨_, rfl⟩, hW, hsame.mono (by decide) (by decide)⟩
    · have R244 : Go p e below P T186 (mkF m 77 #[.val (.int k), .val (.int v), .val (.int c0), .val (.int c1), .val (.ref b154), .val (.ref b177), .val (.ref b_186), .val (.int kk), .unset, .unset, .unset] []) := fun t_ k_ => R220 t_ (XS.icmpYes X186.here hx rfl (pc0 := 63) (pc' := 77) rfl (hb hby at_63) rfl (feq hc221).2 (by decide) (by decide) k_)
      have R245 : Go p e below P T186 (mkF m 79 #[.val (.int k), .val (.int v), .val (.int c0), .val (.int c1), .val (.ref b154), .val (.ref b177), .val (.ref b_186), .val (.int kk), .unset, .unset, .unset] [(.int kk)]) := fun t_ k_ => R244 t_ (XS.iload X186.here hx rfl (hb hby at_77) rfl k_)
      have R246 : Go p e below P T186 (mkF m 80 #[.val (.int k), .val (.int v), .val (.int c0), .val (.int c1), .val (.ref b154), .val (.ref b177), .val (.ref b_186), .val (.int kk), .unset, .unset, .unset] [(.int (2 : Int32)), (.int kk)]) := fun t_ k_ => R245 t_ (XS.iconst X186.here hx rfl (hb hby at_79) k_)
      by_cases hc247 : kk = (2 : Int32)
      · have R248 : Go p e below P T186 (mkF m 83 #[.val (.int k), .val (.int v), .val (.int c0), .val (.int c1), .val (.ref b154), .val (.ref b177), .val (.ref b_186), .val (.int kk), .unset, .unset, .unset] []) := fun t_ k_ => R246 t_ (XS.icmpNo X186.here hx rfl (hb hby at_80) rfl (teq hc247).2 k_)
        have R249 : Go p e below P T186 (mkF m 85 #[.val (.int k), .val (.int v), .val (.int c0), .val (.int c1), .val (.ref b154), .val (.ref b177), .val (.ref b_186), .val (.int kk), .unset, .unset, .unset] [(.ref b177)]) := fun t_ k_ => R248 t_ (XS.aload X186.here hx rfl (hb hby at_83) rfl rfl k_)
        have R250 : Go p e below P T186 (mkF m 87 #[.val (.int k), .val (.int v), .val (.int c0), .val (.int c1), .val (.ref b154), .val (.ref b177), .val (.ref b_186), .val (.int kk), .val (.ref b177), .unset, .unset] []) := fun t_ k_ => R249 t_ (XS.astore X186.here hx rfl (hb hby at_85) rfl rfl (l' := #[.val (.int k), .val (.int v), .val (.int c0), .val (.int c1), .val (.ref b154), .val (.ref b177), .val (.ref b_186), .val (.int kk), .val (.ref b177), .unset, .unset]) rfl k_)
        have R251 : Go p e below P T186 (mkF m 89 #[.val (.int k), .val (.int v), .val (.int c0), .val (.int c1), .val (.ref b154), .val (.ref b177), .val (.ref b_186), .val (.int kk), .val (.ref b177), .unset, .unset] [(.ref b177)]) := fun t_ k_ => R250 t_ (XS.aload X186.here hx rfl (hb hby at_87) rfl rfl k_)
        have R252 : Go p e below P T186 (mkF m 91 #[.val (.int k), .val (.int v), .val (.int c0), .val (.int c1), .val (.ref b154), .val (.ref b177), .val (.ref b_186), .val (.int kk), .val (.ref b177), .val (.ref b177), .unset] []) := fun t_ k_ => R251 t_ (XS.astore X186.here hx rfl (hb hby at_89) rfl rfl (l' := #[.val (.int k), .val (.int v), .val (.int c0), .val (.int c1), .val (.ref b154), .val (.ref b177), .val (.ref b_186), .val (.int kk), .val (.ref b177), .val (.ref b177), .unset]) rfl k_)
        have R253 : Go p e below P T186 (mkF m 180 #[.val (.int k), .val (.int v), .val (.int c0), .val (.int c1), .val (.ref b154), .val (.ref b177), .val (.ref b_186), .val (.int kk), .val (.ref b177), .val (.ref b177), .unset] []) := fun t_ k_ => R252 t_ (XS.goto X186.here hx rfl (pc0 := 91) (pc' := 180) rfl (hb hby at_91) (by decide) (by decide) k_)
        have R254 : Go p e below P T186 (mkF m 182 #[.val (.int k), .val (.int v), .val (.int c0), .val (.int c1), .val (.ref b154), .val (.ref b177), .val (.ref b_186), .val (.int kk), .val (.ref b177), .val (.ref b177), .unset] [(.ref b177)]) := fun t_ k_ => R253 t_ (XS.aload X186.here hx rfl (hb hby at_180) rfl rfl k_)
        have f255 := (pE182.keep K186)
        obtain ⟨rv256, _, ⟨T256, L256, k256, n256⟩, -, X256, ⟨Lc256, hQ256, l256, y256, z256⟩, st256⟩ := Jvm.LawKit.callS X186 hx (y := (⟨"com/example/rowset/rowset/model/SqlValue", "valueOf", "(Ljava/lang/Object;)Ljava/lang/Object;"⟩ : MethodName)) hown (mvT hZ (hw _ (List.mem_of_getElem? (i := 37) rfl))) (mvT hZ (hw _ (List.mem_of_getElem? (i := 38) rfl))) (mvT hZ (hw _ (List.mem_of_getElem? (i := 39) rfl))) (mvT hZ (hw _ (List.mem_of_getElem? (i := 40) rfl))) (by decide) (backOf (W := 0) (voS_ l Z a0 hw [] b177 T186.heap n0 O186 f255) hZ (hw _ (List.mem_of_getElem? (i := 40) rfl)) (hw _ (List.mem_of_getElem? (i := 39) rfl)) (by decide) (by decide)) (g := (mkF m 182 #[.val (.int k), .val (.int v), .val (.int c0), .val (.int c1), .val (.ref b154), .val (.ref b177), .val (.ref b_186), .val (.int kk), .val (.ref b177), .val (.ref b177), .unset] [(.ref b177)])) rfl (by rw [hml]; rfl) (argsL := [(.ref b177)]) (rest := []) (lenOf pd_72566344 rfl) rfl (by show 2 * 0 + _ ≤ _; exact Nat.le_of_eq rfl) (hb hby at_182) (fun _ _ => ⟨rfl, (rfl : T186.heap = T186.heap), (by decide : 4 + 0 ≤ _), (by decide : 9 + 0 ≤ _)⟩)
        dsimp only [Pt.U, Pt.locs, Pt.cells, Pt.slots] at X256 l256 y256 z256 st256 hQ256
        subst l256 y256 z256
        obtain ⟨rfl, N256q, K256⟩ := hQ256
        have N256 := Fr.app N186 N256q
        have R257 : Go p e below P T256 (mkF m 185 #[.val (.int k), .val (.int v), .val (.int c0), .val (.int c1), .val (.ref b154), .val (.ref b177), .val (.ref b_186), .val (.int kk), .val (.ref b177), .val (.ref b177), .unset] [(.ref b177)]) := fun t_ k_ => R254 t_ (st256 t_ k_)
        have R258 : Go p e below P T256 (mkF m 187 #[.val (.int k), .val (.int v), .val (.int c0), .val (.int c1), .val (.ref b154), .val (.ref b177), .val (.ref b_186), .val (.int kk), .val (.ref b177), .val (.ref b177), .val (.ref b177)] []) := fun t_ k_ => R257 t_ (XS.astore X256.here hx rfl (hb hby at_185) rfl rfl (l' := #[.val (.int k), .val (.int v), .val (.int c0), .val (.int c1), .val (.ref b154), .val (.ref b177), .val (.ref b_186), .val (.int kk), .val (.ref b177), .val (.ref b177), .val (.ref b177)]) rfl k_)
        have R259 : Go p e below P T256 (mkF m 189 #[.val (.int k), .val (.int v), .val (.int c0), .val (.int c1), .val (.ref b154), .val (.ref b177), .val (.ref b_186), .val (.int kk), .val (.ref b177), .val (.ref b177), .val (.ref b177)] [(.ref b177)]) := fun t_ k_ => R258 t_ (XS.aload X256.here hx rfl (hb hby at_187) rfl rfl k_)
        have R260 : Go p e below P T256 (mkF m 191 #[.val (.int k), .val (.int v), .val (.int c0), .val (.int c1), .val (.ref b154), .val (.ref b177), .val (.ref b_186), .val (.int kk), .val (.ref b177), .val (.ref b177), .val (.ref b177)] [(.ref b177), (.ref b177)]) := fun t_ k_ => R259 t_ (XS.aload X256.here hx rfl (hb hby at_189) rfl rfl k_)
        have R261 : Go p e below P T256 (mkF m 194 #[.val (.int k), .val (.int v), .val (.int c0), .val (.int c1), .val (.ref b154), .val (.ref b177), .val (.ref b_186), .val (.int kk), .val (.ref b177), .val (.ref b177), .val (.ref b177)] []) := fun t_ k_ => R260 t_ (Jvm.RoadKit.acmp (g := (mkF m 191 #[.val (.int k), .val (.int v), .val (.int c0), .val (.int c1), .val (.ref b154), .val (.ref b177), .val (.ref b_186), .val (.int kk), .val (.ref b177), .val (.ref b177), .val (.ref b177)] [(.ref b177), (.ref b177)])) X256 hx rfl rfl rfl (pc0 := 191) (pc' := 194) (same := true) rfl (hb hby at_191) rfl (decide_eq_true (congrArg Value.ref rfl)) (by decide) (by decide) k_)
        have R262 : Go p e below P T256 (mkF m 196 #[.val (.int k), .val (.int v), .val (.int c0), .val (.int c1), .val (.ref b154), .val (.ref b177), .val (.ref b_186), .val (.int kk), .val (.ref b177), .val (.ref b177), .val (.ref b177)] [(.ref b177)]) := fun t_ k_ => R261 t_ (XS.aload X256.here hx rfl (hb hby at_194) rfl rfl k_)
        have R263 : Go p e below P T256 (mkF m 198 #[.val (.int k), .val (.int v), .val (.int c0), .val (.int c1), .val (.ref b154), .val (.ref b177), .val (.ref b_186), .val (.int kk), .val (.ref b177), .val (.ref b177), .val (.ref b177)] [(.ref b177), (.ref b177)]) := fun t_ k_ => R262 t_ (XS.aload X256.here hx rfl (hb hby at_196) rfl rfl k_)
        obtain ⟨rv264, _, ⟨T264, L264, k264, n264⟩, -, X264, ⟨Lc264, hQ264, l264, y264, z264⟩, st264⟩ := Jvm.LawKit.callS X256 hx (y := (⟨"com/example/rowset/rowset/model/SqlValue", "of", "(Ljava/lang/Object;)Lcom/example/rowset/rowset/model/SqlValue;"⟩ : MethodName)) hown (mvT hZ (hw _ (List.mem_of_getElem? (i := 41) rfl))) (mvT hZ (hw _ (List.mem_of_getElem? (i := 42) rfl))) (mvT hZ (hw _ (List.mem_of_getElem? (i := 39) rfl))) (mvT hZ (hw _ (List.mem_of_getElem? (i := 43) rfl))) (by decide) (backOf (W := 1) (ofS_ l Z a0 hw [] b177 T186.heap n0 O186 f255) hZ (hw _ (List.mem_of_getElem? (i := 43) rfl)) (hw _ (List.mem_of_getElem? (i := 39) rfl)) (by decide) (by decide)) (g := (mkF m 198 #[.val (.int k), .val (.int v), .val (.int c0), .val (.int c1), .val (.ref b154), .val (.ref b177), .val (.ref b_186), .val (.int kk), .val (.ref b177), .val (.ref b177), .val (.ref b177)] [(.ref b177), (.ref b177)])) rfl (by rw [hml]; rfl) (argsL := [(.ref b177)]) (rest := [(.ref b177)]) (lenOf pd_47527223 rfl) rfl (by show 2 * 0 + _ ≤ _; exact Nat.le_of_eq rfl) (hb hby at_198) (fun _ _ => ⟨rfl, K256, (by decide : 4 + 1 ≤ _), (by decide : 9 + 2 ≤ _)⟩)
        dsimp only [Pt.U, Pt.locs, Pt.cells, Pt.slots] at X264 l264 y264 z264 st264 hQ264
        subst l264 y264 z264
        obtain ⟨x_264, rfl, N264q, K264, p264_0, p264_1, p264_2⟩ := hQ264
        have N264 := Fr.app N256 N264q
        have O264 := O186.keep K264 all0
        have R265 : Go p e below P T264 (mkF m 201 #[.val (.int k), .val (.int v), .val (.int c0), .val (.int c1), .val (.ref b154), .val (.ref b177), .val (.ref b_186), .val (.int kk), .val (.ref b177), .val (.ref b177), .val (.ref b177)] [(.ref x_264), (.ref b177)]) := fun t_ k_ => R263 t_ (st264 t_ k_)
        obtain ⟨cq266, kq266, q266a, q266b, q266c⟩ := isOf hZ (rfl : T264.heap = T264.heap) p264_1
        obtain ⟨rv266, _, ⟨T266, L266, k266, n266⟩, -, X266, ⟨Lc266, hQ266, l266, y266, z266⟩, st266⟩ := X264.virtualBack hx (y := (⟨"com/example/rowset/rowset/model/SqlValue", "value", "()Ljava/lang/Object;"⟩ : MethodName)) (z := (⟨"com/example/rowset/rowset/model/SqlValue", "value", "()Ljava/lang/Object;"⟩ : MethodName)) hown (mvT hZ (hw _ (List.mem_of_getElem? (i := 46) rfl))) (mvT hZ (hw _ (List.mem_of_getElem? (i := 47) rfl))) (notFace_of_selects (args := #[]) (mvT hZ (hw _ (List.mem_of_getElem? (i := 49) rfl)))) (mvT hZ (hw _ (List.mem_of_getElem? (i := 49) rfl))) (mvT hZ (hw _ (List.mem_of_getElem? (i := 48) rfl))) (by decide) (backOf (W := 1) (sqlG_ l Z a0 hw [] x_264 (.ref b177) T264.heap n0 O264 rfl p264_2) hZ (hw _ (List.mem_of_getElem? (i := 50) rfl)) (hw _ (List.mem_of_getElem? (i := 39) rfl)) (by decide) (by decide)) q266a q266c (g := (mkF m 201 #[.val (.int k), .val (.int v), .val (.int c0), .val (.int c1), .val (.ref b154), .val (.ref b177), .val (.ref b_186), .val (.int kk), .val (.ref b177), .val (.ref b177), .val (.ref b177)] [(.ref x_264), (.ref b177)])) rfl (by rw [hml]; rfl) (Steps.refl _) (argsL := []) (rest := [(.ref b177)]) (lenOf pd_65739572 rfl) rfl (by show 2 * 0 + _ ≤ _; exact Nat.le_of_eq rfl) (hb hby at_201) (fun _ _ => ⟨rfl, (rfl : T264.heap = T264.heap), (by decide : 5 + 0 ≤ _), (by decide : 11 + 0 ≤ _)⟩)
        dsimp only [Pt.U, Pt.locs, Pt.cells, Pt.slots] at X266 l266 y266 z266 st266 hQ266
        subst l266 y266 z266
        obtain ⟨rfl, N266q, K266⟩ := hQ266
        have N266 := Fr.app N264 N266q
        have R267 : Go p e below P T266 (mkF m 204 #[.val (.int k), .val (.int v), .val (.int c0), .val (.int c1), .val (.ref b154), .val (.ref b177), .val (.ref b_186), .val (.int kk), .val (.ref b177), .val (.ref b177), .val (.ref b177)] [(.ref b177), (.ref b177)]) := fun t_ k_ => R265 t_ (st266.trans k_)
        have R268 : Go p e below P T266 (mkF m 207 #[.val (.int k), .val (.int v), .val (.int c0), .val (.int c1), .val (.ref b154), .val (.ref b177), .val (.ref b_186), .val (.int kk), .val (.ref b177), .val (.ref b177), .val (.ref b177)] []) := fun t_ k_ => R267 t_ (Jvm.RoadKit.acmp (g := (mkF m 204 #[.val (.int k), .val (.int v), .val (.int c0), .val (.int c1), .val (.ref b154), .val (.ref b177), .val (.ref b_186), .val (.int kk), .val (.ref b177), .val (.ref b177), .val (.ref b177)] [(.ref b177), (.ref b177)])) X266 hx rfl rfl rfl (pc0 := 204) (pc' := 207) (same := true) rfl (hb hby at_204) rfl (decide_eq_true (congrArg Value.ref rfl)) (by decide) (by decide) k_)
        have R269 : Go p e below P T266 (mkF m 208 #[.val (.int k), .val (.int v), .val (.int c0), .val (.int c1), .val (.ref b154), .val (.ref b177), .val (.ref b_186), .val (.int kk), .val (.ref b177), .val (.ref b177), .val (.ref b177)] [(.int (1 : Int32))]) := fun t_ k_ => R268 t_ (XS.iconst X266.here hx rfl (hb hby at_207) k_)
        have R270 : Go p e below P T266 (mkF m 212 #[.val (.int k), .val (.int v), .val (.int c0), .val (.int c1), .val (.ref b154), .val (.ref b177), .val (.ref b_186), .val (.int kk), .val (.ref b177), .val (.ref b177), .val (.ref b177)] [(.int (1 : Int32))]) := fun t_ k_ => R269 t_ (XS.goto X266.here hx rfl (pc0 := 208) (pc' := 212) rfl (hb hby at_208) (by decide) (by decide) k_)
        obtain ⟨fs, hr, hrun, hended, hW, hsame⟩ := X266.leave (v := some (.int (nar .boolean (1 : Int32)))) (fun h => by rw [Bd.returns] at h; cases h)
        exact ⟨_, _, hP _ (R270 _ (retN X266 hx (t := .boolean) Bd.returns (by simp) (hb hby at_212) hr)), hrun, hended, _, _, rfl, ⟨rfl, N266, (K266.symm ▸ ((((((((Keep.refl h0 []).ext E154).wr W164 (Or.inr (Nat.le_of_eq g154.symm))).wr W174 (Or.inr (Nat.le_of_eq g154.symm))).ext E177).trans K182 (allS (Or.inr (Nat.le_trans ((((Keep.refl h0 []).ext E154).wr W164 (Or.inr (Nat.le_of_eq g154.symm))).wr W174 (Or.inr (Nat.le_of_eq g154.symm))).1 (Nat.le_of_eq g177.symm))) all0)).trans K186 all0).trans K264 all0))⟩, ⟨_, rfl⟩, hW, hsame.mono (by decide) (by decide)⟩
      · have R271 : Go p e below P T186 (mkF m 94 #[.val (.int k), .val (.int v), .val (.int c0), .val (.int c1), .val (.ref b154), .val (.ref b177), .val (.ref b_186), .val (.int kk), .unset, .unset, .unset] []) := fun t_ k_ => R246 t_ (XS.icmpYes X186.here hx rfl (pc0 := 80) (pc' := 94) rfl (hb hby at_80) rfl (feq hc247).2 (by decide) (by decide) k_)
        have R272 : Go p e below P T186 (mkF m 96 #[.val (.int k), .val (.int v), .val (.int c0), .val (.int c1), .val (.ref b154), .val (.ref b177), .val (.ref b_186), .val (.int kk), .unset, .unset, .unset] [(.int kk)]) := fun t_ k_ => R271 t_ (XS.iload X186.here hx rfl (hb hby at_94) rfl k_)
        have R273 : Go p e below P T186 (mkF m 97 #[.val (.int k), .val (.int v), .val (.int c0), .val (.int c1), .val (.ref b154), .val (.ref b177), .val (.ref b_186), .val (.int kk), .unset, .unset, .unset] [(.int (3 : Int32)), (.int kk)]) := fun t_ k_ => R272 t_ (XS.iconst X186.here hx rfl (hb hby at_96) k_)
        by_cases hc274 : kk = (3 : Int32)
        · have R275 : Go p e below P T186 (mkF m 100 #[.val (.int k), .val (.int v), .val (.int c0), .val (.int c1), .val (.ref b154), .val (.ref b177), .val (.ref b_186), .val (.int kk), .unset, .unset, .unset] []) := fun t_ k_ => R273 t_ (XS.icmpNo X186.here hx rfl (hb hby at_97) rfl (teq hc274).2 k_)
          obtain ⟨T276, X276, e276, st276⟩ := getS2 X186 hx hZ hown (host := "") (Or.inl (hw _ (List.mem_of_getElem? (i := 107) rfl))) Via.refl (rfl : T186.heap = T186.heap) (P7.ext O186.2) (g := (mkF m 100 #[.val (.int k), .val (.int v), .val (.int c0), .val (.int c1), .val (.ref b154), .val (.ref b177), .val (.ref b_186), .val (.int kk), .unset, .unset, .unset] [])) rfl (hb hby at_100)
          have R277 : Go p e below P T276 (mkF m 103 #[.val (.int k), .val (.int v), .val (.int c0), .val (.int c1), .val (.ref b154), .val (.ref b177), .val (.ref b_186), .val (.int kk), .unset, .unset, .unset] [(.ref wN)]) := fun t_ k_ => R275 t_ (st276 t_ k_)
          have R278 : Go p e below P T276 (mkF m 105 #[.val (.int k), .val (.int v), .val (.int c0), .val (.int c1), .val (.ref b154), .val (.ref b177), .val (.ref b_186), .val (.int kk), .val (.ref wN), .unset, .unset] []) := fun t_ k_ => R277 t_ (XS.astore X276.here hx rfl (hb hby at_103) rfl rfl (l' := #[.val (.int k), .val (.int v), .val (.int c0), .val (.int c1), .val (.ref b154), .val (.ref b177), .val (.ref b_186), .val (.int kk), .val (.ref wN), .unset, .unset]) rfl k_)
          have R279 : Go p e below P T276 (mkF m 106 #[.val (.int k), .val (.int v), .val (.int c0), .val (.int c1), .val (.ref b154), .val (.ref b177), .val (.ref b_186), .val (.int kk), .val (.ref wN), .unset, .unset] [.null]) := fun t_ k_ => R278 t_ (XS.aconstNull X276.here hx rfl (hb hby at_105) k_)
          have R280 : Go p e below P T276 (mkF m 108 #[.val (.int k), .val (.int v), .val (.int c0), .val (.int c1), .val (.ref b154), .val (.ref b177), .val (.ref b_186), .val (.int kk), .val (.ref wN), .val .null, .unset] []) := fun t_ k_ => R279 t_ (XS.astore X276.here hx rfl (hb hby at_106) rfl rfl (l' := #[.val (.int k), .val (.int v), .val (.int c0), .val (.int c1), .val (.ref b154), .val (.ref b177), .val (.ref b_186), .val (.int kk), .val (.ref wN), .val .null, .unset]) rfl k_)
          have R281 : Go p e below P T276 (mkF m 180 #[.val (.int k), .val (.int v), .val (.int c0), .val (.int c1), .val (.ref b154), .val (.ref b177), .val (.ref b_186), .val (.int kk), .val (.ref wN), .val .null, .unset] []) := fun t_ k_ => R280 t_ (XS.goto X276.here hx rfl (pc0 := 108) (pc' := 180) rfl (hb hby at_108) (by decide) (by decide) k_)
          have R282 : Go p e below P T276 (mkF m 182 #[.val (.int k), .val (.int v), .val (.int c0), .val (.int c1), .val (.ref b154), .val (.ref b177), .val (.ref b_186), .val (.int kk), .val (.ref wN), .val .null, .unset] [(.ref wN)]) := fun t_ k_ => R281 t_ (XS.aload X276.here hx rfl (hb hby at_180) rfl rfl k_)
          obtain ⟨rv283, _, ⟨T283, L283, k283, n283⟩, -, X283, ⟨Lc283, hQ283, l283, y283, z283⟩, st283⟩ := Jvm.LawKit.callS X276 hx (y := (⟨"com/example/rowset/rowset/model/SqlValue", "valueOf", "(Ljava/lang/Object;)Ljava/lang/Object;"⟩ : MethodName)) hown (mvT hZ (hw _ (List.mem_of_getElem? (i := 37) rfl))) (mvT hZ (hw _ (List.mem_of_getElem? (i := 38) rfl))) (mvT hZ (hw _ (List.mem_of_getElem? (i := 39) rfl))) (mvT hZ (hw _ (List.mem_of_getElem? (i := 40) rfl))) (by decide) (backOf (W := 0) (voV_ l Z a0 hw [] wN .null T186.heap n0 O186 rfl (P8.ext O186.2) (P9.ext O186.2)) hZ (hw _ (List.mem_of_getElem? (i := 40) rfl)) (hw _ (List.mem_of_getElem? (i := 39) rfl)) (by decide) (by decide)) (g := (mkF m 182 #[.val (.int k), .val (.int v), .val (.int c0), .val (.int c1), .val (.ref b154), .val (.ref b177), .val (.ref b_186), .val (.int kk), .val (.ref wN), .val .null, .unset] [(.ref wN)])) rfl (by rw [hml]; rfl) (argsL := [(.ref wN)]) (rest := []) (lenOf pd_72566344 rfl) rfl (by show 2 * 0 + _ ≤ _; exact Nat.le_of_eq rfl) (hb hby at_182) (fun _ _ => ⟨rfl, e276, (by decide : 4 + 0 ≤ _), (by decide : 9 + 0 ≤ _)⟩)
          dsimp only [Pt.U, Pt.locs, Pt.cells, Pt.slots] at X283 l283 y283 z283 st283 hQ283
          subst l283 y283 z283
          obtain ⟨rfl, N283q, K283⟩ := hQ283
          have N283 := Fr.app N186 N283q
          have R284 : Go p e below P T283 (mkF m 185 #[.val (.int k), .val (.int v), .val (.int c0), .val (.int c1), .val (.ref b154), .val (.ref b177), .val (.ref b_186), .val (.int kk), .val (.ref wN), .val .null, .unset] [.null]) := fun t_ k_ => R282 t_ (st283 t_ k_)
          have R285 : Go p e below P T283 (mkF m 187 #[.val (.int k), .val (.int v), .val (.int c0), .val (.int c1), .val (.ref b154), .val (.ref b177), .val (.ref b_186), .val (.int kk), .val (.ref wN), .val .null, .val .null] []) := fun t_ k_ => R284 t_ (XS.astore X283.here hx rfl (hb hby at_185) rfl rfl (l' := #[.val (.int k), .val (.int v), .val (.int c0), .val (.int c1), .val (.ref b154), .val (.ref b177), .val (.ref b_186), .val (.int kk), .val (.ref wN), .val .null, .val .null]) rfl k_)
          have R286 : Go p e below P T283 (mkF m 189 #[.val (.int k), .val (.int v), .val (.int c0), .val (.int c1), .val (.ref b154), .val (.ref b177), .val (.ref b_186), .val (.int kk), .val (.ref wN), .val .null, .val .null] [.null]) := fun t_ k_ => R285 t_ (XS.aload X283.here hx rfl (hb hby at_187) rfl rfl k_)
          have R287 : Go p e below P T283 (mkF m 191 #[.val (.int k), .val (.int v), .val (.int c0), .val (.int c1), .val (.ref b154), .val (.ref b177), .val (.ref b_186), .val (.int kk), .val (.ref wN), .val .null, .val .null] [.null, .null]) := fun t_ k_ => R286 t_ (XS.aload X283.here hx rfl (hb hby at_189) rfl rfl k_)
          have R288 : Go p e below P T283 (mkF m 194 #[.val (.int k), .val (.int v), .val (.int c0), .val (.int c1), .val (.ref b154), .val (.ref b177), .val (.ref b_186), .val (.int kk), .val (.ref wN), .val .null, .val .null] []) := fun t_ k_ => R287 t_ (Jvm.RoadKit.acmp (g := (mkF m 191 #[.val (.int k), .val (.int v), .val (.int c0), .val (.int c1), .val (.ref b154), .val (.ref b177), .val (.ref b_186), .val (.int kk), .val (.ref wN), .val .null, .val .null] [.null, .null])) X283 hx rfl rfl rfl (pc0 := 191) (pc' := 194) (same := true) rfl (hb hby at_191) rfl (decide_eq_true rfl) (by decide) (by decide) k_)
          have R289 : Go p e below P T283 (mkF m 196 #[.val (.int k), .val (.int v), .val (.int c0), .val (.int c1), .val (.ref b154), .val (.ref b177), .val (.ref b_186), .val (.int kk), .val (.ref wN), .val .null, .val .null] [.null]) := fun t_ k_ => R288 t_ (XS.aload X283.here hx rfl (hb hby at_194) rfl rfl k_)
          have R290 : Go p e below P T283 (mkF m 198 #[.val (.int k), .val (.int v), .val (.int c0), .val (.int c1), .val (.ref b154), .val (.ref b177), .val (.ref b_186), .val (.int kk), .val (.ref wN), .val .null, .val .null] [(.ref wN), .null]) := fun t_ k_ => R289 t_ (XS.aload X283.here hx rfl (hb hby at_196) rfl rfl k_)
          obtain ⟨rv291, _, ⟨T291, L291, k291, n291⟩, -, X291, ⟨Lc291, hQ291, l291, y291, z291⟩, st291⟩ := Jvm.LawKit.callS X283 hx (y := (⟨"com/example/rowset/rowset/model/SqlValue", "of", "(Ljava/lang/Object;)Lcom/example/rowset/rowset/model/SqlValue;"⟩ : MethodName)) hown (mvT hZ (hw _ (List.mem_of_getElem? (i := 41) rfl))) (mvT hZ (hw _ (List.mem_of_getElem? (i := 42) rfl))) (mvT hZ (hw _ (List.mem_of_getElem? (i := 39) rfl))) (mvT hZ (hw _ (List.mem_of_getElem? (i := 43) rfl))) (by decide) (backOf (W := 1) (ofV_ l Z a0 hw [] wN T186.heap n0 O186 (P8.ext O186.2)) hZ (hw _ (List.mem_of_getElem? (i := 43) rfl)) (hw _ (List.mem_of_getElem? (i := 39) rfl)) (by decide) (by decide)) (g := (mkF m 198 #[.val (.int k), .val (.int v), .val (.int c0), .val (.int c1), .val (.ref b154), .val (.ref b177), .val (.ref b_186), .val (.int kk), .val (.ref wN), .val .null, .val .null] [(.ref wN), .null])) rfl (by rw [hml]; rfl) (argsL := [(.ref wN)]) (rest := [.null]) (lenOf pd_47527223 rfl) rfl (by show 2 * 0 + _ ≤ _; exact Nat.le_of_eq rfl) (hb hby at_198) (fun _ _ => ⟨rfl, K283, (by decide : 4 + 0 ≤ _), (by decide : 9 + 0 ≤ _)⟩)
          dsimp only [Pt.U, Pt.locs, Pt.cells, Pt.slots] at X291 l291 y291 z291 st291 hQ291
          subst l291 y291 z291
          obtain ⟨rfl, N291q, K291⟩ := hQ291
          have N291 := Fr.app N283 N291q
          have R292 : Go p e below P T291 (mkF m 201 #[.val (.int k), .val (.int v), .val (.int c0), .val (.int c1), .val (.ref b154), .val (.ref b177), .val (.ref b_186), .val (.int kk), .val (.ref wN), .val .null, .val .null] [(.ref wN), .null]) := fun t_ k_ => R290 t_ (st291 t_ k_)
          obtain ⟨cq293, kq293, q293a, q293b, q293c⟩ := isOf hZ K291 (P8.ext O186.2)
          obtain ⟨rv293, _, ⟨T293, L293, k293, n293⟩, -, X293, ⟨Lc293, hQ293, l293, y293, z293⟩, st293⟩ := X291.virtualBack hx (y := (⟨"com/example/rowset/rowset/model/SqlValue", "value", "()Ljava/lang/Object;"⟩ : MethodName)) (z := (⟨"com/example/rowset/rowset/model/SqlValue", "value", "()Ljava/lang/Object;"⟩ : MethodName)) hown (mvT hZ (hw _ (List.mem_of_getElem? (i := 46) rfl))) (mvT hZ (hw _ (List.mem_of_getElem? (i := 47) rfl))) (notFace_of_selects (args := #[]) (mvT hZ (hw _ (List.mem_of_getElem? (i := 49) rfl)))) (mvT hZ (hw _ (List.mem_of_getElem? (i := 49) rfl))) (mvT hZ (hw _ (List.mem_of_getElem? (i := 48) rfl))) (by decide) (backOf (W := 1) (sqlG_ l Z a0 hw [] wN .null T186.heap n0 O186 rfl (P9.ext O186.2)) hZ (hw _ (List.mem_of_getElem? (i := 50) rfl)) (hw _ (List.mem_of_getElem? (i := 39) rfl)) (by decide) (by decide)) q293a q293c (g := (mkF m 201 #[.val (.int k), .val (.int v), .val (.int c0), .val (.int c1), .val (.ref b154), .val (.ref b177), .val (.ref b_186), .val (.int kk), .val (.ref wN), .val .null, .val .null] [(.ref wN), .null])) rfl (by rw [hml]; rfl) (Steps.refl _) (argsL := []) (rest := [.null]) (lenOf pd_65739572 rfl) rfl (by show 2 * 0 + _ ≤ _; exact Nat.le_of_eq rfl) (hb hby at_201) (fun _ _ => ⟨rfl, K291, (by decide : 4 + 0 ≤ _), (by decide : 9 + 0 ≤ _)⟩)
          dsimp only [Pt.U, Pt.locs, Pt.cells, Pt.slots] at X293 l293 y293 z293 st293 hQ293
          subst l293 y293 z293
          obtain ⟨rfl, N293q, K293⟩ := hQ293
          have N293 := Fr.app N291 N293q
          have R294 : Go p e below P T293 (mkF m 204 #[.val (.int k), .val (.int v), .val (.int c0), .val (.int c1), .val (.ref b154), .val (.ref b177), .val (.ref b_186), .val (.int kk), .val (.ref wN), .val .null, .val .null] [.null, .null]) := fun t_ k_ => R292 t_ (st293.trans k_)
          have R295 : Go p e below P T293 (mkF m 207 #[.val (.int k), .val (.int v), .val (.int c0), .val (.int c1), .val (.ref b154), .val (.ref b177), .val (.ref b_186), .val (.int kk), .val (.ref wN), .val .null, .val .null] []) := fun t_ k_ => R294 t_ (Jvm.RoadKit.acmp (g := (mkF m 204 #[.val (.int k), .val (.int v), .val (.int c0), .val (.int c1), .val (.ref b154), .val (.ref b177), .val (.ref b_186), .val (.int kk), .val (.ref wN), .val .null, .val .null] [.null, .null])) X293 hx rfl rfl rfl (pc0 := 204) (pc' := 207) (same := true) rfl (hb hby at_204) rfl (decide_eq_true rfl) (by decide) (by decide) k_)
          have R296 : Go p e below P T293 (mkF m 208 #[.val (.int k), .val (.int v), .val (.int c0), .val (.int c1), .val (.ref b154), .val (.ref b177), .val (.ref b_186), .val (.int kk), .val (.ref wN), .val .null, .val .null] [(.int (1 : Int32))]) := fun t_ k_ => R295 t_ (XS.iconst X293.here hx rfl (hb hby at_207) k_)
          have R297 : Go p e below P T293 (mkF m 212 #[.val (.int k), .val (.int v), .val (.int c0), .val (.int c1), .val (.ref b154), .val (.ref b177), .val (.ref b_186), .val (.int kk), .val (.ref wN), .val .null, .val .null] [(.int (1 : Int32))]) := fun t_ k_ => R296 t_ (XS.goto X293.here hx rfl (pc0 := 208) (pc' := 212) rfl (hb hby at_208) (by decide) (by decide) k_)
          obtain ⟨fs, hr, hrun, hended, hW, hsame⟩ := X293.leave (v := some (.int (nar .boolean (1 : Int32)))) (fun h => by rw [Bd.returns] at h; cases h)
          exact ⟨_, _, hP _ (R297 _ (retN X293 hx (t := .boolean) Bd.returns (by simp) (hb hby at_212) hr)), hrun, hended, _, _, rfl, ⟨rfl, N293, (K293.symm ▸ (((((((Keep.refl h0 []).ext E154).wr W164 (Or.inr (Nat.le_of_eq g154.symm))).wr W174 (Or.inr (Nat.le_of_eq g154.symm))).ext E177).trans K182 (allS (Or.inr (Nat.le_trans ((((Keep.refl h0 []).ext E154).wr W164 (Or.inr (Nat.le_of_eq g154.symm))).wr W174 (Or.inr (Nat.le_of_eq g154.symm))).1 (Nat.le_of_eq g177.symm))) all0)).trans K186 all0))⟩, ⟨_, rfl⟩, hW, hsame.mono (by decide) (by decide)⟩
        · have R298 : Go p e below P T186 (mkF m 111 #[.val (.int k), .val (.int v), .val (.int c0), .val (.int c1), .val (.ref b154), .val (.ref b177), .val (.ref b_186), .val (.int kk), .unset, .unset, .unset] []) := fun t_ k_ => R273 t_ (XS.icmpYes X186.here hx rfl (pc0 := 97) (pc' := 111) rfl (hb hby at_97) rfl (feq hc274).2 (by decide) (by decide) k_)
          have R299 : Go p e below P T186 (mkF m 113 #[.val (.int k), .val (.int v), .val (.int c0), .val (.int c1), .val (.ref b154), .val (.ref b177), .val (.ref b_186), .val (.int kk), .unset, .unset, .unset] [(.int kk)]) := fun t_ k_ => R298 t_ (XS.iload X186.here hx rfl (hb hby at_111) rfl k_)
          have R300 : Go p e below P T186 (mkF m 114 #[.val (.int k), .val (.int v), .val (.int c0), .val (.int c1), .val (.ref b154), .val (.ref b177), .val (.ref b_186), .val (.int kk), .unset, .unset, .unset] [(.int (4 : Int32)), (.int kk)]) := fun t_ k_ => R299 t_ (XS.iconst X186.here hx rfl (hb hby at_113) k_)
          by_cases hc301 : kk = (4 : Int32)
          · have R302 : Go p e below P T186 (mkF m 117 #[.val (.int k), .val (.int v), .val (.int c0), .val (.int c1), .val (.ref b154), .val (.ref b177), .val (.ref b_186), .val (.int kk), .unset, .unset, .unset] []) := fun t_ k_ => R300 t_ (XS.icmpNo X186.here hx rfl (hb hby at_114) rfl (teq hc301).2 k_)
            have R303 : Go p e below P T186 (mkF m 118 #[.val (.int k), .val (.int v), .val (.int c0), .val (.int c1), .val (.ref b154), .val (.ref b177), .val (.ref b_186), .val (.int kk), .unset, .unset, .unset] [.null]) := fun t_ k_ => R302 t_ (XS.aconstNull X186.here hx rfl (hb hby at_117) k_)
            have R304 : Go p e below P T186 (mkF m 120 #[.val (.int k), .val (.int v), .val (.int c0), .val (.int c1), .val (.ref b154), .val (.ref b177), .val (.ref b_186), .val (.int kk), .unset, .unset, .val .null] []) := fun t_ k_ => R303 t_ (XS.astore X186.here hx rfl (hb hby at_118) rfl rfl (l' := #[.val (.int k), .val (.int v), .val (.int c0), .val (.int c1), .val (.ref b154), .val (.ref b177), .val (.ref b_186), .val (.int kk), .unset, .unset, .val .null]) rfl k_)
            have R305 : Go p e below P T186 (mkF m 163 #[.val (.int k), .val (.int v), .val (.int c0), .val (.int c1), .val (.ref b154), .val (.ref b177), .val (.ref b_186), .val (.int kk), .unset, .unset, .val .null] []) := fun t_ k_ => R304 t_ (XS.goto X186.here hx rfl (pc0 := 120) (pc' := 163) rfl (hb hby at_120) (by decide) (by decide) k_)
            obtain ⟨T306, h306, X306, e306, E306, A306, D306, -, st306⟩ := newO X186 hx hZ hown (hw _ (List.mem_of_getElem? (i := 53) rfl)) (hw _ (List.mem_of_getElem? (i := 54) rfl)) (hw _ (List.mem_of_getElem? (i := 39) rfl)) (rfl : T186.heap = T186.heap) (g := (mkF m 163 #[.val (.int k), .val (.int v), .val (.int c0), .val (.int c1), .val (.ref b154), .val (.ref b177), .val (.ref b_186), .val (.int kk), .unset, .unset, .val .null] [])) rfl (hb hby at_163) (by decide) (by decide)
            obtain ⟨b306, g306⟩ : ∃ z, z = T186.heap.size := ⟨_, rfl⟩
            rw [← g306] at A306 D306 st306
            have O306 := O186.ext E306
            have F306_52 : Fld Z h306 b306 "com/example/rowset/rowset/model/SqlValue" "value" "Ljava/lang/Object;" .null := D306 (Or.inr (hw _ (List.mem_of_getElem? (i := 52) rfl))) (ty := (.object "java/lang/Object")) (by decide)
            have F306_60 : Fld Z h306 b306 "com/example/rowset/rowset/model/SqlValue" "text" "Ljava/lang/String;" .null := D306 (Or.inr (hw _ (List.mem_of_getElem? (i := 60) rfl))) (ty := (.object "java/lang/String")) (by decide)
            have R307 : Go p e below P T306 (mkF m 166 #[.val (.int k), .val (.int v), .val (.int c0), .val (.int c1), .val (.ref b154), .val (.ref b177), .val (.ref b_186), .val (.int kk), .unset, .unset, .val .null] [(.ref b306)]) := fun t_ k_ => R305 t_ (st306 t_ k_)
            have R308 : Go p e below P T306 (mkF m 167 #[.val (.int k), .val (.int v), .val (.int c0), .val (.int c1), .val (.ref b154), .val (.ref b177), .val (.ref b_186), .val (.int kk), .unset, .unset, .val .null] [(.ref b306), (.ref b306)]) := fun t_ k_ => R307 t_ (XS.dup X306.here hx rfl (hb hby at_166) rfl rfl k_)
            have R309 : Go p e below P T306 (mkF m 169 #[.val (.int k), .val (.int v), .val (.int c0), .val (.int c1), .val (.ref b154), .val (.ref b177), .val (.ref b_186), .val (.int kk), .unset, .unset, .val .null] [.null, (.ref b306), (.ref b306)]) := fun t_ k_ => R308 t_ (XS.aload X306.here hx rfl (hb hby at_167) rfl rfl k_)
            have R310 : Go p e below P T306 (mkF m 171 #[.val (.int k), .val (.int v), .val (.int c0), .val (.int c1), .val (.ref b154), .val (.ref b177), .val (.ref b_186), .val (.int kk), .unset, .unset, .val .null] [(.ref b177), .null, (.ref b306), (.ref b306)]) := fun t_ k_ => R309 t_ (XS.aload X306.here hx rfl (hb hby at_169) rfl rfl k_)
            obtain ⟨rv311, _, ⟨T311, L311, k311, n311⟩, -, X311, ⟨Lc311, hQ311, l311, y311, z311⟩, st311⟩ := X306.specialBack hx (y := (⟨"com/example/rowset/rowset/model/SqlValue", "<init>", "(Ljava/lang/Object;Ljava/lang/String;)V"⟩ : MethodName)) rfl hown (mvT hZ (hw _ (List.mem_of_getElem? (i := 55) rfl))) (mvT hZ (hw _ (List.mem_of_getElem? (i := 56) rfl))) (mvT hZ (hw _ (List.mem_of_getElem? (i := 57) rfl))) (by decide) (backOf (W := 1) (sqlI_ l Z a0 hw [] b306 .null b177 h306 n0 O306 rfl A306 F306_52 F306_60 (Nat.le_trans (oldLe O186) (Nat.le_of_eq g306.symm))) hZ (hw _ (List.mem_of_getElem? (i := 57) rfl)) (hw _ (List.mem_of_getElem? (i := 39) rfl)) (by decide) (by decide)) (g := (mkF m 171 #[.val (.int k), .val (.int v), .val (.int c0), .val (.int c1), .val (.ref b154), .val (.ref b177), .val (.ref b_186), .val (.int kk), .unset, .unset, .val .null] [(.ref b177), .null, (.ref b306), (.ref b306)])) rfl (by rw [hml]; rfl) (Steps.refl _) (a := b306) (argsL := [.null, (.ref b177)]) (rest := [(.ref b306)]) (lenOf pd_44503560 rfl) rfl (by show 2 * 0 + _ ≤ _; exact Nat.le_of_eq rfl) (hb hby at_171) (fun _ _ => ⟨rfl, e306, (by decide : 5 + 0 ≤ _), (by decide : 11 + 0 ≤ _)⟩)
            dsimp only [Pt.U, Pt.locs, Pt.cells, Pt.slots] at X311 l311 y311 z311 st311 hQ311
            subst l311 y311 z311
            obtain ⟨rfl, N311q, K311, p311_0, p311_1⟩ := hQ311
            have N311 := Fr.app N186 N311q
            have O311 := O306.keep K311 (allS (Nat.le_trans (oldLe O186) (Nat.le_of_eq g306.symm)) all0)
            have R312 : Go p e below P T311 (mkF m 174 #[.val (.int k), .val (.int v), .val (.int c0), .val (.int c1), .val (.ref b154), .val (.ref b177), .val (.ref b_186), .val (.int kk), .unset, .unset, .val .null] [(.ref b306)]) := fun t_ k_ => R310 t_ (st311.trans k_)
            have R313 : Go p e below P T311 (mkF m 176 #[.val (.int k), .val (.int v), .val (.int c0), .val (.int c1), .val (.ref b154), .val (.ref b177), .val (.ref b_186), .val (.int kk), .val (.ref b306), .unset, .val .null] []) := fun t_ k_ => R312 t_ (XS.astore X311.here hx rfl (hb hby at_174) rfl rfl (l' := #[.val (.int k), .val (.int v), .val (.int c0), .val (.int c1), .val (.ref b154), .val (.ref b177), .val (.ref b_186), .val (.int kk), .val (.ref b306), .unset, .val .null]) rfl k_)
            have R314 : Go p e below P T311 (mkF m 178 #[.val (.int k), .val (.int v), .val (.int c0), .val (.int c1), .val (.ref b154), .val (.ref b177), .val (.ref b_186), .val (.int kk), .val (.ref b306), .unset, .val .null] [.null]) := fun t_ k_ => R313 t_ (XS.aload X311.here hx rfl (hb hby at_176) rfl rfl k_)
            have R315 : Go p e below P T311 (mkF m 180 #[.val (.int k), .val (.int v), .val (.int c0), .val (.int c1), .val (.ref b154), .val (.ref b177), .val (.ref b_186), .val (.int kk), .val (.ref b306), .val .null, .val .null] []) := fun t_ k_ => R314 t_ (XS.astore X311.here hx rfl (hb hby at_178) rfl rfl (l' := #[.val (.int k), .val (.int v), .val (.int c0), .val (.int c1), .val (.ref b154), .val (.ref b177), .val (.ref b_186), .val (.int kk), .val (.ref b306), .val .null, .val .null]) rfl k_)
            have R316 : Go p e below P T311 (mkF m 182 #[.val (.int k), .val (.int v), .val (.int c0), .val (.int c1), .val (.ref b154), .val (.ref b177), .val (.ref b_186), .val (.int kk), .val (.ref b306), .val .null, .val .null] [(.ref b306)]) := fun t_ k_ => R315 t_ (XS.aload X311.here hx rfl (hb hby at_180) rfl rfl k_)
            obtain ⟨rv317, _, ⟨T317, L317, k317, n317⟩, -, X317, ⟨Lc317, hQ317, l317, y317, z317⟩, st317⟩ := Jvm.LawKit.callS X311 hx (y := (⟨"com/example/rowset/rowset/model/SqlValue", "valueOf", "(Ljava/lang/Object;)Ljava/lang/Object;"⟩ : MethodName)) hown (mvT hZ (hw _ (List.mem_of_getElem? (i := 37) rfl))) (mvT hZ (hw _ (List.mem_of_getElem? (i := 38) rfl))) (mvT hZ (hw _ (List.mem_of_getElem? (i := 39) rfl))) (mvT hZ (hw _ (List.mem_of_getElem? (i := 40) rfl))) (by decide) (backOf (W := 0) (voV_ l Z a0 hw [] b306 .null T311.heap n0 O311 rfl p311_0 p311_1) hZ (hw _ (List.mem_of_getElem? (i := 40) rfl)) (hw _ (List.mem_of_getElem? (i := 39) rfl)) (by decide) (by decide)) (g := (mkF m 182 #[.val (.int k), .val (.int v), .val (.int c0), .val (.int c1), .val (.ref b154), .val (.ref b177), .val (.ref b_186), .val (.int kk), .val (.ref b306), .val .null, .val .null] [(.ref b306)])) rfl (by rw [hml]; rfl) (argsL := [(.ref b306)]) (rest := []) (lenOf pd_72566344 rfl) rfl (by show 2 * 0 + _ ≤ _; exact Nat.le_of_eq rfl) (hb hby at_182) (fun _ _ => ⟨rfl, (rfl : T311.heap = T311.heap), (by decide : 5 + 0 ≤ _), (by decide : 11 + 0 ≤ _)⟩)
            dsimp only [Pt.U, Pt.locs, Pt.cells, Pt.slots] at X317 l317 y317 z317 st317 hQ317
            subst l317 y317 z317
            obtain ⟨rfl, N317q, K317⟩ := hQ317
            have N317 := Fr.app N311 N317q
            have R318 : Go p e below P T317 (mkF m 185 #[.val (.int k), .val (.int v), .val (.int c0), .val (.int c1), .val (.ref b154), .val (.ref b177), .val (.ref b_186), .val (.int kk), .val (.ref b306), .val .null, .val .null] [.null]) := fun t_ k_ => R316 t_ (st317 t_ k_)
            have R319 : Go p e below P T317 (mkF m 187 #[.val (.int k), .val (.int v), .val (.int c0), .val (.int c1), .val (.ref b154), .val (.ref b177), .val (.ref b_186), .val (.int kk), .val (.ref b306), .val .null, .val .null] []) := fun t_ k_ => R318 t_ (XS.astore X317.here hx rfl (hb hby at_185) rfl rfl (l' := #[.val (.int k), .val (.int v), .val (.int c0), .val (.int c1), .val (.ref b154), .val (.ref b177), .val (.ref b_186), .val (.int kk), .val (.ref b306), .val .null, .val .null]) rfl k_)
            have R320 : Go p e below P T317 (mkF m 189 #[.val (.int k), .val (.int v), .val (.int c0), .val (.int c1), .val (.ref b154), .val (.ref b177), .val (.ref b_186), .val (.int kk), .val (.ref b306), .val .null, .val .null] [.null]) := fun t_ k_ => R319 t_ (XS.aload X317.here hx rfl (hb hby at_187) rfl rfl k_)
            have R321 : Go p e below P T317 (mkF m 191 #[.val (.int k), .val (.int v), .val (.int c0), .val (.int c1), .val (.ref b154), .val (.ref b177), .val (.ref b_186), .val (.int kk), .val (.ref b306), .val .null, .val .null] [.null, .null]) := fun t_ k_ => R320 t_ (XS.aload X317.here hx rfl (hb hby at_189) rfl rfl k_)
            have R322 : Go p e below P T317 (mkF m 194 #[.val (.int k), .val (.int v), .val (.int c0), .val (.int c1), .val (.ref b154), .val (.ref b177), .val (.ref b_186), .val (.int kk), .val (.ref b306), .val .null, .val .null] []) := fun t_ k_ => R321 t_ (Jvm.RoadKit.acmp (g := (mkF m 191 #[.val (.int k), .val (.int v), .val (.int c0), .val (.int c1), .val (.ref b154), .val (.ref b177), .val (.ref b_186), .val (.int kk), .val (.ref b306), .val .null, .val .null] [.null, .null])) X317 hx rfl rfl rfl (pc0 := 191) (pc' := 194) (same := true) rfl (hb hby at_191) rfl (decide_eq_true rfl) (by decide) (by decide) k_)
            have R323 : Go p e below P T317 (mkF m 196 #[.val (.int k), .val (.int v), .val (.int c0), .val (.int c1), .val (.ref b154), .val (.ref b177), .val (.ref b_186), .val (.int kk), .val (.ref b306), .val .null, .val .null] [.null]) := fun t_ k_ => R322 t_ (XS.aload X317.here hx rfl (hb hby at_194) rfl rfl k_)
            have R324 : Go p e below P T317 (mkF m 198 #[.val (.int k), .val (.int v), .val (.int c0), .val (.int c1), .val (.ref b154), .val (.ref b177), .val (.ref b_186), .val (.int kk), .val (.ref b306), .val .null, .val .null] [(.ref b306), .null]) := fun t_ k_ => R323 t_ (XS.aload X317.here hx rfl (hb hby at_196) rfl rfl k_)
            obtain ⟨rv325, _, ⟨T325, L325, k325, n325⟩, -, X325, ⟨Lc325, hQ325, l325, y325, z325⟩, st325⟩ := Jvm.LawKit.callS X317 hx (y := (⟨"com/example/rowset/rowset/model/SqlValue", "of", "(Ljava/lang/Object;)Lcom/example/rowset/rowset/model/SqlValue;"⟩ : MethodName)) hown (mvT hZ (hw _ (List.mem_of_getElem? (i := 41) rfl))) (mvT hZ (hw _ (List.mem_of_getElem? (i := 42) rfl))) (mvT hZ (hw _ (List.mem_of_getElem? (i := 39) rfl))) (mvT hZ (hw _ (List.mem_of_getElem? (i := 43) rfl))) (by decide) (backOf (W := 1) (ofV_ l Z a0 hw [] b306 T311.heap n0 O311 p311_0) hZ (hw _ (List.mem_of_getElem? (i := 43) rfl)) (hw _ (List.mem_of_getElem? (i := 39) rfl)) (by decide) (by decide)) (g := (mkF m 198 #[.val (.int k), .val (.int v), .val (.int c0), .val (.int c1), .val (.ref b154), .val (.ref b177), .val (.ref b_186), .val (.int kk), .val (.ref b306), .val .null, .val .null] [(.ref b306), .null])) rfl (by rw [hml]; rfl) (argsL := [(.ref b306)]) (rest := [.null]) (lenOf pd_47527223 rfl) rfl (by show 2 * 0 + _ ≤ _; exact Nat.le_of_eq rfl) (hb hby at_198) (fun _ _ => ⟨rfl, K317, (by decide : 5 + 0 ≤ _), (by decide : 11 + 0 ≤ _)⟩)
            dsimp only [Pt.U, Pt.locs, Pt.cells, Pt.slots] at X325 l325 y325 z325 st325 hQ325
            subst l325 y325 z325
            obtain ⟨rfl, N325q, K325⟩ := hQ325
            have N325 := Fr.app N317 N325q
            have R326 : Go p e below P T325 (mkF m 201 #[.val (.int k), .val (.int v), .val (.int c0), .val (.int c1), .val (.ref b154), .val (.ref b177), .val (.ref b_186), .val (.int kk), .val (.ref b306), .val .null, .val .null] [(.ref b306), .null]) := fun t_ k_ => R324 t_ (st325 t_ k_)
            obtain ⟨cq327, kq327, q327a, q327b, q327c⟩ := isOf hZ K325 p311_0
            obtain ⟨rv327, _, ⟨T327, L327, k327, n327⟩, -, X327, ⟨Lc327, hQ327, l327, y327, z327⟩, st327⟩ := X325.virtualBack hx (y := (⟨"com/example/rowset/rowset/model/SqlValue", "value", "()Ljava/lang/Object;"⟩ : MethodName)) (z := (⟨"com/example/rowset/rowset/model/SqlValue", "value", "()Ljava/lang/Object;"⟩ : MethodName)) hown (mvT hZ (hw _ (List.mem_of_getElem? (i := 46) rfl))) (mvT hZ (hw _ (List.mem_of_getElem? (i := 47) rfl))) (notFace_of_selects (args := #[]) (mvT hZ (hw _ (List.mem_of_getElem? (i := 49) rfl)))) (mvT hZ (hw _ (List.mem_of_getElem? (i := 49) rfl))) (mvT hZ (hw _ (List.mem_of_getElem? (i := 48) rfl))) (by decide) (backOf (W := 1) (sqlG_ l Z a0 hw [] b306 .null T311.heap n0 O311 rfl p311_1) hZ (hw _ (List.mem_of_getElem? (i := 50) rfl)) (hw _ (List.mem_of_getElem? (i := 39) rfl)) (by decide) (by decide)) q327a q327c (g := (mkF m 201 #[.val (.int k), .val (.int v), .val (.int c0), .val (.int c1), .val (.ref b154), .val (.ref b177), .val (.ref b_186), .val (.int kk), .val (.ref b306), .val .null, .val .null] [(.ref b306), .null])) rfl (by rw [hml]; rfl) (Steps.refl _) (argsL := []) (rest := [.null]) (lenOf pd_65739572 rfl) rfl (by show 2 * 0 + _ ≤ _; exact Nat.le_of_eq rfl) (hb hby at_201) (fun _ _ => ⟨rfl, K325, (by decide : 5 + 0 ≤ _), (by decide : 11 + 0 ≤ _)⟩)
            dsimp only [Pt.U, Pt.locs, Pt.cells, Pt.slots] at X327 l327 y327 z327 st327 hQ327
            subst l327 y327 z327
            obtain ⟨rfl, N327q, K327⟩ := hQ327
            have N327 := Fr.app N325 N327q
            have R328 : Go p e below P T327 (mkF m 204 #[.val (.int k), .val (.int v), .val (.int c0), .val (.int c1), .val (.ref b154), .val (.ref b177), .val (.ref b_186), .val (.int kk), .val (.ref b306), .val .null, .val .null] [.null, .null]) := fun t_ k_ => R326 t_ (st327.trans k_)
            have R329 : Go p e below P T327 (mkF m 207 #[.val (.int k), .val (.int v), .val (.int c0), .val (.int c1), .val (.ref b154), .val (.ref b177), .val (.ref b_186), .val (.int kk), .val (.ref b306), .val .null, .val .null] []) := fun t_ k_ => R328 t_ (Jvm.RoadKit.acmp (g := (mkF m 204 #[.val (.int k), .val (.int v), .val (.int c0), .val (.int c1), .val (.ref b154), .val (.ref b177), .val (.ref b_186), .val (.int kk), .val (.ref b306), .val .null, .val .null] [.null, .null])) X327 hx rfl rfl rfl (pc0 := 204) (pc' := 207) (same := true) rfl (hb hby at_204) rfl (decide_eq_true rfl) (by decide) (by decide) k_)
            have R330 : Go p e below P T327 (mkF m 208 #[.val (.int k), .val (.int v), .val (.int c0), .val (.int c1), .val (.ref b154), .val (.ref b177), .val (.ref b_186), .val (.int kk), .val (.ref b306), .val .null, .val .null] [(.int (1 : Int32))]) := fun t_ k_ => R329 t_ (XS.iconst X327.here hx rfl (hb hby at_207) k_)
            have R331 : Go p e below P T327 (mkF m 212 #[.val (.int k), .val (.int v), .val (.int c0), .val (.int c1), .val (.ref b154), .val (.ref b177), .val (.ref b_186), .val (.int kk), .val (.ref b306), .val .null, .val .null] [(.int (1 : Int32))]) := fun t_ k_ => R330 t_ (XS.goto X327.here hx rfl (pc0 := 208) (pc' := 212) rfl (hb hby at_208) (by decide) (by decide) k_)
            obtain ⟨fs, hr, hrun, hended, hW, hsame⟩ := X327.leave (v := some (.int (nar .boolean (1 : Int32)))) (fun h => by rw [Bd.returns] at h; cases h)
            exact ⟨_, _, hP _ (R331 _ (retN X327 hx (t := .boolean) Bd.returns (by simp) (hb hby at_212) hr)), hrun, hended, _, _, rfl, ⟨rfl, N327, (K327.symm ▸ (((((((((Keep.refl h0 []).ext E154).wr W164 (Or.inr (Nat.le_of_eq g154.symm))).wr W174 (Or.inr (Nat.le_of_eq g154.symm))).ext E177).trans K182 (allS (Or.inr (Nat.le_trans ((((Keep.refl h0 []).ext E154).wr W164 (Or.inr (Nat.le_of_eq g154.symm))).wr W174 (Or.inr (Nat.le_of_eq g154.symm))).1 (Nat.le_of_eq g177.symm))) all0)).trans K186 all0).ext E306).trans K311 (allS (Or.inr (Nat.le_trans (((((((Keep.refl h0 []).ext E154).wr W164 (Or.inr (Nat.le_of_eq g154.symm))).wr W174 (Or.inr (Nat.le_of_eq g154.symm))).ext E177).trans K182 (allS (Or.inr (Nat.le_trans ((((Keep.refl h0 []).ext E154).wr W164 (Or.inr (Nat.le_of_eq g154.symm))).wr W174 (Or.inr (Nat.le_of_eq g154.symm))).1 (Nat.le_of_eq g177.symm))) all0)).trans K186 all0).1 (Nat.le_of_eq g306.symm))) all0)))⟩, ⟨_, rfl⟩, hW, hsame.mono (by decide) (by decide)⟩
          · have R332 : Go p e below P T186 (mkF m 123 #[.val (.int k), .val (.int v), .val (.int c0), .val (.int c1), .val (.ref b154), .val (.ref b177), .val (.ref b_186), .val (.int kk), .unset, .unset, .unset] []) := fun t_ k_ => R300 t_ (XS.icmpYes X186.here hx rfl (pc0 := 114) (pc' := 123) rfl (hb hby at_114) rfl (feq hc301).2 (by decide) (by decide) k_)
            have R333 : Go p e below P T186 (mkF m 125 #[.val (.int k), .val (.int v), .val (.int c0), .val (.int c1), .val (.ref b154), .val (.ref b177), .val (.ref b_186), .val (.int kk), .unset, .unset, .unset] [(.int kk)]) := fun t_ k_ => R332 t_ (XS.iload X186.here hx rfl (hb hby at_123) rfl k_)
            have R334 : Go p e below P T186 (mkF m 126 #[.val (.int k), .val (.int v), .val (.int c0), .val (.int c1), .val (.ref b154), .val (.ref b177), .val (.ref b_186), .val (.int kk), .unset, .unset, .unset] [(.int (5 : Int32)), (.int kk)]) := fun t_ k_ => R333 t_ (XS.iconst X186.here hx rfl (hb hby at_125) k_)
            by_cases hc335 : kk = (5 : Int32)
            · have R336 : Go p e below P T186 (mkF m 129 #[.val (.int k), .val (.int v), .val (.int c0), .val (.int c1), .val (.ref b154), .val (.ref b177), .val (.ref b_186), .val (.int kk), .unset, .unset, .unset] []) := fun t_ k_ => R334 t_ (XS.icmpNo X186.here hx rfl (hb hby at_126) rfl (teq hc335).2 k_)
              have R337 : Go p e below P T186 (mkF m 131 #[.val (.int k), .val (.int v), .val (.int c0), .val (.int c1), .val (.ref b154), .val (.ref b177), .val (.ref b_186), .val (.int kk), .unset, .unset, .unset] [(.ref b_186)]) := fun t_ k_ => R336 t_ (XS.aload X186.here hx rfl (hb hby at_129) rfl rfl k_)
              have R338 : Go p e below P T186 (mkF m 133 #[.val (.int k), .val (.int v), .val (.int c0), .val (.int c1), .val (.ref b154), .val (.ref b177), .val (.ref b_186), .val (.int kk), .unset, .unset, .val (.ref b_186)] []) := fun t_ k_ => R337 t_ (XS.astore X186.here hx rfl (hb hby at_131) rfl rfl (l' := #[.val (.int k), .val (.int v), .val (.int c0), .val (.int c1), .val (.ref b154), .val (.ref b177), .val (.ref b_186), .val (.int kk), .unset, .unset, .val (.ref b_186)]) rfl k_)
              have R339 : Go p e below P T186 (mkF m 163 #[.val (.int k), .val (.int v), .val (.int c0), .val (.int c1), .val (.ref b154), .val (.ref b177), .val (.ref b_186), .val (.int kk), .unset, .unset, .val (.ref b_186)] []) := fun t_ k_ => R338 t_ (XS.goto X186.here hx rfl (pc0 := 133) (pc' := 163) rfl (hb hby at_133) (by decide) (by decide) k_)
              obtain ⟨T340, h340, X340, e340, E340, A340, D340, -, st340⟩ := newO X186 hx hZ hown (hw _ (List.mem_of_getElem? (i := 53) rfl)) (hw _ (List.mem_of_getElem? (i := 54) rfl)) (hw _ (List.mem_of_getElem? (i := 39) rfl)) (rfl : T186.heap = T186.heap) (g := (mkF m 163 #[.val (.int k), .val (.int v), .val (.int c0), .val (.int c1), .val (.ref b154), .val (.ref b177), .val (.ref b_186), .val (.int kk), .unset, .unset, .val (.ref b_186)] [])) rfl (hb hby at_163) (by decide) (by decide)
              obtain ⟨b340, g340⟩ : ∃ z, z = T186.heap.size := ⟨_, rfl⟩
              rw [← g340] at A340 D340 st340
              have O340 := O186.ext E340
              have F340_52 : Fld Z h340 b340 "com/example/rowset/rowset/model/SqlValue" "value" "Ljava/lang/Object;" .null := D340 (Or.inr (hw _ (List.mem_of_getElem? (i := 52) rfl))) (ty := (.object "java/lang/Object")) (by decide)
              have F340_60 : Fld Z h340 b340 "com/example/rowset/rowset/model/SqlValue" "text" "Ljava/lang/String;" .null := D340 (Or.inr (hw _ (List.mem_of_getElem? (i := 60) rfl))) (ty := (.object "java/lang/String")) (by decide)
              have R341 : Go p e below P T340 (mkF m 166 #[.val (.int k), .val (.int v), .val (.int c0), .val (.int c1), .val (.ref b154), .val (.ref b177), .val (.ref b_186), .val (.int kk), .unset, .unset, .val (.ref b_186)] [(.ref b340)]) := fun t_ k_ => R339 t_ (st340 t_ k_)
              have R342 : Go p e below P T340 (mkF m 167 #[.val (.int k), .val (.int v), .val (.int c0), .val (.int c1), .val (.ref b154), .val (.ref b177), .val (.ref b_186), .val (.int kk), .unset, .unset, .val (.ref b_186)] [(.ref b340), (.ref b340)]) := fun t_ k_ => R341 t_ (XS.dup X340.here hx rfl (hb hby at_166) rfl rfl k_)
              have R343 : Go p e below P T340 (mkF m 169 #[.val (.int k), .val (.int v), .val (.int c0), .val (.int c1), .val (.ref b154), .val (.ref b177), .val (.ref b_186), .val (.int kk), .unset, .unset, .val (.ref b_186)] [(.ref b_186), (.ref b340), (.ref b340)]) := fun t_ k_ => R342 t_ (XS.aload X340.here hx rfl (hb hby at_167) rfl rfl k_)
              have R344 : Go p e below P T340 (mkF m 171 #[.val (.int k), .val (.int v), .val (.int c0), .val (.int c1), .val (.ref b154), .val (.ref b177), .val (.ref b_186), .val (.int kk), .unset, .unset, .val (.ref b_186)] [(.ref b177), (.ref b_186), (.ref b340), (.ref b340)]) := fun t_ k_ => R343 t_ (XS.aload X340.here hx rfl (hb hby at_169) rfl rfl k_)
              obtain ⟨rv345, _, ⟨T345, L345, k345, n345⟩, -, X345, ⟨Lc345, hQ345, l345, y345, z345⟩, st345⟩ := X340.specialBack hx (y := (⟨"com/example/rowset/rowset/model/SqlValue", "<init>", "(Ljava/lang/Object;Ljava/lang/String;)V"⟩ : MethodName)) rfl hown (mvT hZ (hw _ (List.mem_of_getElem? (i := 55) rfl))) (mvT hZ (hw _ (List.mem_of_getElem? (i := 56) rfl))) (mvT hZ (hw _ (List.mem_of_getElem? (i := 57) rfl))) (by decide) (backOf (W := 1) (sqlI_ l Z a0 hw [] b340 (.ref b_186) b177 h340 n0 O340 rfl A340 F340_52 F340_60 (Nat.le_trans (oldLe O186) (Nat.le_of_eq g340.symm))) hZ (hw _ (List.mem_of_getElem? (i := 57) rfl)) (hw _ (List.mem_of_getElem? (i := 39) rfl)) (by decide) (by decide)) (g := (mkF m 171 #[.val (.int k), .val (.int v), .val (.int c0), .val (.int c1), .val (.ref b154), .val (.ref b177), .val (.ref b_186), .val (.int kk), .unset, .unset, .val (.ref b_186)] [(.ref b177), (.ref b_186), (.ref b340), (.ref b340)])) rfl (by rw [hml]; rfl) (Steps.refl _) (a := b340) (argsL := [(.ref b_186), (.ref b177)]) (rest := [(.ref b340)]) (lenOf pd_44503560 rfl) rfl (by show 2 * 0 + _ ≤ _; exact Nat.le_of_eq rfl) (hb hby at_171) (fun _ _ => ⟨rfl, e340, (by decide : 5 + 0 ≤ _), (by decide : 11 + 0 ≤ _)⟩)
              dsimp only [Pt.U, Pt.locs, Pt.cells, Pt.slots] at X345 l345 y345 z345 st345 hQ345
              subst l345 y345 z345
              obtain ⟨rfl, N345q, K345, p345_0, p345_1⟩ := hQ345
              have N345 := Fr.app N186 N345q
              have O345 := O340.keep K345 (allS (Nat.le_trans (oldLe O186) (Nat.le_of_eq g340.symm)) all0)
              have R346 : Go p e below P T345 (mkF m 174 #[.val (.int k), .val (.int v), .val (.int c0), .val (.int c1), .val (.ref b154), .val (.ref b177), .val (.ref b_186), .val (.int kk), .unset, .unset, .val (.ref b_186)] [(.ref b340)]) := fun t_ k_ => R344 t_ (st345.trans k_)
              have R347 : Go p e below P T345 (mkF m 176 #[.val (.int k), .val (.int v), .val (.int c0), .val (.int c1), .val (.ref b154), .val (.ref b177), .val (.ref b_186), .val (.int kk), .val (.ref b340), .unset, .val (.ref b_186)] []) := fun t_ k_ => R346 t_ (XS.astore X345.here hx rfl (hb hby at_174) rfl rfl (l' := #[.val (.int k), .val (.int v), .val (.int c0), .val (.int c1), .val (.ref b154), .val (.ref b177), .val (.ref b_186), .val (.int kk), .val (.ref b340), .unset, .val (.ref b_186)]) rfl k_)
              have R348 : Go p e below P T345 (mkF m 178 #[.val (.int k), .val (.int v), .val (.int c0), .val (.int c1), .val (.ref b154), .val (.ref b177), .val (.ref b_186), .val (.int kk), .val (.ref b340), .unset, .val (.ref b_186)] [(.ref b_186)]) := fun t_ k_ => R347 t_ (XS.aload X345.here hx rfl (hb hby at_176) rfl rfl k_)
              have R349 : Go p e below P T345 (mkF m 180 #[.val (.int k), .val (.int v), .val (.int c0), .val (.int c1), .val (.ref b154), .val (.ref b177), .val (.ref b_186), .val (.int kk), .val (.ref b340), .val (.ref b_186), .val (.ref b_186)] []) := fun t_ k_ => R348 t_ (XS.astore X345.here hx rfl (hb hby at_178) rfl rfl (l' := #[.val (.int k), .val (.int v), .val (.int c0), .val (.int c1), .val (.ref b154), .val (.ref b177), .val (.ref b_186), .val (.int kk), .val (.ref b340), .val (.ref b_186), .val (.ref b_186)]) rfl k_)
              have R350 : Go p e below P T345 (mkF m 182 #[.val (.int k), .val (.int v), .val (.int c0), .val (.int c1), .val (.ref b154), .val (.ref b177), .val (.ref b_186), .val (.int kk), .val (.ref b340), .val (.ref b_186), .val (.ref b_186)] [(.ref b340)]) := fun t_ k_ => R349 t_ (XS.aload X345.here hx rfl (hb hby at_180) rfl rfl k_)
              obtain ⟨rv351, _, ⟨T351, L351, k351, n351⟩, -, X351, ⟨Lc351, hQ351, l351, y351, z351⟩, st351⟩ := Jvm.LawKit.callS X345 hx (y := (⟨"com/example/rowset/rowset/model/SqlValue", "valueOf", "(Ljava/lang/Object;)Ljava/lang/Object;"⟩ : MethodName)) hown (mvT hZ (hw _ (List.mem_of_getElem? (i := 37) rfl))) (mvT hZ (hw _ (List.mem_of_getElem? (i := 38) rfl))) (mvT hZ (hw _ (List.mem_of_getElem? (i := 39) rfl))) (mvT hZ (hw _ (List.mem_of_getElem? (i := 40) rfl))) (by decide) (backOf (W := 0) (voV_ l Z a0 hw [] b340 (.ref b_186) T345.heap n0 O345 rfl p345_0 p345_1) hZ (hw _ (List.mem_of_getElem? (i := 40) rfl)) (hw _ (List.mem_of_getElem? (i := 39) rfl)) (by decide) (by decide)) (g := (mkF m 182 #[.val (.int k), .val (.int v), .val (.int c0), .val (.int c1), .val (.ref b154), .val (.ref b177), .val (.ref b_186), .val (.int kk), .val (.ref b340), .val (.ref b_186), .val (.ref b_186)] [(.ref b340)])) rfl (by rw [hml]; rfl) (argsL := [(.ref b340)]) (rest := []) (lenOf pd_72566344 rfl) rfl (by show 2 * 0 + _ ≤ _; exact Nat.le_of_eq rfl) (hb hby at_182) (fun _ _ => ⟨rfl, (rfl : T345.heap = T345.heap), (by decide : 5 + 0 ≤ _), (by decide : 11 + 0 ≤ _)⟩)
              dsimp only [Pt.U, Pt.locs, Pt.cells, Pt.slots] at X351 l351 y351 z351 st351 hQ351
              subst l351 y351 z351
              obtain ⟨rfl, N351q, K351⟩ := hQ351
              have N351 := Fr.app N345 N351q
              have R352 : Go p e below P T351 (mkF m 185 #[.val (.int k), .val (.int v), .val (.int c0), .val (.int c1), .val (.ref b154), .val (.ref b177), .val (.ref b_186), .val (.int kk), .val (.ref b340), .val (.ref b_186), .val (.ref b_186)] [(.ref b_186)]) := fun t_ k_ => R350 t_ (st351 t_ k_)
              have R353 : Go p e below P T351 (mkF m 187 #[.val (.int k), .val (.int v), .val (.int c0), .val (.int c1), .val (.ref b154), .val (.ref b177), .val (.ref b_186), .val (.int kk), .val (.ref b340), .val (.ref b_186), .val (.ref b_186)] []) := fun t_ k_ => R352 t_ (XS.astore X351.here hx rfl (hb hby at_185) rfl rfl (l' := #[.val (.int k), .val (.int v), .val (.int c0), .val (.int c1), .val (.ref b154), .val (.ref b177), .val (.ref b_186), .val (.int kk), .val (.ref b340), .val (.ref b_186), .val (.ref b_186)]) rfl k_)
              have R354 : Go p e below P T351 (mkF m 189 #[.val (.int k), .val (.int v), .val (.int c0), .val (.int c1), .val (.ref b154), .val (.ref b177), .val (.ref b_186), .val (.int kk), .val (.ref b340), .val (.ref b_186), .val (.ref b_186)] [(.ref b_186)]) := fun t_ k_ => R353 t_ (XS.aload X351.here hx rfl (hb hby at_187) rfl rfl k_)
              have R355 : Go p e below P T351 (mkF m 191 #[.val (.int k), .val (.int v), .val (.int c0), .val (.int c1), .val (.ref b154), .val (.ref b177), .val (.ref b_186), .val (.int kk), .val (.ref b340), .val (.ref b_186), .val (.ref b_186)] [(.ref b_186), (.ref b_186)]) := fun t_ k_ => R354 t_ (XS.aload X351.here hx rfl (hb hby at_189) rfl rfl k_)
              have R356 : Go p e below P T351 (mkF m 194 #[.val (.int k), .val (.int v), .val (.int c0), .val (.int c1), .val (.ref b154), .val (.ref b177), .val (.ref b_186), .val (.int kk), .val (.ref b340), .val (.ref b_186), .val (.ref b_186)] []) := fun t_ k_ => R355 t_ (Jvm.RoadKit.acmp (g := (mkF m 191 #[.val (.int k), .val (.int v), .val (.int c0), .val (.int c1), .val (.ref b154), .val (.ref b177), .val (.ref b_186), .val (.int kk), .val (.ref b340), .val (.ref b_186), .val (.ref b_186)] [(.ref b_186), (.ref b_186)])) X351 hx rfl rfl rfl (pc0 := 191) (pc' := 194) (same := true) rfl (hb hby at_191) rfl (decide_eq_true (congrArg Value.ref rfl)) (by decide) (by decide) k_)
              have R357 : Go p e below P T351 (mkF m 196 #[.val (.int k), .val (.int v), .val (.int c0), .val (.int c1), .val (.ref b154), .val (.ref b177), .val (.ref b_186), .val (.int kk), .val (.ref b340), .val (.ref b_186), .val (.ref b_186)] [(.ref b_186)]) := fun t_ k_ => R356 t_ (XS.aload X351.here hx rfl (hb hby at_194) rfl rfl k_)
              have R358 : Go p e below P T351 (mkF m 198 #[.val (.int k), .val (.int v), .val (.int c0), .val (.int c1), .val (.ref b154), .val (.ref b177), .val (.ref b_186), .val (.int kk), .val (.ref b340), .val (.ref b_186), .val (.ref b_186)] [(.ref b340), (.ref b_186)]) := fun t_ k_ => R357 t_ (XS.aload X351.here hx rfl (hb hby at_196) rfl rfl k_)
              obtain ⟨rv359, _, ⟨T359, L359, k359, n359⟩, -, X359, ⟨Lc359, hQ359, l359, y359, z359⟩, st359⟩ := Jvm.LawKit.callS X351 hx (y := (⟨"com/example/rowset/rowset/model/SqlValue", "of", "(Ljava/lang/Object;)Lcom/example/rowset/rowset/model/SqlValue;"⟩ : MethodName)) hown (mvT hZ (hw _ (List.mem_of_getElem? (i := 41) rfl))) (mvT hZ (hw _ (List.mem_of_getElem? (i := 42) rfl))) (mvT hZ (hw _ (List.mem_of_getElem? (i := 39) rfl))) (mvT hZ (hw _ (List.mem_of_getElem? (i := 43) rfl))) (by decide) (backOf (W := 1) (ofV_ l Z a0 hw [] b340 T345.heap n0 O345 p345_0) hZ (hw _ (List.mem_of_getElem? (i := 43) rfl)) (hw _ (List.mem_of_getElem? (i := 39) rfl)) (by decide) (by decide)) (g := (mkF m 198 #[.val (.int k), .val (.int v), .val (.int c0), .val (.int c1), .val (.ref b154), .val (.ref b177), .val (.ref b_186), .val (.int kk), .val (.ref b340), .val (.ref b_186), .val (.ref b_186)] [(.ref b340), (.ref b_186)])) rfl (by rw [hml]; rfl) (argsL := [(.ref b340)]) (rest := [(.ref b_186)]) (lenOf pd_47527223 rfl) rfl (by show 2 * 0 + _ ≤ _; exact Nat.le_of_eq rfl) (hb hby at_198) (fun _ _ => ⟨rfl, K351, (by decide : 5 + 0 ≤ _), (by decide : 11 + 0 ≤ _)⟩)
              dsimp only [Pt.U, Pt.locs, Pt.cells, Pt.slots] at X359 l359 y359 z359 st359 hQ359
              subst l359 y359 z359
              obtain ⟨rfl, N359q, K359⟩ := hQ359
              have N359 := Fr.app N351 N359q
              have R360 : Go p e below P T359 (mkF m 201 #[.val (.int k), .val (.int v), .val (.int c0), .val (.int c1), .val (.ref b154), .val (.ref b177), .val (.ref b_186), .val (.int kk), .val (.ref b340), .val (.ref b_186), .val (.ref b_186)] [(.ref b340), (.ref b_186)]) := fun t_ k_ => R358 t_ (st359 t_ k_)
              obtain ⟨cq361, kq361, q361a, q361b, q361c⟩ := isOf hZ K359 p345_0
              obtain ⟨rv361, _, ⟨T361, L361, k361, n361⟩, -, X361, ⟨Lc361, hQ361, l361, y361, z361⟩, st361⟩ := X359.virtualBack hx (y := (⟨"com/example/rowset/rowset/model/SqlValue", "value", "()Ljava/lang/Object;"⟩ : MethodName)) (z := (⟨"com/example/rowset/rowset/model/SqlValue", "value", "()Ljava/lang/Object;"⟩ : MethodName)) hown (mvT hZ (hw _ (List.mem_of_getElem? (i := 46) rfl))) (mvT hZ (hw _ (List.mem_of_getElem? (i := 47) rfl))) (notFace_of_selects (args := #[]) (mvT hZ (hw _ (List.mem_of_getElem? (i := 49) rfl)))) (mvT hZ (hw _ (List.mem_of_getElem? (i := 49) rfl))) (mvT hZ (hw _ (List.mem_of_getElem? (i := 48) rfl))) (by decide) (backOf (W := 1) (sqlG_ l Z a0 hw [] b340 (.ref b_186) T345.heap n0 O345 rfl p345_1) hZ (hw _ (List.mem_of_getElem? (i := 50) rfl)) (hw _ (List.mem_of_getElem? (i := 39) rfl)) (by decide) (by decide)) q361a q361c (g := (mkF m 201 #[.val (.int k), .val (.int v), .val (.int c0), .val (.int c1), .val (.ref b154), .val (.ref b177), .val (.ref b_186), .val (.int kk), .val (.ref b340), .val (.ref b_186), .val (.ref b_186)] [(.ref b340), (.ref b_186)])) rfl (by rw [hml]; rfl) (Steps.refl _) (argsL := []) (rest := [(.ref b_186)]) (lenOf pd_65739572 rfl) rfl (by show 2 * 0 + _ ≤ _; exact Nat.le_of_eq rfl) (hb hby at_201) (fun _ _ => ⟨rfl, K359, (by decide : 5 + 0 ≤ _), (by decide : 11 + 0 ≤ _)⟩)
              dsimp only [Pt.U, Pt.locs, Pt.cells, Pt.slots] at X361 l361 y361 z361 st361 hQ361
              subst l361 y361 z361
              obtain ⟨rfl, N361q, K361⟩ := hQ361
              have N361 := Fr.app N359 N361q
              have R362 : Go p e below P T361 (mkF m 204 #[.val (.int k), .val (.int v), .val (.int c0), .val (.int c1), .val (.ref b154), .val (.ref b177), .val (.ref b_186), .val (.int kk), .val (.ref b340), .val (.ref b_186), .val (.ref b_186)] [(.ref b_186), (.ref b_186)]) := fun t_ k_ => R360 t_ (st361.trans k_)
              have R363 : Go p e below P T361 (mkF m 207 #[.val (.int k), .val (.int v), .val (.int c0), .val (.int c1), .val (.ref b154), .val (.ref b177), .val (.ref b_186), .val (.int kk), .val (.ref b340), .val (.ref b_186), .val (.ref b_186)] []) := fun t_ k_ => R362 t_ (Jvm.RoadKit.acmp (g := (mkF m 204 #[.val (.int k), .val (.int v), .val (.int c0), .val (.int c1), .val (.ref b154), .val (.ref b177), .val (.ref b_186), .val (.int kk), .val (.ref b340), .val (.ref b_186), .val (.ref b_186)] [(.ref b_186), (.ref b_186)])) X361 hx rfl rfl rfl (pc0 := 204) (pc' := 207) (same := true) rfl (hb hby at_204) rfl (decide_eq_true (congrArg Value.ref rfl)) (by decide) (by decide) k_)
              have R364 : Go p e below P T361 (mkF m 208 #[.val (.int k), .val (.int v), .val (.int c0), .val (.int c1), .val (.ref b154), .val (.ref b177), .val (.ref b_186), .val (.int kk), .val (.ref b340), .val (.ref b_186), .val (.ref b_186)] [(.int (1 : Int32))]) := fun t_ k_ => R363 t_ (XS.iconst X361.here hx rfl (hb hby at_207) k_)
              have R365 : Go p e below P T361 (mkF m 212 #[.val (.int k), .val (.int v), .val (.int c0), .val (.int c1), .val (.ref b154), .val (.ref b177), .val (.ref b_186), .val (.int kk), .val (.ref b340), .val (.ref b_186), .val (.ref b_186)] [(.int (1 : Int32))]) := fun t_ k_ => R364 t_ (XS.goto X361.here hx rfl (pc0 := 208) (pc' := 212) rfl (hb hby at_208) (by decide) (by decide) k_)
              obtain ⟨fs, hr, hrun, hended, hW, hsame⟩ := X361.leave (v := some (.int (nar .boolean (1 : Int32)))) (fun h => by rw [Bd.returns] at h; cases h)
              exact ⟨_, _, hP _ (R365 _ (retN X361 hx (t := .boolean) Bd.returns (by simp) (hb hby at_212) hr)), hrun, hended, _, _, rfl, ⟨rfl, N361, (K361.symm ▸ (((((((((Keep.refl h0 []).ext E154).wr W164 (Or.inr (Nat.le_of_eq g154.symm))).wr W174 (Or.inr (Nat.le_of_eq g154.symm))).ext E177).trans K182 (allS (Or.inr (Nat.le_trans ((((Keep.refl h0 []).ext E154).wr W164 (Or.inr (Nat.le_of_eq g154.symm))).wr W174 (Or.inr (Nat.le_of_eq g154.symm))).1 (Nat.le_of_eq g177.symm))) all0)).trans K186 all0).ext E340).trans K345 (allS (Or.inr (Nat.le_trans (((((((Keep.refl h0 []).ext E154).wr W164 (Or.inr (Nat.le_of_eq g154.symm))).wr W174 (Or.inr (Nat.le_of_eq g154.symm))).ext E177).trans K182 (allS (Or.inr (Nat.le_trans ((((Keep.refl h0 []).ext E154).wr W164 (Or.inr (Nat.le_of_eq g154.symm))).wr W174 (Or.inr (Nat.le_of_eq g154.symm))).1 (Nat.le_of_eq g177.symm))) all0)).trans K186 all0).1 (Nat.le_of_eq g340.symm))) all0)))⟩, ⟨_, rfl⟩, hW, hsame.mono (by decide) (by decide)⟩
            · have R366 : Go p e below P T186 (mkF m 136 #[.val (.int k), .val (.int v), .val (.int c0), .val (.int c1), .val (.ref b154), .val (.ref b177), .val (.ref b_186), .val (.int kk), .unset, .unset, .unset] []) := fun t_ k_ => R334 t_ (XS.icmpYes X186.here hx rfl (pc0 := 126) (pc' := 136) rfl (hb hby at_126) rfl (feq hc335).2 (by decide) (by decide) k_)
              have R367 : Go p e below P T186 (mkF m 138 #[.val (.int k), .val (.int v), .val (.int c0), .val (.int c1), .val (.ref b154), .val (.ref b177), .val (.ref b_186), .val (.int kk), .unset, .unset, .unset] [(.int kk)]) := fun t_ k_ => R366 t_ (XS.iload X186.here hx rfl (hb hby at_136) rfl k_)
              have R368 : Go p e below P T186 (mkF m 140 #[.val (.int k), .val (.int v), .val (.int c0), .val (.int c1), .val (.ref b154), .val (.ref b177), .val (.ref b_186), .val (.int kk), .unset, .unset, .unset] [(.int (6 : Int32)), (.int kk)]) := fun t_ k_ => R367 t_ (XS.bipush X186.here hx rfl (hb hby at_138) k_)
              by_cases hc369 : kk = (6 : Int32)
              · have R370 : Go p e below P T186 (mkF m 143 #[.val (.int k), .val (.int v), .val (.int c0), .val (.int c1), .val (.ref b154), .val (.ref b177), .val (.ref b_186), .val (.int kk), .unset, .unset, .unset] []) := fun t_ k_ => R368 t_ (XS.icmpNo X186.here hx rfl (hb hby at_140) rfl (teq hc369).2 k_)
                have R371 : Go p e below P T186 (mkF m 145 #[.val (.int k), .val (.int v), .val (.int c0), .val (.int c1), .val (.ref b154), .val (.ref b177), .val (.ref b_186), .val (.int kk), .unset, .unset, .unset] [(.ref b177)]) := fun t_ k_ => R370 t_ (XS.aload X186.here hx rfl (hb hby at_143) rfl rfl k_)
                have R372 : Go p e below P T186 (mkF m 147 #[.val (.int k), .val (.int v), .val (.int c0), .val (.int c1), .val (.ref b154), .val (.ref b177), .val (.ref b_186), .val (.int kk), .unset, .unset, .val (.ref b177)] []) := fun t_ k_ => R371 t_ (XS.astore X186.here hx rfl (hb hby at_145) rfl rfl (l' := #[.val (.int k), .val (.int v), .val (.int c0), .val (.int c1), .val (.ref b154), .val (.ref b177), .val (.ref b_186), .val (.int kk), .unset, .unset, .val (.ref b177)]) rfl k_)
                have R373 : Go p e below P T186 (mkF m 163 #[.val (.int k), .val (.int v), .val (.int c0), .val (.int c1), .val (.ref b154), .val (.ref b177), .val (.ref b_186), .val (.int kk), .unset, .unset, .val (.ref b177)] []) := fun t_ k_ => R372 t_ (XS.goto X186.here hx rfl (pc0 := 147) (pc' := 163) rfl (hb hby at_147) (by decide) (by decide) k_)
                obtain ⟨T374, h374, X374, e374, E374, A374, D374, -, st374⟩ := newO X186 hx hZ hown (hw _ (List.mem_of_getElem? (i := 53) rfl)) (hw _ (List.mem_of_getElem? (i := 54) rfl)) (hw _ (List.mem_of_getElem? (i := 39) rfl)) (rfl : T186.heap = T186.heap) (g := (mkF m 163 #[.val (.int k), .val (.int v), .val (.int c0), .val (.int c1), .val (.ref b154), .val (.ref b177), .val (.ref b_186), .val (.int kk), .unset, .unset, .val (.ref b177)] [])) rfl (hb hby at_163) (by decide) (by decide)
                obtain ⟨b374, g374⟩ : ∃ z, z = T186.heap.size := ⟨_, rfl⟩
                rw [← g374] at A374 D374 st374
                have O374 := O186.ext E374
                have F374_52 : Fld Z h374 b374 "com/example/rowset/rowset/model/SqlValue" "value" "Ljava/lang/Object;" .null := D374 (Or.inr (hw _ (List.mem_of_getElem? (i := 52) rfl))) (ty := (.object "java/lang/Object")) (by decide)
                have F374_60 : Fld Z h374 b374 "com/example/rowset/rowset/model/SqlValue" "text" "Ljava/lang/String;" .null := D374 (Or.inr (hw _ (List.mem_of_getElem? (i := 60) rfl))) (ty := (.object "java/lang/String")) (by decide)
                have R375 : Go p e below P T374 (mkF m 166 #[.val (.int k), .val (.int v), .val (.int c0), .val (.int c1), .val (.ref b154), .val (.ref b177), .val (.ref b_186), .val (.int kk), .unset, .unset, .val (.ref b177)] [(.ref b374)]) := fun t_ k_ => R373 t_ (st374 t_ k_)
                have R376 : Go p e below P T374 (mkF m 167 #[.val (.int k), .val (.int v), .val (.int c0), .val (.int c1), .val (.ref b154), .val (.ref b177), .val (.ref b_186), .val (.int kk), .unset, .unset, .val (.ref b177)] [(.ref b374), (.ref b374)]) := fun t_ k_ => R375 t_ (XS.dup X374.here hx rfl (hb hby at_166) rfl rfl k_)
                have R377 : Go p e below P T374 (mkF m 169 #[.val (.int k), .val (.int v), .val (.int c0), .val (.int c1), .val (.ref b154), .val (.ref b177), .val (.ref b_186), .val (.int kk), .unset, .unset, .val (.ref b177)] [(.ref b177), (.ref b374), (.ref b374)]) := fun t_ k_ => R376 t_ (XS.aload X374.here hx rfl (hb hby at_167) rfl rfl k_)
                have R378 : Go p e below P T374 (mkF m 171 #[.val (.int k), .val (.int v), .val (.int c0), .val (.int c1), .val (.ref b154), .val (.ref b177), .val (.ref b_186), .val (.int kk), .unset, .unset, .val (.ref b177)] [(.ref b177), (.ref b177), (.ref b374), (.ref b374)]) := fun t_ k_ => R377 t_ (XS.aload X374.here hx rfl (hb hby at_169) rfl rfl k_)
                obtain ⟨rv379, _, ⟨T379, L379, k379, n379⟩, -, X379, ⟨Lc379, hQ379, l379, y379, z379⟩, st379⟩ := X374.specialBack hx (y := (⟨"com/example/rowset/rowset/model/SqlValue", "<init>", "(Ljava/lang/Object;Ljava/lang/String;)V"⟩ : MethodName)) rfl hown (mvT hZ (hw _ (List.mem_of_getElem? (i := 55) rfl))) (mvT hZ (hw _ (List.mem_of_getElem? (i := 56) rfl))) (mvT hZ (hw _ (List.mem_of_getElem? (i := 57) rfl))) (by decide) (backOf (W := 1) (sqlI_ l Z a0 hw [] b374 (.ref b177) b177 h374 n0 O374 rfl A374 F374_52 F374_60 (Nat.le_trans (oldLe O186) (Nat.le_of_eq g374.symm))) hZ (hw _ (List.mem_of_getElem? (i := 57) rfl)) (hw _ (List.mem_of_getElem? (i := 39) rfl)) (by decide) (by decide)) (g := (mkF m 171 #[.val (.int k), .val (.int v), .val (.int c0), .val (.int c1), .val (.ref b154), .val (.ref b177), .val (.ref b_186), .val (.int kk), .unset, .unset, .val (.ref b177)] [(.ref b177), (.ref b177), (.ref b374), (.ref b374)])) rfl (by rw [hml]; rfl) (Steps.refl _) (a := b374) (argsL := [(.ref b177), (.ref b177)]) (rest := [(.ref b374)]) (lenOf pd_44503560 rfl) rfl (by show 2 * 0 + _ ≤ _; exact Nat.le_of_eq rfl) (hb hby at_171) (fun _ _ => ⟨rfl, e374, (by decide : 5 + 0 ≤ _), (by decide : 11 + 0 ≤ _)⟩)
                dsimp only [Pt.U, Pt.locs, Pt.cells, Pt.slots] at X379 l379 y379 z379 st379 hQ379
                subst l379 y379 z379
                obtain ⟨rfl, N379q, K379, p379_0, p379_1⟩ := hQ379
                have N379 := Fr.app N186 N379q
                have O379 := O374.keep K379 (allS (Nat.le_trans (oldLe O186) (Nat.le_of_eq g374.symm)) all0)
                have R380 : Go p e below P T379 (mkF m 174 #[.val (.int k), .val (.int v), .val (.int c0), .val (.int c1), .val (.ref b154), .val (.ref b177), .val (.ref b_186), .val (.int kk), .unset, .unset, .val (.ref b177)] [(.ref b374)]) := fun t_ k_ => R378 t_ (st379.trans k_)
                have R381 : Go p e below P T379 (mkF m 176 #[.val (.int k), .val (.int v), .val (.int c0), .val (.int c1), .val (.ref b154), .val (.ref b177), .val (.ref b_186), .val (.int kk), .val (.ref b374), .unset, .val (.ref b177)] []) := fun t_ k_ => R380 t_ (XS.astore X379.here hx rfl (hb hby at_174) rfl rfl (l' := #[.val (.int k), .val (.int v), .val (.int c0), .val (.int c1), .val (.ref b154), .val (.ref b177), .val (.ref b_186), .val (.int kk), .val (.ref b374), .unset, .val (.ref b177)]) rfl k_)
                have R382 : Go p e below P T379 (mkF m 178 #[.val (.int k), .val (.int v), .val (.int c0), .val (.int c1), .val (.ref b154), .val (.ref b177), .val (.ref b_186), .val (.int kk), .val (.ref b374), .unset, .val (.ref b177)] [(.ref b177)]) := fun t_ k_ => R381 t_ (XS.aload X379.here hx rfl (hb hby at_176) rfl rfl k_)
                have R383 : Go p e below P T379 (mkF m 180 #[.val (.int k), .val (.int v), .val (.int c0), .val (.int c1), .val (.ref b154), .val (.ref b177), .val (.ref b_186), .val (.int kk), .val (.ref b374), .val (.ref b177), .val (.ref b177)] []) := fun t_ k_ => R382 t_ (XS.astore X379.here hx rfl (hb hby at_178) rfl rfl (l' := #[.val (.int k), .val (.int v), .val (.int c0), .val (.int c1), .val (.ref b154), .val (.ref b177), .val (.ref b_186), .val (.int kk), .val (.ref b374), .val (.ref b177), .val (.ref b177)]) rfl k_)
                have R384 : Go p e below P T379 (mkF m 182 #[.val (.int k), .val (.int v), .val (.int c0), .val (.int c1), .val (.ref b154), .val (.ref b177), .val (.ref b_186), .val (.int kk), .val (.ref b374), .val (.ref b177), .val (.ref b177)] [(.ref b374)]) := fun t_ k_ => R383 t_ (XS.aload X379.here hx rfl (hb hby at_180) rfl rfl k_)
                obtain ⟨rv385, _, ⟨T385, L385, k385, n385⟩, -, X385, ⟨Lc385, hQ385, l385, y385, z385⟩, st385⟩ := Jvm.LawKit.callS X379 hx (y := (⟨"com/example/rowset/rowset/model/SqlValue", "valueOf", "(Ljava/lang/Object;)Ljava/lang/Object;"⟩ : MethodName)) hown (mvT hZ (hw _ (List.mem_of_getElem? (i := 37) rfl))) (mvT hZ (hw _ (List.mem_of_getElem? (i := 38) rfl))) (mvT hZ (hw _ (List.mem_of_getElem? (i := 39) rfl))) (mvT hZ (hw _ (List.mem_of_getElem? (i := 40) rfl))) (by decide) (backOf (W := 0) (voV_ l Z a0 hw [] b374 (.ref b177) T379.heap n0 O379 rfl p379_0 p379_1) hZ (hw _ (List.mem_of_getElem? (i := 40) rfl)) (hw _ (List.mem_of_getElem? (i := 39) rfl)) (by decide) (by decide)) (g := (mkF m 182 #[.val (.int k), .val (.int v), .val (.int c0), .val (.int c1), .val (.ref b154), .val (.ref b177), .val (.ref b_186), .val (.int kk), .val (.ref b374), .val (.ref b177), .val (.ref b177)] [(.ref b374)])) rfl (by rw [hml]; rfl) (argsL := [(.ref b374)]) (rest := []) (lenOf pd_72566344 rfl) rfl (by show 2 * 0 + _ ≤ _; exact Nat.le_of_eq rfl) (hb hby at_182) (fun _ _ => ⟨rfl, (rfl : T379.heap = T379.heap), (by decide : 5 + 0 ≤ _), (by decide : 11 + 0 ≤ _)⟩)
                dsimp only [Pt.U, Pt.locs, Pt.cells, Pt.slots] at X385 l385 y385 z385 st385 hQ385
                subst l385 y385 z385
                obtain ⟨rfl, N385q, K385⟩ := hQ385
                have N385 := Fr.app N379 N385q
                have R386 : Go p e below P T385 (mkF m 185 #[.val (.int k), .val (.int v), .val (.int c0), .val (.int c1), .val (.ref b154), .val (.ref b177), .val (.ref b_186), .val (.int kk), .val (.ref b374), .val (.ref b177), .val (.ref b177)] [(.ref b177)]) := fun t_ k_ => R384 t_ (st385 t_ k_)
                have R387 : Go p e below P T385 (mkF m 187 #[.val (.int k), .val (.int v), .val (.int c0), .val (.int c1), .val (.ref b154), .val (.ref b177), .val (.ref b_186), .val (.int kk), .val (.ref b374), .val (.ref b177), .val (.ref b177)] []) := fun t_ k_ => R386 t_ (XS.astore X385.here hx rfl (hb hby at_185) rfl rfl (l' := #[.val (.int k), .val (.int v), .val (.int c0), .val (.int c1), .val (.ref b154), .val (.ref b177), .val (.ref b_186), .val (.int kk), .val (.ref b374), .val (.ref b177), .val (.ref b177)]) rfl k_)
                have R388 : Go p e below P T385 (mkF m 189 #[.val (.int k), .val (.int v), .val (.int c0), .val (.int c1), .val (.ref b154), .val (.ref b177), .val (.ref b_186), .val (.int kk), .val (.ref b374), .val (.ref b177), .val (.ref b177)] [(.ref b177)]) := fun t_ k_ => R387 t_ (XS.aload X385.here hx rfl (hb hby at_187) rfl rfl k_)
                have R389 : Go p e below P T385 (mkF m 191 #[.val (.int k), .val (.int v), .val (.int c0), .val (.int c1), .val (.ref b154), .val (.ref b177), .val (.ref b_186), .val (.int kk), .val (.ref b374), .val (.ref b177), .val (.ref b177)] [(.ref b177), (.ref b177)]) := fun t_ k_ => R388 t_ (XS.aload X385.here hx rfl (hb hby at_189) rfl rfl k_)
                have R390 : Go p e below P T385 (mkF m 194 #[.val (.int k), .val (.int v), .val (.int c0), .val (.int c1), .val (.ref b154), .val (.ref b177), .val (.ref b_186), .val (.int kk), .val (.ref b374), .val (.ref b177), .val (.ref b177)] []) := fun t_ k_ => R389 t_ (Jvm.RoadKit.acmp (g := (mkF m 191 #[.val (.int k), .val (.int v), .val (.int c0), .val (.int c1), .val (.ref b154), .val (.ref b177), .val (.ref b_186), .val (.int kk), .val (.ref b374), .val (.ref b177), .val (.ref b177)] [(.ref b177), (.ref b177)])) X385 hx rfl rfl rfl (pc0 := 191) (pc' := 194) (same := true) rfl (hb hby at_191) rfl (decide_eq_true (congrArg Value.ref rfl)) (by decide) (by decide) k_)
                have R391 : Go p e below P T385 (mkF m 196 #[.val (.int k), .val (.int v), .val (.int c0), .val (.int c1), .val (.ref b154), .val (.ref b177), .val (.ref b_186), .val (.int kk), .val (.ref b374), .val (.ref b177), .val (.ref b177)] [(.ref b177)]) := fun t_ k_ => R390 t_ (XS.aload X385.here hx rfl (hb hby at_194) rfl rfl k_)
                have R392 : Go p e below P T385 (mkF m 198 #[.val (.int k), .val (.int v), .val (.int c0), .val (.int c1), .val (.ref b154), .val (.ref b177), .val (.ref b_186), .val (.int kk), .val (.ref b374), .val (.ref b177), .val (.ref b177)] [(.ref b374), (.ref b177)]) := fun t_ k_ => R391 t_ (XS.aload X385.here hx rfl (hb hby at_196) rfl rfl k_)
                obtain ⟨rv393, _, ⟨T393, L393, k393, n393⟩, -, X393, ⟨Lc393, hQ393, l393, y393, z393⟩, st393⟩ := Jvm.LawKit.callS X385 hx (y := (⟨"com/example/rowset/rowset/model/SqlValue", "of", "(Ljava/lang/Object;)Lcom/example/rowset/rowset/model/SqlValue;"⟩ : MethodName)) hown (mvT hZ (hw _ (List.mem_of_getElem? (i := 41) rfl))) (mvT hZ (hw _ (List.mem_of_getElem? (i := 42) rfl))) (mvT hZ (hw _ (List.mem_of_getElem? (i := 39) rfl))) (mvT hZ (hw _ (List.mem_of_getElem? (i := 43) rfl))) (by decide) (backOf (W := 1) (ofV_ l Z a0 hw [] b374 T379.heap n0 O379 p379_0) hZ (hw _ (List.mem_of_getElem? (i := 43) rfl)) (hw _ (List.mem_of_getElem? (i := 39) rfl)) (by decide) (by decide)) (g := (mkF m 198 #[.val (.int k), .val (.int v), .val (.int c0), .val (.int c1), .val (.ref b154), .val (.ref b177), .val (.ref b_186), .val (.int kk), .val (.ref b374), .val (.ref b177), .val (.ref b177)] [(.ref b374), (.ref b177)])) rfl (by rw [hml]; rfl) (argsL := [(.ref b374)]) (rest := [(.ref b177)]) (lenOf pd_47527223 rfl) rfl (by show 2 * 0 + _ ≤ _; exact Nat.le_of_eq rfl) (hb hby at_198) (fun _ _ => ⟨rfl, K385, (by decide : 5 + 0 ≤ _), (by decide : 11 + 0 ≤ _)⟩)
                dsimp only [Pt.U, Pt.locs, Pt.cells, Pt.slots] at X393 l393 y393 z393 st393 hQ393
                subst l393 y393 z393
                obtain ⟨rfl, N393q, K393⟩ := hQ393
                have N393 := Fr.app N385 N393q
                have R394 : Go p e below P T393 (mkF m 201 #[.val (.int k), .val (.int v), .val (.int c0), .val (.int c1), .val (.ref b154), .val (.ref b177), .val (.ref b_186), .val (.int kk), .val (.ref b374), .val (.ref b177), .val (.ref b177)] [(.ref b374), (.ref b177)]) := fun t_ k_ => R392 t_ (st393 t_ k_)
                obtain ⟨cq395, kq395, q395a, q395b, q395c⟩ := isOf hZ K393 p379_0
                obtain ⟨rv395, _, ⟨T395, L395, k395, n395⟩, -, X395, ⟨Lc395, hQ395, l395, y395, z395⟩, st395⟩ := X393.virtualBack hx (y := (⟨"com/example/rowset/rowset/model/SqlValue", "value", "()Ljava/lang/Object;"⟩ : MethodName)) (z := (⟨"com/example/rowset/rowset/model/SqlValue", "value", "()Ljava/lang/Object;"⟩ : MethodName)) hown (mvT hZ (hw _ (List.mem_of_getElem? (i := 46) rfl))) (mvT hZ (hw _ (List.mem_of_getElem? (i := 47) rfl))) (notFace_of_selects (args := #[]) (mvT hZ (hw _ (List.mem_of_getElem? (i := 49) rfl)))) (mvT hZ (hw _ (List.mem_of_getElem? (i := 49) rfl))) (mvT hZ (hw _ (List.mem_of_getElem? (i := 48) rfl))) (by decide) (backOf (W := 1) (sqlG_ l Z a0 hw [] b374 (.ref b177) T379.heap n0 O379 rfl p379_1) hZ (hw _ (List.mem_of_getElem? (i := 50) rfl)) (hw _ (List.mem_of_getElem? (i := 39) rfl)) (by decide) (by decide)) q395a q395c (g := (mkF m 201 #[.val (.int k), .val (.int v), .val (.int c0), .val (.int c1), .val (.ref b154), .val (.ref b177), .val (.ref b_186), .val (.int kk), .val (.ref b374), .val (.ref b177), .val (.ref b177)] [(.ref b374), (.ref b177)])) rfl (by rw [hml]; rfl) (Steps.refl _) (argsL := []) (rest := [(.ref b177)]) (lenOf pd_65739572 rfl) rfl (by show 2 * 0 + _ ≤ _; exact Nat.le_of_eq rfl) (hb hby at_201) (fun _ _ => ⟨rfl, K393, (by decide : 5 + 0 ≤ _), (by decide : 11 + 0 ≤ _)⟩)
                dsimp only [Pt.U, Pt.locs, Pt.cells, Pt.slots] at X395 l395 y395 z395 st395 hQ395
                subst l395 y395 z395
                obtain ⟨rfl, N395q, K395⟩ := hQ395
                have N395 := Fr.app N393 N395q
                have R396 : Go p e below P T395 (mkF m 204 #[.val (.int k), .val (.int v), .val (.int c0), .val (.int c1), .val (.ref b154), .val (.ref b177), .val (.ref b_186), .val (.int kk), .val (.ref b374), .val (.ref b177), .val (.ref b177)] [(.ref b177), (.ref b177)]) := fun t_ k_ => R394 t_ (st395.trans k_)
                have R397 : Go p e below P T395 (mkF m 207 #[.val (.int k), .val (.int v), .val (.int c0), .val (.int c1), .val (.ref b154), .val (.ref b177), .val (.ref b_186), .val (.int kk), .val (.ref b374), .val (.ref b177), .val (.ref b177)] []) := fun t_ k_ => R396 t_ (Jvm.RoadKit.acmp (g := (mkF m 204 #[.val (.int k), .val (.int v), .val (.int c0), .val (.int c1), .val (.ref b154), .val (.ref b177), .val (.ref b_186), .val (.int kk), .val (.ref b374), .val (.ref b177), .val (.ref b177)] [(.ref b177), (.ref b177)])) X395 hx rfl rfl rfl (pc0 := 204) (pc' := 207) (same := true) rfl (hb hby at_204) rfl (decide_eq_true (congrArg Value.ref rfl)) (by decide) (by decide) k_)
                have R398 : Go p e below P T395 (mkF m 208 #[.val (.int k), .val (.int v), .val (.int c0), .val (.int c1), .val (.ref b154), .val (.ref b177), .val (.ref b_186), .val (.int kk), .val (.ref b374), .val (.ref b177), .val (.ref b177)] [(.int (1 : Int32))]) := fun t_ k_ => R397 t_ (XS.iconst X395.here hx rfl (hb hby at_207) k_)
                have R399 : Go p e below P T395 (mkF m 212 #[.val (.int k), .val (.int v), .val (.int c0), .val (.int c1), .val (.ref b154), .val (.ref b177), .val (.ref b_186), .val (.int kk), .val (.ref b374), .val (.ref b177), .val (.ref b177)] [(.int (1 : Int32))]) := fun t_ k_ => R398 t_ (XS.goto X395.here hx rfl (pc0 := 208) (pc' := 212) rfl (hb hby at_208) (by decide) (by decide) k_)
                obtain ⟨fs, hr, hrun, hended, hW, hsame⟩ := X395.leave (v := some (.int (nar .boolean (1 : Int32)))) (fun h => by rw [Bd.returns] at h; cases h)
                exact ⟨_, _, hP _ (R399 _ (retN X395 hx (t := .boolean) Bd.returns (by simp) (hb hby at_212) hr)), hrun, hended, _, _, rfl, ⟨rfl, N395, (K395.symm ▸ (((((((((Keep.refl h0 []).ext E154).wr W164 (Or.inr (Nat.le_of_eq g154.symm))).wr W174 (Or.inr (Nat.le_of_eq g154.symm))).ext E177).trans K182 (allS (Or.inr (Nat.le_trans ((((Keep.refl h0 []).ext E154).wr W164 (Or.inr (Nat.le_of_eq g154.symm))).wr W174 (Or.inr (Nat.le_of_eq g154.symm))).1 (Nat.le_of_eq g177.symm))) all0)).trans K186 all0).ext E374).trans K379 (allS (Or.inr (Nat.le_trans (((((((Keep.refl h0 []).ext E154).wr W164 (Or.inr (Nat.le_of_eq g154.symm))).wr W174 (Or.inr (Nat.le_of_eq g154.symm))).ext E177).trans K182 (allS (Or.inr (Nat.le_trans ((((Keep.refl h0 []).ext E154).wr W164 (Or.inr (Nat.le_of_eq g154.symm))).wr W174 (Or.inr (Nat.le_of_eq g154.symm))).1 (Nat.le_of_eq g177.symm))) all0)).trans K186 all0).1 (Nat.le_of_eq g374.symm))) all0)))⟩, ⟨_, rfl⟩, hW, hsame.mono (by decide) (by decide)⟩
              · have R400 : Go p e below P T186 (mkF m 150 #[.val (.int k), .val (.int v), .val (.int c0), .val (.int c1), .val (.ref b154), .val (.ref b177), .val (.ref b_186), .val (.int kk), .unset, .unset, .unset] []) := fun t_ k_ => R368 t_ (XS.icmpYes X186.here hx rfl (pc0 := 140) (pc' := 150) rfl (hb hby at_140) rfl (feq hc369).2 (by decide) (by decide) k_)
                obtain ⟨T401, h401, X401, e401, E401, A401, D401, -, st401⟩ := newO X186 hx hZ hown (hw _ (List.mem_of_getElem? (i := 53) rfl)) (hw _ (List.mem_of_getElem? (i := 54) rfl)) (hw _ (List.mem_of_getElem? (i := 39) rfl)) (rfl : T186.heap = T186.heap) (g := (mkF m 150 #[.val (.int k), .val (.int v), .val (.int c0), .val (.int c1), .val (.ref b154), .val (.ref b177), .val (.ref b_186), .val (.int kk), .unset, .unset, .unset] [])) rfl (hb hby at_150) (by decide) (by decide)
                obtain ⟨b401, g401⟩ : ∃ z, z = T186.heap.size := ⟨_, rfl⟩
                rw [← g401] at A401 D401 st401
                have O401 := O186.ext E401
                have F401_52 : Fld Z h401 b401 "com/example/rowset/rowset/model/SqlValue" "value" "Ljava/lang/Object;" .null := D401 (Or.inr (hw _ (List.mem_of_getElem? (i := 52) rfl))) (ty := (.object "java/lang/Object")) (by decide)
                have F401_60 : Fld Z h401 b401 "com/example/rowset/rowset/model/SqlValue" "text" "Ljava/lang/String;" .null := D401 (Or.inr (hw _ (List.mem_of_getElem? (i := 60) rfl))) (ty := (.object "java/lang/String")) (by decide)
                have R402 : Go p e below P T401 (mkF m 153 #[.val (.int k), .val (.int v), .val (.int c0), .val (.int c1), .val (.ref b154), .val (.ref b177), .val (.ref b_186), .val (.int kk), .unset, .unset, .unset] [(.ref b401)]) := fun t_ k_ => R400 t_ (st401 t_ k_)
                have R403 : Go p e below P T401 (mkF m 154 #[.val (.int k), .val (.int v), .val (.int c0), .val (.int c1), .val (.ref b154), .val (.ref b177), .val (.ref b_186), .val (.int kk), .unset, .unset, .unset] [(.ref b401), (.ref b401)]) := fun t_ k_ => R402 t_ (XS.dup X401.here hx rfl (hb hby at_153) rfl rfl k_)
                have R404 : Go p e below P T401 (mkF m 156 #[.val (.int k), .val (.int v), .val (.int c0), .val (.int c1), .val (.ref b154), .val (.ref b177), .val (.ref b_186), .val (.int kk), .unset, .unset, .unset] [(.ref b_186), (.ref b401), (.ref b401)]) := fun t_ k_ => R403 t_ (XS.aload X401.here hx rfl (hb hby at_154) rfl rfl k_)
                have R405 : Go p e below P T401 (mkF m 158 #[.val (.int k), .val (.int v), .val (.int c0), .val (.int c1), .val (.ref b154), .val (.ref b177), .val (.ref b_186), .val (.int kk), .unset, .unset, .unset] [(.ref b177), (.ref b_186), (.ref b401), (.ref b401)]) := fun t_ k_ => R404 t_ (XS.aload X401.here hx rfl (hb hby at_156) rfl rfl k_)
                obtain ⟨rv406, _, ⟨T406, L406, k406, n406⟩, -, X406, ⟨Lc406, hQ406, l406, y406, z406⟩, st406⟩ := X401.specialBack hx (y := (⟨"com/example/rowset/rowset/model/SqlValue", "<init>", "(Ljava/lang/Object;Ljava/lang/String;)V"⟩ : MethodName)) rfl hown (mvT hZ (hw _ (List.mem_of_getElem? (i := 55) rfl))) (mvT hZ (hw _ (List.mem_of_getElem? (i := 56) rfl))) (mvT hZ (hw _ (List.mem_of_getElem? (i := 57) rfl))) (by decide) (backOf (W := 1) (sqlI_ l Z a0 hw [] b401 (.ref b_186) b177 h401 n0 O401 rfl A401 F401_52 F401_60 (Nat.le_trans (oldLe O186) (Nat.le_of_eq g401.symm))) hZ (hw _ (List.mem_of_getElem? (i := 57) rfl)) (hw _ (List.mem_of_getElem? (i := 39) rfl)) (by decide) (by decide)) (g := (mkF m 158 #[.val (.int k), .val (.int v), .val (.int c0), .val (.int c1), .val (.ref b154), .val (.ref b177), .val (.ref b_186), .val (.int kk), .unset, .unset, .unset] [(.ref b177), (.ref b_186), (.ref b401), (.ref b401)])) rfl (by rw [hml]; rfl) (Steps.refl _) (a := b401) (argsL := [(.ref b_186), (.ref b177)]) (rest := [(.ref b401)]) (lenOf pd_44503560 rfl) rfl (by show 2 * 0 + _ ≤ _; exact Nat.le_of_eq rfl) (hb hby at_158) (fun _ _ => ⟨rfl, e401, (by decide : 5 + 0 ≤ _), (by decide : 11 + 0 ≤ _)⟩)
                dsimp only [Pt.U, Pt.locs, Pt.cells, Pt.slots] at X406 l406 y406 z406 st406 hQ406
                subst l406 y406 z406
                obtain ⟨rfl, N406q, K406, p406_0, p406_1⟩ := hQ406
                have N406 := Fr.app N186 N406q
                have O406 := O401.keep K406 (allS (Nat.le_trans (oldLe O186) (Nat.le_of_eq g401.symm)) all0)
                have R407 : Go p e below P T406 (mkF m 161 #[.val (.int k), .val (.int v), .val (.int c0), .val (.int c1), .val (.ref b154), .val (.ref b177), .val (.ref b_186), .val (.int kk), .unset, .unset, .unset] [(.ref b401)]) := fun t_ k_ => R405 t_ (st406.trans k_)
                have R408 : Go p e below P T406 (mkF m 163 #[.val (.int k), .val (.int v), .val (.int c0), .val (.int c1), .val (.ref b154), .val (.ref b177), .val (.ref b_186), .val (.int kk), .unset, .unset, .val (.ref b401)] []) := fun t_ k_ => R407 t_ (XS.astore X406.here hx rfl (hb hby at_161) rfl rfl (l' := #[.val (.int k), .val (.int v), .val (.int c0), .val (.int c1), .val (.ref b154), .val (.ref b177), .val (.ref b_186), .val (.int kk), .unset, .unset, .val (.ref b401)]) rfl k_)
                obtain ⟨T409, h409, X409, e409, E409, A409, D409, -, st409⟩ := newO X406 hx hZ hown (hw _ (List.mem_of_getElem? (i := 53) rfl)) (hw _ (List.mem_of_getElem? (i := 54) rfl)) (hw _ (List.mem_of_getElem? (i := 39) rfl)) (rfl : T406.heap = T406.heap) (g := (mkF m 163 #[.val (.int k), .val (.int v), .val (.int c0), .val (.int c1), .val (.ref b154), .val (.ref b177), .val (.ref b_186), .val (.int kk), .unset, .unset, .val (.ref b401)] [])) rfl (hb hby at_163) (by decide) (by decide)
                obtain ⟨b409, g409⟩ : ∃ z, z = T406.heap.size := ⟨_, rfl⟩
                rw [← g409] at A409 D409 st409
                have O409 := O406.ext E409
                have F409_52 : Fld Z h409 b409 "com/example/rowset/rowset/model/SqlValue" "value" "Ljava/lang/Object;" .null := D409 (Or.inr (hw _ (List.mem_of_getElem? (i := 52) rfl))) (ty := (.object "java/lang/Object")) (by decide)
                have F409_60 : Fld Z h409 b409 "com/example/rowset/rowset/model/SqlValue" "text" "Ljava/lang/String;" .null := D409 (Or.inr (hw _ (List.mem_of_getElem? (i := 60) rfl))) (ty := (.object "java/lang/String")) (by decide)
                have R410 : Go p e below P T409 (mkF m 166 #[.val (.int k), .val (.int v), .val (.int c0), .val (.int c1), .val (.ref b154), .val (.ref b177), .val (.ref b_186), .val (.int kk), .unset, .unset, .val (.ref b401)] [(.ref b409)]) := fun t_ k_ => R408 t_ (st409 t_ k_)
                have R411 : Go p e below P T409 (mkF m 167 #[.val (.int k), .val (.int v), .val (.int c0), .val (.int c1), .val (.ref b154), .val (.ref b177), .val (.ref b_186), .val (.int kk), .unset, .unset, .val (.ref b401)] [(.ref b409), (.ref b409)]) := fun t_ k_ => R410 t_ (XS.dup X409.here hx rfl (hb hby at_166) rfl rfl k_)
                have R412 : Go p e below P T409 (mkF m 169 #[.val (.int k), .val (.int v), .val (.int c0), .val (.int c1), .val (.ref b154), .val (.ref b177), .val (.ref b_186), .val (.int kk), .unset, .unset, .val (.ref b401)] [(.ref b401), (.ref b409), (.ref b409)]) := fun t_ k_ => R411 t_ (XS.aload X409.here hx rfl (hb hby at_167) rfl rfl k_)
                have R413 : Go p e below P T409 (mkF m 171 #[.val (.int k), .val (.int v), .val (.int c0), .val (.int c1), .val (.ref b154), .val (.ref b177), .val (.ref b_186), .val (.int kk), .unset, .unset, .val (.ref b401)] [(.ref b177), (.ref b401), (.ref b409), (.ref b409)]) := fun t_ k_ => R412 t_ (XS.aload X409.here hx rfl (hb hby at_169) rfl rfl k_)
                obtain ⟨rv414, _, ⟨T414, L414, k414, n414⟩, -, X414, ⟨Lc414, hQ414, l414, y414, z414⟩, st414⟩ := X409.specialBack hx (y := (⟨"com/example/rowset/rowset/model/SqlValue", "<init>", "(Ljava/lang/Object;Ljava/lang/String;)V"⟩ : MethodName)) rfl hown (mvT hZ (hw _ (List.mem_of_getElem? (i := 55) rfl))) (mvT hZ (hw _ (List.mem_of_getElem? (i := 56) rfl))) (mvT hZ (hw _ (List.mem_of_getElem? (i := 57) rfl))) (by decide) (backOf (W := 1) (sqlI_ l Z a0 hw [] b409 (.ref b401) b177 h409 n0 O409 rfl A409 F409_52 F409_60 (Nat.le_trans (oldLe O406) (Nat.le_of_eq g409.symm))) hZ (hw _ (List.mem_of_getElem? (i := 57) rfl)) (hw _ (List.mem_of_getElem? (i := 39) rfl)) (by decide) (by decide)) (g := (mkF m 171 #[.val (.int k), .val (.int v), .val (.int c0), .val (.int c1), .val (.ref b154), .val (.ref b177), .val (.ref b_186), .val (.int kk), .unset, .unset, .val (.ref b401)] [(.ref b177), (.ref b401), (.ref b409), (.ref b409)])) rfl (by rw [hml]; rfl) (Steps.refl _) (a := b409) (argsL := [(.ref b401), (.ref b177)]) (rest := [(.ref b409)]) (lenOf pd_44503560 rfl) rfl (by show 2 * 0 + _ ≤ _; exact Nat.le_of_eq rfl) (hb hby at_171) (fun _ _ => ⟨rfl, e409, (by decide : 6 + 0 ≤ _), (by decide : 13 + 0 ≤ _)⟩)
                dsimp only [Pt.U, Pt.locs, Pt.cells, Pt.slots] at X414 l414 y414 z414 st414 hQ414
                subst l414 y414 z414
                obtain ⟨rfl, N414q, K414, p414_0, p414_1⟩ := hQ414
                have N414 := Fr.app N406 N414q
                have O414 := O409.keep K414 (allS (Nat.le_trans (oldLe O406) (Nat.le_of_eq g409.symm)) all0)
                have R415 : Go p e below P T414 (mkF m 174 #[.val (.int k), .val (.int v), .val (.int c0), .val (.int c1), .val (.ref b154), .val (.ref b177), .val (.ref b_186), .val (.int kk), .unset, .unset, .val (.ref b401)] [(.ref b409)]) := fun t_ k_ => R413 t_ (st414.trans k_)
                have R416 : Go p e below P T414 (mkF m 176 #[.val (.int k), .val (.int v), .val (.int c0), .val (.int c1), .val (.ref b154), .val (.ref b177), .val (.ref b_186), .val (.int kk), .val (.ref b409), .unset, .val (.ref b401)] []) := fun t_ k_ => R415 t_ (XS.astore X414.here hx rfl (hb hby at_174) rfl rfl (l' := #[.val (.int k), .val (.int v), .val (.int c0), .val (.int c1), .val (.ref b154), .val (.ref b177), .val (.ref b_186), .val (.int kk), .val (.ref b409), .unset, .val (.ref b401)]) rfl k_)
                have R417 : Go p e below P T414 (mkF m 178 #[.val (.int k), .val (.int v), .val (.int c0), .val (.int c1), .val (.ref b154), .val (.ref b177), .val (.ref b_186), .val (.int kk), .val (.ref b409), .unset, .val (.ref b401)] [(.ref b401)]) := fun t_ k_ => R416 t_ (XS.aload X414.here hx rfl (hb hby at_176) rfl rfl k_)
                have R418 : Go p e below P T414 (mkF m 180 #[.val (.int k), .val (.int v), .val (.int c0), .val (.int c1), .val (.ref b154), .val (.ref b177), .val (.ref b_186), .val (.int kk), .val (.ref b409), .val (.ref b401), .val (.ref b401)] []) := fun t_ k_ => R417 t_ (XS.astore X414.here hx rfl (hb hby at_178) rfl rfl (l' := #[.val (.int k), .val (.int v), .val (.int c0), .val (.int c1), .val (.ref b154), .val (.ref b177), .val (.ref b_186), .val (.int kk), .val (.ref b409), .val (.ref b401), .val (.ref b401)]) rfl k_)
                have R419 : Go p e below P T414 (mkF m 182 #[.val (.int k), .val (.int v), .val (.int c0), .val (.int c1), .val (.ref b154), .val (.ref b177), .val (.ref b_186), .val (.int kk), .val (.ref b409), .val (.ref b401), .val (.ref b401)] [(.ref b409)]) := fun t_ k_ => R418 t_ (XS.aload X414.here hx rfl (hb hby at_180) rfl rfl k_)
                obtain ⟨rv420, _, ⟨T420, L420, k420, n420⟩, -, X420, ⟨Lc420, hQ420, l420, y420, z420⟩, st420⟩ := Jvm.LawKit.callS X414 hx (y := (⟨"com/example/rowset/rowset/model/SqlValue", "valueOf", "(Ljava/lang/Object;)Ljava/lang/Object;"⟩ : MethodName)) hown (mvT hZ (hw _ (List.mem_of_getElem? (i := 37) rfl))) (mvT hZ (hw _ (List.mem_of_getElem? (i := 38) rfl))) (mvT hZ (hw _ (List.mem_of_getElem? (i := 39) rfl))) (mvT hZ (hw _ (List.mem_of_getElem? (i := 40) rfl))) (by decide) (backOf (W := 0) (voV_ l Z a0 hw [] b409 (.ref b401) T414.heap n0 O414 rfl p414_0 p414_1) hZ (hw _ (List.mem_of_getElem? (i := 40) rfl)) (hw _ (List.mem_of_getElem? (i := 39) rfl)) (by decide) (by decide)) (g := (mkF m 182 #[.val (.int k), .val (.int v), .val (.int c0), .val (.int c1), .val (.ref b154), .val (.ref b177), .val (.ref b_186), .val (.int kk), .val (.ref b409), .val (.ref b401), .val (.ref b401)] [(.ref b409)])) rfl (by rw [hml]; rfl) (argsL := [(.ref b409)]) (rest := []) (lenOf pd_72566344 rfl) rfl (by show 2 * 0 + _ ≤ _; exact Nat.le_of_eq rfl) (hb hby at_182) (fun _ _ => ⟨rfl, (rfl : T414.heap = T414.heap), (by decide : 6 + 0 ≤ _), (by decide : 13 + 0 ≤ _)⟩)
                dsimp only [Pt.U, Pt.locs, Pt.cells, Pt.slots] at X420 l420 y420 z420 st420 hQ420
                subst l420 y420 z420
                obtain ⟨rfl, N420q, K420⟩ := hQ420
                have N420 := Fr.app N414 N420q
                have R421 : Go p e below P T420 (mkF m 185 #[.val (.int k), .val (.int v), .val (.int c0), .val (.int c1), .val (.ref b154), .val (.ref b177), .val (.ref b_186), .val (.int kk), .val (.ref b409), .val (.ref b401), .val (.ref b401)] [(.ref b401)]) := fun t_ k_ => R419 t_ (st420 t_ k_)
                have R422 : Go p e below P T420 (mkF m 187 #[.val (.int k), .val (.int v), .val (.int c0), .val (.int c1), .val (.ref b154), .val (.ref b177), .val (.ref b_186), .val (.int kk), .val (.ref b409), .val (.ref b401), .val (.ref b401)] []) := fun t_ k_ => R421 t_ (XS.astore X420.here hx rfl (hb hby at_185) rfl rfl (l' := #[.val (.int k), .val (.int v), .val (.int c0), .val (.int c1), .val (.ref b154), .val (.ref b177), .val (.ref b_186), .val (.int kk), .val (.ref b409), .val (.ref b401), .val (.ref b401)]) rfl k_)
                have R423 : Go p e below P T420 (mkF m 189 #[.val (.int k), .val (.int v), .val (.int c0), .val (.int c1), .val (.ref b154), .val (.ref b177), .val (.ref b_186), .val (.int kk), .val (.ref b409), .val (.ref b401), .val (.ref b401)] [(.ref b401)]) := fun t_ k_ => R422 t_ (XS.aload X420.here hx rfl (hb hby at_187) rfl rfl k_)
                have R424 : Go p e below P T420 (mkF m 191 #[.val (.int k), .val (.int v), .val (.int c0), .val (.int c1), .val (.ref b154), .val (.ref b177), .val (.ref b_186), .val (.int kk), .val (.ref b409), .val (.ref b401), .val (.ref b401)] [(.ref b401), (.ref b401)]) := fun t_ k_ => R423 t_ (XS.aload X420.here hx rfl (hb hby at_189) rfl rfl k_)
                have R425 : Go p e below P T420 (mkF m 194 #[.val (.int k), .val (.int v), .val (.int c0), .val (.int c1), .val (.ref b154), .val (.ref b177), .val (.ref b_186), .val (.int kk), .val (.ref b409), .val (.ref b401), .val (.ref b401)] []) := fun t_ k_ => R424 t_ (Jvm.RoadKit.acmp (g := (mkF m 191 #[.val (.int k), .val (.int v), .val (.int c0), .val (.int c1), .val (.ref b154), .val (.ref b177), .val (.ref b_186), .val (.int kk), .val (.ref b409), .val (.ref b401), .val (.ref b401)] [(.ref b401), (.ref b401)])) X420 hx rfl rfl rfl (pc0 := 191) (pc' := 194) (same := true) rfl (hb hby at_191) rfl (decide_eq_true (congrArg Value.ref rfl)) (by decide) (by decide) k_)
                have R426 : Go p e below P T420 (mkF m 196 #[.val (.int k), .val (.int v), .val (.int c0), .val (.int c1), .val (.ref b154), .val (.ref b177), .val (.ref b_186), .val (.int kk), .val (.ref b409), .val (.ref b401), .val (.ref b401)] [(.ref b401)]) := fun t_ k_ => R425 t_ (XS.aload X420.here hx rfl (hb hby at_194) rfl rfl k_)
                have R427 : Go p e below P T420 (mkF m 198 #[.val (.int k), .val (.int v), .val (.int c0), .val (.int c1), .val (.ref b154), .val (.ref b177), .val (.ref b_186), .val (.int kk), .val (.ref b409), .val (.ref b401), .val (.ref b401)] [(.ref b409), (.ref b401)]) := fun t_ k_ => R426 t_ (XS.aload X420.here hx rfl (hb hby at_196) rfl rfl k_)
                obtain ⟨rv428, _, ⟨T428, L428, k428, n428⟩, -, X428, ⟨Lc428, hQ428, l428, y428, z428⟩, st428⟩ := Jvm.LawKit.callS X420 hx (y := (⟨"com/example/rowset/rowset/model/SqlValue", "of", "(Ljava/lang/Object;)Lcom/example/rowset/rowset/model/SqlValue;"⟩ : MethodName)) hown (mvT hZ (hw _ (List.mem_of_getElem? (i := 41) rfl))) (mvT hZ (hw _ (List.mem_of_getElem? (i := 42) rfl))) (mvT hZ (hw _ (List.mem_of_getElem? (i := 39) rfl))) (mvT hZ (hw _ (List.mem_of_getElem? (i := 43) rfl))) (by decide) (backOf (W := 1) (ofV_ l Z a0 hw [] b409 T414.heap n0 O414 p414_0) hZ (hw _ (List.mem_of_getElem? (i := 43) rfl)) (hw _ (List.mem_of_getElem? (i := 39) rfl)) (by decide) (by decide)) (g := (mkF m 198 #[.val (.int k), .val (.int v), .val (.int c0), .val (.int c1), .val (.ref b154), .val (.ref b177), .val (.ref b_186), .val (.int kk), .val (.ref b409), .val (.ref b401), .val (.ref b401)] [(.ref b409), (.ref b401)])) rfl (by rw [hml]; rfl) (argsL := [(.ref b409)]) (rest := [(.ref b401)]) (lenOf pd_47527223 rfl) rfl (by show 2 * 0 + _ ≤ _; exact Nat.le_of_eq rfl) (hb hby at_198) (fun _ _ => ⟨rfl, K420, (by decide : 6 + 0 ≤ _), (by decide : 13 + 0 ≤ _)⟩)
                dsimp only [Pt.U, Pt.locs, Pt.cells, Pt.slots] at X428 l428 y428 z428 st428 hQ428
                subst l428 y428 z428
                obtain ⟨rfl, N428q, K428⟩ := hQ428
                have N428 := Fr.app N420 N428q
                have R429 : Go p e below P T428 (mkF m 201 #[.val (.int k), .val (.int v), .val (.int c0), .val (.int c1), .val (.ref b154), .val (.ref b177), .val (.ref b_186), .val (.int kk), .val (.ref b409), .val (.ref b401), .val (.ref b401)] [(.ref b409), (.ref b401)]) := fun t_ k_ => R427 t_ (st428 t_ k_)
                obtain ⟨cq430, kq430, q430a, q430b, q430c⟩ := isOf hZ K428 p414_0
                obtain ⟨rv430, _, ⟨T430, L430, k430, n430⟩, -, X430, ⟨Lc430, hQ430, l430, y430, z430⟩, st430⟩ := X428.virtualBack hx (y := (⟨"com/example/rowset/rowset/model/SqlValue", "value", "()Ljava/lang/Object;"⟩ : MethodName)) (z := (⟨"com/example/rowset/rowset/model/SqlValue", "value", "()Ljava/lang/Object;"⟩ : MethodName)) hown (mvT hZ (hw _ (List.mem_of_getElem? (i := 46) rfl))) (mvT hZ (hw _ (List.mem_of_getElem? (i := 47) rfl))) (notFace_of_selects (args := #[]) (mvT hZ (hw _ (List.mem_of_getElem? (i := 49) rfl)))) (mvT hZ (hw _ (List.mem_of_getElem? (i := 49) rfl))) (mvT hZ (hw _ (List.mem_of_getElem? (i := 48) rfl))) (by decide) (backOf (W := 1) (sqlG_ l Z a0 hw [] b409 (.ref b401) T414.heap n0 O414 rfl p414_1) hZ (hw _ (List.mem_of_getElem? (i := 50) rfl)) (hw _ (List.mem_of_getElem? (i := 39) rfl)) (by decide) (by decide)) q430a q430c (g := (mkF m 201 #[.val (.int k), .val (.int v), .val (.int c0), .val (.int c1), .val (.ref b154), .val (.ref b177), .val (.ref b_186), .val (.int kk), .val (.ref b409), .val (.ref b401), .val (.ref b401)] [(.ref b409), (.ref b401)])) rfl (by rw [hml]; rfl) (Steps.refl _) (argsL := []) (rest := [(.ref b401)]) (lenOf pd_65739572 rfl) rfl (by show 2 * 0 + _ ≤ _; exact Nat.le_of_eq rfl) (hb hby at_201) (fun _ _ => ⟨rfl, K428, (by decide : 6 + 0 ≤ _), (by decide : 13 + 0 ≤ _)⟩)
                dsimp only [Pt.U, Pt.locs, Pt.cells, Pt.slots] at X430 l430 y430 z430 st430 hQ430
                subst l430 y430 z430
                obtain ⟨rfl, N430q, K430⟩ := hQ430
                have N430 := Fr.app N428 N430q
                have R431 : Go p e below P T430 (mkF m 204 #[.val (.int k), .val (.int v), .val (.int c0), .val (.int c1), .val (.ref b154), .val (.ref b177), .val (.ref b_186), .val (.int kk), .val (.ref b409), .val (.ref b401), .val (.ref b401)] [(.ref b401), (.ref b401)]) := fun t_ k_ => R429 t_ (st430.trans k_)
                have R432 : Go p e below P T430 (mkF m 207 #[.val (.int k), .val (.int v), .val (.int c0), .val (.int c1), .val (.ref b154), .val (.ref b177), .val (.ref b_186), .val (.int kk), .val (.ref b409), .val (.ref b401), .val (.ref b401)] []) := fun t_ k_ => R431 t_ (Jvm.RoadKit.acmp (g := (mkF m 204 #[.val (.int k), .val (.int v), .val (.int c0), .val (.int c1), .val (.ref b154), .val (.ref b177), .val (.ref b_186), .val (.int kk), .val (.ref b409), .val (.ref b401), .val (.ref b401)] [(.ref b401), (.ref b401)])) X430 hx rfl rfl rfl (pc0 := 204) (pc' := 207) (same := true) rfl (hb hby at_204) rfl (decide_eq_true (congrArg Value.ref rfl)) (by decide) (by decide) k_)
                have R433 : Go p e below P T430 (mkF m 208 #[.val (.int k), .val (.int v), .val (.int c0), .val (.int c1), .val (.ref b154), .val (.ref b177), .val (.ref b_186), .val (.int kk), .val (.ref b409), .val (.ref b401), .val (.ref b401)] [(.int (1 : Int32))]) := fun t_ k_ => R432 t_ (XS.iconst X430.here hx rfl (hb hby at_207) k_)
                have R434 : Go p e below P T430 (mkF m 212 #[.val (.int k), .val (.int v), .val (.int c0), .val (.int c1), .val (.ref b154), .val (.ref b177), .val (.ref b_186), .val (.int kk), .val (.ref b409), .val (.ref b401), .val (.ref b401)] [(.int (1 : Int32))]) := fun t_ k_ => R433 t_ (XS.goto X430.here hx rfl (pc0 := 208) (pc' := 212) rfl (hb hby at_208) (by decide) (by decide) k_)
                obtain ⟨fs, hr, hrun, hended, hW, hsame⟩ := X430.leave (v := some (.int (nar .boolean (1 : Int32)))) (fun h => by rw [Bd.returns] at h; cases h)
                exact ⟨_, _, hP _ (R434 _ (retN X430 hx (t := .boolean) Bd.returns (by simp) (hb hby at_212) hr)), hrun, hended, _, _, rfl, ⟨rfl, N430, (K430.symm ▸ (((((((((((Keep.refl h0 []).ext E154).wr W164 (Or.inr (Nat.le_of_eq g154.symm))).wr W174 (Or.inr (Nat.le_of_eq g154.symm))).ext E177).trans K182 (allS (Or.inr (Nat.le_trans ((((Keep.refl h0 []).ext E154).wr W164 (Or.inr (Nat.le_of_eq g154.symm))).wr W174 (Or.inr (Nat.le_of_eq g154.symm))).1 (Nat.le_of_eq g177.symm))) all0)).trans K186 all0).ext E401).trans K406 (allS (Or.inr (Nat.le_trans (((((((Keep.refl h0 []).ext E154).wr W164 (Or.inr (Nat.le_of_eq g154.symm))).wr W174 (Or.inr (Nat.le_of_eq g154.symm))).ext E177).trans K182 (allS (Or.inr (Nat.le_trans ((((Keep.refl h0 []).ext E154).wr W164 (Or.inr (Nat.le_of_eq g154.symm))).wr W174 (Or.inr (Nat.le_of_eq g154.symm))).1 (Nat.le_of_eq g177.symm))) all0)).trans K186 all0).1 (Nat.le_of_eq g401.symm))) all0)).ext E409).trans K414 (allS (Or.inr (Nat.le_trans (((((((((Keep.refl h0 []).ext E154).wr W164 (Or.inr (Nat.le_of_eq g154.symm))).wr W174 (Or.inr (Nat.le_of_eq g154.symm))).ext E177).trans K182 (allS (Or.inr (Nat.le_trans ((((Keep.refl h0 []).ext E154).wr W164 (Or.inr (Nat.le_of_eq g154.symm))).wr W174 (Or.inr (Nat.le_of_eq g154.symm))).1 (Nat.le_of_eq g177.symm))) all0)).trans K186 all0).ext E401).trans K406 (allS (Or.inr (Nat.le_trans (((((((Keep.refl h0 []).ext E154).wr W164 (Or.inr (Nat.le_of_eq g154.symm))).wr W174 (Or.inr (Nat.le_of_eq g154.symm))).ext E177).trans K182 (allS (Or.inr (Nat.le_trans ((((Keep.refl h0 []).ext E154).wr W164 (Or.inr (Nat.le_of_eq g154.symm))).wr W174 (Or.inr (Nat.le_of_eq g154.symm))).1 (Nat.le_of_eq g177.symm))) all0)).trans K186 all0).1 (Nat.le_of_eq g401.symm))) all0)).1 (Nat.le_of_eq g409.symm))) all0)))⟩, ⟨_, rfl⟩, hW, hsame.mono (by decide) (by decide)⟩
set_option maxRecDepth 65536 in
set_option maxHeartbeats 40000000 in
theorem comes_1 {Post : Tables → Env → Array Value → State → Outcome → State → Prop} (hpost : ∀ tb e args s v u, (limb_1_1.after args s (.returned v) u = true ∧ limb_1_2.after args s (.returned v) u = true ∧ True) → FrameEnd s (.returned v) u (Jvm.fieldLocs frame_1_writes args s ++ Jvm.arrayLocs frame_1_arrays args s ++ Jvm.staticLocs frame_1_statics s) 24 128 → Post tb e args s (.returned v) u) :
    ArmFor flags0 classFile x code maxLocals ret World_1 tables_1 room_1 Calls_1 rest_1 Pre_1 Post := by
  intro l hfl _ _ p e ha hc hk s m args below hf hA hF happ hP
  obtain ⟨hcalls, hrest, hpre⟩ := hP
  obtain ⟨-, -, -, hnamed, -, -, -, hat⟩ := (Spec.applies_iff hf).mp happ
  obtain ⟨hg, hn⟩ := and_e (Cond.before_iff.mp (show (Jvm.Cond.and given_1 narrow_1).before args s = true from hpre))
  obtain ⟨g1, g2⟩ := and_e hg
  obtain ⟨g3, g4⟩ := and_e g2
  obtain ⟨g5, g6⟩ := and_e g4
  obtain ⟨g7, g8⟩ := and_e g6
  obtain ⟨w0, w1, w2, w3, rfl⟩ : ∃ w0 w1 w2 w3 : Value, args = #[w0, w1, w2, w3] := by
    have hs : args.size = 4 := by simpa [Cond.value, given_1] using g1
    obtain ⟨L⟩ := args
    match L, hs with
    | [w0, w1, w2, w3], _ => exact ⟨w0, w1, w2, w3, rfl⟩
  have hw := fun d (hd : d ∈ tables_1) => atoms_spec (ws := Jvm.Cond.code x code maxLocals ret :: tables_1) hat d (List.mem_cons_of_mem _ hd)
  have hfit : Fit s := fun {y c} hc i hi => by
    obtain ⟨ha, rfl⟩ := Array.getElem?_eq_some_iff.mp hc
    have q := List.all_eq_true.mp ((Array.all_eq_true_iff_forall_mem.mp hF) _ (Array.getElem_mem ha)) i (List.mem_range.mpr hi)
    simpa [Array.getElem?_eq_getElem hi] using q
  obtain ⟨hsets, hown0⟩ := atoms_of _ (rest_1_c_eq ▸ (show rest_1_c.before _ s = true from hrest))
  obtain ⟨i0, ei0⟩ := is_v g3
  obtain rfl : w0 = (.int i0) := Option.some.inj ei0
  obtain ⟨i1, ei1⟩ := is_v g5
  obtain rfl : w1 = (.int i1) := Option.some.inj ei1
  obtain ⟨i2, ei2⟩ := is_v g7
  obtain rfl : w2 = (.int i2) := Option.some.inj ei2
  obtain ⟨i3, ei3⟩ := is_v g8
  obtain rfl : w3 = (.int i3) := Option.some.inj ei3
  obtain ⟨g9, g10⟩ := and_e hn
  obtain ⟨w_NULL, ev_NULL⟩ := exa_v g9
  have S_NULL := Sta.start ev_NULL (Or.inr ⟨(hw _ (List.mem_of_getElem? (i := 39) rfl)), (hw _ (List.mem_of_getElem? (i := 45) rfl))⟩)
  have E_NULL := Exa.start ev_NULL g9
  obtain ⟨z_cs, ev_cs⟩ := is_v (Cond.before_iff.mp (hsets _ (List.mem_of_getElem? (i := 1) rfl)))
  have S_cs := Sta.start ev_cs (Or.inl (hsets _ (List.mem_of_getElem? (i := 0) rfl)))
  have hz_cs : ¬ z_cs = 0 := fun q => by
    have h := not_v (Cond.before_iff.mp (hsets _ (List.mem_of_getElem? (i := 2) rfl)))
    have h' := gotF (eq_I ev_cs (Term.int_eval (0))) h
    exact h' q
  have F_NULL_value : Fld s s.heap w_NULL "com/example/rowset/rowset/model/SqlValue" "value" "Ljava/lang/Object;" .null := by
    obtain ⟨x, y, e1, e2, k1, k2⟩ := cmp_v (Or.inl g10)
    have e3 : some y = some Value.null := e2.symm
    cases e3
    have hr : x.isRef = true := by cases x <;> first | rfl | exact absurd k1 (by simp [Kin, Value.isRef]) | exact absurd k2 (by simp [Kin, Value.isRef])
    have q : x = .null := gotT (eq_R e1 e2 hr rfl) g10
    subst q
    exact Fld.start ((fld_at ev_NULL).symm.trans e1)
  have S_hi : Sta s s.heap "java/lang/Integer$IntegerCache" "high" "I" (.int (127 : Int32)) := Sta.start (eqv_i (Term.int_eval (127)) (Cond.before_iff.mp (hsets _ (List.mem_of_getElem? (i := 12) rfl)))) (Or.inl (hsets _ (List.mem_of_getElem? (i := 10) rfl)))
  obtain ⟨ca, ev_ca⟩ := exa_v (Cond.before_iff.mp (hsets _ (List.mem_of_getElem? (i := 14) rfl)))
  have S_ca : Sta s s.heap "java/lang/Integer$IntegerCache" "cache" "[Ljava/lang/Integer;" (.ref ca) := Sta.start ev_ca (Or.inr ⟨(hw _ (List.mem_of_getElem? (i := 35) rfl)), (hsets _ (List.mem_of_getElem? (i := 11) rfl))⟩)
  obtain ⟨cl, hbx⟩ : ∃ cl, Bxs s ca cl "java/lang/Integer" "I" (256 : Int32) (fun j => .int (j - (128 : Int32))) := by
    obtain ⟨c, hA⟩ := Arr.start ev_ca (Cond.before_iff.mp (hsets _ (List.mem_of_getElem? (i := 13) rfl)))
    have hl := eqv_i (Term.int_eval (256)) (Cond.before_iff.mp (hsets _ (List.mem_of_getElem? (i := 15) rfl)))
    have ha' : s.arrayAt? ca = some c := hA.fin (Vm.Alike.refl _)
    have q : c.slots.size < 2 ^ 31 := Jvm.Free.SBG.length_lt ev_ca ha' hl
    have e : c.slots.size.toInt32 = (256 : Int32) := by have z := (len_f ev_ca ha' q).symm.trans hl; simpa using z
    exact ⟨c, Bxs.start (fun idx => by have q := ev_ca; simp only [Term.eval] at q ⊢; exact q) hA q e (by decide) (Cond.before_iff.mp (hsets _ (List.mem_of_getElem? (i := 16) rfl))) (fun X j hj h => eqv_i (sub_i (idx_at hj) (Term.int_eval (128))) h)⟩
  obtain ⟨st, d1, D1, d2, D2, hT1, -, hT2, -⟩ := Jvm.SetKit.digits_of (fun {x c} hc {i} hi => hfit hc hi) (hw _ (List.mem_of_getElem? (i := 19) rfl)) (hw _ (List.mem_of_getElem? (i := 32) rfl)) (hsets _ (List.mem_of_getElem? (i := 18) rfl)) (hsets _ (List.mem_of_getElem? (i := 20) rfl)) (hsets _ (List.mem_of_getElem? (i := 21) rfl)) (hsets _ (List.mem_of_getElem? (i := 22) rfl)) (hsets _ (List.mem_of_getElem? (i := 23) rfl)) (hsets _ (List.mem_of_getElem? (i := 25) rfl)) (hsets _ (List.mem_of_getElem? (i := 26) rfl)) (hsets _ (List.mem_of_getElem? (i := 27) rfl))
  obtain ⟨n, o, h1, h2, h3, _, L, rfl, ⟨rfl, N, _⟩, hq⟩ := law_ l s _ hw tables_1 i0 i1 i2 i3 ca cl w_NULL z_cs st d1 D1 d2 D2 s.heap s.heap.size (Old.start s) S_hi S_ca hbx S_cs hz_cs hT1 hT2 S_NULL E_NULL F_NULL_value p e ha hc hk s m _ below hf ((Spec.applies_iff_loose hf).mp happ).1 ⟨rfl, State.Warmed39.refl s, rfl⟩ trivial
  refine ⟨n, _, h1, h2, h3, hpost _ _ _ _ _ _ ⟨Cond.after_iff.mpr rfl, Cond.after_iff.mpr (eq_i res_at (Term.int_eval (1)) rfl), trivial⟩ ⟨hq.1, hq.2.1, (hq.2.2.sift fun y hy => Or.inr (N y hy)).mono (by decide) (by decide)⟩⟩
theorem main_1_1 : Claimed_1_1 := comes_1 fun _ _ _ _ _ _ h hF => ⟨h.1, hF⟩
theorem main_1_2 : Claimed_1_2 := comes_1 fun _ _ _ _ _ _ h hF => ⟨h.2.1, hF⟩
end Jvm.Pilot.@@N@@
namespace Jvm.Pilot.@@N@@
open Jvm Jvm.ClassFile Sem Op Lib Jvm.Free Jvm.Stand Jvm.Pilot.@@N@@.Jvm.D
/-! MADE BY PROGRAM (witnessworld.py) out of the Statement's table words and the real class files: 24 classes; the members and pool entries that the words name. The judged class is class 1, her method 1. -/
namespace start1
open Jvm.ClassFile
def u (s : String) : CpInfo := .utf8 (stringToUtf16 s)
/-- a pool by its gaps: so many unusable entries, then the entry; so many at the end -/
def gap : Nat → List CpInfo → List CpInfo
  | 0, r => r
  | n + 1, r => .unusable :: gap n r
def poolList (es : List (Nat × CpInfo)) (last : Nat) : List CpInfo := es.foldr (fun e r => gap e.1 (e.2 :: r)) (gap last [])
def pool (es : List (Nat × CpInfo)) (last : Nat) : Array CpInfo := ⟨poolList es last⟩
def fileOf (pool : Array CpInfo) (this : Nat) (attrs : Array Attribute := #[]) (ms : Array MethodInfo := #[]) (fl : Nat := 33) (sup : Nat := 0) (ifs : Array Nat := #[]) (fds : Array FieldInfo := #[]) : ClassFile where
  minorVersion := 0
  majorVersion := 65
  constantPool := pool
  accessFlags := fl
  thisClass := this
  superClass := sup
  interfaces := ifs
  fields := fds
  methods := ms
  attributes := attrs
def plain (name : String) (sup : Option ClassId) : Class where
  name := name
  kind := .ordinary
  loader := none
  accessFlags := 33
  super := sup
  interfaces := #[]
  cf := none
  fields := #[]
  methods := #[]
  instanceTypes := #[]
  staticTypes := #[]
  resolved := #[]
  callSites := []
  init := .initialized
  statics := none
  mirror := none

def pool0 : Array CpInfo := pool [(5, u "<init>"), (0, u "()V"), (1, .class_ 10), (1, u "java/lang/Object"), (7, u "()Ljava/lang/String;"), (18, u "toString")] 86

def k0c0 : Code := { maxStack := 0, maxLocals := 1, code := object_method_1_code, exceptionTable := #[], attributes := #[] }
def k0m0 : Method := { name := "<init>", desc := "()V", sig := { parameters := [], returnType := none }, accessFlags := 1, code := some k0c0 }
def k0c1 : Code := { maxStack := 2, maxLocals := 1, code := ⟨#[0xbb, 0x00, 0x01, 0x59, 0xb7, 0x00, 0x03, 0x2a, 0xb6, 0x00, 0x07, 0xb6, 0x00, 0x0d, 0xb6, 0x00, 0x13, 0x12, 0x17, 0xb6, 0x00, 0x13, 0x2a, 0xb6, 0x00, 0x19, 0xb8, 0x00, 0x1d, 0xb6, 0x00, 0x13, 0xb6, 0x00, 0x23, 0xb0]⟩, exceptionTable := #[], attributes := #[] }
def k0m1 : Method := { name := "toString", desc := "()Ljava/lang/String;", sig := { parameters := [], returnType := some (.object "java/lang/String") }, accessFlags := 1, code := some k0c1 }
/-- java/lang/Object -/
def k0 : Class := { plain "java/lang/Object" none with
  accessFlags := 33
  interfaces := #[]
  cf := some (fileOf pool0 8 #[] #[{ accessFlags := 1, nameIndex := 5, descriptorIndex := 6, attributes := #[] }, { accessFlags := 1, nameIndex := 37, descriptorIndex := 18, attributes := #[] }] 33 0 #[] #[])
  fields := #[]
  methods := #[k0m0, k0m1]
  instanceTypes := #[]
  staticTypes := #[]
  resolved := Array.replicate 124 none
  statics := none }

def pool1 : Array CpInfo := pool [(2, .class_ 4), (1, u "java/lang/Object"), (0, u "<init>"), (0, u "()V"), (0, .class_ 8), (0, u "java/lang/String"), (0, .methodref 7 10), (0, .nameAndType 5 11), (0, u "([C)V"), (0, .methodref 13 14), (0, .class_ 15), (0, .nameAndType 16 17), (0, u "java/lang/Integer"), (0, u "valueOf"), (0, u "(I)Ljava/lang/Integer;"), (0, .fieldref 19 20), (0, .class_ 21), (0, .nameAndType 22 23), (0, u "com/example/rowset/rowset/model/SqlValue"), (0, u "NULL"), (0, u "Lcom/example/rowset/rowset/model/SqlValue;"), (0, .methodref 19 25), (0, .nameAndType 5 26), (0, u "(Ljava/lang/Object;Ljava/lang/String;)V"), (0, .methodref 19 28), (0, .nameAndType 16 29), (0, u "(Ljava/lang/Object;)Ljava/lang/Object;"), (0, .methodref 19 31), (0, .nameAndType 32 33), (0, u "of"), (0, u "(Ljava/lang/Object;)Lcom/example/rowset/rowset/model/SqlValue;"), (0, .methodref 19 35), (0, .nameAndType 36 37), (0, u "value"), (0, u "()Ljava/lang/Object;"), (0, .class_ 39), (0, u "com/example/rowset/rowset/model/SqlValueValueOfPinLaw"), (2, u "law"), (0, u "(IIII)Z")] 5

def k1m0 : Method := { name := "<init>", desc := "()V", sig := { parameters := [], returnType := none }, accessFlags := 1, code := none }
def k1c1 : Code := { maxStack := 5, maxLocals := 11, code := code, exceptionTable := #[], attributes := #[] }
def k1m1 : Method := { name := "law", desc := "(IIII)Z", sig := { parameters := [.int, .int, .int, .int], returnType := some .boolean }, accessFlags := 9, code := some k1c1 }
/-- com/example/rowset/rowset/model/SqlValueValueOfPinLaw -/
def k1 : Class := { plain "com/example/rowset/rowset/model/SqlValueValueOfPinLaw" (some 0) with
  accessFlags := 49
  interfaces := #[]
  cf := some (fileOf pool1 38 #[] #[{ accessFlags := 1, nameIndex := 5, descriptorIndex := 6, attributes := #[] }, { accessFlags := 9, nameIndex := 42, descriptorIndex := 43, attributes := #[] }] 49 2 #[] #[])
  fields := #[]
  methods := #[k1m0, k1m1]
  instanceTypes := #[]
  staticTypes := #[]
  resolved := Array.replicate 49 none
  statics := none }

def pool2 : Array CpInfo := pool [(1, .class_ 2), (0, u "java/io/Serializable"), (0, .class_ 4), (0, u "java/lang/Object")] 2

/-- java/io/Serializable -/
def k2 : Class := { plain "java/io/Serializable" (some 0) with
  accessFlags := 1537
  interfaces := #[]
  cf := some (fileOf pool2 1 #[] #[] 1537 3 #[] #[])
  fields := #[]
  methods := #[]
  instanceTypes := #[]
  staticTypes := #[]
  resolved := Array.replicate 7 none
  statics := none }

def pool3 : Array CpInfo := pool [(1, .class_ 2), (0, u "java/lang/Comparable"), (0, .class_ 4), (0, u "java/lang/Object")] 7

/-- java/lang/Comparable -/
def k3 : Class := { plain "java/lang/Comparable" (some 0) with
  accessFlags := 1537
  interfaces := #[]
  cf := some (fileOf pool3 1 #[] #[] 1537 3 #[] #[])
  fields := #[]
  methods := #[]
  instanceTypes := #[]
  staticTypes := #[]
  resolved := Array.replicate 12 none
  statics := none }

def pool4 : Array CpInfo := pool [(2, .class_ 4), (1, u "java/lang/CharSequence"), (42, .class_ 48), (0, u "java/lang/CharSequence$1CodePointIterator"), (10, .class_ 60), (0, u "java/lang/CharSequence$1CharIterator"), (5, .class_ 67), (0, u "java/lang/Object")] 63

/-- java/lang/CharSequence -/
def k4 : Class := { plain "java/lang/CharSequence" (some 0) with
  accessFlags := 1537
  interfaces := #[]
  cf := some (fileOf pool4 2 #[.nestMembers #[47, 59]] #[] 1537 66 #[] #[])
  fields := #[]
  methods := #[]
  instanceTypes := #[]
  staticTypes := #[]
  resolved := Array.replicate 131 none
  statics := none }

def pool5 : Array CpInfo := pool [(1, .class_ 2), (0, u "java/lang/constant/Constable"), (0, .class_ 4), (0, u "java/lang/Object")] 6

/-- java/lang/constant/Constable -/
def k5 : Class := { plain "java/lang/constant/Constable" (some 0) with
  accessFlags := 1537
  interfaces := #[]
  cf := some (fileOf pool5 1 #[] #[] 1537 3 #[] #[])
  fields := #[]
  methods := #[]
  instanceTypes := #[]
  staticTypes := #[]
  resolved := Array.replicate 11 none
  statics := none }

def pool6 : Array CpInfo := pool [(1, .class_ 2), (0, u "java/lang/constant/ConstantDesc"), (0, .class_ 4), (0, u "java/lang/Object")] 32

/-- java/lang/constant/ConstantDesc -/
def k6 : Class := { plain "java/lang/constant/ConstantDesc" (some 0) with
  accessFlags := 1537
  interfaces := #[]
  cf := some (fileOf pool6 1 #[] #[] 1537 3 #[] #[])
  fields := #[]
  methods := #[]
  instanceTypes := #[]
  staticTypes := #[]
  resolved := Array.replicate 37 none
  statics := none }

def pool7 : Array CpInfo := pool [(1, .methodref 2 3), (0, .class_ 4), (0, .nameAndType 5 6), (0, u "java/lang/Object"), (0, u "<init>"), (0, u "()V"), (2, .fieldref 10 11), (0, .class_ 12), (0, .nameAndType 13 14), (0, u "java/lang/String"), (0, u "value"), (0, u "[B"), (0, .fieldref 10 16), (0, .nameAndType 17 18), (0, u "coder"), (0, u "B"), (2, u "hash"), (0, u "I"), (2, u "hashIsZero"), (0, u "Z"), (0, .methodref 10 28), (0, .nameAndType 5 29), (0, u "([CIILjava/lang/Void;)V"), (8, .fieldref 10 39), (0, .nameAndType 40 26), (0, u "COMPACT_STRINGS"), (1, .class_ 44), (1, u "java/lang/StringUTF16"), (0, u "compress"), (1, .methodref 42 48), (0, .nameAndType 49 50), (0, u "coderFromArrayLen"), (0, u "([BI)B"), (126, .methodref 42 178), (0, .nameAndType 45 179), (0, u "([CII)[B"), (31, u "([BB)V"), (251, u "toString"), (0, u "()Ljava/lang/String;"), (110, .class_ 576), (0, u "java/lang/CharSequence"), (22, u "CASE_INSENSITIVE_ORDER"), (0, u "Ljava/util/Comparator;"), (409, u "([C)V"), (90, u "serialPersistentFields"), (0, u "[Ljava/io/ObjectStreamField;"), (0, .class_ 1104), (0, u "java/lang/String$CaseInsensitiveComparator"), (1, .class_ 1107), (0, u "java/io/Serializable"), (0, .class_ 1109), (0, u "java/lang/Comparable"), (0, .class_ 1111), (0, u "java/lang/constant/Constable"), (0, .class_ 1113), (0, u "java/lang/constant/ConstantDesc"), (2, u "serialVersionUID"), (0, u "J"), (3, u "REPL"), (0, u "C"), (2, u "LATIN1"), (1, u "UTF16")] 323

def k7m0 : Method := { name := "<init>", desc := "()V", sig := { parameters := [], returnType := none }, accessFlags := 1, code := none }
def k7c1 : Code := { maxStack := 5, maxLocals := 2, code := jdk_42_method_3_code, exceptionTable := #[], attributes := #[] }
def k7m1 : Method := { name := "<init>", desc := "([C)V", sig := { parameters := [(.array .char)], returnType := none }, accessFlags := 1, code := some k7c1 }
def k7c2 : Code := { maxStack := 1, maxLocals := 1, code := jdk_42_method_126_code, exceptionTable := #[], attributes := #[] }
def k7m2 : Method := { name := "toString", desc := "()Ljava/lang/String;", sig := { parameters := [], returnType := some (.object "java/lang/String") }, accessFlags := 1, code := some k7c2 }
def k7c3 : Code := { maxStack := 4, maxLocals := 6, code := jdk_42_method_149_code, exceptionTable := #[], attributes := #[] }
def k7m3 : Method := { name := "<init>", desc := "([CIILjava/lang/Void;)V", sig := { parameters := [(.array .char), .int, .int, (.object "java/lang/Void")], returnType := none }, accessFlags := 2, code := some k7c3 }
def k7c4 : Code := { maxStack := 2, maxLocals := 3, code := jdk_42_method_151_code, exceptionTable := #[], attributes := #[] }
def k7m4 : Method := { name := "<init>", desc := "([BB)V", sig := { parameters := [(.array .byte), .byte], returnType := none }, accessFlags := 0, code := some k7c4 }
/-- java/lang/String -/
def k7 : Class := { plain "java/lang/String" (some 0) with
  accessFlags := 49
  interfaces := #[2, 3, 4, 5, 6]
  cf := some (fileOf pool7 10 #[.nestMembers #[1103]] #[{ accessFlags := 1, nameIndex := 5, descriptorIndex := 6, attributes := #[] }, { accessFlags := 1, nameIndex := 5, descriptorIndex := 1010, attributes := #[] }, { accessFlags := 1, nameIndex := 463, descriptorIndex := 464, attributes := #[] }, { accessFlags := 2, nameIndex := 5, descriptorIndex := 29, attributes := #[] }, { accessFlags := 0, nameIndex := 5, descriptorIndex := 211, attributes := #[] }] 49 2 #[1106, 1108, 575, 1110, 1112] #[{ accessFlags := 18, nameIndex := 13, descriptorIndex := 14, attributes := #[] }, { accessFlags := 18, nameIndex := 17, descriptorIndex := 18, attributes := #[] }, { accessFlags := 2, nameIndex := 21, descriptorIndex := 22, attributes := #[] }, { accessFlags := 2, nameIndex := 25, descriptorIndex := 26, attributes := #[] }, { accessFlags := 26, nameIndex := 1116, descriptorIndex := 1117, attributes := #[] }, { accessFlags := 24, nameIndex := 40, descriptorIndex := 26, attributes := #[] }, { accessFlags := 26, nameIndex := 1101, descriptorIndex := 1102, attributes := #[] }, { accessFlags := 26, nameIndex := 1121, descriptorIndex := 1122, attributes := #[] }, { accessFlags := 25, nameIndex := 599, descriptorIndex := 600, attributes := #[] }, { accessFlags := 24, nameIndex := 1125, descriptorIndex := 18, attributes := #[] }, { accessFlags := 24, nameIndex := 1127, descriptorIndex := 18, attributes := #[] }])
  fields := #[{ name := "value", type := (.array .byte), accessFlags := 18, slot := 0, constantValue := 0 }, { name := "coder", type := .byte, accessFlags := 18, slot := 1, constantValue := 0 }, { name := "hash", type := .int, accessFlags := 2, slot := 2, constantValue := 0 }, { name := "hashIsZero", type := .boolean, accessFlags := 2, slot := 3, constantValue := 0 }, { name := "serialVersionUID", type := .long, accessFlags := 26, slot := 0, constantValue := 0 }, { name := "COMPACT_STRINGS", type := .boolean, accessFlags := 24, slot := 1, constantValue := 0 }, { name := "serialPersistentFields", type := (.array (.object "java/io/ObjectStreamField")), accessFlags := 26, slot := 2, constantValue := 0 }, { name := "REPL", type := .char, accessFlags := 26, slot := 3, constantValue := 0 }, { name := "CASE_INSENSITIVE_ORDER", type := (.object "java/util/Comparator"), accessFlags := 25, slot := 4, constantValue := 0 }, { name := "LATIN1", type := .byte, accessFlags := 24, slot := 5, constantValue := 0 }, { name := "UTF16", type := .byte, accessFlags := 24, slot := 6, constantValue := 0 }]
  methods := #[k7m0, k7m1, k7m2, k7m3, k7m4]
  instanceTypes := #[(.array .byte), .byte, .int, .boolean]
  staticTypes := #[.long, .boolean, (.array (.object "java/io/ObjectStreamField")), .char, (.object "java/util/Comparator"), .byte, .byte]
  resolved := Array.replicate 1451 none
  statics := some 0 }

def pool8 : Array CpInfo := pool [(6, .class_ 8), (1, u "java/lang/Object"), (0, u "<init>"), (0, u "()V"), (1, .class_ 14), (1, u "java/lang/StringUTF16"), (31, u "$assertionsDisabled"), (0, u "Z"), (13, u "HI_BYTE_SHIFT"), (0, u "I"), (2, u "LO_BYTE_SHIFT"), (49, .methodref 12 116), (0, .nameAndType 117 118), (0, u "compress"), (0, u "([CI[BII)I"), (3, u "([CII)[B"), (138, u "coderFromArrayLen"), (0, u "([BI)B"), (106, .class_ 371), (1, u "java/lang/StringUTF16$LinesSpliterator"), (58, u "MAX_LENGTH"), (196, .class_ 628), (0, u "java/lang/StringUTF16$CodePointsSpliterator"), (0, .class_ 630), (0, u "java/lang/StringUTF16$CharsSpliterator")] 4

def k8m0 : Method := { name := "<init>", desc := "()V", sig := { parameters := [], returnType := none }, accessFlags := 0, code := none }
def k8c1 : Code := { maxStack := 2, maxLocals := 2, code := jdk_52_method_15_code, exceptionTable := #[], attributes := #[] }
def k8m1 : Method := { name := "coderFromArrayLen", desc := "([BI)B", sig := { parameters := [(.array .byte), .int], returnType := some .byte }, accessFlags := 8, code := some k8c1 }
def k8c2 : Code := { maxStack := 5, maxLocals := 6, code := jdk_52_method_16_code, exceptionTable := #[], attributes := #[] }
def k8m2 : Method := { name := "compress", desc := "([CII)[B", sig := { parameters := [(.array .char), .int, .int], returnType := some (.array .byte) }, accessFlags := 9, code := some k8c2 }
def k8c3 : Code := { maxStack := 3, maxLocals := 7, code := jdk_52_method_21_code, exceptionTable := #[], attributes := #[] }
def k8m3 : Method := { name := "compress", desc := "([CI[BII)I", sig := { parameters := [(.array .char), .int, (.array .byte), .int, .int], returnType := some .int }, accessFlags := 9, code := some k8c3 }
/-- java/lang/StringUTF16 -/
def k8 : Class := { plain "java/lang/StringUTF16" (some 0) with
  accessFlags := 48
  interfaces := #[]
  cf := some (fileOf pool8 12 #[.nestMembers #[627, 629, 369]] #[{ accessFlags := 0, nameIndex := 9, descriptorIndex := 10, attributes := #[] }, { accessFlags := 8, nameIndex := 261, descriptorIndex := 262, attributes := #[] }, { accessFlags := 9, nameIndex := 117, descriptorIndex := 122, attributes := #[] }, { accessFlags := 9, nameIndex := 117, descriptorIndex := 118, attributes := #[] }] 48 6 #[] #[{ accessFlags := 26, nameIndex := 61, descriptorIndex := 62, attributes := #[] }, { accessFlags := 26, nameIndex := 65, descriptorIndex := 62, attributes := #[] }, { accessFlags := 24, nameIndex := 430, descriptorIndex := 62, attributes := #[] }, { accessFlags := 4120, nameIndex := 46, descriptorIndex := 47, attributes := #[] }])
  fields := #[{ name := "HI_BYTE_SHIFT", type := .int, accessFlags := 26, slot := 0, constantValue := 0 }, { name := "LO_BYTE_SHIFT", type := .int, accessFlags := 26, slot := 1, constantValue := 0 }, { name := "MAX_LENGTH", type := .int, accessFlags := 24, slot := 2, constantValue := 0 }, { name := "$assertionsDisabled", type := .boolean, accessFlags := 4120, slot := 3, constantValue := 0 }]
  methods := #[k8m0, k8m1, k8m2, k8m3]
  instanceTypes := #[]
  staticTypes := #[.int, .int, .int, .boolean]
  resolved := Array.replicate 635 none
  statics := none }

def pool9 : Array CpInfo := pool [(1, .methodref 2 3), (0, .class_ 4), (0, .nameAndType 5 6), (0, u "java/lang/Object"), (0, u "<init>"), (0, u "()V"), (1, .class_ 10), (1, u "java/lang/Number"), (2, .class_ 14), (0, u "java/io/Serializable"), (0, u "serialVersionUID"), (0, u "J")] 20

def k9c0 : Code := { maxStack := 1, maxLocals := 1, code := jdk_18_method_1_code, exceptionTable := #[], attributes := #[] }
def k9m0 : Method := { name := "<init>", desc := "()V", sig := { parameters := [], returnType := none }, accessFlags := 1, code := some k9c0 }
/-- java/lang/Number -/
def k9 : Class := { plain "java/lang/Number" (some 0) with
  accessFlags := 1057
  interfaces := #[2]
  cf := some (fileOf pool9 8 #[] #[{ accessFlags := 1, nameIndex := 5, descriptorIndex := 6, attributes := #[] }] 1057 2 #[13] #[{ accessFlags := 26, nameIndex := 15, descriptorIndex := 16, attributes := #[] }])
  fields := #[{ name := "serialVersionUID", type := .long, accessFlags := 26, slot := 0, constantValue := 0 }]
  methods := #[k9m0]
  instanceTypes := #[]
  staticTypes := #[.long]
  resolved := Array.replicate 37 none
  statics := none }

def pool10 : Array CpInfo := pool [(1, .class_ 2), (0, u "java/lang/Integer"), (2, .class_ 6), (0, u "java/lang/String"), (2, .methodref 1 10), (0, .nameAndType 11 12), (0, u "toString"), (0, u "(I)Ljava/lang/String;"), (0, .fieldref 5 14), (0, .nameAndType 15 16), (0, u "COMPACT_STRINGS"), (0, u "Z"), (2, u "digits"), (0, u "[C"), (33, u "(I)I"), (10, .methodref 5 66), (0, .nameAndType 67 68), (0, u "<init>"), (0, u "([BB)V"), (3, .methodref 1 73), (0, .nameAndType 74 54), (0, u "stringSize"), (0, .methodref 1 76), (0, .nameAndType 77 78), (0, u "getChars"), (0, u "(II[B)I"), (4, .fieldref 1 84), (0, .nameAndType 85 86), (0, u "DigitOnes"), (0, u "[B"), (0, .fieldref 1 88), (0, .nameAndType 89 86), (0, u "DigitTens"), (10, .nameAndType 67 101), (0, u "()V"), (13, u "()Ljava/lang/String;"), (71, u "valueOf"), (0, u "(I)Ljava/lang/Integer;"), (0, .class_ 190), (0, u "java/lang/Integer$IntegerCache"), (0, .fieldref 189 192), (0, .nameAndType 193 194), (0, u "high"), (0, u "I"), (0, .fieldref 189 196), (0, .nameAndType 197 198), (0, u "cache"), (0, u "[Ljava/lang/Integer;"), (0, .methodref 1 200), (0, .nameAndType 67 201), (0, u "(I)V"), (0, .methodref 203 100), (0, .class_ 204), (0, u "java/lang/Number"), (0, .fieldref 1 206), (0, .nameAndType 207 194), (0, u "value"), (94, u "TYPE"), (0, u "Ljava/lang/Class;"), (0, .class_ 305), (0, u "java/lang/Comparable"), (0, .class_ 307), (0, u "java/lang/constant/Constable"), (0, .class_ 309), (0, u "java/lang/constant/ConstantDesc"), (0, u "MIN_VALUE"), (1, u "MAX_VALUE"), (3, u "SIZE"), (1, u "BYTES"), (1, u "serialVersionUID"), (0, u "J")] 131

def k10c0 : Code := { maxStack := 4, maxLocals := 3, code := jdk_33_method_10_code, exceptionTable := #[], attributes := #[] }
def k10m0 : Method := { name := "toString", desc := "(I)Ljava/lang/String;", sig := { parameters := [.int], returnType := some (.object "java/lang/String") }, accessFlags := 9, code := some k10c0 }
def k10c1 : Code := { maxStack := 4, maxLocals := 7, code := jdk_33_method_12_code, exceptionTable := #[], attributes := #[] }
def k10m1 : Method := { name := "getChars", desc := "(II[B)I", sig := { parameters := [.int, .int, (.array .byte)], returnType := some .int }, accessFlags := 8, code := some k10c1 }
def k10c2 : Code := { maxStack := 2, maxLocals := 4, code := jdk_33_method_13_code, exceptionTable := #[], attributes := #[] }
def k10m2 : Method := { name := "stringSize", desc := "(I)I", sig := { parameters := [.int], returnType := some .int }, accessFlags := 8, code := some k10c2 }
def k10c3 : Code := { maxStack := 3, maxLocals := 1, code := jdk_33_method_22_code, exceptionTable := #[], attributes := #[] }
def k10m3 : Method := { name := "valueOf", desc := "(I)Ljava/lang/Integer;", sig := { parameters := [.int], returnType := some (.object "java/lang/Integer") }, accessFlags := 9, code := some k10c3 }
def k10c4 : Code := { maxStack := 2, maxLocals := 2, code := jdk_33_method_23_code, exceptionTable := #[], attributes := #[] }
def k10m4 : Method := { name := "<init>", desc := "(I)V", sig := { parameters := [.int], returnType := none }, accessFlags := 1, code := some k10c4 }
def k10c5 : Code := { maxStack := 1, maxLocals := 1, code := jdk_33_method_31_code, exceptionTable := #[], attributes := #[] }
def k10m5 : Method := { name := "toString", desc := "()Ljava/lang/String;", sig := { parameters := [], returnType := some (.object "java/lang/String") }, accessFlags := 1, code := some k10c5 }
/-- java/lang/Integer -/
def k10 : Class := { plain "java/lang/Integer" (some 9) with
  accessFlags := 49
  interfaces := #[3, 5, 6]
  cf := some (fileOf pool10 1 #[.nestMembers #[189]] #[{ accessFlags := 9, nameIndex := 11, descriptorIndex := 12, attributes := #[] }, { accessFlags := 8, nameIndex := 77, descriptorIndex := 78, attributes := #[] }, { accessFlags := 8, nameIndex := 74, descriptorIndex := 54, attributes := #[] }, { accessFlags := 9, nameIndex := 187, descriptorIndex := 188, attributes := #[] }, { accessFlags := 1, nameIndex := 67, descriptorIndex := 201, attributes := #[] }, { accessFlags := 1, nameIndex := 11, descriptorIndex := 115, attributes := #[] }] 49 203 #[304, 306, 308] #[{ accessFlags := 25, nameIndex := 310, descriptorIndex := 194, attributes := #[] }, { accessFlags := 25, nameIndex := 312, descriptorIndex := 194, attributes := #[] }, { accessFlags := 25, nameIndex := 302, descriptorIndex := 303, attributes := #[] }, { accessFlags := 24, nameIndex := 19, descriptorIndex := 20, attributes := #[] }, { accessFlags := 24, nameIndex := 89, descriptorIndex := 86, attributes := #[] }, { accessFlags := 24, nameIndex := 85, descriptorIndex := 86, attributes := #[] }, { accessFlags := 18, nameIndex := 207, descriptorIndex := 194, attributes := #[] }, { accessFlags := 25, nameIndex := 316, descriptorIndex := 194, attributes := #[] }, { accessFlags := 25, nameIndex := 318, descriptorIndex := 194, attributes := #[] }, { accessFlags := 26, nameIndex := 320, descriptorIndex := 321, attributes := #[] }])
  fields := #[{ name := "MIN_VALUE", type := .int, accessFlags := 25, slot := 0, constantValue := 0 }, { name := "MAX_VALUE", type := .int, accessFlags := 25, slot := 1, constantValue := 0 }, { name := "TYPE", type := (.object "java/lang/Class"), accessFlags := 25, slot := 2, constantValue := 0 }, { name := "digits", type := (.array .char), accessFlags := 24, slot := 3, constantValue := 0 }, { name := "DigitTens", type := (.array .byte), accessFlags := 24, slot := 4, constantValue := 0 }, { name := "DigitOnes", type := (.array .byte), accessFlags := 24, slot := 5, constantValue := 0 }, { name := "value", type := .int, accessFlags := 18, slot := 0, constantValue := 0 }, { name := "SIZE", type := .int, accessFlags := 25, slot := 6, constantValue := 0 }, { name := "BYTES", type := .int, accessFlags := 25, slot := 7, constantValue := 0 }, { name := "serialVersionUID", type := .long, accessFlags := 26, slot := 8, constantValue := 0 }]
  methods := #[k10m0, k10m1, k10m2, k10m3, k10m4, k10m5]
  instanceTypes := #[.int]
  staticTypes := #[.int, .int, (.object "java/lang/Class"), (.array .char), (.array .byte), (.array .byte), .int, .int, .long]
  resolved := Array.replicate 453 none
  statics := some 1 }

def pool11 : Array CpInfo := pool [(2, .class_ 4), (1, u "java/lang/Object"), (0, u "<init>"), (0, u "()V"), (0, .class_ 8), (0, u "java/lang/Integer"), (7, .class_ 18), (1, u "java/lang/Integer$IntegerCache"), (0, u "$assertionsDisabled"), (0, u "Z"), (26, u "high"), (0, u "I"), (8, u "archivedCache"), (0, u "[Ljava/lang/Integer;"), (12, u "cache"), (0, u "low")] 27

def k11m0 : Method := { name := "<init>", desc := "()V", sig := { parameters := [], returnType := none }, accessFlags := 2, code := none }
/-- java/lang/Integer$IntegerCache -/
def k11 : Class := { plain "java/lang/Integer$IntegerCache" (some 0) with
  accessFlags := 48
  interfaces := #[]
  cf := some (fileOf pool11 16 #[.nestHost 7] #[{ accessFlags := 2, nameIndex := 5, descriptorIndex := 6, attributes := #[] }] 48 2 #[] #[{ accessFlags := 24, nameIndex := 72, descriptorIndex := 48, attributes := #[] }, { accessFlags := 24, nameIndex := 47, descriptorIndex := 48, attributes := #[] }, { accessFlags := 24, nameIndex := 71, descriptorIndex := 58, attributes := #[] }, { accessFlags := 8, nameIndex := 57, descriptorIndex := 58, attributes := #[] }, { accessFlags := 4120, nameIndex := 19, descriptorIndex := 20, attributes := #[] }])
  fields := #[{ name := "low", type := .int, accessFlags := 24, slot := 0, constantValue := 0 }, { name := "high", type := .int, accessFlags := 24, slot := 1, constantValue := 0 }, { name := "cache", type := (.array (.object "java/lang/Integer")), accessFlags := 24, slot := 2, constantValue := 0 }, { name := "archivedCache", type := (.array (.object "java/lang/Integer")), accessFlags := 8, slot := 3, constantValue := 0 }, { name := "$assertionsDisabled", type := .boolean, accessFlags := 4120, slot := 4, constantValue := 0 }]
  methods := #[k11m0]
  instanceTypes := #[]
  staticTypes := #[.int, .int, (.array (.object "java/lang/Integer")), (.array (.object "java/lang/Integer")), .boolean]
  resolved := Array.replicate 100 none
  statics := some 2 }

def pool12 : Array CpInfo := pool [(1, .methodref 2 3), (0, .class_ 4), (0, .nameAndType 5 6), (0, u "java/lang/Object"), (0, u "<init>"), (0, u "()V"), (0, .fieldref 8 9), (0, .class_ 10), (0, .nameAndType 11 12), (0, u "com/example/rowset/rowset/model/SqlValue"), (0, u "value"), (0, u "Ljava/lang/Object;"), (0, .fieldref 8 14), (0, .nameAndType 15 16), (0, u "text"), (0, u "Ljava/lang/String;"), (0, .fieldref 8 18), (0, .nameAndType 19 20), (0, u "NULL"), (0, u "Lcom/example/rowset/rowset/model/SqlValue;"), (0, .methodref 2 22), (0, .nameAndType 23 24), (0, u "toString"), (0, u "()Ljava/lang/String;"), (0, .methodref 8 26), (0, .nameAndType 5 27), (0, u "(Ljava/lang/Object;Ljava/lang/String;)V"), (14, u "valueOf"), (3, u "of"), (0, u "(Ljava/lang/Object;)Lcom/example/rowset/rowset/model/SqlValue;"), (1, u "(Ljava/lang/Object;)Ljava/lang/Object;"), (1, u "()Ljava/lang/Object;")] 6

def k12c0 : Code := { maxStack := 2, maxLocals := 3, code := prog_43_method_1_code, exceptionTable := #[], attributes := #[] }
def k12m0 : Method := { name := "<init>", desc := "(Ljava/lang/Object;Ljava/lang/String;)V", sig := { parameters := [(.object "java/lang/Object"), (.object "java/lang/String")], returnType := none }, accessFlags := 1, code := some k12c0 }
def k12c1 : Code := { maxStack := 4, maxLocals := 3, code := prog_43_method_2_code, exceptionTable := #[], attributes := #[] }
def k12m1 : Method := { name := "of", desc := "(Ljava/lang/Object;)Lcom/example/rowset/rowset/model/SqlValue;", sig := { parameters := [(.object "java/lang/Object")], returnType := some (.object "com/example/rowset/rowset/model/SqlValue") }, accessFlags := 9, code := some k12c1 }
def k12c2 : Code := { maxStack := 1, maxLocals := 2, code := prog_43_method_3_code, exceptionTable := #[], attributes := #[] }
def k12m2 : Method := { name := "valueOf", desc := "(Ljava/lang/Object;)Ljava/lang/Object;", sig := { parameters := [(.object "java/lang/Object")], returnType := some (.object "java/lang/Object") }, accessFlags := 8, code := some k12c2 }
def k12c3 : Code := { maxStack := 1, maxLocals := 1, code := prog_43_method_5_code, exceptionTable := #[], attributes := #[] }
def k12m3 : Method := { name := "value", desc := "()Ljava/lang/Object;", sig := { parameters := [], returnType := some (.object "java/lang/Object") }, accessFlags := 1, code := some k12c3 }
/-- com/example/rowset/rowset/model/SqlValue -/
def k12 : Class := { plain "com/example/rowset/rowset/model/SqlValue" (some 0) with
  accessFlags := 49
  interfaces := #[]
  cf := some (fileOf pool12 8 #[] #[{ accessFlags := 1, nameIndex := 5, descriptorIndex := 27, attributes := #[] }, { accessFlags := 9, nameIndex := 46, descriptorIndex := 47, attributes := #[] }, { accessFlags := 8, nameIndex := 42, descriptorIndex := 49, attributes := #[] }, { accessFlags := 1, nameIndex := 11, descriptorIndex := 51, attributes := #[] }] 49 2 #[] #[{ accessFlags := 25, nameIndex := 19, descriptorIndex := 20, attributes := #[] }, { accessFlags := 18, nameIndex := 11, descriptorIndex := 12, attributes := #[] }, { accessFlags := 18, nameIndex := 15, descriptorIndex := 16, attributes := #[] }])
  fields := #[{ name := "NULL", type := (.object "com/example/rowset/rowset/model/SqlValue"), accessFlags := 25, slot := 0, constantValue := 0 }, { name := "value", type := (.object "java/lang/Object"), accessFlags := 18, slot := 0, constantValue := 0 }, { name := "text", type := (.object "java/lang/String"), accessFlags := 18, slot := 1, constantValue := 0 }]
  methods := #[k12m0, k12m1, k12m2, k12m3]
  instanceTypes := #[(.object "java/lang/Object"), (.object "java/lang/String")]
  staticTypes := #[(.object "com/example/rowset/rowset/model/SqlValue")]
  resolved := Array.replicate 58 none
  statics := some 3 }

def pool13 : Array CpInfo := pool [(4, .class_ 6), (1, u "java/lang/Object"), (0, u "<init>"), (0, u "()V"), (5, .class_ 16), (1, u "java/lang/StringLatin1"), (104, u "$assertionsDisabled"), (0, u "Z"), (98, .class_ 223), (1, u "java/lang/StringLatin1$LinesSpliterator"), (166, .class_ 391), (0, u "java/lang/StringLatin1$CharsSpliterator")] 3

def k13m0 : Method := { name := "<init>", desc := "()V", sig := { parameters := [], returnType := none }, accessFlags := 0, code := none }
/-- java/lang/StringLatin1 -/
def k13 : Class := { plain "java/lang/StringLatin1" (some 0) with
  accessFlags := 48
  interfaces := #[]
  cf := some (fileOf pool13 14 #[.nestMembers #[390, 221]] #[{ accessFlags := 0, nameIndex := 7, descriptorIndex := 8, attributes := #[] }] 48 4 #[] #[{ accessFlags := 4120, nameIndex := 121, descriptorIndex := 122, attributes := #[] }])
  fields := #[{ name := "$assertionsDisabled", type := .boolean, accessFlags := 4120, slot := 0, constantValue := 0 }]
  methods := #[k13m0]
  instanceTypes := #[]
  staticTypes := #[.boolean]
  resolved := Array.replicate 395 none
  statics := none }

def pool14 : Array CpInfo := pool [(2, .class_ 4), (1, u "java/lang/Object"), (0, u "<init>"), (0, u "()V"), (17, .class_ 26), (1, u "jdk/internal/util/Preconditions"), (28, .class_ 56), (0, u "jdk/internal/util/Preconditions$4"), (57, .class_ 115), (0, u "jdk/internal/util/Preconditions$1"), (7, u "SIOOBE_FORMATTER"), (0, u "Ljava/util/function/BiFunction;"), (0, .class_ 126), (0, u "jdk/internal/util/Preconditions$2"), (3, u "AIOOBE_FORMATTER"), (0, .class_ 132), (0, u "jdk/internal/util/Preconditions$3"), (3, u "IOOBE_FORMATTER")] 57

def k14m0 : Method := { name := "<init>", desc := "()V", sig := { parameters := [], returnType := none }, accessFlags := 1, code := none }
/-- jdk/internal/util/Preconditions -/
def k14 : Class := { plain "jdk/internal/util/Preconditions" (some 0) with
  accessFlags := 33
  interfaces := #[]
  cf := some (fileOf pool14 24 #[.nestMembers #[55, 131, 125, 114]] #[{ accessFlags := 1, nameIndex := 5, descriptorIndex := 6, attributes := #[] }] 33 2 #[] #[{ accessFlags := 25, nameIndex := 123, descriptorIndex := 124, attributes := #[] }, { accessFlags := 25, nameIndex := 130, descriptorIndex := 124, attributes := #[] }, { accessFlags := 25, nameIndex := 136, descriptorIndex := 124, attributes := #[] }])
  fields := #[{ name := "SIOOBE_FORMATTER", type := (.object "java/util/function/BiFunction"), accessFlags := 25, slot := 0, constantValue := 0 }, { name := "AIOOBE_FORMATTER", type := (.object "java/util/function/BiFunction"), accessFlags := 25, slot := 1, constantValue := 0 }, { name := "IOOBE_FORMATTER", type := (.object "java/util/function/BiFunction"), accessFlags := 25, slot := 2, constantValue := 0 }]
  methods := #[k14m0]
  instanceTypes := #[]
  staticTypes := #[(.object "java/util/function/BiFunction"), (.object "java/util/function/BiFunction"), (.object "java/util/function/BiFunction")]
  resolved := Array.replicate 194 none
  statics := some 4 }

def pool15 : Array CpInfo := pool [(9, u "<init>"), (6, .class_ 18), (1, u "java/lang/Object"), (0, u "()V"), (1, .class_ 23), (1, u "jdk/internal/util/ArraysSupport"), (0, u "LOG2_ARRAY_LONG_INDEX_SCALE"), (0, u "I"), (2, u "U"), (0, u "Ljdk/internal/misc/Unsafe;"), (8, u "BIG_ENDIAN"), (0, u "Z"), (8, u "LOG2_BYTE_BIT_SIZE"), (4, u "LOG2_ARRAY_INT_INDEX_SCALE"), (54, u "JLA"), (0, u "Ljdk/internal/access/JavaLangAccess;"), (11, u "LOG2_ARRAY_BOOLEAN_INDEX_SCALE"), (9, u "LOG2_ARRAY_BYTE_INDEX_SCALE"), (5, u "LOG2_ARRAY_CHAR_INDEX_SCALE"), (5, u "LOG2_ARRAY_SHORT_INDEX_SCALE"), (18, u "LOG2_ARRAY_FLOAT_INDEX_SCALE"), (24, u "LOG2_ARRAY_DOUBLE_INDEX_SCALE"), (89, u "T_BOOLEAN"), (2, u "T_CHAR"), (1, u "T_FLOAT"), (1, u "T_DOUBLE"), (1, u "T_BYTE"), (1, u "T_SHORT"), (1, u "T_INT"), (1, u "T_LONG"), (1, u "SOFT_MAX_ARRAY_LENGTH")] 83

def k15m0 : Method := { name := "<init>", desc := "()V", sig := { parameters := [], returnType := none }, accessFlags := 2, code := none }
/-- jdk/internal/util/ArraysSupport -/
def k15 : Class := { plain "jdk/internal/util/ArraysSupport" (some 0) with
  accessFlags := 33
  interfaces := #[]
  cf := some (fileOf pool15 21 #[] #[{ accessFlags := 2, nameIndex := 9, descriptorIndex := 19, attributes := #[] }] 33 16 #[] #[{ accessFlags := 24, nameIndex := 28, descriptorIndex := 29, attributes := #[] }, { accessFlags := 26, nameIndex := 38, descriptorIndex := 39, attributes := #[] }, { accessFlags := 25, nameIndex := 121, descriptorIndex := 25, attributes := #[] }, { accessFlags := 25, nameIndex := 131, descriptorIndex := 25, attributes := #[] }, { accessFlags := 25, nameIndex := 137, descriptorIndex := 25, attributes := #[] }, { accessFlags := 25, nameIndex := 143, descriptorIndex := 25, attributes := #[] }, { accessFlags := 25, nameIndex := 53, descriptorIndex := 25, attributes := #[] }, { accessFlags := 25, nameIndex := 24, descriptorIndex := 25, attributes := #[] }, { accessFlags := 25, nameIndex := 162, descriptorIndex := 25, attributes := #[] }, { accessFlags := 25, nameIndex := 187, descriptorIndex := 25, attributes := #[] }, { accessFlags := 26, nameIndex := 48, descriptorIndex := 25, attributes := #[] }, { accessFlags := 25, nameIndex := 277, descriptorIndex := 25, attributes := #[] }, { accessFlags := 25, nameIndex := 280, descriptorIndex := 25, attributes := #[] }, { accessFlags := 25, nameIndex := 282, descriptorIndex := 25, attributes := #[] }, { accessFlags := 25, nameIndex := 284, descriptorIndex := 25, attributes := #[] }, { accessFlags := 25, nameIndex := 286, descriptorIndex := 25, attributes := #[] }, { accessFlags := 25, nameIndex := 288, descriptorIndex := 25, attributes := #[] }, { accessFlags := 25, nameIndex := 290, descriptorIndex := 25, attributes := #[] }, { accessFlags := 25, nameIndex := 292, descriptorIndex := 25, attributes := #[] }, { accessFlags := 26, nameIndex := 108, descriptorIndex := 109, attributes := #[] }, { accessFlags := 25, nameIndex := 294, descriptorIndex := 25, attributes := #[] }])
  fields := #[{ name := "U", type := (.object "jdk/internal/misc/Unsafe"), accessFlags := 24, slot := 0, constantValue := 0 }, { name := "BIG_ENDIAN", type := .boolean, accessFlags := 26, slot := 1, constantValue := 0 }, { name := "LOG2_ARRAY_BOOLEAN_INDEX_SCALE", type := .int, accessFlags := 25, slot := 2, constantValue := 0 }, { name := "LOG2_ARRAY_BYTE_INDEX_SCALE", type := .int, accessFlags := 25, slot := 3, constantValue := 0 }, { name := "LOG2_ARRAY_CHAR_INDEX_SCALE", type := .int, accessFlags := 25, slot := 4, constantValue := 0 }, { name := "LOG2_ARRAY_SHORT_INDEX_SCALE", type := .int, accessFlags := 25, slot := 5, constantValue := 0 }, { name := "LOG2_ARRAY_INT_INDEX_SCALE", type := .int, accessFlags := 25, slot := 6, constantValue := 0 }, { name := "LOG2_ARRAY_LONG_INDEX_SCALE", type := .int, accessFlags := 25, slot := 7, constantValue := 0 }, { name := "LOG2_ARRAY_FLOAT_INDEX_SCALE", type := .int, accessFlags := 25, slot := 8, constantValue := 0 }, { name := "LOG2_ARRAY_DOUBLE_INDEX_SCALE", type := .int, accessFlags := 25, slot := 9, constantValue := 0 }, { name := "LOG2_BYTE_BIT_SIZE", type := .int, accessFlags := 26, slot := 10, constantValue := 0 }, { name := "T_BOOLEAN", type := .int, accessFlags := 25, slot := 11, constantValue := 0 }, { name := "T_CHAR", type := .int, accessFlags := 25, slot := 12, constantValue := 0 }, { name := "T_FLOAT", type := .int, accessFlags := 25, slot := 13, constantValue := 0 }, { name := "T_DOUBLE", type := .int, accessFlags := 25, slot := 14, constantValue := 0 }, { name := "T_BYTE", type := .int, accessFlags := 25, slot := 15, constantValue := 0 }, { name := "T_SHORT", type := .int, accessFlags := 25, slot := 16, constantValue := 0 }, { name := "T_INT", type := .int, accessFlags := 25, slot := 17, constantValue := 0 }, { name := "T_LONG", type := .int, accessFlags := 25, slot := 18, constantValue := 0 }, { name := "JLA", type := (.object "jdk/internal/access/JavaLangAccess"), accessFlags := 26, slot := 19, constantValue := 0 }, { name := "SOFT_MAX_ARRAY_LENGTH", type := .int, accessFlags := 25, slot := 20, constantValue := 0 }]
  methods := #[k15m0]
  instanceTypes := #[]
  staticTypes := #[(.object "jdk/internal/misc/Unsafe"), .boolean, .int, .int, .int, .int, .int, .int, .int, .int, .int, .int, .int, .int, .int, .int, .int, .int, .int, (.object "jdk/internal/access/JavaLangAccess"), .int]
  resolved := Array.replicate 378 none
  statics := none }

def pool16 : Array CpInfo := pool [(1, u "java/lang/Cloneable"), (0, .class_ 1), (0, u "java/lang/Object"), (0, .class_ 3)] 3

/-- java/lang/Cloneable -/
def k16 : Class := { plain "java/lang/Cloneable" (some 0) with
  accessFlags := 1537
  interfaces := #[]
  cf := some (fileOf pool16 2 #[] #[] 1537 4 #[] #[])
  fields := #[]
  methods := #[]
  instanceTypes := #[]
  staticTypes := #[]
  resolved := Array.replicate 8 none
  statics := none }

/-- the primitive byte -/
def k17 : Class := { plain "byte" none with kind := .primitive 'B', accessFlags := 0x411 }
/-- [B -/
def k18 : Class := { plain "[B" (some 0) with kind := .array 17 .byte, interfaces := #[16, 2], accessFlags := 1041 }

/-- the primitive char -/
def k19 : Class := { plain "char" none with kind := .primitive 'C', accessFlags := 0x411 }
/-- [C -/
def k20 : Class := { plain "[C" (some 0) with kind := .array 19 .char, interfaces := #[16, 2], accessFlags := 1041 }

/-- the primitive int -/
def k21 : Class := { plain "int" none with kind := .primitive 'I', accessFlags := 0x411 }
/-- [I -/
def k22 : Class := { plain "[I" (some 0) with kind := .array 21 .int, interfaces := #[16, 2], accessFlags := 1041 }

/-- [Ljava/lang/Integer; -/
def k23 : Class := { plain "[Ljava/lang/Integer;" (some 0) with kind := .array 10 (.object "java/lang/Integer"), interfaces := #[16, 2], accessFlags := 1041 }

def heap : Heap := #[{ cls := 7, slots := #[.long 0, .int 1, .null, .int 0, .null, .int 0, .int 0], vm := .statics 7 },
  { cls := 10, slots := #[.int 0, .int 0, .null, .null, .ref 263, .ref 262, .int 0, .int 0, .long 0], vm := .statics 10 },
  { cls := 11, slots := #[.int 0, .int 127, .ref 5, .null, .int 0], vm := .statics 11 },
  { cls := 12, slots := #[.ref 264], vm := .statics 12 },
  { cls := 14, slots := #[.null, .null, .null], vm := .statics 14 },
  { cls := 23, slots := #[.ref 6, .ref 7, .ref 8, .ref 9, .ref 10, .ref 11, .ref 12, .ref 13, .ref 14, .ref 15, .ref 16, .ref 17, .ref 18, .ref 19, .ref 20, .ref 21, .ref 22, .ref 23, .ref 24, .ref 25, .ref 26, .ref 27, .ref 28, .ref 29, .ref 30, .ref 31, .ref 32, .ref 33, .ref 34, .ref 35, .ref 36, .ref 37, .ref 38, .ref 39, .ref 40, .ref 41, .ref 42, .ref 43, .ref 44, .ref 45, .ref 46, .ref 47, .ref 48, .ref 49, .ref 50, .ref 51, .ref 52, .ref 53, .ref 54, .ref 55, .ref 56, .ref 57, .ref 58, .ref 59, .ref 60, .ref 61, .ref 62, .ref 63, .ref 64, .ref 65, .ref 66, .ref 67, .ref 68, .ref 69, .ref 70, .ref 71, .ref 72, .ref 73, .ref 74, .ref 75, .ref 76, .ref 77, .ref 78, .ref 79, .ref 80, .ref 81, .ref 82, .ref 83, .ref 84, .ref 85, .ref 86, .ref 87, .ref 88, .ref 89, .ref 90, .ref 91, .ref 92, .ref 93, .ref 94, .ref 95, .ref 96, .ref 97, .ref 98, .ref 99, .ref 100, .ref 101, .ref 102, .ref 103, .ref 104, .ref 105, .ref 106, .ref 107, .ref 108, .ref 109, .ref 110, .ref 111, .ref 112, .ref 113, .ref 114, .ref 115, .ref 116, .ref 117, .ref 118, .ref 119, .ref 120, .ref 121, .ref 122, .ref 123, .ref 124, .ref 125, .ref 126, .ref 127, .ref 128, .ref 129, .ref 130, .ref 131, .ref 132, .ref 133, .ref 134, .ref 135, .ref 136, .ref 137, .ref 138, .ref 139, .ref 140, .ref 141, .ref 142, .ref 143, .ref 144, .ref 145, .ref 146, .ref 147, .ref 148, .ref 149, .ref 150, .ref 151, .ref 152, .ref 153, .ref 154, .ref 155, .ref 156, .ref 157, .ref 158, .ref 159, .ref 160, .ref 161, .ref 162, .ref 163, .ref 164, .ref 165, .ref 166, .ref 167, .ref 168, .ref 169, .ref 170, .ref 171, .ref 172, .ref 173, .ref 174, .ref 175, .ref 176, .ref 177, .ref 178, .ref 179, .ref 180, .ref 181, .ref 182, .ref 183, .ref 184, .ref 185, .ref 186, .ref 187, .ref 188, .ref 189, .ref 190, .ref 191, .ref 192, .ref 193, .ref 194, .ref 195, .ref 196, .ref 197, .ref 198, .ref 199, .ref 200, .ref 201, .ref 202, .ref 203, .ref 204, .ref 205, .ref 206, .ref 207, .ref 208, .ref 209, .ref 210, .ref 211, .ref 212, .ref 213, .ref 214, .ref 215, .ref 216, .ref 217, .ref 218, .ref 219, .ref 220, .ref 221, .ref 222, .ref 223, .ref 224, .ref 225, .ref 226, .ref 227, .ref 228, .ref 229, .ref 230, .ref 231, .ref 232, .ref 233, .ref 234, .ref 235, .ref 236, .ref 237, .ref 238, .ref 239, .ref 240, .ref 241, .ref 242, .ref 243, .ref 244, .ref 245, .ref 246, .ref 247, .ref 248, .ref 249, .ref 250, .ref 251, .ref 252, .ref 253, .ref 254, .ref 255, .ref 256, .ref 257, .ref 258, .ref 259, .ref 260, .ref 261], vm := .none },
  { cls := 10, slots := #[.int (-128)], vm := .none },
  { cls := 10, slots := #[.int (-127)], vm := .none },
  { cls := 10, slots := #[.int (-126)], vm := .none },
  { cls := 10, slots := #[.int (-125)], vm := .none },
  { cls := 10, slots := #[.int (-124)], vm := .none },
  { cls := 10, slots := #[.int (-123)], vm := .none },
  { cls := 10, slots := #[.int (-122)], vm := .none },
  { cls := 10, slots := #[.int (-121)], vm := .none },
  { cls := 10, slots := #[.int (-120)], vm := .none },
  { cls := 10, slots := #[.int (-119)], vm := .none },
  { cls := 10, slots := #[.int (-118)], vm := .none },
  { cls := 10, slots := #[.int (-117)], vm := .none },
  { cls := 10, slots := #[.int (-116)], vm := .none },
  { cls := 10, slots := #[.int (-115)], vm := .none },
  { cls := 10, slots := #[.int (-114)], vm := .none },
  { cls := 10, slots := #[.int (-113)], vm := .none },
  { cls := 10, slots := #[.int (-112)], vm := .none },
  { cls := 10, slots := #[.int (-111)], vm := .none },
  { cls := 10, slots := #[.int (-110)], vm := .none },
  { cls := 10, slots := #[.int (-109)], vm := .none },
  { cls := 10, slots := #[.int (-108)], vm := .none },
  { cls := 10, slots := #[.int (-107)], vm := .none },
  { cls := 10, slots := #[.int (-106)], vm := .none },
  { cls := 10, slots := #[.int (-105)], vm := .none },
  { cls := 10, slots := #[.int (-104)], vm := .none },
  { cls := 10, slots := #[.int (-103)], vm := .none },
  { cls := 10, slots := #[.int (-102)], vm := .none },
  { cls := 10, slots := #[.int (-101)], vm := .none },
  { cls := 10, slots := #[.int (-100)], vm := .none },
  { cls := 10, slots := #[.int (-99)], vm := .none },
  { cls := 10, slots := #[.int (-98)], vm := .none },
  { cls := 10, slots := #[.int (-97)], vm := .none },
  { cls := 10, slots := #[.int (-96)], vm := .none },
  { cls := 10, slots := #[.int (-95)], vm := .none },
  { cls := 10, slots := #[.int (-94)], vm := .none },
  { cls := 10, slots := #[.int (-93)], vm := .none },
  { cls := 10, slots := #[.int (-92)], vm := .none },
  { cls := 10, slots := #[.int (-91)], vm := .none },
  { cls := 10, slots := #[.int (-90)], vm := .none },
  { cls := 10, slots := #[.int (-89)], vm := .none },
  { cls := 10, slots := #[.int (-88)], vm := .none },
  { cls := 10, slots := #[.int (-87)], vm := .none },
  { cls := 10, slots := #[.int (-86)], vm := .none },
  { cls := 10, slots := #[.int (-85)], vm := .none },
  { cls := 10, slots := #[.int (-84)], vm := .none },
  { cls := 10, slots := #[.int (-83)], vm := .none },
  { cls := 10, slots := #[.int (-82)], vm := .none },
  { cls := 10, slots := #[.int (-81)], vm := .none },
  { cls := 10, slots := #[.int (-80)], vm := .none },
  { cls := 10, slots := #[.int (-79)], vm := .none },
  { cls := 10, slots := #[.int (-78)], vm := .none },
  { cls := 10, slots := #[.int (-77)], vm := .none },
  { cls := 10, slots := #[.int (-76)], vm := .none },
  { cls := 10, slots := #[.int (-75)], vm := .none },
  { cls := 10, slots := #[.int (-74)], vm := .none },
  { cls := 10, slots := #[.int (-73)], vm := .none },
  { cls := 10, slots := #[.int (-72)], vm := .none },
  { cls := 10, slots := #[.int (-71)], vm := .none },
  { cls := 10, slots := #[.int (-70)], vm := .none },
  { cls := 10, slots := #[.int (-69)], vm := .none },
  { cls := 10, slots := #[.int (-68)], vm := .none },
  { cls := 10, slots := #[.int (-67)], vm := .none },
  { cls := 10, slots := #[.int (-66)], vm := .none },
  { cls := 10, slots := #[.int (-65)], vm := .none },
  { cls := 10, slots := #[.int (-64)], vm := .none },
  { cls := 10, slots := #[.int (-63)], vm := .none },
  { cls := 10, slots := #[.int (-62)], vm := .none },
  { cls := 10, slots := #[.int (-61)], vm := .none },
  { cls := 10, slots := #[.int (-60)], vm := .none },
  { cls := 10, slots := #[.int (-59)], vm := .none },
  { cls := 10, slots := #[.int (-58)], vm := .none },
  { cls := 10, slots := #[.int (-57)], vm := .none },
  { cls := 10, slots := #[.int (-56)], vm := .none },
  { cls := 10, slots := #[.int (-55)], vm := .none },
  { cls := 10, slots := #[.int (-54)], vm := .none },
  { cls := 10, slots := #[.int (-53)], vm := .none },
  { cls := 10, slots := #[.int (-52)], vm := .none },
  { cls := 10, slots := #[.int (-51)], vm := .none },
  { cls := 10, slots := #[.int (-50)], vm := .none },
  { cls := 10, slots := #[.int (-49)], vm := .none },
  { cls := 10, slots := #[.int (-48)], vm := .none },
  { cls := 10, slots := #[.int (-47)], vm := .none },
  { cls := 10, slots := #[.int (-46)], vm := .none },
  { cls := 10, slots := #[.int (-45)], vm := .none },
  { cls := 10, slots := #[.int (-44)], vm := .none },
  { cls := 10, slots := #[.int (-43)], vm := .none },
  { cls := 10, slots := #[.int (-42)], vm := .none },
  { cls := 10, slots := #[.int (-41)], vm := .none },
  { cls := 10, slots := #[.int (-40)], vm := .none },
  { cls := 10, slots := #[.int (-39)], vm := .none },
  { cls := 10, slots := #[.int (-38)], vm := .none },
  { cls := 10, slots := #[.int (-37)], vm := .none },
  { cls := 10, slots := #[.int (-36)], vm := .none },
  { cls := 10, slots := #[.int (-35)], vm := .none },
  { cls := 10, slots := #[.int (-34)], vm := .none },
  { cls := 10, slots := #[.int (-33)], vm := .none },
  { cls := 10, slots := #[.int (-32)], vm := .none },
  { cls := 10, slots := #[.int (-31)], vm := .none },
  { cls := 10, slots := #[.int (-30)], vm := .none },
  { cls := 10, slots := #[.int (-29)], vm := .none },
  { cls := 10, slots := #[.int (-28)], vm := .none },
  { cls := 10, slots := #[.int (-27)], vm := .none },
  { cls := 10, slots := #[.int (-26)], vm := .none },
  { cls := 10, slots := #[.int (-25)], vm := .none },
  { cls := 10, slots := #[.int (-24)], vm := .none },
  { cls := 10, slots := #[.int (-23)], vm := .none },
  { cls := 10, slots := #[.int (-22)], vm := .none },
  { cls := 10, slots := #[.int (-21)], vm := .none },
  { cls := 10, slots := #[.int (-20)], vm := .none },
  { cls := 10, slots := #[.int (-19)], vm := .none },
  { cls := 10, slots := #[.int (-18)], vm := .none },
  { cls := 10, slots := #[.int (-17)], vm := .none },
  { cls := 10, slots := #[.int (-16)], vm := .none },
  { cls := 10, slots := #[.int (-15)], vm := .none },
  { cls := 10, slots := #[.int (-14)], vm := .none },
  { cls := 10, slots := #[.int (-13)], vm := .none },
  { cls := 10, slots := #[.int (-12)], vm := .none },
  { cls := 10, slots := #[.int (-11)], vm := .none },
  { cls := 10, slots := #[.int (-10)], vm := .none },
  { cls := 10, slots := #[.int (-9)], vm := .none },
  { cls := 10, slots := #[.int (-8)], vm := .none },
  { cls := 10, slots := #[.int (-7)], vm := .none },
  { cls := 10, slots := #[.int (-6)], vm := .none },
  { cls := 10, slots := #[.int (-5)], vm := .none },
  { cls := 10, slots := #[.int (-4)], vm := .none },
  { cls := 10, slots := #[.int (-3)], vm := .none },
  { cls := 10, slots := #[.int (-2)], vm := .none },
  { cls := 10, slots := #[.int (-1)], vm := .none },
  { cls := 10, slots := #[.int 0], vm := .none },
  { cls := 10, slots := #[.int 1], vm := .none },
  { cls := 10, slots := #[.int 2], vm := .none },
  { cls := 10, slots := #[.int 3], vm := .none },
  { cls := 10, slots := #[.int 4], vm := .none },
  { cls := 10, slots := #[.int 5], vm := .none },
  { cls := 10, slots := #[.int 6], vm := .none },
  { cls := 10, slots := #[.int 7], vm := .none },
  { cls := 10, slots := #[.int 8], vm := .none },
  { cls := 10, slots := #[.int 9], vm := .none },
  { cls := 10, slots := #[.int 10], vm := .none },
  { cls := 10, slots := #[.int 11], vm := .none },
  { cls := 10, slots := #[.int 12], vm := .none },
  { cls := 10, slots := #[.int 13], vm := .none },
  { cls := 10, slots := #[.int 14], vm := .none },
  { cls := 10, slots := #[.int 15], vm := .none },
  { cls := 10, slots := #[.int 16], vm := .none },
  { cls := 10, slots := #[.int 17], vm := .none },
  { cls := 10, slots := #[.int 18], vm := .none },
  { cls := 10, slots := #[.int 19], vm := .none },
  { cls := 10, slots := #[.int 20], vm := .none },
  { cls := 10, slots := #[.int 21], vm := .none },
  { cls := 10, slots := #[.int 22], vm := .none },
  { cls := 10, slots := #[.int 23], vm := .none },
  { cls := 10, slots := #[.int 24], vm := .none },
  { cls := 10, slots := #[.int 25], vm := .none },
  { cls := 10, slots := #[.int 26], vm := .none },
  { cls := 10, slots := #[.int 27], vm := .none },
  { cls := 10, slots := #[.int 28], vm := .none },
  { cls := 10, slots := #[.int 29], vm := .none },
  { cls := 10, slots := #[.int 30], vm := .none },
  { cls := 10, slots := #[.int 31], vm := .none },
  { cls := 10, slots := #[.int 32], vm := .none },
  { cls := 10, slots := #[.int 33], vm := .none },
  { cls := 10, slots := #[.int 34], vm := .none },
  { cls := 10, slots := #[.int 35], vm := .none },
  { cls := 10, slots := #[.int 36], vm := .none },
  { cls := 10, slots := #[.int 37], vm := .none },
  { cls := 10, slots := #[.int 38], vm := .none },
  { cls := 10, slots := #[.int 39], vm := .none },
  { cls := 10, slots := #[.int 40], vm := .none },
  { cls := 10, slots := #[.int 41], vm := .none },
  { cls := 10, slots := #[.int 42], vm := .none },
  { cls := 10, slots := #[.int 43], vm := .none },
  { cls := 10, slots := #[.int 44], vm := .none },
  { cls := 10, slots := #[.int 45], vm := .none },
  { cls := 10, slots := #[.int 46], vm := .none },
  { cls := 10, slots := #[.int 47], vm := .none },
  { cls := 10, slots := #[.int 48], vm := .none },
  { cls := 10, slots := #[.int 49], vm := .none },
  { cls := 10, slots := #[.int 50], vm := .none },
  { cls := 10, slots := #[.int 51], vm := .none },
  { cls := 10, slots := #[.int 52], vm := .none },
  { cls := 10, slots := #[.int 53], vm := .none },
  { cls := 10, slots := #[.int 54], vm := .none },
  { cls := 10, slots := #[.int 55], vm := .none },
  { cls := 10, slots := #[.int 56], vm := .none },
  { cls := 10, slots := #[.int 57], vm := .none },
  { cls := 10, slots := #[.int 58], vm := .none },
  { cls := 10, slots := #[.int 59], vm := .none },
  { cls := 10, slots := #[.int 60], vm := .none },
  { cls := 10, slots := #[.int 61], vm := .none },
  { cls := 10, slots := #[.int 62], vm := .none },
  { cls := 10, slots := #[.int 63], vm := .none },
  { cls := 10, slots := #[.int 64], vm := .none },
  { cls := 10, slots := #[.int 65], vm := .none },
  { cls := 10, slots := #[.int 66], vm := .none },
  { cls := 10, slots := #[.int 67], vm := .none },
  { cls := 10, slots := #[.int 68], vm := .none },
  { cls := 10, slots := #[.int 69], vm := .none },
  { cls := 10, slots := #[.int 70], vm := .none },
  { cls := 10, slots := #[.int 71], vm := .none },
  { cls := 10, slots := #[.int 72], vm := .none },
  { cls := 10, slots := #[.int 73], vm := .none },
  { cls := 10, slots := #[.int 74], vm := .none },
  { cls := 10, slots := #[.int 75], vm := .none },
  { cls := 10, slots := #[.int 76], vm := .none },
  { cls := 10, slots := #[.int 77], vm := .none },
  { cls := 10, slots := #[.int 78], vm := .none },
  { cls := 10, slots := #[.int 79], vm := .none },
  { cls := 10, slots := #[.int 80], vm := .none },
  { cls := 10, slots := #[.int 81], vm := .none },
  { cls := 10, slots := #[.int 82], vm := .none },
  { cls := 10, slots := #[.int 83], vm := .none },
  { cls := 10, slots := #[.int 84], vm := .none },
  { cls := 10, slots := #[.int 85], vm := .none },
  { cls := 10, slots := #[.int 86], vm := .none },
  { cls := 10, slots := #[.int 87], vm := .none },
  { cls := 10, slots := #[.int 88], vm := .none },
  { cls := 10, slots := #[.int 89], vm := .none },
  { cls := 10, slots := #[.int 90], vm := .none },
  { cls := 10, slots := #[.int 91], vm := .none },
  { cls := 10, slots := #[.int 92], vm := .none },
  { cls := 10, slots := #[.int 93], vm := .none },
  { cls := 10, slots := #[.int 94], vm := .none },
  { cls := 10, slots := #[.int 95], vm := .none },
  { cls := 10, slots := #[.int 96], vm := .none },
  { cls := 10, slots := #[.int 97], vm := .none },
  { cls := 10, slots := #[.int 98], vm := .none },
  { cls := 10, slots := #[.int 99], vm := .none },
  { cls := 10, slots := #[.int 100], vm := .none },
  { cls := 10, slots := #[.int 101], vm := .none },
  { cls := 10, slots := #[.int 102], vm := .none },
  { cls := 10, slots := #[.int 103], vm := .none },
  { cls := 10, slots := #[.int 104], vm := .none },
  { cls := 10, slots := #[.int 105], vm := .none },
  { cls := 10, slots := #[.int 106], vm := .none },
  { cls := 10, slots := #[.int 107], vm := .none },
  { cls := 10, slots := #[.int 108], vm := .none },
  { cls := 10, slots := #[.int 109], vm := .none },
  { cls := 10, slots := #[.int 110], vm := .none },
  { cls := 10, slots := #[.int 111], vm := .none },
  { cls := 10, slots := #[.int 112], vm := .none },
  { cls := 10, slots := #[.int 113], vm := .none },
  { cls := 10, slots := #[.int 114], vm := .none },
  { cls := 10, slots := #[.int 115], vm := .none },
  { cls := 10, slots := #[.int 116], vm := .none },
  { cls := 10, slots := #[.int 117], vm := .none },
  { cls := 10, slots := #[.int 118], vm := .none },
  { cls := 10, slots := #[.int 119], vm := .none },
  { cls := 10, slots := #[.int 120], vm := .none },
  { cls := 10, slots := #[.int 121], vm := .none },
  { cls := 10, slots := #[.int 122], vm := .none },
  { cls := 10, slots := #[.int 123], vm := .none },
  { cls := 10, slots := #[.int 124], vm := .none },
  { cls := 10, slots := #[.int 125], vm := .none },
  { cls := 10, slots := #[.int 126], vm := .none },
  { cls := 10, slots := #[.int 127], vm := .none },
  { cls := 18, slots := #[.int 48, .int 49, .int 50, .int 51, .int 52, .int 53, .int 54, .int 55, .int 56, .int 57, .int 48, .int 49, .int 50, .int 51, .int 52, .int 53, .int 54, .int 55, .int 56, .int 57, .int 48, .int 49, .int 50, .int 51, .int 52, .int 53, .int 54, .int 55, .int 56, .int 57, .int 48, .int 49, .int 50, .int 51, .int 52, .int 53, .int 54, .int 55, .int 56, .int 57, .int 48, .int 49, .int 50, .int 51, .int 52, .int 53, .int 54, .int 55, .int 56, .int 57, .int 48, .int 49, .int 50, .int 51, .int 52, .int 53, .int 54, .int 55, .int 56, .int 57, .int 48, .int 49, .int 50, .int 51, .int 52, .int 53, .int 54, .int 55, .int 56, .int 57, .int 48, .int 49, .int 50, .int 51, .int 52, .int 53, .int 54, .int 55, .int 56, .int 57, .int 48, .int 49, .int 50, .int 51, .int 52, .int 53, .int 54, .int 55, .int 56, .int 57, .int 48, .int 49, .int 50, .int 51, .int 52, .int 53, .int 54, .int 55, .int 56, .int 57], vm := .none },
  { cls := 18, slots := #[.int 48, .int 48, .int 48, .int 48, .int 48, .int 48, .int 48, .int 48, .int 48, .int 48, .int 49, .int 49, .int 49, .int 49, .int 49, .int 49, .int 49, .int 49, .int 49, .int 49, .int 50, .int 50, .int 50, .int 50, .int 50, .int 50, .int 50, .int 50, .int 50, .int 50, .int 51, .int 51, .int 51, .int 51, .int 51, .int 51, .int 51, .int 51, .int 51, .int 51, .int 52, .int 52, .int 52, .int 52, .int 52, .int 52, .int 52, .int 52, .int 52, .int 52, .int 53, .int 53, .int 53, .int 53, .int 53, .int 53, .int 53, .int 53, .int 53, .int 53, .int 54, .int 54, .int 54, .int 54, .int 54, .int 54, .int 54, .int 54, .int 54, .int 54, .int 55, .int 55, .int 55, .int 55, .int 55, .int 55, .int 55, .int 55, .int 55, .int 55, .int 56, .int 56, .int 56, .int 56, .int 56, .int 56, .int 56, .int 56, .int 56, .int 56, .int 57, .int 57, .int 57, .int 57, .int 57, .int 57, .int 57, .int 57, .int 57, .int 57], vm := .none },
  { cls := 12, slots := #[.null, .null], vm := .none }]
def classes : Array Class := #[k0, k1, k2, k3, k4, k5, k6, k7, k8, k9, k10, k11, k12, k13, k14, k15, k16, k17, k18, k19, k20, k21, k22, k23]
def interned : List (Array UInt16 × Addr) := []
def slotsUsed : Nat := 739
def theMethod : MethodId := ⟨1, 1⟩
def args0 : Array Value := #[.int 5, .int 5, .int 5, .int 5]
def aboutOver (below : List Frame) : State where
  vm := { classes := classes, interned := interned.toArray }
  heap := heap
  slotsUsed := slotsUsed
  threads := #[{ frames := .invoking theMethod args0 :: below }]
def below0 : List Frame := [.native { method := ⟨0, 0⟩, args := #[] }]
def about1 : State := aboutOver below0
def p0 : Program := .bare "" "" ""
def e0 : Env := launch0.env 0 0 0
theorem w_frames : about1.frames = Frame.invoking theMethod args0 :: below0 := rfl
set_option maxRecDepth 65536 in
theorem w_args : argsFit about1.vm theMethod args0 = true := by decide +kernel
set_option maxRecDepth 65536 in
theorem w_heap : heapFits about1 = true := by decide +kernel
set_option maxRecDepth 65536 in
theorem w_runnable : about1.curStatus? = some .runnable := by decide +kernel
set_option maxRecDepth 65536 in
theorem w_alone : about1.alone = true := by decide +kernel
set_option maxRecDepth 65536 in
theorem w_named : about1.methodNamed? x = some theMethod := by decide +kernel
set_option maxRecDepth 65536 in
theorem w_hears : about1.hears theMethod below0 = true := by decide +kernel
set_option maxRecDepth 65536 in
theorem w_ripe : about1.ripe theMethod args0 below0 = true := by decide +kernel
theorem w_running : about1.status = .running := rfl
set_option maxRecDepth 65536 in
theorem w_room : about1.hasRoom e0.platform room_1 = true :=
  launch0.hasRoom_least _ room_1 (by decide +kernel) (by decide +kernel) (by decide +kernel) (by decide +kernel) (by decide +kernel) (by decide +kernel)
theorem allAtoms_all (ts : List Jvm.Cond) (a : Array Jvm.Value) (st : Jvm.State) : (allAtoms ts).before a st = ts.all (fun c => c.before a st) := by
  induction ts with
  | nil => rfl
  | cons c t ih =>
    show (Jvm.Cond.and c (allAtoms t)).before a st = _
    rw [Jvm.Cond.before_and, ih, List.all_cons]
def words1 : List Jvm.Cond := Jvm.Cond.code x code maxLocals ret :: tables_1
/-- a 'code' word, met by the world's own term for the bytes: nothing is compared byte by byte -/
theorem code_word {y : MethodName} {bytes : ByteArray} {mx : Nat} {rt : Option FieldType} {a : Array Value} {s : State} {m : MethodId} {meth : Method} {c : Code} (h1 : s.methodNamed? y = some m) (h2 : s.vm.method? m = some meth) (h3 : meth.code = some c) (h4 : c.code = bytes)
    (h5 : (c.maxLocals == mx && c.exceptionTable.isEmpty && decide (c.maxStack ≤ mostOperands) && decide (meth.sig.returnType = rt) && !meth.locks && decide (parseMethodDescriptor y.desc = some meth.sig)) = true) : (Jvm.Cond.code y bytes mx rt).before a s = true := by
  simp only [Bool.and_eq_true, beq_iff_eq, Bool.not_eq_true', decide_eq_true_eq] at h5
  obtain ⟨⟨⟨⟨⟨g1, g2⟩, g3⟩, g4⟩, g5⟩, g6⟩ := h5
  simp [Cond.before, Cond.holds, Cond.value, h1, h2, h3, h4, g1, g2, g3, g4, g5, g6]
def isCode : Jvm.Cond → Bool
  | .code _ _ _ _ => true
  | _ => false
theorem all_split {L : List Jvm.Cond} {P : Jvm.Cond → Bool} (h1 : L.all (fun c => isCode c || P c) = true) (h2 : ∀ c ∈ L.filter isCode, P c = true) : L.all P = true := by
  refine List.all_eq_true.mpr fun c hc => ?_
  have h := List.all_eq_true.mp h1 c hc
  rcases Bool.eq_false_or_eq_true (isCode c) with hi | hi
  · exact h2 c (List.mem_filter.mpr ⟨hc, hi⟩)
  · simpa [hi] using h
set_option maxRecDepth 65536 in
theorem w_c0 : (Jvm.Cond.code x code maxLocals ret).before args0 about1 = true := code_word (m := ⟨1, 1⟩) (meth := k1m1) (c := k1c1) (by decide +kernel) rfl rfl rfl (by decide +kernel)
set_option maxRecDepth 65536 in
theorem w_c1 : (Jvm.Cond.code ({ cls := "java/lang/String", name := "<init>", desc := "([C)V" } : Jvm.MethodName) jdk_42_method_3_code (2 : Nat) (Option.none : Option Jvm.ClassFile.FieldType)).before args0 about1 = true := code_word (m := ⟨7, 1⟩) (meth := k7m1) (c := k7c1) (by decide +kernel) rfl rfl rfl (by decide +kernel)
set_option maxRecDepth 65536 in
theorem w_c2 : (Jvm.Cond.code ({ cls := "java/lang/String", name := "<init>", desc := "([CIILjava/lang/Void;)V" } : Jvm.MethodName) jdk_42_method_149_code (6 : Nat) (Option.none : Option Jvm.ClassFile.FieldType)).before args0 about1 = true := code_word (m := ⟨7, 3⟩) (meth := k7m3) (c := k7c3) (by decide +kernel) rfl rfl rfl (by decide +kernel)
set_option maxRecDepth 65536 in
theorem w_c3 : (Jvm.Cond.code ({ cls := "java/lang/Object", name := "<init>", desc := "()V" } : Jvm.MethodName) object_method_1_code (1 : Nat) (Option.none : Option Jvm.ClassFile.FieldType)).before args0 about1 = true := code_word (m := ⟨0, 0⟩) (meth := k0m0) (c := k0c0) (by decide +kernel) rfl rfl rfl (by decide +kernel)
set_option maxRecDepth 65536 in
theorem w_c4 : (Jvm.Cond.code ({ cls := "java/lang/StringUTF16", name := "compress", desc := "([CII)[B" } : Jvm.MethodName) jdk_52_method_16_code (6 : Nat) (Option.some (Jvm.ClassFile.FieldType.array Jvm.ClassFile.FieldType.byte))).before args0 about1 = true := code_word (m := ⟨8, 2⟩) (meth := k8m2) (c := k8c2) (by decide +kernel) rfl rfl rfl (by decide +kernel)
set_option maxRecDepth 65536 in
theorem w_c5 : (Jvm.Cond.code ({ cls := "java/lang/StringUTF16", name := "compress", desc := "([CI[BII)I" } : Jvm.MethodName) jdk_52_method_21_code (7 : Nat) (Option.some Jvm.ClassFile.FieldType.int)).before args0 about1 = true := code_word (m := ⟨8, 3⟩) (meth := k8m3) (c := k8c3) (by decide +kernel) rfl rfl rfl (by decide +kernel)
set_option maxRecDepth 65536 in
theorem w_c6 : (Jvm.Cond.code ({ cls := "java/lang/StringUTF16", name := "coderFromArrayLen", desc := "([BI)B" } : Jvm.MethodName) jdk_52_method_15_code (2 : Nat) (Option.some Jvm.ClassFile.FieldType.byte)).before args0 about1 = true := code_word (m := ⟨8, 1⟩) (meth := k8m1) (c := k8c1) (by decide +kernel) rfl rfl rfl (by decide +kernel)
set_option maxRecDepth 65536 in
theorem w_c7 : (Jvm.Cond.code ({ cls := "java/lang/Integer", name := "valueOf", desc := "(I)Ljava/lang/Integer;" } : Jvm.MethodName) jdk_33_method_22_code (1 : Nat) (Option.some (Jvm.ClassFile.FieldType.object "java/lang/Integer"))).before args0 about1 = true := code_word (m := ⟨10, 3⟩) (meth := k10m3) (c := k10c3) (by decide +kernel) rfl rfl rfl (by decide +kernel)
set_option maxRecDepth 65536 in
theorem w_c8 : (Jvm.Cond.code ({ cls := "com/example/rowset/rowset/model/SqlValue", name := "valueOf", desc := "(Ljava/lang/Object;)Ljava/lang/Object;" } : Jvm.MethodName) prog_43_method_3_code (2 : Nat) (Option.some (Jvm.ClassFile.FieldType.object "java/lang/Object"))).before args0 about1 = true := code_word (m := ⟨12, 2⟩) (meth := k12m2) (c := k12c2) (by decide +kernel) rfl rfl rfl (by decide +kernel)
set_option maxRecDepth 65536 in
theorem w_c9 : (Jvm.Cond.code ({ cls := "com/example/rowset/rowset/model/SqlValue", name := "of", desc := "(Ljava/lang/Object;)Lcom/example/rowset/rowset/model/SqlValue;" } : Jvm.MethodName) prog_43_method_2_code (3 : Nat) (Option.some (Jvm.ClassFile.FieldType.object "com/example/rowset/rowset/model/SqlValue"))).before args0 about1 = true := code_word (m := ⟨12, 1⟩) (meth := k12m1) (c := k12c1) (by decide +kernel) rfl rfl rfl (by decide +kernel)
set_option maxRecDepth 65536 in
theorem w_c10 : (Jvm.Cond.code ({ cls := "com/example/rowset/rowset/model/SqlValue", name := "value", desc := "()Ljava/lang/Object;" } : Jvm.MethodName) prog_43_method_5_code (1 : Nat) (Option.some (Jvm.ClassFile.FieldType.object "java/lang/Object"))).before args0 about1 = true := code_word (m := ⟨12, 3⟩) (meth := k12m3) (c := k12c3) (by decide +kernel) rfl rfl rfl (by decide +kernel)
set_option maxRecDepth 65536 in
theorem w_c11 : (Jvm.Cond.code ({ cls := "com/example/rowset/rowset/model/SqlValue", name := "<init>", desc := "(Ljava/lang/Object;Ljava/lang/String;)V" } : Jvm.MethodName) prog_43_method_1_code (3 : Nat) (Option.none : Option Jvm.ClassFile.FieldType)).before args0 about1 = true := code_word (m := ⟨12, 0⟩) (meth := k12m0) (c := k12c0) (by decide +kernel) rfl rfl rfl (by decide +kernel)
set_option maxRecDepth 65536 in
theorem w_c12 : (Jvm.Cond.code ({ cls := "java/lang/Integer", name := "<init>", desc := "(I)V" } : Jvm.MethodName) jdk_33_method_23_code (2 : Nat) (Option.none : Option Jvm.ClassFile.FieldType)).before args0 about1 = true := code_word (m := ⟨10, 4⟩) (meth := k10m4) (c := k10c4) (by decide +kernel) rfl rfl rfl (by decide +kernel)
set_option maxRecDepth 65536 in
theorem w_c13 : (Jvm.Cond.code ({ cls := "java/lang/Number", name := "<init>", desc := "()V" } : Jvm.MethodName) jdk_18_method_1_code (1 : Nat) (Option.none : Option Jvm.ClassFile.FieldType)).before args0 about1 = true := code_word (m := ⟨9, 0⟩) (meth := k9m0) (c := k9c0) (by decide +kernel) rfl rfl rfl (by decide +kernel)
set_option maxRecDepth 65536 in
theorem w_c14 : (Jvm.Cond.code ({ cls := "java/lang/String", name := "toString", desc := "()Ljava/lang/String;" } : Jvm.MethodName) jdk_42_method_126_code (1 : Nat) (Option.some (Jvm.ClassFile.FieldType.object "java/lang/String"))).before args0 about1 = true := code_word (m := ⟨7, 2⟩) (meth := k7m2) (c := k7c2) (by decide +kernel) rfl rfl rfl (by decide +kernel)
set_option maxRecDepth 65536 in
theorem w_c15 : (Jvm.Cond.code ({ cls := "java/lang/Integer", name := "toString", desc := "()Ljava/lang/String;" } : Jvm.MethodName) jdk_33_method_31_code (1 : Nat) (Option.some (Jvm.ClassFile.FieldType.object "java/lang/String"))).before args0 about1 = true := code_word (m := ⟨10, 5⟩) (meth := k10m5) (c := k10c5) (by decide +kernel) rfl rfl rfl (by decide +kernel)
set_option maxRecDepth 65536 in
theorem w_c16 : (Jvm.Cond.code ({ cls := "java/lang/Integer", name := "toString", desc := "(I)Ljava/lang/String;" } : Jvm.MethodName) jdk_33_method_10_code (3 : Nat) (Option.some (Jvm.ClassFile.FieldType.object "java/lang/String"))).before args0 about1 = true := code_word (m := ⟨10, 0⟩) (meth := k10m0) (c := k10c0) (by decide +kernel) rfl rfl rfl (by decide +kernel)
set_option maxRecDepth 65536 in
theorem w_c17 : (Jvm.Cond.code ({ cls := "java/lang/Integer", name := "stringSize", desc := "(I)I" } : Jvm.MethodName) jdk_33_method_13_code (4 : Nat) (Option.some Jvm.ClassFile.FieldType.int)).before args0 about1 = true := code_word (m := ⟨10, 2⟩) (meth := k10m2) (c := k10c2) (by decide +kernel) rfl rfl rfl (by decide +kernel)
set_option maxRecDepth 65536 in
theorem w_c18 : (Jvm.Cond.code ({ cls := "java/lang/Integer", name := "getChars", desc := "(II[B)I" } : Jvm.MethodName) jdk_33_method_12_code (7 : Nat) (Option.some Jvm.ClassFile.FieldType.int)).before args0 about1 = true := code_word (m := ⟨10, 1⟩) (meth := k10m1) (c := k10c1) (by decide +kernel) rfl rfl rfl (by decide +kernel)
set_option maxRecDepth 65536 in
theorem w_c19 : (Jvm.Cond.code ({ cls := "java/lang/String", name := "<init>", desc := "([BB)V" } : Jvm.MethodName) jdk_42_method_151_code (3 : Nat) (Option.none : Option Jvm.ClassFile.FieldType)).before args0 about1 = true := code_word (m := ⟨7, 4⟩) (meth := k7m4) (c := k7c4) (by decide +kernel) rfl rfl rfl (by decide +kernel)
def codes1 : List Jvm.Cond := [Jvm.Cond.code x code maxLocals ret, Jvm.Cond.code ({ cls := "java/lang/String", name := "<init>", desc := "([C)V" } : Jvm.MethodName) jdk_42_method_3_code (2 : Nat) (Option.none : Option Jvm.ClassFile.FieldType), Jvm.Cond.code ({ cls := "java/lang/String", name := "<init>", desc := "([CIILjava/lang/Void;)V" } : Jvm.MethodName) jdk_42_method_149_code (6 : Nat) (Option.none : Option Jvm.ClassFile.FieldType), Jvm.Cond.code ({ cls := "java/lang/Object", name := "<init>", desc := "()V" } : Jvm.MethodName) object_method_1_code (1 : Nat) (Option.none : Option Jvm.ClassFile.FieldType), Jvm.Cond.code ({ cls := "java/lang/StringUTF16", name := "compress", desc := "([CII)[B" } : Jvm.MethodName) jdk_52_method_16_code (6 : Nat) (Option.some (Jvm.ClassFile.FieldType.array Jvm.ClassFile.FieldType.byte)), Jvm.Cond.code ({ cls := "java/lang/StringUTF16", name := "compress", desc := "([CI[BII)I" } : Jvm.MethodName) jdk_52_method_21_code (7 : Nat) (Option.some Jvm.ClassFile.FieldType.int), Jvm.Cond.code ({ cls := "java/lang/StringUTF16", name := "coderFromArrayLen", desc := "([BI)B" } : Jvm.MethodName) jdk_52_method_15_code (2 : Nat) (Option.some Jvm.ClassFile.FieldType.byte), Jvm.Cond.code ({ cls := "java/lang/Integer", name := "valueOf", desc := "(I)Ljava/lang/Integer;" } : Jvm.MethodName) jdk_33_method_22_code (1 : Nat) (Option.some (Jvm.ClassFile.FieldType.object "java/lang/Integer")), Jvm.Cond.code ({ cls := "com/example/rowset/rowset/model/SqlValue", name := "valueOf", desc := "(Ljava/lang/Object;)Ljava/lang/Object;" } : Jvm.MethodName) prog_43_method_3_code (2 : Nat) (Option.some (Jvm.ClassFile.FieldType.object "java/lang/Object")), Jvm.Cond.code ({ cls := "com/example/rowset/rowset/model/SqlValue", name := "of", desc := "(Ljava/lang/Object;)Lcom/example/rowset/rowset/model/SqlValue;" } : Jvm.MethodName) prog_43_method_2_code (3 : Nat) (Option.some (Jvm.ClassFile.FieldType.object "com/example/rowset/rowset/model/SqlValue")), Jvm.Cond.code ({ cls := "com/example/rowset/rowset/model/SqlValue", name := "value", desc := "()Ljava/lang/Object;" } : Jvm.MethodName) prog_43_method_5_code (1 : Nat) (Option.some (Jvm.ClassFile.FieldType.object "java/lang/Object")), Jvm.Cond.code ({ cls := "com/example/rowset/rowset/model/SqlValue", name := "<init>", desc := "(Ljava/lang/Object;Ljava/lang/String;)V" } : Jvm.MethodName) prog_43_method_1_code (3 : Nat) (Option.none : Option Jvm.ClassFile.FieldType), Jvm.Cond.code ({ cls := "java/lang/Integer", name := "<init>", desc := "(I)V" } : Jvm.MethodName) jdk_33_method_23_code (2 : Nat) (Option.none : Option Jvm.ClassFile.FieldType), Jvm.Cond.code ({ cls := "java/lang/Number", name := "<init>", desc := "()V" } : Jvm.MethodName) jdk_18_method_1_code (1 : Nat) (Option.none : Option Jvm.ClassFile.FieldType), Jvm.Cond.code ({ cls := "java/lang/String", name := "toString", desc := "()Ljava/lang/String;" } : Jvm.MethodName) jdk_42_method_126_code (1 : Nat) (Option.some (Jvm.ClassFile.FieldType.object "java/lang/String")), Jvm.Cond.code ({ cls := "java/lang/Integer", name := "toString", desc := "()Ljava/lang/String;" } : Jvm.MethodName) jdk_33_method_31_code (1 : Nat) (Option.some (Jvm.ClassFile.FieldType.object "java/lang/String")), Jvm.Cond.code ({ cls := "java/lang/Integer", name := "toString", desc := "(I)Ljava/lang/String;" } : Jvm.MethodName) jdk_33_method_10_code (3 : Nat) (Option.some (Jvm.ClassFile.FieldType.object "java/lang/String")), Jvm.Cond.code ({ cls := "java/lang/Integer", name := "stringSize", desc := "(I)I" } : Jvm.MethodName) jdk_33_method_13_code (4 : Nat) (Option.some Jvm.ClassFile.FieldType.int), Jvm.Cond.code ({ cls := "java/lang/Integer", name := "getChars", desc := "(II[B)I" } : Jvm.MethodName) jdk_33_method_12_code (7 : Nat) (Option.some Jvm.ClassFile.FieldType.int), Jvm.Cond.code ({ cls := "java/lang/String", name := "<init>", desc := "([BB)V" } : Jvm.MethodName) jdk_42_method_151_code (3 : Nat) (Option.none : Option Jvm.ClassFile.FieldType)]
set_option maxRecDepth 65536 in
theorem codes_eq : words1.filter isCode = codes1 := rfl
theorem w_codes : ∀ c ∈ words1.filter isCode, c.before args0 about1 = true := by
  rw [codes_eq]
  intro c hc
  simp only [codes1, List.mem_cons, List.not_mem_nil, or_false] at hc
  rcases hc with rfl | rfl | rfl | rfl | rfl | rfl | rfl | rfl | rfl | rfl | rfl | rfl | rfl | rfl | rfl | rfl | rfl | rfl | rfl | rfl
  · exact w_c0
  · exact w_c1
  · exact w_c2
  · exact w_c3
  · exact w_c4
  · exact w_c5
  · exact w_c6
  · exact w_c7
  · exact w_c8
  · exact w_c9
  · exact w_c10
  · exact w_c11
  · exact w_c12
  · exact w_c13
  · exact w_c14
  · exact w_c15
  · exact w_c16
  · exact w_c17
  · exact w_c18
  · exact w_c19
set_option maxRecDepth 65536 in
theorem w_t1 : (words1.take 24).all (fun c => isCode c || c.before args0 about1) = true := by decide +kernel
set_option maxRecDepth 65536 in
theorem w_t2 : ((words1.drop 24).take 24).all (fun c => isCode c || c.before args0 about1) = true := by decide +kernel
set_option maxRecDepth 65536 in
theorem w_t3 : (((words1.drop 24).drop 24).take 24).all (fun c => isCode c || c.before args0 about1) = true := by decide +kernel
set_option maxRecDepth 65536 in
theorem w_t4 : ((((words1.drop 24).drop 24).drop 24).take 24).all (fun c => isCode c || c.before args0 about1) = true := by decide +kernel
set_option maxRecDepth 65536 in
theorem w_t5 : ((((words1.drop 24).drop 24).drop 24).drop 24).all (fun c => isCode c || c.before args0 about1) = true := by decide +kernel
theorem w_tables : (allAtoms (Jvm.Cond.code x code maxLocals ret :: tables_1)).before args0 about1 = true := by
  rw [allAtoms_all]
  show words1.all (fun c => c.before args0 about1) = true
  refine all_split ?_ w_codes
  rw [← List.take_append_drop 24 words1, List.all_append, w_t1, ← List.take_append_drop 24 (words1.drop 24), List.all_append, w_t2, ← List.take_append_drop 24 ((words1.drop 24).drop 24), List.all_append, w_t3, ← List.take_append_drop 24 (((words1.drop 24).drop 24).drop 24), List.all_append, w_t4, w_t5]
  rfl
set_option maxRecDepth 65536 in
theorem w_rest : rest_1_c.before args0 about1 = true := by decide +kernel
set_option maxRecDepth 65536 in
theorem w_case : (Jvm.Cond.and given_1 narrow_1).before args0 about1 = true := by decide +kernel
theorem w_applies : (headSpec (Jvm.Cond.code x code maxLocals ret :: tables_1) room_1).applies x e0.platform about1 = true :=
  (Spec.applies_iff w_frames).mpr ⟨w_running, w_runnable, w_alone, w_named, w_hears, w_ripe, w_room, w_tables⟩
theorem atStart : AtStart classFile x code maxLocals ret World_1 tables_1 room_1 Calls_1 rest_1 Pre_1 launch0 p0 e0 about1 theMethod args0 below0 :=
  ⟨lists_1, trivial, launch0.admits_env _ _ _, launch0.least_env, fairChoices_fair.cas, fairChoices_fair.clock, w_frames, w_args, w_heap, w_applies, trivial, w_rest, w_case⟩
end start1
theorem witness_1 : WitnessClaimed_1 := ⟨start1.p0, start1.e0, start1.about1, start1.theMethod, start1.args0, start1.below0, start1.atStart⟩
end Jvm.Pilot.@@N@@
