import JvmDerived
import JvmDerived.Pilot.@@N@@Statement
import JvmDerived.Pilot.@@N@@Code
set_option linter.unusedVariables false
set_option linter.unusedSimpArgs false
@@BLOCK:NumsL.lean.txt@@
/- laws to paste: Road.backV, Road.eqW, Road.codOf (cut by pick.py; bodies as the Statement names them) -/
namespace Jvm.Pilot.@@N@@
namespace StrChars
open Jvm Sem ClassFile Op Lib Jvm.Stand Jvm.Free.XT Jvm.Free.ALB Jvm.Free.JM Jvm.Free
open Jvm.Lib.Cold (StaticIs)
/-- a char array whose places are chars -/
def Ch (a : Addr) (A : Cell) (U : State) : Prop := Arr .char a A U ∧ Typed .char A
theorem Ch.mv {a : Addr} {A : Cell} {U U' : State} (h : Ch a A U) (hal : U.vm.Alike U'.vm) (hh : U'.heap = U.heap) : Ch a A U' := ⟨h.1.mv hal hh, h.2⟩
theorem Ch.keep {a : Addr} {A : Cell} {U U' : State} (h : Ch a A U) (hal : U.vm.Alike U'.vm) (hk : U'.heap[a]? = some A) : Ch a A U' := ⟨h.1.keep hal hk, h.2⟩
/-- what place i of a char[]'s cell holds -/
def cv (A : Cell) (i : Nat) : Int32 := match A.slots[i]? with | some (.int x) => x | _ => 0
theorem Ch.get {a : Addr} {A : Cell} {U : State} (h : Ch a A U) {i : Nat} (hi : i < A.slots.size) : A.slots[i]? = some (.int (cv A i)) := by
  have e := Array.getElem?_eq_getElem hi
  have f := h.2 i _ e
  unfold cv; rw [e]
  generalize A.slots[i] = v at f
  cases v <;> simp [fits] at f ⊢
/-- the byte that i2b leaves of a char -/
def lo8 (x : Int32) : Int32 := x.toInt8.toInt32
theorem fits_lo8 (y : Int32) : fits .byte (.int (lo8 y)) = true := by
  have h1 := y.toInt8.le_toInt
  have h2 := y.toInt8.toInt_lt
  simp only [lo8, fits, Bool.and_eq_true, decide_eq_true_eq, Int32.le_iff_toInt_le, Int8.toInt_toInt32, show (-128 : Int32).toInt = -128 from by decide, show (127 : Int32).toInt = 127 from by decide]
  omega
/-- A' is A but that each place j of lo .. hi - 1 holds f j -/
def Laid (A A' : Cell) (lo hi : Nat) (f : Nat → Value) : Prop := A'.cls = A.cls ∧ A'.vm = A.vm ∧ A'.slots.size = A.slots.size ∧ ∀ i, A'.slots[i]? = if lo ≤ i ∧ i < hi then some (f i) else A.slots[i]?
theorem Laid.zero (A : Cell) (lo : Nat) (f : Nat → Value) : Laid A A lo (lo + 0) f := ⟨rfl, rfl, rfl, fun i => by rw [if_neg (by omega)]⟩
theorem Laid.step {A Ak : Cell} {lo k : Nat} {f : Nat → Value} {v : Value} (h : Laid A Ak lo k f) (hlo : lo ≤ k) (hk : k < Ak.slots.size) (hv : v = f k) : Laid A (Ak.setSlot k v) lo (k + 1) f := by
  refine ⟨h.1, h.2.1, by simpa [Cell.setSlot] using h.2.2.1, fun i => ?_⟩
  by_cases e : k = i
  · subst e; rw [Cell.slots_setSlot_self v hk, if_pos (by omega), hv]
  · rw [Cell.slots_setSlot_ne v e, h.2.2.2 i]
    by_cases q : lo ≤ i ∧ i < k
    · rw [if_pos q, if_pos (by omega)]
    · rw [if_neg q, if_neg (by omega)]
def U16 : String := "java/lang/StringUTF16"
namespace Cmp5
def yN : MethodName := ⟨"java/lang/StringUTF16", "compress", "([CI[BII)I"⟩
abbrev yB : ByteArray := jdk_52_method_21_code
theorem d0 : decode yB 0 = .ok (.iconst 0, 1) := by decide +kernel
theorem d1 : decode yB 1 = .ok (.istore 5, 2) := by decide +kernel
theorem d3 : decode yB 3 = .ok (.iload 5, 2) := by decide +kernel
theorem d5 : decode yB 5 = .ok (.iload 4, 2) := by decide +kernel
theorem d7 : decode yB 7 = .ok (.if_icmp (.ge) 37, 3) := by decide +kernel
theorem d10 : decode yB 10 = .ok (.aload_n 0, 1) := by decide +kernel
theorem d11 : decode yB 11 = .ok (.iload_n 1, 1) := by decide +kernel
theorem d12 : decode yB 12 = .ok (.caload, 1) := by decide +kernel
theorem d13 : decode yB 13 = .ok (.istore 6, 2) := by decide +kernel
theorem d15 : decode yB 15 = .ok (.iload 6, 2) := by decide +kernel
theorem d17 : decode yB 17 = .ok (.sipush 255, 3) := by decide +kernel
theorem d20 : decode yB 20 = .ok (.if_icmp (.le) 6, 3) := by decide +kernel
theorem d26 : decode yB 26 = .ok (.aload_n 2, 1) := by decide +kernel
theorem d27 : decode yB 27 = .ok (.iload_n 3, 1) := by decide +kernel
theorem d28 : decode yB 28 = .ok (.iload 6, 2) := by decide +kernel
theorem d30 : decode yB 30 = .ok (.i2b, 1) := by decide +kernel
theorem d31 : decode yB 31 = .ok (.bastore, 1) := by decide +kernel
theorem d32 : decode yB 32 = .ok (.iinc 1 1, 3) := by decide +kernel
theorem d35 : decode yB 35 = .ok (.iinc 3 1, 3) := by decide +kernel
theorem d38 : decode yB 38 = .ok (.iinc 5 1, 3) := by decide +kernel
theorem d41 : decode yB 41 = .ok (.goto (-38), 3) := by decide +kernel
theorem d44 : decode yB 44 = .ok (.iload 4, 2) := by decide +kernel
theorem d46 : decode yB 46 = .ok (.ireturn, 1) := by decide +kernel
def site : List Cond := []
def tab : Cond := tabOf yN yB 7 (some .int) site
def P (b : Addr) (A : Cell) (d : Addr) (B : Cell) (o q len : Nat) (args : Array Value) (s : State) : Prop := args = #[.ref b, .int (Int32.ofNat o), .ref d, .int (Int32.ofNat q), .int (Int32.ofNat len)] ∧ Ch b A s ∧ Arr .byte d B s ∧ b ≠ d ∧ o + len ≤ A.slots.size ∧ q + len ≤ B.slots.size ∧ ∀ i, i < len → ¬ 255 < cv A (o + i)
def E (b : Addr) (A : Cell) (d : Addr) (B : Cell) (o q len : Nat) (r : Option Value) (s u : State) : Prop := r = some (.int (Int32.ofNat len)) ∧ ∃ B', Put d B' s u ∧ Laid B B' q (q + len) (fun j => Value.int (lo8 (cv A (o + (j - q)))))
/-- no char of the range above 255: len; the places written hold each char's low byte -/
theorem law (l : Launch) (b : Addr) (A : Cell) (d : Addr) (B : Cell) (o q len : Nat) : Law l yN 5 5 0 0 yB 7 (some .int) site (P b A d B o q len) (E b A d B o q len) (copyLocs d q len) 0 0 := by
  refine Law.of_walk (plainFor_of_name (by decide +kernel)) (by decide +kernel) (by decide +kernel) (by decide) (fun _ _ h => by rw [h.1]; rfl) (fun _ U U' hal hh h => ⟨h.1, h.2.1.mv hal hh, h.2.2.1.mv hal hh, h.2.2.2⟩) (fun r U U' V V' h1 hal h2 h => ⟨h.1, h.2.elim fun B' q => ⟨B', q.1.mv h1 h2, q.2⟩⟩) ?_
  intro p e s m args below meth c s₁ X0 hexec hbytes hml hret hlk hnm hown hh0 W hP
  obtain ⟨rfl, hA, hB, hne, l1, l2, hp⟩ := hP
  have c1 : Steps p.tables e below (s₁.setTop (entryFrame m #[.ref b, .int (Int32.ofNat o), .ref d, .int (Int32.ofNat q), .int (Int32.ofNat len)] 7)) (s₁.setTop (mkF m 0 #[.val (.ref b), .val (.int (Int32.ofNat o)), .val (.ref d), .val (.int (Int32.ofNat q)), .val (.int (Int32.ofNat len)), .unset, .unset] [])) := entry rfl
  have hA0 := hA.1.mv X0.warmed.alike hh0
  have hB0 := hB.mv X0.warmed.alike hh0
  have a31 := hA.1.2.2.2
  have c2 : Steps p.tables e below (s₁.setTop (entryFrame m #[.ref b, .int (Int32.ofNat o), .ref d, .int (Int32.ofNat q), .int (Int32.ofNat len)] 7)) (s₁.setTop (mkF m 3 #[.val (.ref b), .val (.int (Int32.ofNat o)), .val (.ref d), .val (.int (Int32.ofNat q)), .val (.int (Int32.ofNat len)), .val (.int 0), .unset] [])) := c1.trans (by
    refine iconstV X0.here hexec rfl 0 (hb hbytes d0) (by decide) ?_
    refine XS.istore X0.here hexec rfl (hb hbytes d1) rfl rfl ?_
    exact Steps.refl _)
  have loop : ∀ (r i : Nat), i + r = len → ∀ (z : Slot), (z = .unset ∨ ∃ w, z = .val w ∧ w.category = 1) → ∀ (Tl : State) (Bk : Cell), Stand p l e { frames := 0, locals := 0, cells := 0, slots := 0 } s m #[.ref b, .int (Int32.ofNat o), .ref d, .int (Int32.ofNat q), .int (Int32.ofNat len)] below meth c Tl ([] ++ copyLocs d q i) 0 0 → Put d Bk s₁ Tl → Laid B Bk q (q + i) (fun j => Value.int (lo8 (cv A (o + (j - q))))) →
      Steps p.tables e below (s₁.setTop (entryFrame m #[.ref b, .int (Int32.ofNat o), .ref d, .int (Int32.ofNat q), .int (Int32.ofNat len)] 7)) (Tl.setTop (mkF m 3 #[.val (.ref b), .val (.int (Int32.ofNat (o + i))), .val (.ref d), .val (.int (Int32.ofNat (q + i))), .val (.int (Int32.ofNat len)), .val (.int (Int32.ofNat i)), z] [])) → ∃ (T' : State) (B' : Cell) (z' : Slot), Stand p l e { frames := 0, locals := 0, cells := 0, slots := 0 } s m #[.ref b, .int (Int32.ofNat o), .ref d, .int (Int32.ofNat q), .int (Int32.ofNat len)] below meth c T' ([] ++ copyLocs d q len) 0 0 ∧ Put d B' s₁ T' ∧ Laid B B' q (q + len) (fun j => Value.int (lo8 (cv A (o + (j - q))))) ∧
      Steps p.tables e below (s₁.setTop (entryFrame m #[.ref b, .int (Int32.ofNat o), .ref d, .int (Int32.ofNat q), .int (Int32.ofNat len)] 7)) (T'.setTop (mkF m 3 #[.val (.ref b), .val (.int (Int32.ofNat (o + len))), .val (.ref d), .val (.int (Int32.ofNat (q + len))), .val (.int (Int32.ofNat len)), .val (.int (Int32.ofNat len)), z'] [])) := by
    intro r
    induction r with
    | zero =>
      intro i hi z hz Tl Bk Xl pl fl cl
      have hil : i = len := by omega
      rw [hil] at Xl fl cl
      exact ⟨Tl, Bk, z, Xl, pl, fl, cl⟩
    | succ r ih =>
      intro i hi z hz Tl Bk Xl pl fl cl
      have all := X0.warmed.alike.symm.trans Xl.warmed.alike
      have hAl := hA0.keep all (pl.other hne hA0.1)
      have hBk := hB0.like all pl.1 fl.1 fl.2.1 fl.2.2.1
      have hlt : q + i < Bk.slots.size := by rw [fl.2.2.1]; omega
      have c3 : Steps p.tables e below (s₁.setTop (entryFrame m #[.ref b, .int (Int32.ofNat o), .ref d, .int (Int32.ofNat q), .int (Int32.ofNat len)] 7)) (Tl.setTop (mkF m 12 #[.val (.ref b), .val (.int (Int32.ofNat (o + i))), .val (.ref d), .val (.int (Int32.ofNat (q + i))), .val (.int (Int32.ofNat len)), .val (.int (Int32.ofNat i)), z] [.int (Int32.ofNat (o + i)), .ref b])) := cl.trans (by
        refine XS.iload Xl.here hexec rfl (hb hbytes d3) rfl ?_
        refine XS.iload Xl.here hexec rfl (hb hbytes d5) rfl ?_
        refine XS.icmpNo Xl.here hexec rfl (hb hbytes d7) rfl (ii_ge_f (lt32 (by omega) (by omega))) ?_
        refine XS.aloadN Xl.here hexec rfl (hb hbytes d10) rfl rfl ?_
        refine XS.iloadN Xl.here hexec rfl (hb hbytes d11) rfl ?_
        exact Steps.refl _)
      have c4 : Steps p.tables e below (s₁.setTop (entryFrame m #[.ref b, .int (Int32.ofNat o), .ref d, .int (Int32.ofNat q), .int (Int32.ofNat len)] 7)) (Tl.setTop (mkF m 13 #[.val (.ref b), .val (.int (Int32.ofNat (o + i))), .val (.ref d), .val (.int (Int32.ofNat (q + i))), .val (.int (Int32.ofNat len)), .val (.int (Int32.ofNat i)), z] [.int (cv A (o + i))])) := c3.trans (by
        refine Xl.aget hexec hAl rfl (hA.get (i := o + i) (by omega)) rfl rfl (hb hbytes d12) ?_
        exact Steps.refl _)
      have c5 : Steps p.tables e below (s₁.setTop (entryFrame m #[.ref b, .int (Int32.ofNat o), .ref d, .int (Int32.ofNat q), .int (Int32.ofNat len)] 7)) (Tl.setTop (mkF m 15 #[.val (.ref b), .val (.int (Int32.ofNat (o + i))), .val (.ref d), .val (.int (Int32.ofNat (q + i))), .val (.int (Int32.ofNat len)), .val (.int (Int32.ofNat i)), .val (.int (cv A (o + i)))] [])) := c4.trans (by
        refine XS.istoreS Xl.here hexec rfl (hb hbytes d13) rfl rfl hz ?_
        exact Steps.refl _)
      have c6 : Steps p.tables e below (s₁.setTop (entryFrame m #[.ref b, .int (Int32.ofNat o), .ref d, .int (Int32.ofNat q), .int (Int32.ofNat len)] 7)) (Tl.setTop (mkF m 31 #[.val (.ref b), .val (.int (Int32.ofNat (o + i))), .val (.ref d), .val (.int (Int32.ofNat (q + i))), .val (.int (Int32.ofNat len)), .val (.int (Int32.ofNat i)), .val (.int (cv A (o + i)))] [.int (lo8 (cv A (o + i))), .int (Int32.ofNat (q + i)), .ref d])) := c5.trans (by
        refine XS.iload Xl.here hexec rfl (hb hbytes d15) rfl ?_
        refine sipushV Xl.here hexec rfl 255 (hb hbytes d17) (by decide) ?_
        refine XS.icmpYes Xl.here hexec rfl (pc0 := 20) rfl (hb hbytes d20) rfl (ii_le_t (hp i (by omega))) (by decide) rfl ?_
        refine XS.aloadN Xl.here hexec rfl (hb hbytes d26) rfl rfl ?_
        refine XS.iloadN Xl.here hexec rfl (hb hbytes d27) rfl ?_
        refine XS.iload Xl.here hexec rfl (hb hbytes d28) rfl ?_
        refine i2b Xl.here hexec rfl (hb hbytes d30) rfl ?_
        exact Steps.refl _)
      obtain ⟨T7, X7, p7, st7⟩ := Xl.aput hexec hBk rfl hlt rfl (fits_lo8 (cv A (o + i))) (g := (mkF m 31 #[.val (.ref b), .val (.int (Int32.ofNat (o + i))), .val (.ref d), .val (.int (Int32.ofNat (q + i))), .val (.int (Int32.ofNat len)), .val (.int (Int32.ofNat i)), .val (.int (cv A (o + i)))] [.int (lo8 (cv A (o + i))), .int (Int32.ofNat (q + i)), .ref d])) rfl (rest := []) rfl (hb hbytes d31)
      have c8 : Steps p.tables e below (s₁.setTop (entryFrame m #[.ref b, .int (Int32.ofNat o), .ref d, .int (Int32.ofNat q), .int (Int32.ofNat len)] 7)) (T7.setTop (mkF m 32 #[.val (.ref b), .val (.int (Int32.ofNat (o + i))), .val (.ref d), .val (.int (Int32.ofNat (q + i))), .val (.int (Int32.ofNat len)), .val (.int (Int32.ofNat i)), .val (.int (cv A (o + i)))] [])) := c6.trans (st7 _ (Steps.refl _))
      have c9 : Steps p.tables e below (s₁.setTop (entryFrame m #[.ref b, .int (Int32.ofNat o), .ref d, .int (Int32.ofNat q), .int (Int32.ofNat len)] 7)) (T7.setTop (mkF m 3 #[.val (.ref b), .val (.int (Int32.ofNat (o + i) + 1)), .val (.ref d), .val (.int (Int32.ofNat (q + i) + 1)), .val (.int (Int32.ofNat len)), .val (.int (Int32.ofNat i + 1)), .val (.int (cv A (o + i)))] [])) := c8.trans (by
        refine iincV X7.here hexec rfl 1 (hb hbytes d32) (by decide) rfl rfl ?_
        refine iincV X7.here hexec rfl 1 (hb hbytes d35) (by decide) rfl rfl ?_
        refine iincV X7.here hexec rfl 1 (hb hbytes d38) (by decide) rfl rfl ?_
        refine XS.goto X7.here hexec rfl (pc0 := 41) rfl (hb hbytes d41) (by decide) rfl ?_
        exact Steps.refl _)
      have c10 : Steps p.tables e below (s₁.setTop (entryFrame m #[.ref b, .int (Int32.ofNat o), .ref d, .int (Int32.ofNat q), .int (Int32.ofNat len)] 7)) (T7.setTop (mkF m 3 #[.val (.ref b), .val (.int (Int32.ofNat (o + (i + 1)))), .val (.ref d), .val (.int (Int32.ofNat (q + (i + 1)))), .val (.int (Int32.ofNat len)), .val (.int (Int32.ofNat (i + 1))), .val (.int (cv A (o + i)))] [])) := by
        have := c9
        rw [succ32, succ32, succ32] at this
        exact this
      exact ih (i + 1) (by omega) _ (Or.inr ⟨_, rfl, rfl⟩) T7 _ (by rw [copyLocs_step, ← List.append_assoc]; exact X7) (pl.trans p7) (fl.step (by omega) hlt (by simp)) c10
  obtain ⟨T9, B9, z9, X9, p9, f9, g9⟩ := loop len 0 (by omega) .unset (Or.inl rfl) s₁ B (by simpa [copyLocs] using X0) ⟨hB0.1, fun _ _ => rfl, rfl⟩ (Laid.zero _ _ _) c2
  have c11 : Steps p.tables e below (s₁.setTop (entryFrame m #[.ref b, .int (Int32.ofNat o), .ref d, .int (Int32.ofNat q), .int (Int32.ofNat len)] 7)) (T9.setTop (mkF m 46 #[.val (.ref b), .val (.int (Int32.ofNat (o + len))), .val (.ref d), .val (.int (Int32.ofNat (q + len))), .val (.int (Int32.ofNat len)), .val (.int (Int32.ofNat len)), z9] [.int (Int32.ofNat len)])) := g9.trans (by
    refine XS.iload X9.here hexec rfl (hb hbytes d3) rfl ?_
    refine XS.iload X9.here hexec rfl (hb hbytes d5) rfl ?_
    refine XS.icmpYes X9.here hexec rfl (pc0 := 7) rfl (hb hbytes d7) rfl (ii_ge_t (nlt32 (by omega) (Nat.le_refl _))) (by decide) rfl ?_
    refine XS.iload X9.here hexec rfl (hb hbytes d44) rfl ?_
    exact Steps.refl _)
  exact ⟨T9, some (.int (Int32.ofNat len)), _, _, _, X9, by simp, rfl, rfl, (fun h => by cases h), ⟨rfl, B9, p9.from hh0, f9⟩, fun fs hl => c11.trans (X9.ireturnOut hexec hret rfl (Or.inl rfl) (hb hbytes d46) hl)⟩
end Cmp5
namespace Cmp3
def yN : MethodName := ⟨"java/lang/StringUTF16", "compress", "([CII)[B"⟩
abbrev yB : ByteArray := jdk_52_method_16_code
theorem d0 : decode yB 0 = .ok (.iload_n 2, 1) := by decide +kernel
theorem d1 : decode yB 1 = .ok (.newarray .byte, 2) := by decide +kernel
theorem d3 : decode yB 3 = .ok (.astore_n 3, 1) := by decide +kernel
theorem d4 : decode yB 4 = .ok (.aload_n 0, 1) := by decide +kernel
theorem d5 : decode yB 5 = .ok (.iload_n 1, 1) := by decide +kernel
theorem d6 : decode yB 6 = .ok (.aload_n 3, 1) := by decide +kernel
theorem d7 : decode yB 7 = .ok (.iconst 0, 1) := by decide +kernel
theorem d8 : decode yB 8 = .ok (.iload_n 2, 1) := by decide +kernel
theorem d9 : decode yB 9 = .ok (.invokestatic 115, 3) := by decide +kernel
theorem d12 : decode yB 12 = .ok (.istore 4, 2) := by decide +kernel
theorem d14 : decode yB 14 = .ok (.iload 4, 2) := by decide +kernel
theorem d16 : decode yB 16 = .ok (.iload_n 2, 1) := by decide +kernel
theorem d17 : decode yB 17 = .ok (.if_icmp (.eq) 40, 3) := by decide +kernel
theorem d57 : decode yB 57 = .ok (.aload_n 3, 1) := by decide +kernel
theorem d58 : decode yB 58 = .ok (.areturn, 1) := by decide +kernel
def site : List Cond := [.arrayClass .byte, Cmp5.tab] ++ staticW U16 115 Cmp5.yN
def tab : Cond := tabOf yN yB 6 (some (.array .byte)) site
def P (b : Addr) (A : Cell) (o len : Nat) (args : Array Value) (s : State) : Prop := args = #[.ref b, .int (Int32.ofNat o), .int (Int32.ofNat len)] ∧ Ch b A s ∧ o + len ≤ A.slots.size ∧ len ≤ 536870912 ∧ ∀ i, i < len → ¬ 255 < cv A (o + i)
def E (b : Addr) (A : Cell) (o len : Nat) (r : Option Value) (s u : State) : Prop := NewArr .byte "[B" len (fun j => .int (lo8 (cv A (o + j)))) r s u ∧ u.heap.size = s.heap.size + 1
/-- no char of the range above 255: a new byte[] of their low bytes -/
theorem law (l : Launch) (b : Addr) (A : Cell) (o len : Nat) : Law l yN 3 3 1 18 yB 6 (some (.array .byte)) site (P b A o len) (E b A o len) [] 1 len := by
  refine Law.of_walk (plainFor_of_name (by decide +kernel)) (by decide +kernel) (by decide +kernel) (by decide) (fun _ _ h => by rw [h.1]; rfl) (fun _ U U' hal hh h => ⟨h.1, h.2.1.mv hal hh, h.2.2⟩) (fun r U U' V V' h1 hal h2 h => ⟨NewArr.mv r U U' V V' h1 hal h2 h.1, by rw [h1, h2]; exact h.2⟩) ?_
  intro p e s m args below meth c s₁ X0 hexec hbytes hml hret hlk hnm hown hh0 W hP
  obtain ⟨rfl, hA, l1, l2, hp⟩ := hP
  have a31 := hA.1.2.2.2
  have c1 : Steps p.tables e below (s₁.setTop (entryFrame m #[.ref b, .int (Int32.ofNat o), .int (Int32.ofNat len)] 6)) (s₁.setTop (mkF m 0 #[.val (.ref b), .val (.int (Int32.ofNat o)), .val (.int (Int32.ofNat len)), .unset, .unset, .unset] [])) := entry rfl
  have c2 : Steps p.tables e below (s₁.setTop (entryFrame m #[.ref b, .int (Int32.ofNat o), .int (Int32.ofNat len)] 6)) (s₁.setTop (mkF m 1 #[.val (.ref b), .val (.int (Int32.ofNat o)), .val (.int (Int32.ofNat len)), .unset, .unset, .unset] [.int (Int32.ofNat len)])) := c1.trans (by
    refine XS.iloadN X0.here hexec rfl (hb hbytes d0) rfl ?_
    exact Steps.refl _)
  obtain ⟨T3, B3, X3, ba3, bs3, bv3, bh3, bf3, st3⟩ := X0.anew hexec (atype := .byte) (wk W (.arrayClass .byte)) rfl (by show len * 1 ≤ _; omega) (by omega) (g := (mkF m 1 #[.val (.ref b), .val (.int (Int32.ofNat o)), .val (.int (Int32.ofNat len)), .unset, .unset, .unset] [.int (Int32.ofNat len)])) rfl (hb hbytes d1) (rest := []) rfl (Nat.le_refl _) (by show 0 + len ≤ len; omega)
  rw [hh0] at ba3 st3
  have kp3 : XT.Kept s T3 := (XT.Kept.of_eq hh0).push bh3
  have hA3 := hA.keep X3.warmed.alike (kp3 _ _ hA.1.1)
  have hne : b ≠ s.heap.size := hA.1.ne
  have c4 : Steps p.tables e below (s₁.setTop (entryFrame m #[.ref b, .int (Int32.ofNat o), .int (Int32.ofNat len)] 6)) (T3.setTop (mkF m 3 #[.val (.ref b), .val (.int (Int32.ofNat o)), .val (.int (Int32.ofNat len)), .unset, .unset, .unset] [.ref s.heap.size])) := c2.trans (st3 _ (Steps.refl _))
  have c5 : Steps p.tables e below (s₁.setTop (entryFrame m #[.ref b, .int (Int32.ofNat o), .int (Int32.ofNat len)] 6)) (T3.setTop (mkF m 9 #[.val (.ref b), .val (.int (Int32.ofNat o)), .val (.int (Int32.ofNat len)), .val (.ref s.heap.size), .unset, .unset] [.int (Int32.ofNat len), .int 0, .ref s.heap.size, .int (Int32.ofNat o), .ref b])) := c4.trans (by
    refine XS.astoreN X3.here hexec rfl (hb hbytes d3) rfl rfl rfl ?_
    refine XS.aloadN X3.here hexec rfl (hb hbytes d4) rfl rfl ?_
    refine XS.iloadN X3.here hexec rfl (hb hbytes d5) rfl ?_
    refine XS.aloadN X3.here hexec rfl (hb hbytes d6) rfl rfl ?_
    refine iconstV X3.here hexec rfl 0 (hb hbytes d7) (by decide) ?_
    refine XS.iloadN X3.here hexec rfl (hb hbytes d8) rfl ?_
    exact Steps.refl _)
  obtain ⟨v6, T6, X6, E6, g6⟩ := X3.callS hexec (Cmp5.law l b A s.heap.size B3 o 0 len) hown (wks W (staticW U16 115 Cmp5.yN)) (wk W Cmp5.tab) (W := 0) (Nat.le_of_ble_eq_true rfl) (Nat.le_of_ble_eq_true rfl) (Nat.le_refl _) (by show 0 + len + 0 ≤ len; omega) (g := (mkF m 9 #[.val (.ref b), .val (.int (Int32.ofNat o)), .val (.int (Int32.ofNat len)), .val (.ref s.heap.size), .unset, .unset] [.int (Int32.ofNat len), .int (Int32.ofNat 0), .ref s.heap.size, .int (Int32.ofNat o), .ref b])) rfl (by rw [hml]; rfl) c5 (argsL := [.ref b, .int (Int32.ofNat o), .ref s.heap.size, .int (Int32.ofNat 0), .int (Int32.ofNat len)]) (rest := []) rfl rfl (by show 2 * 0 + 0 ≤ _; decide) (hb hbytes d9) (⟨rfl, hA3, ba3, hne, l1, by rw [bs3]; simp, hp⟩)
  obtain ⟨rfl, B6, p6, f6⟩ := E6
  have c7 : Steps p.tables e below (s₁.setTop (entryFrame m #[.ref b, .int (Int32.ofNat o), .int (Int32.ofNat len)] 6)) (T6.setTop (mkF m 12 #[.val (.ref b), .val (.int (Int32.ofNat o)), .val (.int (Int32.ofNat len)), .val (.ref s.heap.size), .unset, .unset] [.int (Int32.ofNat len)])) := g6
  have c8 : Steps p.tables e below (s₁.setTop (entryFrame m #[.ref b, .int (Int32.ofNat o), .int (Int32.ofNat len)] 6)) (T6.setTop (mkF m 58 #[.val (.ref b), .val (.int (Int32.ofNat o)), .val (.int (Int32.ofNat len)), .val (.ref s.heap.size), .val (.int (Int32.ofNat len)), .unset] [.ref s.heap.size])) := c7.trans (by
    refine XS.istore X6.here hexec rfl (hb hbytes d12) rfl rfl ?_
    refine XS.iload X6.here hexec rfl (hb hbytes d14) rfl ?_
    refine XS.iloadN X6.here hexec rfl (hb hbytes d16) rfl ?_
    refine XS.icmpYes X6.here hexec rfl (pc0 := 17) rfl (hb hbytes d17) rfl (ii_eq_t rfl) (by decide) rfl ?_
    refine XS.aloadN X6.here hexec rfl (hb hbytes d57) rfl rfl ?_
    exact Steps.refl _)
  have X8 := X6.wide (L' := []) (cells' := 1) (slots' := len) (fun x hx hlt => by
    simp only [List.nil_append, copyLocs, List.mem_map, List.mem_range] at hx
    obtain ⟨i, -, rfl⟩ := hx
    exact absurd hlt (Nat.lt_irrefl _)) (Nat.le_refl _) (by omega)
  exact ⟨T6, some (.ref s.heap.size), _, _, _, X8, rfl, rfl, rfl, (fun h => by cases h), ⟨⟨rfl, B6, ba3.like (X3.warmed.alike.symm.trans X6.warmed.alike) p6.1 f6.1 f6.2.1 f6.2.2.1, f6.2.1.trans bv3, by rw [X6.warmed.alike.findClass, f6.1]; exact bf3, by rw [f6.2.2.1, bs3]; simp, fun j hj => by rw [f6.2.2.2 j, if_pos (by omega)]; rfl, kp3.put p6 (Nat.le_refl _)⟩, by rw [p6.2.2, bh3, hh0]; simp⟩, fun fs hl => c8.trans (X8.areturnOut hexec rfl hret rfl (hb hbytes d58) hl)⟩
end Cmp3
namespace CodL
def yN : MethodName := ⟨"java/lang/StringUTF16", "coderFromArrayLen", "([BI)B"⟩
abbrev yB : ByteArray := jdk_52_method_15_code
theorem d0 : decode yB 0 = .ok (.iload_n 1, 1) := by decide +kernel
theorem d1 : decode yB 1 = .ok (.aload_n 0, 1) := by decide +kernel
theorem d2 : decode yB 2 = .ok (.arraylength, 1) := by decide +kernel
theorem d3 : decode yB 3 = .ok (.isub, 1) := by decide +kernel
theorem d4 : decode yB 4 = .ok (.bipush 31, 2) := by decide +kernel
theorem d6 : decode yB 6 = .ok (.iushr, 1) := by decide +kernel
theorem d7 : decode yB 7 = .ok (.i2b, 1) := by decide +kernel
theorem d8 : decode yB 8 = .ok (.ireturn, 1) := by decide +kernel
def site : List Cond := []
def tab : Cond := tabOf yN yB 2 (some .byte) site
def P (d : Addr) (B : Cell) (args : Array Value) (s : State) : Prop := args = #[.ref d, .int (Int32.ofNat B.slots.size)] ∧ Arr .byte d B s
def E (r : Option Value) (s u : State) : Prop := XT.PureE (some (.int 0)) r s u
/-- an array as long as the number of chars: LATIN1 -/
theorem law (l : Launch) (d : Addr) (B : Cell) : Law l yN 2 2 0 0 yB 2 (some .byte) site (P d B) E [] 0 0 := by
  refine Law.of_walk (plainFor_of_name (by decide +kernel)) (by decide +kernel) (by decide +kernel) (by decide) (fun _ _ h => by rw [h.1]; rfl) (fun _ U U' hal hh h => ⟨h.1, h.2.mv hal hh⟩) (fun r U U' V V' h1 hal h2 h => XT.PureE.mv r U U' V V' h1 hal h2 h) ?_
  intro p e s m args below meth c s₁ X0 hexec hbytes hml hret hlk hnm hown hh0 W hP
  obtain ⟨rfl, hB⟩ := hP
  have hB0 := hB.mv X0.warmed.alike hh0
  have c1 : Steps p.tables e below (s₁.setTop (entryFrame m #[.ref d, .int (Int32.ofNat B.slots.size)] 2)) (s₁.setTop (mkF m 0 #[.val (.ref d), .val (.int (Int32.ofNat B.slots.size))] [])) := entry rfl
  have c2 : Steps p.tables e below (s₁.setTop (entryFrame m #[.ref d, .int (Int32.ofNat B.slots.size)] 2)) (s₁.setTop (mkF m 2 #[.val (.ref d), .val (.int (Int32.ofNat B.slots.size))] [.ref d, .int (Int32.ofNat B.slots.size)])) := c1.trans (by
    refine XS.iloadN X0.here hexec rfl (hb hbytes d0) rfl ?_
    refine XS.aloadN X0.here hexec rfl (hb hbytes d1) rfl rfl ?_
    exact Steps.refl _)
  have c3 : Steps p.tables e below (s₁.setTop (entryFrame m #[.ref d, .int (Int32.ofNat B.slots.size)] 2)) (s₁.setTop (mkF m 8 #[.val (.ref d), .val (.int (Int32.ofNat B.slots.size))] [.int (lo8 (ushr (Int32.ofNat B.slots.size - Int32.ofNat B.slots.size) 31))])) := c2.trans (by
    refine X0.alen hexec hB0 rfl rfl (hb hbytes d2) ?_
    refine XS.isub X0.here hexec rfl (hb hbytes d3) rfl ?_
    refine bipushV X0.here hexec rfl 31 (hb hbytes d4) (by decide) ?_
    refine iushr X0.here hexec rfl (hb hbytes d6) rfl ?_
    refine i2b X0.here hexec rfl (hb hbytes d7) rfl ?_
    exact Steps.refl _)
  have e0 : lo8 (ushr (Int32.ofNat B.slots.size - Int32.ofNat B.slots.size) 31) = 0 := by rw [Int32.sub_self]; decide
  rw [e0] at c3
  exact ⟨s₁, some (.int 0), _, _, _, X0, rfl, rfl, rfl, (fun h => by cases h), ⟨rfl, hh0⟩, fun fs hl => c3.trans (X0.ireturnOut hexec hret rfl (Or.inr (Or.inr (Or.inl rfl))) (hb hbytes d8) hl)⟩
end CodL
/-- the String at a is Latin-1 over a new byte[] (the heap's one new cell): the low bytes of the len chars of A from o on; every cell but a is kept -/
def Got (a : Addr) (D : Cell) (fV fC : Field) (A : Cell) (o len : Nat) (r : Option Value) (s u : State) : Prop := r = none ∧ ∃ D' V : Cell, Blank "java/lang/String" a D' u ∧ Same D D' [fV.slot, fC.slot] ∧ D'.slots[fV.slot]? = some (.ref s.heap.size) ∧ D'.slots[fC.slot]? = some (.int 0) ∧ Arr .byte s.heap.size V u ∧ V.vm = .none ∧ u.vm.findClass "[B" = some V.cls ∧ V.slots.size = len ∧ (∀ j, j < len → V.slots[j]? = some (.int (lo8 (cv A (o + j))))) ∧ (∀ (y : Addr) (c : Cell), y ≠ a → s.heap[y]? = some c → u.heap[y]? = some c) ∧ u.heap.size = s.heap.size + 1
theorem Got.mv {a : Addr} {D A : Cell} {fV fC : Field} {o len : Nat} : ∀ r (U U' V V' : State), U'.heap = U.heap → V.vm.Alike V'.vm → V'.heap = V.heap → Got a D fV fC A o len r U V → Got a D fV fC A o len r U' V' :=
  fun r U U' V V' h1 hal h2 ⟨e0, D', X, a1, a2, a3, a4, a5, a6, a7, a8, a9, a10, a11⟩ => ⟨e0, D', X, a1.mv hal h2, a2, by rw [h1]; exact a3, a4, by rw [h1]; exact a5.mv hal h2, a6, by rw [hal.findClass]; exact a7, a8, a9, by rw [h1, h2]; exact a10, by rw [h1, h2]; exact a11⟩
namespace New4
def yN : MethodName := ⟨"java/lang/String", "<init>", "([CIILjava/lang/Void;)V"⟩
abbrev yB : ByteArray := jdk_42_method_149_code
theorem d0 : decode yB 0 = .ok (.aload_n 0, 1) := by decide +kernel
theorem d1 : decode yB 1 = .ok (.invokespecial 1, 3) := by decide +kernel
theorem d4 : decode yB 4 = .ok (.iload_n 3, 1) := by decide +kernel
theorem d5 : decode yB 5 = .ok (.ifCond (.ne) 22, 3) := by decide +kernel
theorem d27 : decode yB 27 = .ok (.getstatic 38, 3) := by decide +kernel
theorem d30 : decode yB 30 = .ok (.ifCond (.eq) 28, 3) := by decide +kernel
theorem d33 : decode yB 33 = .ok (.aload_n 1, 1) := by decide +kernel
theorem d34 : decode yB 34 = .ok (.iload_n 2, 1) := by decide +kernel
theorem d35 : decode yB 35 = .ok (.iload_n 3, 1) := by decide +kernel
theorem d36 : decode yB 36 = .ok (.invokestatic 177, 3) := by decide +kernel
theorem d39 : decode yB 39 = .ok (.astore 5, 2) := by decide +kernel
theorem d41 : decode yB 41 = .ok (.aload_n 0, 1) := by decide +kernel
theorem d42 : decode yB 42 = .ok (.aload 5, 2) := by decide +kernel
theorem d44 : decode yB 44 = .ok (.iload_n 3, 1) := by decide +kernel
theorem d45 : decode yB 45 = .ok (.invokestatic 47, 3) := by decide +kernel
theorem d48 : decode yB 48 = .ok (.putfield 15, 3) := by decide +kernel
theorem d51 : decode yB 51 = .ok (.aload_n 0, 1) := by decide +kernel
theorem d52 : decode yB 52 = .ok (.aload 5, 2) := by decide +kernel
theorem d54 : decode yB 54 = .ok (.putfield 9, 3) := by decide +kernel
theorem d57 : decode yB 57 = .ok (.return_, 1) := by decide +kernel
def site : List Cond := [.fieldLink "java/lang/String" 38 "java/lang/String" "COMPACT_STRINGS" "Z", Cmp3.tab, CodL.tab, .laysFinal "java/lang/String" "java/lang/String" "value" "[B", .fieldLink "java/lang/String" 9 "java/lang/String" "value" "[B", .laysFinal "java/lang/String" "java/lang/String" "coder" "B", .fieldLink "java/lang/String" 15 "java/lang/String" "coder" "B"] ++ objW "java/lang/String" 1 ++ staticW "java/lang/String" 177 Cmp3.yN ++ staticW "java/lang/String" 47 CodL.yN
def tab : Cond := tabOf yN yB 6 none site
def P (a : Addr) (D : Cell) (fV fC : Field) (b : Addr) (A : Cell) (z : Int32) (o len : Nat) (args : Array Value) (s : State) : Prop := args = #[.ref a, .ref b, .int (Int32.ofNat o), .int (Int32.ofNat len), .null] ∧ Blank "java/lang/String" a D s ∧ Found "java/lang/String" "value" "[B" fV s ∧ Found "java/lang/String" "coder" "B" fC s ∧ Ch b A s ∧ StaticIs s "java/lang/String" "COMPACT_STRINGS" "Z" (.int z) ∧ ¬ z = 0 ∧ 0 < len ∧ o + len ≤ A.slots.size ∧ len ≤ 536870912 ∧ ∀ i, i < len → ¬ 255 < cv A (o + i)
def E (a : Addr) (D : Cell) (fV fC : Field) (A : Cell) (o len : Nat) (r : Option Value) (s u : State) : Prop := Got a D fV fC A o len r s u
/-- len > 0, no char of the range above 255: a Latin-1 String of their low bytes -/
theorem law (l : Launch) (a : Addr) (D : Cell) (fV fC : Field) (b : Addr) (A : Cell) (z : Int32) (o len : Nat) : Law l yN 5 4 2 35 yB 6 none site (P a D fV fC b A z o len) (E a D fV fC A o len) [⟨a, fC.slot⟩, ⟨a, fV.slot⟩] 1 len := by
  refine Law.of_walk (plainFor_of_name (by decide +kernel)) (by decide +kernel) (by decide +kernel) (by decide) (fun _ _ h => by rw [h.1]; rfl) (fun _ U U' hal hh h => ⟨h.1, h.2.1.mv hal hh, h.2.2.1.al hal, h.2.2.2.1.al hal, h.2.2.2.2.1.mv hal hh, h.2.2.2.2.2.1.there hal hh, h.2.2.2.2.2.2⟩) (fun r U U' V V' h1 hal h2 h => Got.mv r U U' V V' h1 hal h2 h) ?_
  intro p e s m args below meth c s₁ X0 hexec hbytes hml hret hlk hnm hown hh0 W hP
  obtain ⟨rfl, hB, f1, f2, hA, s1, hz, l0, l1, l2, hp⟩ := hP
  have a31 := hA.1.2.2.2
  have c1 : Steps p.tables e below (s₁.setTop (entryFrame m #[.ref a, .ref b, .int (Int32.ofNat o), .int (Int32.ofNat len), .null] 6)) (s₁.setTop (mkF m 0 #[.val (.ref a), .val (.ref b), .val (.int (Int32.ofNat o)), .val (.int (Int32.ofNat len)), .val .null, .unset] [])) := entry rfl
  have c2 : Steps p.tables e below (s₁.setTop (entryFrame m #[.ref a, .ref b, .int (Int32.ofNat o), .int (Int32.ofNat len), .null] 6)) (s₁.setTop (mkF m 1 #[.val (.ref a), .val (.ref b), .val (.int (Int32.ofNat o)), .val (.int (Int32.ofNat len)), .val .null, .unset] [.ref a])) := c1.trans (by
    refine XS.aloadN X0.here hexec rfl (hb hbytes d0) rfl rfl ?_
    exact Steps.refl _)
  obtain ⟨T3, X3, q3, st3⟩ := X0.oinit hexec hown (wks W (objW "java/lang/String" 1)) (g := (mkF m 1 #[.val (.ref a), .val (.ref b), .val (.int (Int32.ofNat o)), .val (.int (Int32.ofNat len)), .val .null, .unset] [.ref a])) rfl (by rw [hml]; rfl) (rest := []) rfl (hb hbytes d1) (W := 0) (by show 2 * 0 + 0 ≤ _; decide) (Nat.le_of_ble_eq_true rfl) (Nat.le_of_ble_eq_true rfl)
  have hh3 := q3.trans hh0
  have c4 : Steps p.tables e below (s₁.setTop (entryFrame m #[.ref a, .ref b, .int (Int32.ofNat o), .int (Int32.ofNat len), .null] 6)) (T3.setTop (mkF m 27 #[.val (.ref a), .val (.ref b), .val (.int (Int32.ofNat o)), .val (.int (Int32.ofNat len)), .val .null, .unset] [])) := (c2.trans (st3 _ (Steps.refl _))).trans (by
    refine XS.iloadN X3.here hexec rfl (hb hbytes d4) rfl ?_
    refine XS.ifYes X3.here hexec rfl (pc0 := 5) rfl (hb hbytes d5) rfl (i0_ne_t (nz32 (by omega) l0)) (by decide) rfl ?_
    exact Steps.refl _)
  obtain ⟨T5, X5, q5, st5⟩ := X3.sget hexec hown (wk W (.fieldLink "java/lang/String" 38 "java/lang/String" "COMPACT_STRINGS" "Z")) s1 (fun _ _ h => by rw [hh3]; exact h) (g := (mkF m 27 #[.val (.ref a), .val (.ref b), .val (.int (Int32.ofNat o)), .val (.int (Int32.ofNat len)), .val .null, .unset] [])) rfl (hb hbytes d27)
  have hh5 := q5.trans hh3
  have c6 : Steps p.tables e below (s₁.setTop (entryFrame m #[.ref a, .ref b, .int (Int32.ofNat o), .int (Int32.ofNat len), .null] 6)) (T5.setTop (mkF m 30 #[.val (.ref a), .val (.ref b), .val (.int (Int32.ofNat o)), .val (.int (Int32.ofNat len)), .val .null, .unset] [.int z])) := c4.trans (st5 _ (Steps.refl _))
  have c7 : Steps p.tables e below (s₁.setTop (entryFrame m #[.ref a, .ref b, .int (Int32.ofNat o), .int (Int32.ofNat len), .null] 6)) (T5.setTop (mkF m 36 #[.val (.ref a), .val (.ref b), .val (.int (Int32.ofNat o)), .val (.int (Int32.ofNat len)), .val .null, .unset] [.int (Int32.ofNat len), .int (Int32.ofNat o), .ref b])) := c6.trans (by
    refine XS.ifNo X5.here hexec rfl (hb hbytes d30) rfl (i0_eq_f hz) ?_
    refine XS.aloadN X5.here hexec rfl (hb hbytes d33) rfl rfl ?_
    refine XS.iloadN X5.here hexec rfl (hb hbytes d34) rfl ?_
    refine XS.iloadN X5.here hexec rfl (hb hbytes d35) rfl ?_
    exact Steps.refl _)
  obtain ⟨v8, T8, X8, E8, g8⟩ := X5.callS hexec (Cmp3.law l b A o len) hown (wks W (staticW "java/lang/String" 177 Cmp3.yN)) (wk W Cmp3.tab) (W := 0) (Nat.le_of_ble_eq_true rfl) (Nat.le_of_ble_eq_true rfl) (Nat.le_refl _) (by show 0 + len ≤ len; omega) (g := (mkF m 36 #[.val (.ref a), .val (.ref b), .val (.int (Int32.ofNat o)), .val (.int (Int32.ofNat len)), .val .null, .unset] [.int (Int32.ofNat len), .int (Int32.ofNat o), .ref b])) rfl (by rw [hml]; rfl) c7 (argsL := [.ref b, .int (Int32.ofNat o), .int (Int32.ofNat len)]) (rest := []) rfl rfl (by show 2 * 0 + 0 ≤ _; decide) (hb hbytes d36) (⟨rfl, hA.mv X5.warmed.alike hh5, l1, l2, hp⟩)
  obtain ⟨e8, z8⟩ := E8
  obtain ⟨rfl, N, n1, n2, n3, n4, n5, n6⟩ := NewArr.mv _ T5 s _ _ hh5.symm (Vm.Alike.refl _) rfl e8
  rw [hh5] at z8
  have hB1 := hB.keep X8.warmed.alike (n6 _ _ hB.1)
  have hne : s.heap.size ≠ a := (Nat.ne_of_lt (Array.getElem?_eq_some_iff.mp hB.1).1).symm
  have c9 : Steps p.tables e below (s₁.setTop (entryFrame m #[.ref a, .ref b, .int (Int32.ofNat o), .int (Int32.ofNat len), .null] 6)) (T8.setTop (mkF m 39 #[.val (.ref a), .val (.ref b), .val (.int (Int32.ofNat o)), .val (.int (Int32.ofNat len)), .val .null, .unset] [.ref s.heap.size])) := g8
  have c10 : Steps p.tables e below (s₁.setTop (entryFrame m #[.ref a, .ref b, .int (Int32.ofNat o), .int (Int32.ofNat len), .null] 6)) (T8.setTop (mkF m 45 #[.val (.ref a), .val (.ref b), .val (.int (Int32.ofNat o)), .val (.int (Int32.ofNat len)), .val .null, .val (.ref s.heap.size)] [.int (Int32.ofNat N.slots.size), .ref s.heap.size, .ref a])) := by
    have hc : Steps p.tables e below (s₁.setTop (entryFrame m #[.ref a, .ref b, .int (Int32.ofNat o), .int (Int32.ofNat len), .null] 6)) (T8.setTop (mkF m 45 #[.val (.ref a), .val (.ref b), .val (.int (Int32.ofNat o)), .val (.int (Int32.ofNat len)), .val .null, .val (.ref s.heap.size)] [.int (Int32.ofNat len), .ref s.heap.size, .ref a])) := c9.trans (by
      refine XS.astore X8.here hexec rfl (hb hbytes d39) rfl rfl rfl ?_
      refine XS.aloadN X8.here hexec rfl (hb hbytes d41) rfl rfl ?_
      refine XS.aload X8.here hexec rfl (hb hbytes d42) rfl rfl ?_
      refine XS.iloadN X8.here hexec rfl (hb hbytes d44) rfl ?_
      exact Steps.refl _)
    rw [n4]; exact hc
  obtain ⟨v11, T11, X11, E11, g11⟩ := X8.callS hexec (CodL.law l s.heap.size N) hown (wks W (staticW "java/lang/String" 47 CodL.yN)) (wk W CodL.tab) (W := 1) (Nat.le_of_ble_eq_true rfl) (Nat.le_of_ble_eq_true rfl) (Nat.le_refl _) (by show 0 + len + 0 ≤ len; omega) (g := (mkF m 45 #[.val (.ref a), .val (.ref b), .val (.int (Int32.ofNat o)), .val (.int (Int32.ofNat len)), .val .null, .val (.ref s.heap.size)] [.int (Int32.ofNat N.slots.size), .ref s.heap.size, .ref a])) rfl (by rw [hml]; rfl) c10 (argsL := [.ref s.heap.size, .int (Int32.ofNat N.slots.size)]) (rest := [.ref a]) rfl rfl (by show 2 * 0 + (1 + 0) ≤ _; decide) (hb hbytes d45) (⟨rfl, n1⟩)
  obtain ⟨rfl, q11⟩ := E11
  have hB11 := hB1.mv (X8.warmed.alike.symm.trans X11.warmed.alike) q11
  have c12 : Steps p.tables e below (s₁.setTop (entryFrame m #[.ref a, .ref b, .int (Int32.ofNat o), .int (Int32.ofNat len), .null] 6)) (T11.setTop (mkF m 48 #[.val (.ref a), .val (.ref b), .val (.int (Int32.ofNat o)), .val (.int (Int32.ofNat len)), .val .null, .val (.ref s.heap.size)] [.int 0, .ref a])) := g11
  obtain ⟨T13, X13, p13, bl13, sl13, st13⟩ := X11.finit hexec hown (wk W (.fieldLink "java/lang/String" 15 "java/lang/String" "coder" "B")) (Or.inr ⟨_, (wk W (.laysFinal "java/lang/String" "java/lang/String" "coder" "B"))⟩) (Or.inl ⟨rfl, hnm⟩) f2 (Or.inl rfl) hB11 (t := .byte) (by decide +kernel) rfl (g := (mkF m 48 #[.val (.ref a), .val (.ref b), .val (.int (Int32.ofNat o)), .val (.int (Int32.ofNat len)), .val .null, .val (.ref s.heap.size)] [.int 0, .ref a])) rfl (rest := []) rfl (hb hbytes d48)
  have c14 : Steps p.tables e below (s₁.setTop (entryFrame m #[.ref a, .ref b, .int (Int32.ofNat o), .int (Int32.ofNat len), .null] 6)) (T13.setTop (mkF m 54 #[.val (.ref a), .val (.ref b), .val (.int (Int32.ofNat o)), .val (.int (Int32.ofNat len)), .val .null, .val (.ref s.heap.size)] [.ref s.heap.size, .ref a])) := (c12.trans (st13 _ (Steps.refl _))).trans (by
    refine XS.aloadN X13.here hexec rfl (hb hbytes d51) rfl rfl ?_
    refine XS.aload X13.here hexec rfl (hb hbytes d52) rfl rfl ?_
    exact Steps.refl _)
  obtain ⟨T15, X15, p15, bl15, sl15, st15⟩ := X13.finit hexec hown (wk W (.fieldLink "java/lang/String" 9 "java/lang/String" "value" "[B")) (Or.inr ⟨_, (wk W (.laysFinal "java/lang/String" "java/lang/String" "value" "[B"))⟩) (Or.inl ⟨rfl, hnm⟩) f1 (Or.inl rfl) bl13 (t := (.array .byte)) (by decide +kernel) rfl (g := (mkF m 54 #[.val (.ref a), .val (.ref b), .val (.int (Int32.ofNat o)), .val (.int (Int32.ofNat len)), .val .null, .val (.ref s.heap.size)] [.ref s.heap.size, .ref a])) rfl (rest := []) rfl (hb hbytes d54)
  have c16 : Steps p.tables e below (s₁.setTop (entryFrame m #[.ref a, .ref b, .int (Int32.ofNat o), .int (Int32.ofNat len), .null] 6)) (T15.setTop (mkF m 57 #[.val (.ref a), .val (.ref b), .val (.int (Int32.ofNat o)), .val (.int (Int32.ofNat len)), .val .null, .val (.ref s.heap.size)] [])) := c14.trans (st15 _ (Steps.refl _))
  have ap := apart (Or.inr ⟨_, (wk W (.laysFinal "java/lang/String" "java/lang/String" "value" "[B"))⟩) (Or.inr ⟨_, (wk W (.laysFinal "java/lang/String" "java/lang/String" "coder" "B"))⟩) f1 f2 (t₁ := .array .byte) (t₂ := .byte) (by decide +kernel) (by decide +kernel) (by decide)
  have al := X8.warmed.alike.symm.trans X15.warmed.alike
  have n7 : T11.heap[s.heap.size]? = some N := by rw [q11]; exact n1.1
  exact ⟨T15, none, _, _, _, X15, by simp, rfl, by omega, (fun _ => rfl), ⟨rfl, _, N, bl15, ((Same.refl D _).set _ (by simp)).set _ (by simp), sl15, (Cell.slots_setSlot_ne _ ap).trans sl13, n1.keep al (p15.other hne (p13.other hne n7)), n2, by rw [al.findClass]; exact n3, n4, n5, fun y c h1 h2 => p15.other h1 (p13.other h1 (by rw [q11]; exact n6 y c h2)), by rw [p15.2.2, p13.2.2, q11]; exact z8⟩, fun fs hl => c16.trans (X15.returnOut hexec hret (hb hbytes d57) hl)⟩
end New4
namespace New1
def yN : MethodName := ⟨"java/lang/String", "<init>", "([C)V"⟩
abbrev yB : ByteArray := jdk_42_method_3_code
theorem d0 : decode yB 0 = .ok (.aload_n 0, 1) := by decide +kernel
theorem d1 : decode yB 1 = .ok (.aload_n 1, 1) := by decide +kernel
theorem d2 : decode yB 2 = .ok (.iconst 0, 1) := by decide +kernel
theorem d3 : decode yB 3 = .ok (.aload_n 1, 1) := by decide +kernel
theorem d4 : decode yB 4 = .ok (.arraylength, 1) := by decide +kernel
theorem d5 : decode yB 5 = .ok (.aconst_null, 1) := by decide +kernel
theorem d6 : decode yB 6 = .ok (.invokespecial 27, 3) := by decide +kernel
theorem d9 : decode yB 9 = .ok (.return_, 1) := by decide +kernel
def site : List Cond := [New4.tab] ++ initW "java/lang/String" 27 New4.yN
def tab : Cond := tabOf yN yB 2 none site
def P (a : Addr) (D : Cell) (fV fC : Field) (b : Addr) (A : Cell) (z : Int32) (args : Array Value) (s : State) : Prop := args = #[.ref a, .ref b] ∧ Blank "java/lang/String" a D s ∧ Found "java/lang/String" "value" "[B" fV s ∧ Found "java/lang/String" "coder" "B" fC s ∧ Ch b A s ∧ StaticIs s "java/lang/String" "COMPACT_STRINGS" "Z" (.int z) ∧ ¬ z = 0 ∧ 0 < A.slots.size ∧ A.slots.size ≤ 536870912 ∧ ∀ i, i < A.slots.size → ¬ 255 < cv A i
def E (a : Addr) (D : Cell) (fV fC : Field) (A : Cell) (r : Option Value) (s u : State) : Prop := Got a D fV fC A 0 A.slots.size r s u
/-- new String(chars), not empty, no char above 255: a Latin-1 String of their low bytes -/
theorem law (l : Launch) (a : Addr) (D : Cell) (fV fC : Field) (b : Addr) (A : Cell) (z : Int32) : Law l yN 2 1 3 52 yB 2 none site (P a D fV fC b A z) (E a D fV fC A) [⟨a, fC.slot⟩, ⟨a, fV.slot⟩] 1 A.slots.size := by
  refine Law.of_walk (plainFor_of_name (by decide +kernel)) (by decide +kernel) (by decide +kernel) (by decide) (fun _ _ h => by rw [h.1]; rfl) (fun _ U U' hal hh h => ⟨h.1, h.2.1.mv hal hh, h.2.2.1.al hal, h.2.2.2.1.al hal, h.2.2.2.2.1.mv hal hh, h.2.2.2.2.2.1.there hal hh, h.2.2.2.2.2.2⟩) (fun r U U' V V' h1 hal h2 h => Got.mv r U U' V V' h1 hal h2 h) ?_
  intro p e s m args below meth c s₁ X0 hexec hbytes hml hret hlk hnm hown hh0 W hP
  obtain ⟨rfl, hB, f1, f2, hA, s1, hz, l0, l2, hp⟩ := hP
  have c1 : Steps p.tables e below (s₁.setTop (entryFrame m #[.ref a, .ref b] 2)) (s₁.setTop (mkF m 0 #[.val (.ref a), .val (.ref b)] [])) := entry rfl
  have c2 : Steps p.tables e below (s₁.setTop (entryFrame m #[.ref a, .ref b] 2)) (s₁.setTop (mkF m 6 #[.val (.ref a), .val (.ref b)] [.null, .int (Int32.ofNat A.slots.size), .int 0, .ref b, .ref a])) := c1.trans (by
    refine XS.aloadN X0.here hexec rfl (hb hbytes d0) rfl rfl ?_
    refine XS.aloadN X0.here hexec rfl (hb hbytes d1) rfl rfl ?_
    refine iconstV X0.here hexec rfl 0 (hb hbytes d2) (by decide) ?_
    refine XS.aloadN X0.here hexec rfl (hb hbytes d3) rfl rfl ?_
    refine X0.alen hexec (hA.1.mv X0.warmed.alike hh0) rfl rfl (hb hbytes d4) ?_
    refine XS.aconstNull X0.here hexec rfl (hb hbytes d5) ?_
    exact Steps.refl _)
  obtain ⟨v3, T3, X3, E3, g3⟩ := X0.callN hexec (New4.law l a D fV fC b A z 0 A.slots.size) rfl hown (wks W (initW "java/lang/String" 27 New4.yN)) (W New4.tab (by simp only [site, List.mem_cons, List.mem_append, true_or, or_true])) (W := 0) (Nat.le_of_ble_eq_true rfl) (Nat.le_of_ble_eq_true rfl) (Nat.le_refl _) (by show 0 + A.slots.size ≤ A.slots.size; omega) (g := (mkF m 6 #[.val (.ref a), .val (.ref b)] [.null, .int (Int32.ofNat A.slots.size), .int (Int32.ofNat 0), .ref b, .ref a])) rfl (by rw [hml]; rfl) c2 (argsL := [.ref b, .int (Int32.ofNat 0), .int (Int32.ofNat A.slots.size), .null]) (rest := []) rfl rfl (by show 2 * 0 + 0 ≤ _; decide) (hb hbytes d6) (⟨rfl, hB.mv X0.warmed.alike hh0, f1.al X0.warmed.alike, f2.al X0.warmed.alike, hA.mv X0.warmed.alike hh0, s1.there X0.warmed.alike hh0, hz, l0, by omega, l2, fun i hi => by rw [Nat.zero_add]; exact hp i hi⟩)
  have e0 := Got.mv _ s₁ s _ _ hh0.symm (Vm.Alike.refl _) rfl E3
  obtain rfl := e0.1
  have c4 : Steps p.tables e below (s₁.setTop (entryFrame m #[.ref a, .ref b] 2)) (T3.setTop (mkF m 9 #[.val (.ref a), .val (.ref b)] [])) := g3
  exact ⟨T3, none, _, _, _, X3, by simp, rfl, by omega, (fun _ => rfl), e0, fun fs hl => c4.trans (X3.returnOut hexec hret (hb hbytes d9) hl)⟩
theorem pays {l : Launch} {R : Room} {p : Program} {e : Env} {below : List Frame} {s : State} {sargs : Array Value} {len W : Nat} (a : Addr) (D : Cell) (fV fC : Field) (b : Addr) (A : Cell) (z : Int32) (htab : tab.before sargs s = true) (hfr : 4 ≤ R.frames) (hlo : W + 65 ≤ R.locals) :
    Back l R p e below s sargs yN len W (fun A₁ a₁ => A₁.cells + 1 ≤ R.cells ∧ A₁.slots + A.slots.size ≤ R.slots ∧ P a D fV fC b A z a₁ A₁.U) (fun A₁ _ v₁ B₁ => E a D fV fC A v₁ A₁.U B₁.U ∧ B₁.locs = A₁.locs ++ [⟨a, fC.slot⟩, ⟨a, fV.slot⟩] ∧ B₁.cells = A₁.cells + 1 ∧ B₁.slots = A₁.slots + A.slots.size) :=
  (law l a D fV fC b A z).pays htab hfr (by omega)
end New1
/-- the byte, read back as charAt reads it, is the char -/
theorem lo8_mask {x : Int32} (h0 : ¬ x < 0) (h1 : ¬ 255 < x) : lo8 x &&& 255 = x := by
  have t : ∀ k : Fin 256, lo8 (Int32.ofNat k.val) &&& 255 = Int32.ofNat k.val := by decide +kernel
  rw [Int32.lt_iff_toInt_lt] at h0 h1
  have e0 : (0 : Int32).toInt = 0 := rfl
  have e1 : (255 : Int32).toInt = 255 := rfl
  obtain ⟨k, hk⟩ : ∃ k : Nat, x.toInt = k := ⟨x.toInt.toNat, by omega⟩
  have hx : x = Int32.ofNat k := Int32.toInt_inj.mp (by rw [hk, Int32.toInt_ofNat_small (by omega)])
  rw [hx]
  exact t ⟨k, by omega⟩
end StrChars
namespace StrChars.Road
open Jvm Sem ClassFile Op Lib Jvm.Stand Jvm.Free Jvm.Free.XT
open Jvm.Lib.Cold (StaticIs)
abbrev ST : String := "java/lang/String"
/-- every table word that New1's law asks, flat -/
abbrev words : List Jvm.Cond := [.code New1.yN New1.yB 2 none, .initialized ST, .methodLink ST 27 New4.yN, .instanceMethod New4.yN,
  .code New4.yN New4.yB 6 none, .fieldLink ST 38 ST "COMPACT_STRINGS" "Z", .laysFinal ST ST "value" "[B", .fieldLink ST 9 ST "value" "[B", .laysFinal ST ST "coder" "B", .fieldLink ST 15 ST "coder" "B",
  .methodLink ST 1 Lib.objectInit, .instanceMethod Lib.objectInit, .code Lib.objectInit ⟨#[0xb1]⟩ 1 none, .methodLink ST 177 Cmp3.yN, .static Cmp3.yN, .methodLink ST 47 CodL.yN, .static CodL.yN,
  .code Cmp3.yN Cmp3.yB 6 (some (.array .byte)), .initialized U16, .arrayClass .byte, .methodLink U16 115 Cmp5.yN, .static Cmp5.yN, .code Cmp5.yN Cmp5.yB 7 (some .int), .code CodL.yN CodL.yB 2 (some .byte)]
theorem tab_of {a : Array Value} {s : State} (h : ∀ w ∈ words, w.before a s = true) : New1.tab.before a s = true := by
  have h5 : Cmp5.tab.before a s = true := unparts (wk h (.code Cmp5.yN Cmp5.yB 7 (some .int))) (wks h (.initialized Cmp5.yN.cls :: Cmp5.site))
  have hc : CodL.tab.before a s = true := unparts (wk h (.code CodL.yN CodL.yB 2 (some .byte))) (wks h (.initialized CodL.yN.cls :: CodL.site))
  have q5 : ∀ w ∈ Cmp5.tab :: words, w.before a s = true := fun w hw => (List.mem_cons.mp hw).elim (fun e => e ▸ h5) (h w)
  have h3 : Cmp3.tab.before a s = true := unparts (wk q5 (.code Cmp3.yN Cmp3.yB 6 (some (.array .byte)))) (wks q5 (.initialized Cmp3.yN.cls :: Cmp3.site))
  have q3 : ∀ w ∈ Cmp3.tab :: CodL.tab :: words, w.before a s = true := fun w hw => (List.mem_cons.mp hw).elim (fun e => e ▸ h3) fun hw => (List.mem_cons.mp hw).elim (fun e => e ▸ hc) (h w)
  have h4 : New4.tab.before a s = true := unparts (wk q3 (.code New4.yN New4.yB 6 none)) (wks q3 (.initialized New4.yN.cls :: New4.site))
  have q4 : ∀ w ∈ New4.tab :: words, w.before a s = true := fun w hw => (List.mem_cons.mp hw).elim (fun e => e ▸ h4) (h w)
  exact unparts (wk q4 (.code New1.yN New1.yB 2 none)) (wks q4 (.initialized New1.yN.cls :: New1.site))
/-- the words ride from the start Z to the walk's own state -/
theorem moved {Z s : State} {a0 args : Array Value} (hZ : Z.Warmed39 s.vm) (hw : ∀ d ∈ words, d.before a0 Z = true) : ∀ d ∈ words, d.before args s = true := fun d hd => by
  have q := hw d hd
  have t : ∀ d ∈ words, d = .arrayClass .byte ∨ (d.onTables && d.keepsFace) = true := by decide +kernel
  rcases t d hd with rfl | t
  · exact RoadKit.mvA hZ q
  · exact RoadKit.mv hZ q t
/-- WHAT COMES BACK, over the tables of the start Z: h the heap at the call, h' behind it -/
def Q (Z : State) (x : Addr) (A : Cell) (h : Heap) (v : Option Value) (h' : Heap) (L : List Loc) : Prop := v = none ∧ (∀ y ∈ L, y.base = x) ∧ RoadKit.Keep h h' [x] ∧ h'.size = h.size + 1 ∧ RoadKit.Exa Z h' x ST ∧ RoadKit.Fld Z h' x ST "value" "[B" (.ref h.size) ∧ RoadKit.Fld Z h' x ST "coder" "B" (.int 0) ∧
  (∃ V : Cell, RoadKit.Arr Z h' h.size V .byte ∧ V.vm = .none ∧ Z.vm.findClass "[B" = some V.cls ∧ V.slots.size = A.slots.size ∧ ∀ j, j < A.slots.size → V.slots[j]? = some (.int (lo8 (cv A j)))) ∧
  ∀ (O n d : String) (w : Value), RoadKit.Fld Z h x O n d w → RoadKit.slotOf Z O n d ≠ RoadKit.slotOf Z ST "value" "[B" → RoadKit.slotOf Z O n d ≠ RoadKit.slotOf Z ST "coder" "B" → RoadKit.Fld Z h' x O n d w
/-- **new String(chars) AT A CALL, IN THE ROAD'S FORM**: for specialBack behind newO: x the fresh String, b the char[] with the cell A -/
theorem back {p : Program} {l : Launch} {e : Env} {R : Room} {s : State} {args : Array Value} {below : List Frame} {len W : Nat} {Z : State} {a0 : Array Value} {h : Heap} (hZ : Z.Warmed39 s.vm) (hw : ∀ d ∈ words, d.before a0 Z = true) {kI : Nat} (wi : (Jvm.Cond.instantiable ST kI).before a0 Z = true)
    {x b : Addr} {A : Cell} {z : Int32} {v0 c0 : Value} (E : RoadKit.Exa Z h x ST) (V : RoadKit.Fld Z h x ST "value" "[B" v0) (C : RoadKit.Fld Z h x ST "coder" "B" c0) (K : RoadKit.Arr Z h b A .char) (hty : Typed .char A) (S : RoadKit.Sta Z h ST "COMPACT_STRINGS" "Z" (.int z)) (hz : ¬ z = 0)
    (l0 : 0 < A.slots.size) (l2 : A.slots.size ≤ 536870912) (hp : ∀ i, i < A.slots.size → ¬ 255 < cv A i) (hfr : 4 ≤ R.frames) (hlo : W + 65 ≤ R.locals) :
    Back l R p e below s args New1.yN len W (fun P a => a = #[.ref x, .ref b] ∧ P.U.heap = h ∧ P.cells + 1 ≤ R.cells ∧ P.slots + A.slots.size ≤ R.slots)
      (fun P _ v B => ∃ L, Q Z x A h v B.U.heap L ∧ B.locs = P.locs ++ L ∧ B.cells = P.cells + 1 ∧ B.slots = P.slots + A.slots.size) := by
  intro m meth c P g ig mk a X hg hsize hdg hW hn hp'
  obtain ⟨rfl, rfl, r1, r2⟩ := hp'
  have al : Z.vm.Alike P.U.vm := hZ.alike.trans X.warmed.alike
  obtain ⟨D, cfV, kV, iV, fV, hD, gV, stV, knV, obV, asV, slV⟩ := id V
  obtain ⟨D', cfC, kC, iC, fC, hD', gC, stC, -, -, asC, slC⟩ := id C
  cases hD.symm.trans hD'
  obtain ⟨D2, kD, e1, e2, e3, e4, e5⟩ := id E
  cases hD.symm.trans e1
  obtain ⟨c2, k2, i1, i2, i3, -⟩ := Cond.instantiable_spec wi
  cases e2.symm.trans i1
  cases e3.symm.trans i2
  obtain ⟨kU, u1, u2⟩ := al.2.2 _ _ e3
  have hB : Blank ST x D P.U := ⟨hD, ⟨knV, fun q hq => by rw [hq] at obV; cases obV⟩, by rw [al.findClass]; exact e2, kU, u1, by rw [u2]; exact i3, by rw [u2]; exact e5 i3⟩
  have F1 : Found ST "value" "[B" fV P.U := ⟨SBG.found_only al ⟨cfV, kV, iV, gV⟩, stV⟩
  have F2 : Found ST "coder" "B" fC P.U := ⟨SBG.found_only al ⟨cfC, kC, iC, gC⟩, stC⟩
  have hA : Ch b A P.U := ⟨⟨K.1, State.isArrayOf_alike al K.2.1, K.2.2, by omega⟩, hty⟩
  have hS : StaticIs P.U ST "COMPACT_STRINGS" "Z" (.int z) := by
    obtain ⟨cfS, iS, kS, fS, st, cS, t1, t2, t3, t4, t5, t6, t7⟩ := S
    exact StaticIs.there (s := { Z with heap := P.U.heap }) ⟨cfS, iS, kS, fS, st, cS, t1, t2, t3, t4, t5, (fun q => by rw [q] at t6; cases t6), t7⟩ al rfl
  obtain ⟨v, B, X', ⟨⟨hv, E', V', q1, q2, q3, q4, q5, q6, q7, q8, q9, q10, q11⟩, hl, hc, hs⟩, st⟩ := New1.pays x D fV fC b A z (tab_of (moved hZ hw)) hfr hlo m meth c P g ig mk _ X hg hsize hdg hW hn ⟨r1, r2, rfl, hB, F1, F2, hA, hS, hz, l0, l2, hp⟩
  have al' : Z.vm.Alike B.U.vm := hZ.alike.trans X'.warmed.alike
  have hsz : E'.slots.size = D.slots.size := by
    obtain ⟨-, -, -, kB, w1, w2, w3⟩ := q1
    obtain ⟨kB', y1, y2⟩ := al'.2.2 _ _ e3
    rw [q2.2.1] at w1
    cases w1.symm.trans y1
    rw [w3, e5 i3, y2]
  refine ⟨v, B, X', ⟨_, ⟨hv, ?_, ⟨by omega, fun y cy hy hn' => q10 y cy (by simpa using hn') hy, fun y cy hy => ?_⟩, q11, ⟨E', _, q1.1, by rw [q2.2.1]; exact e2, by rw [q2.2.1]; exact e3, by rw [q2.1]; exact obV, fun _ => by rw [hsz]; exact e5 i3⟩,
    ⟨E', cfV, kV, iV, fV, q1.1, gV, stV, by rw [q2.1]; exact knV, by rw [q2.1]; exact obV, by rw [q2.2.1]; exact asV, q3⟩, ⟨E', cfC, kC, iC, fC, q1.1, gC, stC, by rw [q2.1]; exact knV, by rw [q2.1]; exact obV, by rw [q2.2.1]; exact asC, q4⟩,
    ⟨V', ⟨q5.1, State.isArrayOf_alike al'.symm q5.2.1, q5.2.2.1⟩, q6, by rw [← al'.findClass]; exact q7, q8, fun j hj => by have := q9 j hj; rwa [Nat.zero_add] at this⟩, fun O n d w F n1 n2 => ?_⟩, hl, hc, hs⟩, st⟩
  · intro y hy
    simp only [List.mem_cons, List.not_mem_nil, or_false] at hy
    rcases hy with rfl | rfl <;> rfl
  · by_cases q : y = x
    · subst q
      cases hD.symm.trans hy
      exact ⟨E', q1.1, q2.2.1, q2.1, hsz⟩
    · exact ⟨cy, q10 y cy q hy, rfl, rfl, rfl⟩
  · obtain ⟨D3, cf, k, i, f, g1, g2, g3, g4, g5, g6, g7⟩ := F
    cases hD.symm.trans g1
    simp only [RoadKit.slotOf, g2, gV, gC, Option.map_some, Option.getD_some] at n1 n2
    exact ⟨E', cf, k, i, f, q1.1, g2, g3, by rw [q2.1]; exact g4, by rw [q2.1]; exact g5, by rw [q2.2.1]; exact g6, by rw [q2.2.2 f.slot (by simp [n1, n2])]; exact g7⟩
end StrChars.Road
namespace StrChars.Road
open Jvm Sem ClassFile Op Lib Jvm.Stand Jvm.Free Jvm.Free.XT
/-- WHAT COMES BACK, the byte[] as a list of values -/
def QA (Z : State) (x : Addr) (zn : Int32) (cs : List Int32) (h : Heap) (v : Option Value) (h' : Heap) (L : List Loc) : Prop := v = none ∧ (∀ y ∈ L, y.base = x) ∧ RoadKit.Keep h h' [x] ∧ h'.size = h.size + 1 ∧ RoadKit.Exa Z h' x ST ∧ RoadKit.Fld Z h' x ST "value" "[B" (.ref h.size) ∧ RoadKit.Fld Z h' x ST "coder" "B" (.int 0) ∧
  (∃ kb, Z.vm.findClass "[B" = some kb ∧ RoadKit.Arv Z h' h.size kb .byte zn (cs.map fun c => .int (lo8 c)) (.int 0)) ∧
  ∀ (O n d : String) (w : Value), RoadKit.Fld Z h x O n d w → RoadKit.slotOf Z O n d ≠ RoadKit.slotOf Z ST "value" "[B" → RoadKit.slotOf Z O n d ≠ RoadKit.slotOf Z ST "coder" "B" → RoadKit.Fld Z h' x O n d w
/-- **new String(chars) AT A CALL, THE ARRAYS AS LISTS**: the char[] at b holds cs, not empty, no char above 255 -/
theorem backArv {p : Program} {l : Launch} {e : Env} {R : Room} {s : State} {args : Array Value} {below : List Frame} {len W : Nat} {Z : State} {a0 : Array Value} {h : Heap} (hZ : Z.Warmed39 s.vm) (hw : ∀ d ∈ words, d.before a0 Z = true) {kI : Nat} (wi : (Jvm.Cond.instantiable ST kI).before a0 Z = true)
    {x b : Addr} {k : ClassId} {zn z : Int32} {cs : List Int32} {dv v0 c0 : Value} (E : RoadKit.Exa Z h x ST) (V : RoadKit.Fld Z h x ST "value" "[B" v0) (C : RoadKit.Fld Z h x ST "coder" "B" c0) (K : RoadKit.Arv Z h b k .char zn (cs.map Value.int) dv) (S : RoadKit.Sta Z h ST "COMPACT_STRINGS" "Z" (.int z)) (hz : ¬ z = 0)
    (hlen : zn.toNatClampNeg = cs.length) (h0 : 0 < cs.length) (hbig : cs.length ≤ 536870912) (hall : ∀ c ∈ cs, ¬ 255 < c) (hfr : 4 ≤ R.frames) (hlo : W + 65 ≤ R.locals) :
    Back l R p e below s args New1.yN len W (fun P a => a = #[.ref x, .ref b] ∧ P.U.heap = h ∧ P.cells + 1 ≤ R.cells ∧ P.slots + cs.length ≤ R.slots)
      (fun P _ v B => ∃ L, QA Z x zn cs h v B.U.heap L ∧ B.locs = P.locs ++ L ∧ B.cells = P.cells + 1 ∧ B.slots = P.slots + cs.length) := by
  obtain ⟨A, K1, K2, K3, K4, K5, K6⟩ := K
  have e : A.slots.size = cs.length := K3.trans hlen
  have hat : ∀ (i : Nat) (hi : i < cs.length), A.slots[i]? = some (.int cs[i]) := fun i hi => by rw [K5 i (by omega)]; simp [List.getD_eq_getElem?_getD, hi]
  have hcv : ∀ (i : Nat) (hi : i < cs.length), cv A i = cs[i] := fun i hi => by unfold cv; rw [hat i hi]
  have hty : Typed .char A := fun i v hv => by
    have hi : i < A.slots.size := (Array.getElem?_eq_some_iff.mp hv).1
    have q := K5 i hi
    rw [hv] at q
    rw [Option.some.inj q]
    exact K6 i hi
  refine Back.mono (back hZ hw wi E V C K1 hty S hz (by omega) (by omega) (fun i hi => by rw [hcv i (by omega)]; exact hall _ (List.getElem_mem _)) hfr hlo) (fun P a hp => ⟨hp.1, hp.2.1, hp.2.2.1, by rw [e]; exact hp.2.2.2⟩) (fun P a v B hp hq => ?_)
  obtain ⟨L, ⟨q1, q2, q3, q4, q5, q6, q7, ⟨V', v1, v2, v3, v4, v5⟩, q9⟩, hl, hc, hs⟩ := hq
  refine ⟨L, ⟨q1, q2, q3, q4, q5, q6, q7, ⟨V'.cls, v3, V', v1, rfl, by rw [v4, e, hlen], K4, fun i hi => ?_, fun i hi => ?_⟩, q9⟩, hl, hc, by rw [hs, e]⟩
  · have hi' : i < cs.length := by omega
    rw [v5 i (by omega), hcv i hi']; simp [List.getD_eq_getElem?_getD, hi']
  · have hi' : i < cs.length := by omega
    simp only [List.getD_eq_getElem?_getD, List.getElem?_map, List.getElem?_eq_getElem hi', Option.map_some, Option.getD_some]
    exact fits_lo8 _
end StrChars.Road
namespace StrChars.Road
open Jvm Sem ClassFile Op Lib Jvm.Stand Jvm.Free Jvm.Free.XT
/-- WHAT COMES BACK, in the writer's own shape -/
def QV (Z : State) (x : Addr) (N : Int32) (bs : List Int32) (h : Heap) (n0 : Nat) (v : Option Value) (h' : Heap) (L : List Loc) : Prop := v = none ∧ RoadKit.Fr n0 L ∧ RoadKit.Keep h h' [x] ∧ RoadKit.Exa Z h' x ST ∧ RoadKit.Fld Z h' x ST "coder" "B" (.int 0) ∧
  ∃ (t : Addr) (kb : ClassId), n0 ≤ t ∧ h.size ≤ t ∧ ¬ t = x ∧ RoadKit.Fld Z h' x ST "value" "[B" (.ref t) ∧ RoadKit.Arv Z h' t kb .byte N (bs.map Value.int) (.int 0)
/-- **new String(chars) AT A CALL, FOR THE WRITER**: a char[] of n known ints, each 0 to 255 -/
theorem backV {p : Program} {l : Launch} {e : Env} {R : Room} {s : State} {args : Array Value} {below : List Frame} {len W : Nat} {Z : State} {a0 : Array Value} {h : Heap} (hZ : Z.Warmed39 s.vm) (hw : ∀ d ∈ words, d.before a0 Z = true) {kI : Nat} (wi : (Jvm.Cond.instantiable ST kI).before a0 Z = true)
    {x b : Addr} {kC : ClassId} {cs bs : List Int32} {d v0 c0 : Value} {z N : Int32} {n n0 : Nat} (hx0 : n0 ≤ x) (hh0 : n0 ≤ h.size) (E : RoadKit.Exa Z h x ST) (V : RoadKit.Fld Z h x ST "value" "[B" v0) (C : RoadKit.Fld Z h x ST "coder" "B" c0) (K : RoadKit.Arv Z h b kC .char N (cs.map Value.int) d) (S : RoadKit.Sta Z h ST "COMPACT_STRINGS" "Z" (.int z)) (hz : ¬ z = 0)
    (hn : cs.length = n) (hN : N = Int32.ofNat n) (l0 : 0 < n) (l2 : n ≤ 4000) (hp : ∀ c ∈ cs, ¬ c < 0 ∧ ¬ (255 : Int32) < c) (hb : bs = cs.map (fun c => c.toInt8.toInt32)) (hfr : 4 ≤ R.frames) (hlo : W + 65 ≤ R.locals) :
    Back l R p e below s args (⟨"java/lang/String", "<init>", "([C)V"⟩ : MethodName) len W (fun P a => a = #[.ref x, .ref b] ∧ P.U.heap = h ∧ P.cells + 1 ≤ R.cells ∧ P.slots + n ≤ R.slots)
      (fun P _ v B => ∃ L, QV Z x N bs h n0 v B.U.heap L ∧ B.locs = P.locs ++ L ∧ B.cells = P.cells + 1 ∧ B.slots = P.slots + n) := by
  subst hn hN hb
  refine Back.mono (backArv hZ hw wi E V C K S hz (n32 (by omega)) l0 (by omega) (fun c hc => (hp c hc).2) hfr hlo) (fun P a hp => hp) (fun P a v B hp hq => ?_)
  obtain ⟨L, ⟨q1, q2, q3, q4, q5, q6, q7, ⟨kb, v1, v2⟩, q9⟩, hl, hc, hs⟩ := hq
  exact ⟨L, ⟨q1, fun y hy => by rw [q2 y hy]; exact hx0, q3, q5, q7, h.size, kb, hh0, Nat.le_refl _, Nat.ne_of_gt E.lt, q6, by rw [List.map_map]; exact v2⟩, hl, hc, hs⟩
end StrChars.Road
namespace StrChars
open Jvm Sem ClassFile Op Lib Jvm.Stand Jvm.Free.XT Jvm.Free.ALB Jvm.Free.JM Jvm.Free
open Jvm.Lib.Cold (StaticIs)
def hi8 (x : Int32) : Int32 := lo8 (x >>> ((8 : Int32) &&& 31))
/-- what StringUTF16.getChar makes of two bytes -/
def pairCh (u v : Int32) : Int32 := (((u &&& 255) <<< ((0 : Int32) &&& 31)) ||| ((v &&& 255) <<< ((8 : Int32) &&& 31))).toUInt32.toUInt16.toUInt32.toInt32
theorem lo8_and (x : Int32) : (lo8 x &&& 255).toBitVec.toNat = x.toBitVec.toNat % 256 := by
  have h : (lo8 x).toBitVec = (x.toBitVec.signExtend 8).signExtend 32 := by rw [lo8, Int8.toBitVec_toInt32, Int32.toBitVec_toInt8]
  rw [Int32.toBitVec_and, BitVec.toNat_and, h]
  have e : ((x.toBitVec.signExtend 8).signExtend 32).toNat % 256 = x.toBitVec.toNat % 256 := by
    rw [BitVec.toNat_signExtend]
    have hlt := x.toBitVec.isLt
    simp only [BitVec.toNat_setWidth, BitVec.toNat_signExtend]
    split <;> split <;> omega
  rw [← e]
  exact Nat.and_two_pow_sub_one_eq_mod _ 8
theorem pair_says {c : Int32} (h0 : ¬ c < 0) (h1 : ¬ 65535 < c) : pairCh (lo8 c) (hi8 c) = c := by
  rw [Int32.lt_iff_toInt_lt] at h0 h1
  have e0 : (0 : Int32).toInt = 0 := rfl
  have e1 : (65535 : Int32).toInt = 65535 := rfl
  have hc : c.toInt = c.toBitVec.toNat := by
    have := c.toBitVec.isLt
    have e : c.toInt = c.toBitVec.toInt := rfl
    rw [e] at h0 h1
    rw [e]
    rw [BitVec.toInt_eq_toNat_cond] at h0 h1 ⊢
    split at h0 <;> split <;> omega
  have hn : c.toBitVec.toNat < 65536 := by omega
  have a1 := lo8_and c
  have a2 : (hi8 c &&& 255).toBitVec.toNat = c.toBitVec.toNat / 256 := by
    rw [hi8, lo8_and]
    have e : ((8 : Int32) &&& 31) = 8 := by decide
    rw [e, Int32.toBitVec_shiftRight]
    have e2 : ((8 : Int32).toBitVec.smod 32) = 8#32 := by decide
    rw [e2, BitVec.sshiftRight_eq', BitVec.toNat_sshiftRight_of_msb_false (by rw [BitVec.msb_eq_false_iff_two_mul_lt]; omega)]
    show c.toBitVec.toNat >>> 8 % 256 = _
    rw [Nat.shiftRight_eq_div_pow]
    omega
  unfold pairCh
  apply Int32.toBitVec_inj.mp
  apply BitVec.eq_of_toNat_eq
  have f0 : ((0 : Int32) &&& 31) = 0 := by decide
  have f8 : ((8 : Int32) &&& 31) = 8 := by decide
  rw [f0, f8]
  have g : (((lo8 c &&& 255) <<< (0 : Int32)) ||| ((hi8 c &&& 255) <<< (8 : Int32))).toBitVec.toNat = c.toBitVec.toNat := by
    rw [Int32.toBitVec_or, Int32.toBitVec_shiftLeft, Int32.toBitVec_shiftLeft]
    have s0 : ((0 : Int32).toBitVec.smod 32) = 0#32 := by decide
    have s8 : ((8 : Int32).toBitVec.smod 32) = 8#32 := by decide
    rw [s0, s8, BitVec.toNat_or]
    simp only [BitVec.shiftLeft_eq', BitVec.toNat_shiftLeft, a1, a2]
    show (c.toBitVec.toNat % 256) <<< 0 % 2 ^ 32 ||| (c.toBitVec.toNat / 256) <<< 8 % 2 ^ 32 = _
    rw [Nat.shiftLeft_zero, Nat.mod_eq_of_lt (show c.toBitVec.toNat % 256 < 2 ^ 32 by omega), Nat.mod_eq_of_lt (show (c.toBitVec.toNat / 256) <<< 8 < 2 ^ 32 by rw [Nat.shiftLeft_eq]; omega), Nat.or_comm, ← Nat.shiftLeft_add_eq_or_of_lt (by omega), Nat.shiftLeft_eq]
    omega
  show BitVec.toNat (((((lo8 c &&& 255) <<< (0 : Int32)) ||| ((hi8 c &&& 255) <<< (8 : Int32))).toBitVec.setWidth 16).setWidth 32) = _
  rw [BitVec.toNat_setWidth, BitVec.toNat_setWidth, g]
  omega
end StrChars
namespace StrChars
open Jvm Sem ClassFile Op Lib Jvm.Stand Jvm.Free.XT Jvm.Free.ALB Jvm.Free.JM Jvm.Free
open Jvm.Lib.Cold (StaticIs)
/-- the array's cell V codes the n chars f 0 .. f (n - 1) by the coder cd, as the JDK does: coder 1 just where some char is above 255 -/
def Cod (cd : Int32) (n : Nat) (f : Nat → Int32) (V : Cell) : Prop := (cd = 0 ∧ V.slots.size = n ∧ ∀ j, j < n → V.slots[j]? = some (.int (lo8 (f j))) ∧ ¬ 255 < f j) ∨ (cd = 1 ∧ V.slots.size = 2 * n ∧ (∀ j, j < n → V.slots[2 * j]? = some (.int (lo8 (f j))) ∧ V.slots[2 * j + 1]? = some (.int (hi8 (f j)))) ∧ ∃ j, j < n ∧ 255 < f j)
/-- **x is a String of the n chars f 0 .. f (n - 1)**, Latin-1 or UTF-16; its array at t has the cell V -/
def Txt (x t : Addr) (V : Cell) (cd : Int32) (n : Nat) (f : Nat → Int32) (U : State) : Prop := Exact "java/lang/String" x U ∧ Has x "java/lang/String" "value" "[B" (.ref t) U ∧ Has x "java/lang/String" "coder" "B" (.int cd) U ∧ XT.Arr .byte t V U ∧ Cod cd n f V ∧ ∀ j, j < n → ¬ f j < 0 ∧ ¬ 65535 < f j
theorem Txt.mv {x t : Addr} {V : Cell} {cd : Int32} {n : Nat} {f : Nat → Int32} {U U' : State} (h : Txt x t V cd n f U) (hal : U.vm.Alike U'.vm) (hh : U'.heap = U.heap) : Txt x t V cd n f U' := ⟨h.1.mv hal hh, h.2.1.mv hal hh, h.2.2.1.mv hal hh, h.2.2.2.1.mv hal hh, h.2.2.2.2⟩
end StrChars
namespace StrChars.Road
open Jvm Sem ClassFile Op Lib Jvm.Stand Jvm.Free Jvm.Free.XT
open Jvm.Lib.Cold (StaticIs)
theorem consq {a : Array Value} {s : State} {c : Jvm.Cond} {L : List Jvm.Cond} (h0 : c.before a s = true) (h : ∀ w ∈ L, w.before a s = true) : ∀ w ∈ c :: L, w.before a s = true := fun w hw => (List.mem_cons.mp hw).elim (fun e => e ▸ h0) (h w)
/-- the bytes of the chars cs, low before high -/
def wideBytes : List Int32 → List Value
  | [] => []
  | c :: cs => .int (lo8 c) :: .int (hi8 c) :: wideBytes cs
theorem wide_lo (d : Value) : ∀ (cs : List Int32) (j : Nat), j < cs.length → (wideBytes cs).getD (2 * j) d = .int (lo8 (cs.getD j 0))
  | [], j, h => absurd h (Nat.not_lt_zero j)
  | c :: cs, 0, _ => rfl
  | c :: cs, j + 1, h => by
    have q := wide_lo d cs j (by simpa using h)
    rw [show 2 * (j + 1) = 2 * j + 1 + 1 from by omega]
    simpa [wideBytes] using q
theorem wide_hi (d : Value) : ∀ (cs : List Int32) (j : Nat), j < cs.length → (wideBytes cs).getD (2 * j + 1) d = .int (hi8 (cs.getD j 0))
  | [], j, h => absurd h (Nat.not_lt_zero j)
  | c :: cs, 0, _ => rfl
  | c :: cs, j + 1, h => by
    have q := wide_hi d cs j (by simpa using h)
    rw [show 2 * (j + 1) + 1 = 2 * j + 1 + 1 + 1 from by omega]
    simpa [wideBytes] using q
theorem low_at (d : Value) (cs : List Int32) (j : Nat) (h : j < cs.length) : (cs.map fun c => Value.int (lo8 c)).getD j d = .int (lo8 (cs.getD j 0)) := by
  simp [List.getD_eq_getElem?_getD, h]
/-- an array of N2 bytes vs codes the chars cs by the coder cd -/
def CodA (cs : List Int32) (cd N2 : Int32) (vs : List Value) : Prop := (cd = 0 ∧ N2 = Int32.ofNat cs.length ∧ vs = (cs.map fun c => Value.int (lo8 c)) ∧ ∀ c ∈ cs, ¬ 255 < c) ∨ (cd = 1 ∧ N2 = Int32.ofNat (2 * cs.length) ∧ vs = wideBytes cs ∧ ∃ c ∈ cs, 255 < c)
theorem CodA.cod {cs : List Int32} {cd N2 : Int32} {vs : List Value} {V : Cell} (h : CodA cs cd N2 vs) (hn : 2 * cs.length < 2 ^ 31) (hs : V.slots.size = N2.toNatClampNeg) (hv : RoadKit.Has V vs (.int 0)) : Cod cd cs.length (fun j => cs.getD j 0) V := by
  rcases h with ⟨rfl, rfl, rfl, h⟩ | ⟨rfl, rfl, rfl, c, hc, hw⟩
  · rw [n32 (by omega)] at hs
    exact Or.inl ⟨rfl, hs, fun j hj => ⟨by rw [hv j (by omega), low_at _ _ _ hj], by
      have e : cs.getD j 0 = cs[j] := by simp [List.getD_eq_getElem?_getD, hj]
      show ¬ 255 < cs.getD j 0
      rw [e]; exact h _ (List.getElem_mem _)⟩⟩
  · rw [n32 (by omega)] at hs
    obtain ⟨j, hj, rfl⟩ := List.getElem_of_mem hc
    exact Or.inr ⟨rfl, hs, fun j hj => ⟨by rw [hv _ (by omega), wide_lo _ _ _ hj], by rw [hv _ (by omega), wide_hi _ _ _ hj]⟩, j, hj, by
      have e : cs.getD j 0 = cs[j] := by simp [List.getD_eq_getElem?_getD, hj]
      show 255 < cs.getD j 0
      rw [e]; exact hw⟩
/-- an object of exactly java/lang/String, its two fields found: as the laws ask it -/
theorem strObj {Z U : State} {a0 : Array Value} {kI : Nat} (wi : (Jvm.Cond.instantiable ST kI).before a0 Z = true) (al : Z.vm.Alike U.vm) {x : Addr} {v0 c0 : Value} (E : RoadKit.Exa Z U.heap x ST) (V : RoadKit.Fld Z U.heap x ST "value" "[B" v0) (C : RoadKit.Fld Z U.heap x ST "coder" "B" c0) :
    ∃ (D : Cell) (fV fC : Field), Blank ST x D U ∧ Found ST "value" "[B" fV U ∧ Found ST "coder" "B" fC U ∧ D.slots[fV.slot]? = some v0 ∧ D.slots[fC.slot]? = some c0 ∧ RoadKit.slotOf Z ST "value" "[B" = fV.slot ∧ RoadKit.slotOf Z ST "coder" "B" = fC.slot := by
  obtain ⟨D, cfV, kV, iV, fV, hD, gV, stV, knV, obV, asV, slV⟩ := V
  obtain ⟨D', cfC, kC, iC, fC, hD', gC, stC, -, -, asC, slC⟩ := C
  cases hD.symm.trans hD'
  obtain ⟨D2, kD, e1, e2, e3, e4, e5⟩ := E
  cases hD.symm.trans e1
  obtain ⟨c2, k2, i1, i2, i3, -⟩ := Cond.instantiable_spec wi
  cases e2.symm.trans i1
  cases e3.symm.trans i2
  obtain ⟨kU, u1, u2⟩ := al.2.2 _ _ e3
  exact ⟨D, fV, fC, ⟨hD, ⟨knV, fun q hq => by rw [hq] at obV; cases obV⟩, by rw [al.findClass]; exact e2, kU, u1, by rw [u2]; exact i3, by rw [u2]; exact e5 i3⟩, ⟨SBG.found_only al ⟨cfV, kV, iV, gV⟩, stV⟩, ⟨SBG.found_only al ⟨cfC, kC, iC, gC⟩, stC⟩, slV, slC, by simp [RoadKit.slotOf, gV], by simp [RoadKit.slotOf, gC]⟩
theorem sta_is {Z U : State} (al : Z.vm.Alike U.vm) {C n d : String} {v : Value} (S : RoadKit.Sta Z U.heap C n d v) : StaticIs U C n d v := by
  obtain ⟨cfS, iS, kS, fS, st, cS, t1, t2, t3, t4, t5, t6, t7⟩ := S
  exact StaticIs.there (s := { Z with heap := U.heap }) ⟨cfS, iS, kS, fS, st, cS, t1, t2, t3, t4, t5, (fun q => by rw [q] at t6; cases t6), t7⟩ al rfl
end StrChars.Road
namespace StrChars
open Jvm Sem ClassFile Op Lib Jvm.Stand Jvm.Free.XT Jvm.Free.ALB Jvm.Free.JM Jvm.Free
open Jvm.Lib.Cold (StaticIs)
/-- what place i of a byte[]'s cell holds -/
def yv (A : Cell) (i : Nat) : Int32 := match A.slots[i]? with | some (.int x) => x | _ => 0
theorem yv_get {a : Addr} {A : Cell} {U : State} (h : XT.Arr .byte a A U) (ht : Typed .byte A) {i : Nat} (hi : i < A.slots.size) : A.slots[i]? = some (.int (yv A i)) := by
  have e := Array.getElem?_eq_getElem hi
  have f := ht i _ e
  unfold yv; rw [e]
  generalize A.slots[i] = v at f
  cases v <;> simp [fits] at f ⊢
/-- the two arrays are equal, place for place -/
def EqC (A B : Cell) : Prop := A.slots.size = B.slots.size ∧ ∀ i, i < A.slots.size → yv A i = yv B i
/-- a boolean that says whether p -/
def Says01 (q : Prop) (r : Option Value) (s u : State) : Prop := ∃ v : Int32, r = some (.int v) ∧ u.heap = s.heap ∧ ((v = 1 ∧ q) ∨ (v = 0 ∧ ¬ q))
theorem Says01.mv {q : Prop} : ∀ r (U U' V V' : State), U'.heap = U.heap → V.vm.Alike V'.vm → V'.heap = V.heap → Says01 q r U V → Says01 q r U' V' :=
  fun r U U' V V' h1 _ h2 ⟨v, a, b, c⟩ => ⟨v, a, by rw [h1, h2]; exact b, c⟩
namespace LEq
def yN : MethodName := ⟨"java/lang/StringLatin1", "equals", "([B[B)Z"⟩
abbrev yB : ByteArray := jdk_43_method_13_code
theorem d0 : decode yB 0 = .ok (.aload_n 0, 1) := by decide +kernel
theorem d1 : decode yB 1 = .ok (.arraylength, 1) := by decide +kernel
theorem d2 : decode yB 2 = .ok (.aload_n 1, 1) := by decide +kernel
theorem d3 : decode yB 3 = .ok (.arraylength, 1) := by decide +kernel
theorem d4 : decode yB 4 = .ok (.if_icmp (.ne) 30, 3) := by decide +kernel
theorem d7 : decode yB 7 = .ok (.iconst 0, 1) := by decide +kernel
theorem d8 : decode yB 8 = .ok (.istore_n 2, 1) := by decide +kernel
theorem d9 : decode yB 9 = .ok (.iload_n 2, 1) := by decide +kernel
theorem d10 : decode yB 10 = .ok (.aload_n 0, 1) := by decide +kernel
theorem d11 : decode yB 11 = .ok (.arraylength, 1) := by decide +kernel
theorem d12 : decode yB 12 = .ok (.if_icmp (.ge) 20, 3) := by decide +kernel
theorem d15 : decode yB 15 = .ok (.aload_n 0, 1) := by decide +kernel
theorem d16 : decode yB 16 = .ok (.iload_n 2, 1) := by decide +kernel
theorem d17 : decode yB 17 = .ok (.baload, 1) := by decide +kernel
theorem d18 : decode yB 18 = .ok (.aload_n 1, 1) := by decide +kernel
theorem d19 : decode yB 19 = .ok (.iload_n 2, 1) := by decide +kernel
theorem d20 : decode yB 20 = .ok (.baload, 1) := by decide +kernel
theorem d21 : decode yB 21 = .ok (.if_icmp (.eq) 5, 3) := by decide +kernel
theorem d24 : decode yB 24 = .ok (.iconst 0, 1) := by decide +kernel
theorem d25 : decode yB 25 = .ok (.ireturn, 1) := by decide +kernel
theorem d26 : decode yB 26 = .ok (.iinc 2 1, 3) := by decide +kernel
theorem d29 : decode yB 29 = .ok (.goto (-20), 3) := by decide +kernel
theorem d32 : decode yB 32 = .ok (.iconst 1, 1) := by decide +kernel
theorem d33 : decode yB 33 = .ok (.ireturn, 1) := by decide +kernel
theorem d34 : decode yB 34 = .ok (.iconst 0, 1) := by decide +kernel
theorem d35 : decode yB 35 = .ok (.ireturn, 1) := by decide +kernel
def site : List Cond := []
def tab : Cond := tabOf yN yB 3 (some .boolean) site
def P (a : Addr) (A : Cell) (b : Addr) (B : Cell) (args : Array Value) (s : State) : Prop := args = #[.ref a, .ref b] ∧ XT.Arr .byte a A s ∧ Typed .byte A ∧ XT.Arr .byte b B s ∧ Typed .byte B
/-- whether two byte[] are equal, place for place -/
theorem law (l : Launch) (a : Addr) (A : Cell) (b : Addr) (B : Cell) : Law l yN 2 2 0 0 yB 3 (some .boolean) site (P a A b B) (Says01 (EqC A B)) [] 0 0 := by
  refine Law.of_walk (plainFor_of_name (by decide +kernel)) (by decide +kernel) (by decide +kernel) (by decide) (fun _ _ h => by rw [h.1]; rfl) (fun _ U U' hal hh h => ⟨h.1, h.2.1.mv hal hh, h.2.2.1, h.2.2.2.1.mv hal hh, h.2.2.2.2⟩) (fun r U U' V V' h1 hal h2 h => Says01.mv r U U' V V' h1 hal h2 h) ?_
  intro p e s m args below meth c s₁ X0 hexec hbytes hml hret hlk hnm hown hh0 W hP
  obtain ⟨rfl, hA, tA, hB, tB⟩ := hP
  have a31 := hA.2.2.2
  have b31 := hB.2.2.2
  have hA0 := hA.mv X0.warmed.alike hh0
  have hB0 := hB.mv X0.warmed.alike hh0
  have c1 : Steps p.tables e below (s₁.setTop (entryFrame m #[.ref a, .ref b] 3)) (s₁.setTop (mkF m 0 #[.val (.ref a), .val (.ref b), .unset] [])) := entry rfl
  have c2 : Steps p.tables e below (s₁.setTop (entryFrame m #[.ref a, .ref b] 3)) (s₁.setTop (mkF m 4 #[.val (.ref a), .val (.ref b), .unset] [.int (Int32.ofNat B.slots.size), .int (Int32.ofNat A.slots.size)])) := c1.trans (by
    refine XS.aloadN X0.here hexec rfl (hb hbytes d0) rfl rfl ?_
    refine X0.alen hexec hA0 rfl rfl (hb hbytes d1) ?_
    refine XS.aloadN X0.here hexec rfl (hb hbytes d2) rfl rfl ?_
    refine X0.alen hexec hB0 rfl rfl (hb hbytes d3) ?_
    exact Steps.refl _)
  by_cases hs : A.slots.size = B.slots.size
  · have c3 : Steps p.tables e below (s₁.setTop (entryFrame m #[.ref a, .ref b] 3)) (s₁.setTop (mkF m 9 #[.val (.ref a), .val (.ref b), .val (.int 0)] [])) := c2.trans (by
      refine XS.icmpNo X0.here hexec rfl (hb hbytes d4) rfl (ii_ne_f (by rw [hs])) ?_
      refine iconstV X0.here hexec rfl 0 (hb hbytes d7) (by decide) ?_
      refine XS.istoreN X0.here hexec rfl (hb hbytes d8) rfl rfl ?_
      exact Steps.refl _)
    have loop : ∀ (r i : Nat), i + r = A.slots.size → (∀ j, j < i → yv A j = yv B j) → Steps p.tables e below (s₁.setTop (entryFrame m #[.ref a, .ref b] 3)) (s₁.setTop (mkF m 9 #[.val (.ref a), .val (.ref b), .val (.int (Int32.ofNat i))] [])) → ∃ (pc : Nat) (Ls : Array Slot) (v : Int32), (pc = 25 ∨ pc = 33) ∧ ((v = 1 ∧ EqC A B) ∨ (v = 0 ∧ ¬ EqC A B)) ∧ Steps p.tables e below (s₁.setTop (entryFrame m #[.ref a, .ref b] 3)) (s₁.setTop (mkF m pc Ls [.int v])) := by
      intro r
      induction r with
      | zero =>
        intro i hi he cl
        exact ⟨33, _, 1, Or.inr rfl, Or.inl ⟨rfl, hs, fun j hj => he j (by omega)⟩, cl.trans (by
          refine XS.iloadN X0.here hexec rfl (hb hbytes d9) rfl ?_
          refine XS.aloadN X0.here hexec rfl (hb hbytes d10) rfl rfl ?_
          refine X0.alen hexec hA0 rfl rfl (hb hbytes d11) ?_
          refine XS.icmpYes X0.here hexec rfl (pc0 := 12) rfl (hb hbytes d12) rfl (ii_ge_t (nlt32 (by omega) (by omega))) (by decide) rfl ?_
          refine iconstV X0.here hexec rfl 1 (hb hbytes d32) (by decide) ?_
          exact Steps.refl _)⟩
      | succ r ih =>
        intro i hi he cl
        have c4 : Steps p.tables e below (s₁.setTop (entryFrame m #[.ref a, .ref b] 3)) (s₁.setTop (mkF m 21 #[.val (.ref a), .val (.ref b), .val (.int (Int32.ofNat i))] [.int (yv B i), .int (yv A i)])) := cl.trans (by
          refine XS.iloadN X0.here hexec rfl (hb hbytes d9) rfl ?_
          refine XS.aloadN X0.here hexec rfl (hb hbytes d10) rfl rfl ?_
          refine X0.alen hexec hA0 rfl rfl (hb hbytes d11) ?_
          refine XS.icmpNo X0.here hexec rfl (hb hbytes d12) rfl (ii_ge_f (lt32 (by omega) (by omega))) ?_
          refine XS.aloadN X0.here hexec rfl (hb hbytes d15) rfl rfl ?_
          refine XS.iloadN X0.here hexec rfl (hb hbytes d16) rfl ?_
          refine X0.aget hexec hA0 rfl (yv_get hA tA (i := i) (by omega)) rfl rfl (hb hbytes d17) ?_
          refine XS.aloadN X0.here hexec rfl (hb hbytes d18) rfl rfl ?_
          refine XS.iloadN X0.here hexec rfl (hb hbytes d19) rfl ?_
          refine X0.aget hexec hB0 rfl (yv_get hB tB (i := i) (by omega)) rfl rfl (hb hbytes d20) ?_
          exact Steps.refl _)
        by_cases hv : yv A i = yv B i
        · have c5 : Steps p.tables e below (s₁.setTop (entryFrame m #[.ref a, .ref b] 3)) (s₁.setTop (mkF m 9 #[.val (.ref a), .val (.ref b), .val (.int (Int32.ofNat i + 1))] [])) := c4.trans (by
            refine XS.icmpYes X0.here hexec rfl (pc0 := 21) rfl (hb hbytes d21) rfl (ii_eq_t hv) (by decide) rfl ?_
            refine iincV X0.here hexec rfl 1 (hb hbytes d26) (by decide) rfl rfl ?_
            refine XS.goto X0.here hexec rfl (pc0 := 29) rfl (hb hbytes d29) (by decide) rfl ?_
            exact Steps.refl _)
          rw [succ32] at c5
          exact ih (i + 1) (by omega) (fun j hj => by
            by_cases e : j = i
            · rw [e]; exact hv
            · exact he j (by omega)) c5
        · exact ⟨25, _, 0, Or.inl rfl, Or.inr ⟨rfl, fun q => hv (q.2 i (by omega))⟩, c4.trans (by
            refine XS.icmpNo X0.here hexec rfl (hb hbytes d21) rfl (ii_eq_f hv) ?_
            refine iconstV X0.here hexec rfl 0 (hb hbytes d24) (by decide) ?_
            exact Steps.refl _)⟩
    obtain ⟨pc, Ls, v, hpc, hv, cz⟩ := loop A.slots.size 0 (by omega) (fun j hj => absurd hj (Nat.not_lt_zero j)) c3
    have nv : narrow .boolean (.int v) = .int v := by rcases hv with ⟨rfl, -⟩ | ⟨rfl, -⟩ <;> rfl
    rcases hpc with rfl | rfl
    · exact ⟨s₁, some (.int v), _, _, _, X0, rfl, rfl, rfl, (fun h => by cases h), ⟨v, rfl, hh0, hv⟩, fun fs hl => cz.trans (X0.ireturnOut hexec hret nv (Or.inr (Or.inl rfl)) (hb hbytes d25) hl)⟩
    · exact ⟨s₁, some (.int v), _, _, _, X0, rfl, rfl, rfl, (fun h => by cases h), ⟨v, rfl, hh0, hv⟩, fun fs hl => cz.trans (X0.ireturnOut hexec hret nv (Or.inr (Or.inl rfl)) (hb hbytes d33) hl)⟩
  · have c3 : Steps p.tables e below (s₁.setTop (entryFrame m #[.ref a, .ref b] 3)) (s₁.setTop (mkF m 35 #[.val (.ref a), .val (.ref b), .unset] [.int 0])) := c2.trans (by
      refine XS.icmpYes X0.here hexec rfl (pc0 := 4) rfl (hb hbytes d4) rfl (ii_ne_t (ne32 a31 b31 hs)) (by decide) rfl ?_
      refine iconstV X0.here hexec rfl 0 (hb hbytes d34) (by decide) ?_
      exact Steps.refl _)
    exact ⟨s₁, some (.int 0), _, _, _, X0, rfl, rfl, rfl, (fun h => by cases h), ⟨0, rfl, hh0, Or.inr ⟨rfl, fun q => hs q.1⟩⟩, fun fs hl => c3.trans (X0.ireturnOut hexec hret rfl (Or.inr (Or.inl rfl)) (hb hbytes d35) hl)⟩
end LEq
theorem Cod.ty {cd : Int32} {n : Nat} {f : Nat → Int32} {V : Cell} (h : Cod cd n f V) : Typed .byte V := fun i v hv => by
  have hi : i < V.slots.size := (Array.getElem?_eq_some_iff.mp hv).1
  rcases h with ⟨-, k1, k2⟩ | ⟨-, k1, k2, -⟩
  · rw [(k2 i (by omega)).1] at hv; cases hv; exact fits_lo8 _
  · rcases Nat.mod_two_eq_zero_or_one i with e | e
    · obtain ⟨j, rfl⟩ : ∃ j, i = 2 * j := ⟨i / 2, by omega⟩
      rw [(k2 j (by omega)).1] at hv; cases hv; exact fits_lo8 _
    · obtain ⟨j, rfl⟩ : ∃ j, i = 2 * j + 1 := ⟨i / 2, by omega⟩
      rw [(k2 j (by omega)).2] at hv; cases hv; exact fits_lo8 _
/-- the same text -/
def SameT (n : Nat) (f : Nat → Int32) (k : Nat) (g : Nat → Int32) : Prop := n = k ∧ ∀ j, j < n → f j = g j
theorem lo8_inj {x y : Int32} (h0 : ¬ x < 0) (h1 : ¬ 255 < x) (k0 : ¬ y < 0) (k1 : ¬ 255 < y) (h : lo8 x = lo8 y) : x = y := by
  rw [← lo8_mask h0 h1, ← lo8_mask k0 k1, h]
/-- arrays coded by one coder are equal just where the texts are -/
theorem Cod.eqv {cd : Int32} {n k : Nat} {f g : Nat → Int32} {V V' : Cell} (h : Cod cd n f V) (h' : Cod cd k g V') (hf : ∀ j, j < n → ¬ f j < 0 ∧ ¬ 65535 < f j) (hg : ∀ j, j < k → ¬ g j < 0 ∧ ¬ 65535 < g j) : EqC V V' ↔ SameT n f k g := by
  have yvv : ∀ {W : Cell} {i : Nat} {x : Int32}, W.slots[i]? = some (.int x) → yv W i = x := fun q => by unfold yv; rw [q]
  rcases h with ⟨rfl, k1, k2⟩ | ⟨rfl, k1, k2, -⟩
  · rcases h' with ⟨-, m1, m2⟩ | ⟨e, -⟩
    · constructor
      · rintro ⟨e1, e2⟩
        refine ⟨by omega, fun j hj => ?_⟩
        have q := e2 j (by omega)
        rw [yvv (k2 j hj).1, yvv (m2 j (by omega)).1] at q
        exact lo8_inj (hf j hj).1 (k2 j hj).2 (hg j (by omega)).1 (m2 j (by omega)).2 q
      · rintro ⟨rfl, e2⟩
        refine ⟨by omega, fun j hj => ?_⟩
        rw [yvv (k2 j (by omega)).1, yvv (m2 j (by omega)).1, e2 j (by omega)]
    · exact absurd e (by decide)
  · rcases h' with ⟨e, -⟩ | ⟨-, m1, m2, -⟩
    · exact absurd e (by decide)
    · constructor
      · rintro ⟨e1, e2⟩
        refine ⟨by omega, fun j hj => ?_⟩
        have q1 := e2 (2 * j) (by omega)
        have q2 := e2 (2 * j + 1) (by omega)
        rw [yvv (k2 j hj).1, yvv (m2 j (by omega)).1] at q1
        rw [yvv (k2 j hj).2, yvv (m2 j (by omega)).2] at q2
        rw [← pair_says (hf j hj).1 (hf j hj).2, ← pair_says (hg j (by omega)).1 (hg j (by omega)).2, q1, q2]
      · rintro ⟨rfl, e2⟩
        refine ⟨by omega, fun i hi => ?_⟩
        rcases Nat.mod_two_eq_zero_or_one i with e | e
        · obtain ⟨j, rfl⟩ : ∃ j, i = 2 * j := ⟨i / 2, by omega⟩
          rw [yvv (k2 j (by omega)).1, yvv (m2 j (by omega)).1, e2 j (by omega)]
        · obtain ⟨j, rfl⟩ : ∃ j, i = 2 * j + 1 := ⟨i / 2, by omega⟩
          rw [yvv (k2 j (by omega)).2, yvv (m2 j (by omega)).2, e2 j (by omega)]
/-- two codings differ: so do the texts -/
theorem Cod.dif {cd cd' : Int32} {n k : Nat} {f g : Nat → Int32} {V V' : Cell} (h : Cod cd n f V) (h' : Cod cd' k g V') (hne : ¬ cd = cd') : ¬ SameT n f k g := by
  rintro ⟨rfl, e⟩
  rcases h with ⟨rfl, -, k2⟩ | ⟨rfl, -, -, j, hj, hw⟩
  · rcases h' with ⟨rfl, -⟩ | ⟨-, -, -, j, hj, hw⟩
    · exact hne rfl
    · exact (k2 j hj).2 (by rw [e j hj]; exact hw)
  · rcases h' with ⟨-, -, m2⟩ | ⟨rfl, -⟩
    · exact (m2 j hj).2 (by rw [← e j hj]; exact hw)
    · exact hne rfl
/-- an object of exactly C is an instance of C -/
theorem cinst {p : Program} {l : Launch} {e : Env} {R : Room} {s : State} {m : MethodId} {args : Array Value} {below : List Frame} {meth : Method} {c : Code} {T : State} {locs : List Loc} {cells slots : Nat} (X : Stand p l e R s m args below meth c T locs cells slots) (hexec : p.tables.exec = Jvm.exec) {own C : String} {index : Nat} (hown : s.vm.findClass own = some m.cls) (hlink : (Cond.classLink own index C).before args s = true) {a : Addr} (hE : Exact C a T)
    {g : JFrame} (hg : g.method = m) {rest : List Value} (hstack : g.stack = .ref a :: rest) (hdg : decode c.code g.pc = .ok (.instanceof index, 3)) :
    ∃ T', Stand p l e R s m args below meth c T' locs cells slots ∧ T'.heap = T.heap ∧ ∀ target, Steps p.tables e below (T'.setTop { g with pc := g.pc + 3, stack := .int 1 :: rest }) target → Steps p.tables e below (T.setTop g) target := by
  obtain ⟨cB, h1, D, h2, h3, h4⟩ := hE
  have h1' : s.vm.findClass C = some cB := by rw [← X.warmed.alike.findClass]; exact h1
  obtain ⟨vm', X', st⟩ := X.instanceofYes hexec hown hlink h2 h4 h1' (by rw [h3]; exact Jvm.Free.SB.assignable_self _ _) hg hstack hdg
  exact ⟨_, X', rfl, st⟩
theorem cself {p : Program} {l : Launch} {e : Env} {R : Room} {s : State} {m : MethodId} {args : Array Value} {below : List Frame} {meth : Method} {c : Code} {T : State} {locs : List Loc} {cells slots : Nat} (X : Stand p l e R s m args below meth c T locs cells slots) (hexec : p.tables.exec = Jvm.exec) {own C : String} {index : Nat} (hown : s.vm.findClass own = some m.cls) (hlink : (Cond.classLink own index C).before args s = true) {a : Addr} (hE : Exact C a T)
    {g : JFrame} (hg : g.method = m) {rest : List Value} (hstack : g.stack = .ref a :: rest) (hdg : decode c.code g.pc = .ok (.checkcast index, 3)) :
    ∃ T', Stand p l e R s m args below meth c T' locs cells slots ∧ T'.heap = T.heap ∧ ∀ target, Steps p.tables e below (T'.setTop { g with pc := g.pc + 3, stack := .ref a :: rest }) target → Steps p.tables e below (T.setTop g) target := by
  obtain ⟨cB, h1, D, h2, h3, h4⟩ := hE
  have h1' : s.vm.findClass C = some cB := by rw [← X.warmed.alike.findClass]; exact h1
  obtain ⟨vm', X', st⟩ := X.checkcastYes hexec hown hlink h2 h4 h1' (by rw [h3]; exact Jvm.Free.SB.assignable_self _ _) hg hstack hdg
  exact ⟨_, X', rfl, fun t h => st t (by rw [← hstack] at h; exact h)⟩
namespace SEq
def yN : MethodName := ⟨"java/lang/String", "equals", "(Ljava/lang/Object;)Z"⟩
abbrev yB : ByteArray := jdk_42_method_66_code
theorem d0 : decode yB 0 = .ok (.aload_n 0, 1) := by decide +kernel
theorem d1 : decode yB 1 = .ok (.aload_n 1, 1) := by decide +kernel
theorem d2 : decode yB 2 = .ok (.if_acmp (.ne) 5, 3) := by decide +kernel
theorem d5 : decode yB 5 = .ok (.iconst 1, 1) := by decide +kernel
theorem d6 : decode yB 6 = .ok (.ireturn, 1) := by decide +kernel
theorem d7 : decode yB 7 = .ok (.aload_n 1, 1) := by decide +kernel
theorem d8 : decode yB 8 = .ok (.instanceof 10, 3) := by decide +kernel
theorem d11 : decode yB 11 = .ok (.ifCond (.eq) 43, 3) := by decide +kernel
theorem d14 : decode yB 14 = .ok (.aload_n 1, 1) := by decide +kernel
theorem d15 : decode yB 15 = .ok (.checkcast 10, 3) := by decide +kernel
theorem d18 : decode yB 18 = .ok (.astore_n 2, 1) := by decide +kernel
theorem d19 : decode yB 19 = .ok (.getstatic 38, 3) := by decide +kernel
theorem d22 : decode yB 22 = .ok (.ifCond (.eq) 14, 3) := by decide +kernel
theorem d25 : decode yB 25 = .ok (.aload_n 0, 1) := by decide +kernel
theorem d26 : decode yB 26 = .ok (.getfield 15, 3) := by decide +kernel
theorem d29 : decode yB 29 = .ok (.aload_n 2, 1) := by decide +kernel
theorem d30 : decode yB 30 = .ok (.getfield 15, 3) := by decide +kernel
theorem d33 : decode yB 33 = .ok (.if_icmp (.ne) 21, 3) := by decide +kernel
theorem d36 : decode yB 36 = .ok (.aload_n 0, 1) := by decide +kernel
theorem d37 : decode yB 37 = .ok (.getfield 9, 3) := by decide +kernel
theorem d40 : decode yB 40 = .ok (.aload_n 2, 1) := by decide +kernel
theorem d41 : decode yB 41 = .ok (.getfield 9, 3) := by decide +kernel
theorem d44 : decode yB 44 = .ok (.invokestatic 541, 3) := by decide +kernel
theorem d47 : decode yB 47 = .ok (.ifCond (.eq) 7, 3) := by decide +kernel
theorem d50 : decode yB 50 = .ok (.iconst 1, 1) := by decide +kernel
theorem d51 : decode yB 51 = .ok (.goto 4, 3) := by decide +kernel
theorem d54 : decode yB 54 = .ok (.iconst 0, 1) := by decide +kernel
theorem d55 : decode yB 55 = .ok (.ireturn, 1) := by decide +kernel
def site : List Cond := [.classLink "java/lang/String" 10 "java/lang/String", .fieldLink "java/lang/String" 38 "java/lang/String" "COMPACT_STRINGS" "Z", .fieldLink "java/lang/String" 15 "java/lang/String" "coder" "B", .fieldLink "java/lang/String" 9 "java/lang/String" "value" "[B", LEq.tab] ++ staticW "java/lang/String" 541 LEq.yN
def tab : Cond := tabOf yN yB 3 (some .boolean) site
def P (x t : Addr) (V : Cell) (cd : Int32) (n : Nat) (f : Nat → Int32) (y t' : Addr) (V' : Cell) (cd' : Int32) (k : Nat) (g : Nat → Int32) (z : Int32) (args : Array Value) (s : State) : Prop := args = #[.ref x, .ref y] ∧ Txt x t V cd n f s ∧ Txt y t' V' cd' k g s ∧ StaticIs s "java/lang/String" "COMPACT_STRINGS" "Z" (.int z) ∧ ¬ z = 0
/-- equals(Object) of two Strings: whether the texts are the same -/
theorem law (l : Launch) (x t : Addr) (V : Cell) (cd : Int32) (n : Nat) (f : Nat → Int32) (y t' : Addr) (V' : Cell) (cd' : Int32) (k : Nat) (g : Nat → Int32) (z : Int32) : Law l yN 2 1 1 14 yB 3 (some .boolean) site (P x t V cd n f y t' V' cd' k g z) (Says01 (SameT n f k g)) [] 0 0 := by
  refine Law.of_walk (plainFor_of_name (by decide +kernel)) (by decide +kernel) (by decide +kernel) (by decide) (fun _ _ h => by rw [h.1]; rfl) (fun _ U U' hal hh h => ⟨h.1, h.2.1.mv hal hh, h.2.2.1.mv hal hh, h.2.2.2.1.there hal hh, h.2.2.2.2⟩) (fun r U U' V V' h1 hal h2 h => Says01.mv r U U' V V' h1 hal h2 h) ?_
  intro p e s m args below meth c s₁ X0 hexec hbytes hml hret hlk hnm hown hh0 W hP
  obtain ⟨rfl, hx, hy, s1, hz⟩ := hP
  have c1 : Steps p.tables e below (s₁.setTop (entryFrame m #[.ref x, .ref y] 3)) (s₁.setTop (mkF m 2 #[.val (.ref x), .val (.ref y), .unset] [.ref y, .ref x])) := Steps.trans (entry rfl) (by
    show Steps p.tables e below (s₁.setTop (mkF m 0 #[.val (.ref x), .val (.ref y), .unset] [])) _
    refine XS.aloadN X0.here hexec rfl (hb hbytes d0) rfl rfl ?_
    refine XS.aloadN X0.here hexec rfl (hb hbytes d1) rfl rfl ?_
    exact Steps.refl _)
  by_cases hxy : x = y
  · have c2 : Steps p.tables e below (s₁.setTop (entryFrame m #[.ref x, .ref y] 3)) (s₁.setTop (mkF m 6 #[.val (.ref x), .val (.ref y), .unset] [.int 1])) := c1.trans (by
      refine acmpNo X0.here hexec rfl (hb hbytes d2) rfl rfl rfl (by simp [acmp, hxy]) ?_
      refine iconstV X0.here hexec rfl 1 (hb hbytes d5) (by decide) ?_
      exact Steps.refl _)
    subst hxy
    have ec : cd = cd' := by
      obtain ⟨D, fd, a1, a2, a3⟩ := hx.2.2.1
      obtain ⟨D', fd', b1, b2, b3⟩ := hy.2.2.1
      cases a1.symm.trans b1
      obtain ⟨q1, q2, q3, q4⟩ := a2.1
      obtain ⟨r1, r2, r3, r4⟩ := b2.1
      cases q4.symm.trans r4
      cases a3.symm.trans b3; rfl
    have et : t = t' := by
      obtain ⟨D, fd, a1, a2, a3⟩ := hx.2.1
      obtain ⟨D', fd', b1, b2, b3⟩ := hy.2.1
      cases a1.symm.trans b1
      obtain ⟨q1, q2, q3, q4⟩ := a2.1
      obtain ⟨r1, r2, r3, r4⟩ := b2.1
      cases q4.symm.trans r4
      cases a3.symm.trans b3; rfl
    subst ec et
    have ev : V = V' := by cases hx.2.2.2.1.1.symm.trans hy.2.2.2.1.1; rfl
    subst ev
    have hs : SameT n f k g := (Cod.eqv hx.2.2.2.2.1 hy.2.2.2.2.1 hx.2.2.2.2.2 hy.2.2.2.2.2).mp ⟨rfl, fun _ _ => rfl⟩
    exact ⟨s₁, some (.int 1), _, _, _, X0, rfl, rfl, rfl, (fun h => by cases h), ⟨1, rfl, hh0, Or.inl ⟨rfl, hs⟩⟩, fun fs hl => c2.trans (X0.ireturnOut hexec hret rfl (Or.inr (Or.inl rfl)) (hb hbytes d6) hl)⟩
  · have c2 : Steps p.tables e below (s₁.setTop (entryFrame m #[.ref x, .ref y] 3)) (s₁.setTop (mkF m 8 #[.val (.ref x), .val (.ref y), .unset] [.ref y])) := c1.trans (by
      refine acmpYes X0.here hexec rfl (pc0 := 2) rfl (hb hbytes d2) rfl rfl rfl (by simp [acmp, hxy]) (by decide) rfl ?_
      refine XS.aloadN X0.here hexec rfl (hb hbytes d7) rfl rfl ?_
      exact Steps.refl _)
    obtain ⟨T3, X3, q3, st3⟩ := cinst X0 hexec hown (wk W (.classLink "java/lang/String" 10 "java/lang/String")) (hy.mv X0.warmed.alike hh0).1 (g := (mkF m 8 #[.val (.ref x), .val (.ref y), .unset] [.ref y])) rfl (rest := []) rfl (hb hbytes d8)
    have hh3 := q3.trans hh0
    have c4 : Steps p.tables e below (s₁.setTop (entryFrame m #[.ref x, .ref y] 3)) (T3.setTop (mkF m 15 #[.val (.ref x), .val (.ref y), .unset] [.ref y])) := (c2.trans (st3 _ (Steps.refl _))).trans (by
      refine XS.ifNo X3.here hexec rfl (hb hbytes d11) rfl (i0_eq_f (by decide)) ?_
      refine XS.aloadN X3.here hexec rfl (hb hbytes d14) rfl rfl ?_
      exact Steps.refl _)
    obtain ⟨T5, X5, q5, st5⟩ := cself X3 hexec hown (wk W (.classLink "java/lang/String" 10 "java/lang/String")) (hy.mv X3.warmed.alike hh3).1 (g := (mkF m 15 #[.val (.ref x), .val (.ref y), .unset] [.ref y])) rfl (rest := []) rfl (hb hbytes d15)
    have hh5 := q5.trans hh3
    have c6 : Steps p.tables e below (s₁.setTop (entryFrame m #[.ref x, .ref y] 3)) (T5.setTop (mkF m 19 #[.val (.ref x), .val (.ref y), .val (.ref y)] [])) := (c4.trans (st5 _ (Steps.refl _))).trans (by
      refine XS.astoreN X5.here hexec rfl (hb hbytes d18) rfl rfl rfl ?_
      exact Steps.refl _)
    obtain ⟨T7, X7, q7, st7⟩ := X5.sget hexec hown (wk W (.fieldLink "java/lang/String" 38 "java/lang/String" "COMPACT_STRINGS" "Z")) s1 (fun _ _ h => by rw [hh5]; exact h) (g := (mkF m 19 #[.val (.ref x), .val (.ref y), .val (.ref y)] [])) rfl (hb hbytes d19)
    have hh7 := q7.trans hh5
    have c8 : Steps p.tables e below (s₁.setTop (entryFrame m #[.ref x, .ref y] 3)) (T7.setTop (mkF m 26 #[.val (.ref x), .val (.ref y), .val (.ref y)] [.ref x])) := (c6.trans (st7 _ (Steps.refl _))).trans (by
      refine XS.ifNo X7.here hexec rfl (hb hbytes d22) rfl (i0_eq_f hz) ?_
      refine XS.aloadN X7.here hexec rfl (hb hbytes d25) rfl rfl ?_
      exact Steps.refl _)
    obtain ⟨T9, X9, q9, st9⟩ := X7.hget hexec hown (wk W (.fieldLink "java/lang/String" 15 "java/lang/String" "coder" "B")) (hx.mv X7.warmed.alike hh7).2.2.1 (g := (mkF m 26 #[.val (.ref x), .val (.ref y), .val (.ref y)] [.ref x])) rfl (rest := []) rfl (hb hbytes d26)
    have hh9 := q9.trans hh7
    have c10 : Steps p.tables e below (s₁.setTop (entryFrame m #[.ref x, .ref y] 3)) (T9.setTop (mkF m 30 #[.val (.ref x), .val (.ref y), .val (.ref y)] [.ref y, .int cd])) := (c8.trans (st9 _ (Steps.refl _))).trans (by
      refine XS.aloadN X9.here hexec rfl (hb hbytes d29) rfl rfl ?_
      exact Steps.refl _)
    obtain ⟨T11, X11, q11, st11⟩ := X9.hget hexec hown (wk W (.fieldLink "java/lang/String" 15 "java/lang/String" "coder" "B")) (hy.mv X9.warmed.alike hh9).2.2.1 (g := (mkF m 30 #[.val (.ref x), .val (.ref y), .val (.ref y)] [.ref y, .int cd])) rfl (rest := [.int cd]) rfl (hb hbytes d30)
    have hh11 := q11.trans hh9
    have c12 : Steps p.tables e below (s₁.setTop (entryFrame m #[.ref x, .ref y] 3)) (T11.setTop (mkF m 33 #[.val (.ref x), .val (.ref y), .val (.ref y)] [.int cd', .int cd])) := c10.trans (st11 _ (Steps.refl _))
    by_cases hcd : cd = cd'
    · subst hcd
      have c13 : Steps p.tables e below (s₁.setTop (entryFrame m #[.ref x, .ref y] 3)) (T11.setTop (mkF m 37 #[.val (.ref x), .val (.ref y), .val (.ref y)] [.ref x])) := c12.trans (by
        refine XS.icmpNo X11.here hexec rfl (hb hbytes d33) rfl (ii_ne_f rfl) ?_
        refine XS.aloadN X11.here hexec rfl (hb hbytes d36) rfl rfl ?_
        exact Steps.refl _)
      obtain ⟨T14, X14, q14, st14⟩ := X11.hget hexec hown (wk W (.fieldLink "java/lang/String" 9 "java/lang/String" "value" "[B")) (hx.mv X11.warmed.alike hh11).2.1 (g := (mkF m 37 #[.val (.ref x), .val (.ref y), .val (.ref y)] [.ref x])) rfl (rest := []) rfl (hb hbytes d37)
      have hh14 := q14.trans hh11
      have c15 : Steps p.tables e below (s₁.setTop (entryFrame m #[.ref x, .ref y] 3)) (T14.setTop (mkF m 41 #[.val (.ref x), .val (.ref y), .val (.ref y)] [.ref y, .ref t])) := (c13.trans (st14 _ (Steps.refl _))).trans (by
        refine XS.aloadN X14.here hexec rfl (hb hbytes d40) rfl rfl ?_
        exact Steps.refl _)
      obtain ⟨T16, X16, q16, st16⟩ := X14.hget hexec hown (wk W (.fieldLink "java/lang/String" 9 "java/lang/String" "value" "[B")) (hy.mv X14.warmed.alike hh14).2.1 (g := (mkF m 41 #[.val (.ref x), .val (.ref y), .val (.ref y)] [.ref y, .ref t])) rfl (rest := [.ref t]) rfl (hb hbytes d41)
      have hh16 := q16.trans hh14
      have c17 : Steps p.tables e below (s₁.setTop (entryFrame m #[.ref x, .ref y] 3)) (T16.setTop (mkF m 44 #[.val (.ref x), .val (.ref y), .val (.ref y)] [.ref t', .ref t])) := c15.trans (st16 _ (Steps.refl _))
      obtain ⟨v18, T18, X18, E18, g18⟩ := X16.callS hexec (LEq.law l t V t' V') hown (wks W (staticW "java/lang/String" 541 LEq.yN)) (wk W LEq.tab) (W := 0) (Nat.le_of_ble_eq_true rfl) (Nat.le_of_ble_eq_true rfl) (Nat.le_refl _) (Nat.le_refl _) (g := (mkF m 44 #[.val (.ref x), .val (.ref y), .val (.ref y)] [.ref t', .ref t])) rfl (by rw [hml]; rfl) c17 (argsL := [.ref t, .ref t']) (rest := []) rfl rfl (by show 2 * 0 + 0 ≤ _; decide) (hb hbytes d44) (⟨rfl, hx.2.2.2.1.mv X16.warmed.alike hh16, hx.2.2.2.2.1.ty, hy.2.2.2.1.mv X16.warmed.alike hh16, hy.2.2.2.2.1.ty⟩)
      obtain ⟨v, rfl, q18, hv⟩ := E18
      have iff := Cod.eqv hx.2.2.2.2.1 hy.2.2.2.2.1 hx.2.2.2.2.2 hy.2.2.2.2.2
      rcases hv with ⟨rfl, he⟩ | ⟨rfl, he⟩
      · have c19 : Steps p.tables e below (s₁.setTop (entryFrame m #[.ref x, .ref y] 3)) (T18.setTop (mkF m 55 #[.val (.ref x), .val (.ref y), .val (.ref y)] [.int 1])) := Steps.trans g18 (by
          refine XS.ifNo X18.here hexec rfl (hb hbytes d47) rfl (i0_eq_f (by decide)) ?_
          refine iconstV X18.here hexec rfl 1 (hb hbytes d50) (by decide) ?_
          refine XS.goto X18.here hexec rfl (pc0 := 51) rfl (hb hbytes d51) (by decide) rfl ?_
          exact Steps.refl _)
        exact ⟨T18, some (.int 1), _, _, _, X18, rfl, rfl, rfl, (fun h => by cases h), ⟨1, rfl, q18.trans hh16, Or.inl ⟨rfl, iff.mp he⟩⟩, fun fs hl => c19.trans (X18.ireturnOut hexec hret rfl (Or.inr (Or.inl rfl)) (hb hbytes d55) hl)⟩
      · have c19 : Steps p.tables e below (s₁.setTop (entryFrame m #[.ref x, .ref y] 3)) (T18.setTop (mkF m 55 #[.val (.ref x), .val (.ref y), .val (.ref y)] [.int 0])) := Steps.trans g18 (by
          refine XS.ifYes X18.here hexec rfl (pc0 := 47) rfl (hb hbytes d47) rfl (i0_eq_t rfl) (by decide) rfl ?_
          refine iconstV X18.here hexec rfl 0 (hb hbytes d54) (by decide) ?_
          exact Steps.refl _)
        exact ⟨T18, some (.int 0), _, _, _, X18, rfl, rfl, rfl, (fun h => by cases h), ⟨0, rfl, q18.trans hh16, Or.inr ⟨rfl, fun q => he (iff.mpr q)⟩⟩, fun fs hl => c19.trans (X18.ireturnOut hexec hret rfl (Or.inr (Or.inl rfl)) (hb hbytes d55) hl)⟩
    · have c13 : Steps p.tables e below (s₁.setTop (entryFrame m #[.ref x, .ref y] 3)) (T11.setTop (mkF m 55 #[.val (.ref x), .val (.ref y), .val (.ref y)] [.int 0])) := c12.trans (by
        refine XS.icmpYes X11.here hexec rfl (pc0 := 33) rfl (hb hbytes d33) rfl (ii_ne_t hcd) (by decide) rfl ?_
        refine iconstV X11.here hexec rfl 0 (hb hbytes d54) (by decide) ?_
        exact Steps.refl _)
      exact ⟨T11, some (.int 0), _, _, _, X11, rfl, rfl, rfl, (fun h => by cases h), ⟨0, rfl, hh11, Or.inr ⟨rfl, Cod.dif hx.2.2.2.2.1 hy.2.2.2.2.1 hcd⟩⟩, fun fs hl => c13.trans (X11.ireturnOut hexec hret rfl (Or.inr (Or.inl rfl)) (hb hbytes d55) hl)⟩
theorem pays {l : Launch} {R : Room} {p : Program} {e : Env} {below : List Frame} {s : State} {sargs : Array Value} {len W : Nat} (x t : Addr) (V : Cell) (cd : Int32) (n : Nat) (f : Nat → Int32) (y t' : Addr) (V' : Cell) (cd' : Int32) (k : Nat) (g : Nat → Int32) (z : Int32) (htab : tab.before sargs s = true) (hfr : 2 ≤ R.frames) (hlo : W + 28 ≤ R.locals) :
    Back l R p e below s sargs yN len W (fun A₁ a₁ => A₁.cells + 0 ≤ R.cells ∧ A₁.slots + 0 ≤ R.slots ∧ P x t V cd n f y t' V' cd' k g z a₁ A₁.U) (fun A₁ _ v₁ B₁ => Says01 (SameT n f k g) v₁ A₁.U B₁.U ∧ B₁.locs = A₁.locs ++ [] ∧ B₁.cells = A₁.cells + 0 ∧ B₁.slots = A₁.slots + 0) :=
  (law l x t V cd n f y t' V' cd' k g z).pays htab hfr (by omega)
end SEq
end StrChars
namespace StrChars.Road
open Jvm Sem ClassFile Op Lib Jvm.Stand Jvm.Free Jvm.Free.XT
open Jvm.Lib.Cold (StaticIs)
/-- the words of String.equals(Object) -/
abbrev wordsEq : List Jvm.Cond := [.code SEq.yN SEq.yB 3 (some .boolean), .initialized ST, .classLink ST 10 ST, .fieldLink ST 38 ST "COMPACT_STRINGS" "Z", .fieldLink ST 15 ST "coder" "B", .fieldLink ST 9 ST "value" "[B", .methodLink ST 541 LEq.yN, .static LEq.yN, .code LEq.yN LEq.yB 3 (some .boolean), .initialized "java/lang/StringLatin1"]
theorem tabEq_of {a : Array Value} {s : State} (h : ∀ w ∈ wordsEq, w.before a s = true) : SEq.tab.before a s = true := by
  have hl : LEq.tab.before a s = true := unparts (wk h (.code LEq.yN LEq.yB 3 (some .boolean))) (wks h (.initialized LEq.yN.cls :: LEq.site))
  have q := consq hl h
  exact unparts (wk q (.code SEq.yN SEq.yB 3 (some .boolean))) (wks q (.initialized SEq.yN.cls :: SEq.site))
theorem movedEq {Z s : State} {a0 args : Array Value} (hZ : Z.Warmed39 s.vm) (hw : ∀ d ∈ wordsEq, d.before a0 Z = true) : ∀ d ∈ wordsEq, d.before args s = true := fun d hd => by
  have t : ∀ d ∈ wordsEq, (d.onTables && d.keepsFace) = true := by decide +kernel
  exact RoadKit.mv hZ (hw d hd) (t d hd)
/-- the road's facts of a String, as the laws ask it -/
theorem txt_of {Z U : State} {a0 : Array Value} {kI : Nat} (wi : (Jvm.Cond.instantiable ST kI).before a0 Z = true) (al : Z.vm.Alike U.vm) {x t : Addr} {kb : ClassId} {cs : List Int32} {cd N2 : Int32} {vs : List Value} (E : RoadKit.Exa Z U.heap x ST) (V : RoadKit.Fld Z U.heap x ST "value" "[B" (.ref t)) (C : RoadKit.Fld Z U.heap x ST "coder" "B" (.int cd)) (K : RoadKit.Arv Z U.heap t kb .byte N2 vs (.int 0)) (hc : CodA cs cd N2 vs) (hb : ∀ c ∈ cs, ¬ c < 0 ∧ ¬ (65535 : Int32) < c) (l2 : cs.length ≤ 4000) :
    ∃ A, Txt x t A cd cs.length (fun j => cs.getD j 0) U := by
  obtain ⟨A, K1, K2, K3, K4, K5, K6⟩ := K
  have hcod := hc.cod (by omega) K3 K5
  obtain ⟨D, fV, fC, hB, F1, F2, g1, g2, -, -⟩ := strObj wi al E V C
  exact ⟨A, ⟨_, hB.2.2.1, D, hB.1, rfl, by cases q : D.vm <;> first | rfl | exact absurd q (hB.2.1.2 _)⟩, Has.of hB F1 g1, Has.of hB F2 g2, ⟨K1.1, State.isArrayOf_alike al K1.2.1, K1.2.2, by rcases hcod with ⟨-, q, -⟩ | ⟨-, q, -⟩ <;> omega⟩, hcod, fun j hj => by
    have e : cs.getD j 0 = cs[j] := by simp [List.getD_eq_getElem?_getD, hj]
    show ¬ cs.getD j 0 < 0 ∧ ¬ 65535 < cs.getD j 0
    rw [e]; exact hb _ (List.getElem_mem _)⟩
theorem same_list (cs ds : List Int32) : SameT cs.length (fun j => cs.getD j 0) ds.length (fun j => ds.getD j 0) ↔ cs = ds := by
  constructor
  · rintro ⟨e, q⟩
    refine List.ext_getElem e fun j h1 h2 => ?_
    have := q j h1
    simpa [List.getD_eq_getElem?_getD, h1, h2] using this
  · rintro rfl
    exact ⟨rfl, fun _ _ => rfl⟩
/-- **equals(Object) OF TWO SUCH STRINGS**: 1 just where the chars are the same -/
theorem eqW {p : Program} {l : Launch} {e : Env} {R : Room} {s : State} {args : Array Value} {below : List Frame} {len W : Nat} {Z : State} {a0 : Array Value} {h : Heap} (hZ : Z.Warmed39 s.vm) (hw : ∀ d ∈ wordsEq, d.before a0 Z = true) {kI : Nat} (wi : (Jvm.Cond.instantiable ST kI).before a0 Z = true)
    {x t : Addr} {kb : ClassId} {cs : List Int32} {cd N2 : Int32} {vs : List Value} (E : RoadKit.Exa Z h x ST) (V : RoadKit.Fld Z h x ST "value" "[B" (.ref t)) (C : RoadKit.Fld Z h x ST "coder" "B" (.int cd)) (K : RoadKit.Arv Z h t kb .byte N2 vs (.int 0)) (hc : CodA cs cd N2 vs) (hb : ∀ c ∈ cs, ¬ c < 0 ∧ ¬ (65535 : Int32) < c) (l2 : cs.length ≤ 4000)
    {y t' : Addr} {kb' : ClassId} {ds : List Int32} {cd' N2' : Int32} {vs' : List Value} (E' : RoadKit.Exa Z h y ST) (V' : RoadKit.Fld Z h y ST "value" "[B" (.ref t')) (C' : RoadKit.Fld Z h y ST "coder" "B" (.int cd')) (K' : RoadKit.Arv Z h t' kb' .byte N2' vs' (.int 0)) (hc' : CodA ds cd' N2' vs') (hb' : ∀ c ∈ ds, ¬ c < 0 ∧ ¬ (65535 : Int32) < c) (l2' : ds.length ≤ 4000)
    {z : Int32} (S : RoadKit.Sta Z h ST "COMPACT_STRINGS" "Z" (.int z)) (hz : ¬ z = 0) (hfr : 2 ≤ R.frames) (hlo : W + 28 ≤ R.locals) :
    Back l R p e below s args (⟨"java/lang/String", "equals", "(Ljava/lang/Object;)Z"⟩ : MethodName) len W (fun P a => a = #[.ref x, .ref y] ∧ P.U.heap = h ∧ P.cells + 0 ≤ R.cells ∧ P.slots + 0 ≤ R.slots)
      (fun P _ v B => ∃ L, (((v = some (.int 1) ∧ cs = ds) ∨ (v = some (.int 0) ∧ ¬ cs = ds)) ∧ L = [] ∧ B.U.heap = h) ∧ B.locs = P.locs ++ L ∧ B.cells = P.cells + 0 ∧ B.slots = P.slots + 0) := by
  intro m meth c P g ig mk a X hg hsize hdg hW hn hp'
  obtain ⟨rfl, rfl, r1, r2⟩ := hp'
  have al : Z.vm.Alike P.U.vm := hZ.alike.trans X.warmed.alike
  obtain ⟨A, hx⟩ := txt_of wi al E V C K hc hb l2
  obtain ⟨A', hy⟩ := txt_of wi al E' V' C' K' hc' hb' l2'
  obtain ⟨v, B, X', ⟨⟨w, hv, hh, hq⟩, hl, hk, hs⟩, st⟩ := SEq.pays x t A cd cs.length (fun j => cs.getD j 0) y t' A' cd' ds.length (fun j => ds.getD j 0) z (tabEq_of (movedEq hZ hw)) hfr hlo m meth c P g ig mk _ X hg hsize hdg hW hn ⟨r1, r2, rfl, hx, hy, sta_is al S, hz⟩
  refine ⟨v, B, X', ⟨[], ⟨?_, rfl, hh⟩, hl, hk, hs⟩, st⟩
  rcases hq with ⟨rfl, q⟩ | ⟨rfl, q⟩
  · exact Or.inl ⟨hv, (same_list cs ds).mp q⟩
  · exact Or.inr ⟨hv, fun e => q ((same_list cs ds).mpr e)⟩
end StrChars.Road
namespace StrChars.Road
open Jvm Sem ClassFile Op Lib Jvm.Stand Jvm.Free Jvm.Free.XT
open Jvm.Lib.Cold (StaticIs)
/-- what backV says of its String, as the contracts of this text ask it: cs's low bytes, coder 0 -/
theorem codOf {cs : List Int32} {n : Nat} (hn : cs.length = n) (hb : ∀ c ∈ cs, ¬ 255 < c) : CodA cs 0 (Int32.ofNat n) ((cs.map lo8).map Value.int) := Or.inl ⟨rfl, by rw [hn], by simp [List.map_map, Function.comp_def], hb⟩
end StrChars.Road
end Jvm.Pilot.@@N@@
namespace Jvm.RoadKit
open Sem ClassFile Op Lib Jvm.Stand Jvm.Free Jvm.LawKit
section New
variable {p : Program} {l : Launch} {e : Env} {R : Room} {s : State} {m : MethodId} {args : Array Value} {below : List Frame} {meth : Method} {c : Code} {T : State} {locs : List Loc} {cells slots : Nat}
theorem retI (X : Stand p l e R s m args below meth c T locs cells slots) (hx : p.tables.exec = Jvm.exec) {pc : Nat} {Ls : Array Slot} {z : Int32} {rest : List Value} (hret : meth.sig.returnType = some .int) (hd : decode c.code pc = .ok (.ireturn, 1)) {fs : List Frame}
    (hl : ∀ (f : JFrame) (acts : List Action), f.method = m → f.locked = none → f.entered = [] → (doReturn e (T.setTop f) acts (some (.int z))).1 = T.setFrames fs) : Steps p.tables e below (T.setTop (mkF m pc Ls (.int z :: rest))) (T.setFrames fs) := by
  have hm' : T.vm.method? m = some meth := X.method'
  have hn : narrow .int (.int z) = .int z := rfl
  show Steps p.tables e below (T.setTop { method := m, pc := pc, locals := Ls, stack := _ :: rest, locked := none }) _
  jvm_step X.here [X.here.top, hx, hd, hm', hret, hn]
  first | (intro acts; rw [hl _ acts rfl rfl rfl]) | rw [hl _ _ rfl rfl rfl]
  exact Steps.refl _
end New
/-- the run has come from where P looks on to this frame -/
def Go (p : Program) (e : Env) (below : List Frame) (P : State → Prop) (T : State) (g : JFrame) : Prop := ∀ t, Steps p.tables e below (T.setTop g) t → P t
/-- where roads that move the state meet: one of them has come to this frame (wide: it may have interned) -/
def PosW (p : Program) (l : Launch) (e : Env) (R : Room) (s : State) (m : MethodId) (args : Array Value) (below : List Frame) (meth : Method) (c : Code) (P : State → Prop) (Z : State) (n0 : Nat) (own : String) (EL : List (String × Nat)) (h0 hf : Heap) (ws : List Addr) (cells slots : Nat) (g : JFrame) (K : Heap → Prop) : Prop :=
  ∃ (vm : Vm) (T : State) (locs : List Loc) (k : Nat), Stand p l e R (s.setVm vm) m args below meth c T locs cells slots ∧ Fr n0 locs ∧ Keep hf T.heap ws ∧ s.Since vm k ∧ k ≤ T.heap.size ∧ Z.Warmed39 vm ∧ vm.findClass own = some m.cls ∧ CHr Z EL s.vm h0 vm T.heap ∧ Go p e below P T g ∧ K T.heap
def PosN (p : Program) (l : Launch) (e : Env) (R : Room) (s : State) (m : MethodId) (args : Array Value) (below : List Frame) (meth : Method) (c : Code) (P : State → Prop) (n0 : Nat) (hf : Heap) (ws : List Addr) (cells slots : Nat) (g : JFrame) (K : Heap → Prop) : Prop :=
  ∃ (T : State) (locs : List Loc), Stand p l e R s m args below meth c T locs cells slots ∧ Fr n0 locs ∧ Keep hf T.heap ws ∧ Go p e below P T g ∧ K T.heap
theorem oldLe {Z : State} {n0 : Nat} {h : Heap} (O : Old Z n0 h) : n0 ≤ h.size := O.1 ▸ O.2.1
theorem ownNarRef {t : FieldType} {v : Value} (h : v.isRef = true) : narrow t v = v := by
  rcases ref_cases h with rfl | ⟨_, rfl⟩ <;> cases t <;> rfl
theorem fits_refV {C : String} {v : Value} (h : v.isRef = true) : fits (.object C) v = true := by
  rcases ref_cases h with rfl | ⟨_, rfl⟩ <;> rfl
end Jvm.RoadKit
namespace Jvm.Pilot.@@N@@
open Jvm Jvm.ClassFile Sem Op Lib Jvm.Free Jvm.Stand Jvm.LawKit Jvm.RoadKit Bundle Jvm.Pilot.@@N@@.Jvm.D
theorem eq_int {args : Array Value} {first s : State} {o : Option Outcome} {idx : List Nat} {a b : Term} {x : Value} {z : Int32} (ha : a.eval args first o idx s = some x) (hb : b.eval args first o idx s = some (.int z)) (h : (Jvm.Cond.eq a b).value args first o s idx = some true) : x = .int z := by
  cases x <;> simp [Cond.value, ha, hb] at h ⊢ <;> exact h
theorem nar_b0 : nar .boolean 0 = 0 := by decide
theorem nar_b1 : nar .boolean 1 = 1 := by decide
theorem nar_b8 (x : Int32) : nar .byte (x.toInt8.toInt32) = x.toInt8.toInt32 := by show (x.toInt8.toInt32).toInt8.toInt32 = x.toInt8.toInt32; simp
theorem eq_I {args : Array Value} {first s : State} {o : Option Outcome} {idx : List Nat} {a b : Term} {x y : Int32} (ha : a.eval args first o idx s = some (.int x)) (hb : b.eval args first o idx s = some (.int y)) : (Jvm.Cond.eq a b).value args first o s idx = some (decide (x = y)) := by simp [Cond.value, ha, hb]
theorem chr255 (x : Int32) : nar .char ((x &&& (255 : Int32)).toUInt32.toUInt16.toUInt32.toInt32) = ((x &&& (255 : Int32)).toUInt32.toUInt16.toUInt32.toInt32) ∧ ¬ ((x &&& (255 : Int32)).toUInt32.toUInt16.toUInt32.toInt32) < 0 ∧ ¬ (255 : Int32) < ((x &&& (255 : Int32)).toUInt32.toUInt16.toUInt32.toInt32) := by
  have t : ∀ k : Fin 256, nar .char ((Int32.ofNat k.val).toUInt32.toUInt16.toUInt32.toInt32) = ((Int32.ofNat k.val).toUInt32.toUInt16.toUInt32.toInt32) ∧ ¬ ((Int32.ofNat k.val).toUInt32.toUInt16.toUInt32.toInt32) < 0 ∧ ¬ (255 : Int32) < ((Int32.ofNat k.val).toUInt32.toUInt16.toUInt32.toInt32) := by decide +kernel
  have h : (x &&& 255).toBitVec.toNat < 256 := by
    simp only [Int32.toBitVec_and, BitVec.toNat_and]
    exact Nat.lt_succ_of_le Nat.and_le_right
  have e : (x &&& 255) = Int32.ofNat (x &&& 255).toBitVec.toNat := by
    apply Int32.toBitVec_inj.mp
    show _ = BitVec.ofNat 32 _
    rw [BitVec.ofNat_toNat]; simp
  rw [e]
  exact t ⟨_, h⟩
abbrev EL0 : List (String × Nat) := [("java/lang/String", 7)]
theorem wS_of {Z : State} {a0 : Array Value} (hw : ∀ d ∈ tables_1, d.before a0 Z = true) : ∀ a ∈ Bundle.stringAtoms, a.before a0 Z = true := by
  intro a ha
  simp only [Bundle.stringAtoms, List.mem_cons, List.not_mem_nil, or_false] at ha
  rcases ha with rfl | rfl | rfl | rfl | rfl | rfl | rfl
  · exact (hw _ (List.mem_of_getElem? (i := 6) rfl))
  · exact (hw _ (List.mem_of_getElem? (i := 5) rfl))
  · exact (hw _ (List.mem_of_getElem? (i := 23) rfl))
  · exact (hw _ (List.mem_of_getElem? (i := 33) rfl))
  · exact (hw _ (List.mem_of_getElem? (i := 31) rfl))
  · exact (hw _ (List.mem_of_getElem? (i := 93) rfl))
  · exact (hw _ (List.mem_of_getElem? (i := 94) rfl))
theorem safeNull {Z : State} {EL : List (String × Nat)} {vm : Vm} {h : Heap} {x : Addr} (hal : Z.vm.Alike vm) (E : Exa Z h x "java/lang/String") (F : Fld Z h x "java/lang/String" "value" "[B" .null) : Safe Z EL vm h x := fun B => by
  obtain ⟨p, -, u, a, -, q, -, G, hx⟩ := B
  rcases hx with hx | hx
  · subst hx
    obtain ⟨cell, cf, k, i, f, f1, f2, f3, f4, f5, f6, f7⟩ := F
    obtain ⟨cS, ⟨⟨s1, s2, s3, ⟨cv, kv, iv, s4, s4'⟩, s5, s6, s7, s8, s9⟩, -⟩, -⟩ := G
    obtain ⟨kv', z4⟩ := ff_back (U := Wst Z vm h) hal s4
    cases f2.symm.trans z4
    have s1' : h[q.sa]? = some q.sC := s1
    cases f1.symm.trans s1'
    cases f7.symm.trans s8
  · subst hx
    obtain ⟨cell, k, e1, e2, e3, -, -⟩ := E
    have s10' : h[q.sd]? = some q.SA := G.hd
    cases e1.symm.trans s10'
    obtain ⟨cS, -, -, f, -⟩ := G
    have f' : vm.findClass "[B" = some q.SA.cls := f
    rw [hal.findClass] at f'
    obtain ⟨k1, q1, q2⟩ := Vm.findClass_spec f'
    obtain ⟨k2, q3, q4⟩ := Vm.findClass_spec e2
    cases q1.symm.trans q3
    exact absurd (q2.symm.trans q4) (by decide)
theorem w_backV {Z : State} {a0 : Array Value} (hw : ∀ d ∈ tables_1, d.before a0 Z = true) : ∀ d ∈ StrChars.Road.words, d.before a0 Z = true := fun d hd => hw d ((by decide +kernel : ∀ d ∈ StrChars.Road.words, d ∈ tables_1) d hd)
theorem w_eqW {Z : State} {a0 : Array Value} (hw : ∀ d ∈ tables_1, d.before a0 Z = true) : ∀ d ∈ StrChars.Road.wordsEq, d.before a0 Z = true := fun d hd => hw d ((by decide +kernel : ∀ d ∈ StrChars.Road.wordsEq, d ∈ tables_1) d hd)
theorem upC {cs : List Int32} (h : ∀ c ∈ cs, ¬ c < 0 ∧ ¬ (255 : Int32) < c) : ∀ c ∈ cs, ¬ c < 0 ∧ ¬ (65535 : Int32) < c := fun c hc => ⟨(h c hc).1, fun q => (h c hc).2 (by rw [Int32.lt_iff_toInt_lt] at q ⊢; have e1 : (65535 : Int32).toInt = 65535 := rfl; have e2 : (255 : Int32).toInt = 255 := rfl; omega)⟩
theorem hcod {cs : List Int32} (h : ∀ c ∈ cs, ¬ c < 0 ∧ ¬ (255 : Int32) < c) : StrChars.Road.CodA cs 0 (Int32.ofNat cs.length) ((cs.map StrChars.lo8).map Value.int) := StrChars.Road.codOf rfl fun c hc => (h c hc).2
def eqI (cs ds : List Int32) : Int32 := if cs = ds then 1 else 0
theorem pn_47582652 : plainName "java/lang/String" = true := by first | (simp [plainName, overriddenIn]; done) | decide +kernel
theorem ef_strE4 (m : MethodId) (x0 : Addr) (x1 : Addr) (x2 : Int32) (x3 : Int32) : entryFrame m #[(.ref x0), (.ref x1), (.int x2), (.int x3), .null] 6 = mkF m 0 #[.val (.ref x0), .val (.ref x1), .val (.int x2), .val (.int x3), .val .null, .unset] [] := by first | (simp [entryFrame, mkF, argsToLocals, Value.category]; done) | rfl
theorem d3_0 : decode jdk_42_method_149_code 0 = .ok (.aload_n 0, 1) := by decide +kernel
theorem d3_1 : decode jdk_42_method_149_code 1 = .ok (.invokespecial 1, 3) := by decide +kernel
theorem d3_4 : decode jdk_42_method_149_code 4 = .ok (.iload_n 3, 1) := by decide +kernel
theorem d3_5 : decode jdk_42_method_149_code 5 = .ok (.ifCond .ne 22, 3) := by decide +kernel
theorem d3_8 : decode jdk_42_method_149_code 8 = .ok (.aload_n 0, 1) := by decide +kernel
theorem d3_9 : decode jdk_42_method_149_code 9 = .ok (.ldc 7, 2) := by decide +kernel
theorem d3_11 : decode jdk_42_method_149_code 11 = .ok (.getfield 9, 3) := by decide +kernel
theorem d3_14 : decode jdk_42_method_149_code 14 = .ok (.putfield 9, 3) := by decide +kernel
theorem d3_17 : decode jdk_42_method_149_code 17 = .ok (.aload_n 0, 1) := by decide +kernel
theorem d3_18 : decode jdk_42_method_149_code 18 = .ok (.ldc 7, 2) := by decide +kernel
theorem d3_20 : decode jdk_42_method_149_code 20 = .ok (.getfield 15, 3) := by decide +kernel
theorem d3_23 : decode jdk_42_method_149_code 23 = .ok (.putfield 15, 3) := by decide +kernel
theorem d3_26 : decode jdk_42_method_149_code 26 = .ok (.return_, 1) := by decide +kernel
def Q_strE4 (Z : State) (x : Addr) (b : Addr) (h0 : Heap) (n0 : Nat) (rv_ : Option Value) (rh_ : Heap) (rL_ : List Loc) : Prop := ∃ t : Addr, ∃ kb : ClassId, (rv_ = none) ∧ (Fr n0 rL_) ∧ (Keep h0 rh_ [x]) ∧ (Exa Z rh_ x "java/lang/String") ∧ (Fld Z rh_ x "java/lang/String" "coder" "B" (.int (0 : Int32))) ∧ (Fld Z rh_ x "java/lang/String" "value" "[B" (.ref t)) ∧ (Arv Z rh_ t kb .byte (Int32.ofNat ([] : List Int32).length) ((([] : List Int32).map StrChars.lo8).map Value.int) (.int (0 : Int32)))
set_option maxRecDepth 65536 in
set_option maxHeartbeats 40000000 in
theorem strE4 (l : Launch) (Z : State) (a0 : Array Value) (hw : ∀ d ∈ tables_1, d.before a0 Z = true) (ws : List Jvm.Cond) (x : Addr) (b : Addr) (h0 : Heap) (n0 : Nat) (O0 : Old Z n0 h0) (hEL : EW Z a0 EL0) (P0 : Exa Z h0 x "java/lang/String") (P1 : Fld Z h0 x "java/lang/String" "value" "[B" .null) (P2 : Fld Z h0 x "java/lang/String" "coder" "B" (.int (0 : Int32))) (P3 : n0 ≤ x) :
    MetFree l (⟨"java/lang/String", "<init>", "([CIILjava/lang/Void;)V"⟩ : MethodName) (head1 (Jvm.Cond.code (⟨"java/lang/String", "<init>", "([CIILjava/lang/Void;)V"⟩ : MethodName) jdk_42_method_149_code 6 none :: ws) ({ frames := 1, cells := 4, slots := 8, locals := 12 } : Room)) (fun a_ U_ => a_ = #[(.ref x), (.ref b), (.int (0 : Int32)), (.int (0 : Int32)), .null] ∧ Z.Warmed39 U_.vm ∧ U_.heap = h0 ∧ CHv Z EL0 U_.vm h0) (fun _ _ _ _ _ => True) (fun _ U_ o_ U_' => ∃ v_ L_, o_ = .returned v_ ∧ Q_strE4 Z x b h0 n0 v_ U_'.heap L_ ∧ CHr Z EL0 U_.vm U_.heap U_'.vm U_'.heap ∧ ReturnedEndW U_ o_ U_' L_ ({ frames := 1, cells := 4, slots := 8, locals := 12 } : Room).cells ({ frames := 1, cells := 4, slots := 8, locals := 12 } : Room).slots) := by
  refine MetFree.of_bodySF (plainFor_of_name pn_47582652) hisR ?_
  intro p e s m args below meth c s₁ Bd hml0 hP0 hK
  obtain ⟨rfl, hZ, hh, hCH⟩ := hP0
  have hx := Bd.exec
  have hby := Bd.bytes
  have hml : c.maxLocals = 6 := hml0
  have hown : s.vm.findClass "java/lang/String" = some m.cls := findClass_of_methodNamed Bd.named
  have hnm := (name_of_methodNamed Bd.named Bd.method).1
  have hS0 : s.Since s.vm 0 := (State.WarmedH.refl s).since 0
  have hk0 : 0 ≤ h0.size := Nat.zero_le _
  have C0 : CHr Z EL0 s.vm h0 s.vm h0 := CHr.refl hCH
  have X0 : Stand p l e ({ frames := 1, cells := 4, slots := 8, locals := 12 } : Room) (s.setVm s.vm) m #[(.ref x), (.ref b), (.int (0 : Int32)), (.int (0 : Int32)), .null] below meth c s₁ [] 0 0 := Stand.of_body Bd
  have e0 : s₁.heap = h0 := by rw [← hh, Bd.state]; rfl
  have N0 := Fr.nil n0
  obtain ⟨P, hP, R0⟩ : ∃ P : State → Prop, (∀ t_, P t_ → Steps p.tables e below (s₁.setTop (entryFrame m #[(.ref x), (.ref b), (.int (0 : Int32)), (.int (0 : Int32)), .null] 6)) t_) ∧ Go p e below P s₁ (mkF m 0 #[.val (.ref x), .val (.ref b), .val (.int (0 : Int32)), .val (.int (0 : Int32)), .val .null, .unset] []) := ⟨_, fun _ h => h, fun t_ k_ => castTop (ef_strE4 m x b (0 : Int32) (0 : Int32)) k_⟩
  have Sw1 : Safe Z EL0 _ _ x := (safeNull hZ.alike P0 P1)
  have R2 : Go p e below P s₁ (mkF m 1 #[.val (.ref x), .val (.ref b), .val (.int (0 : Int32)), .val (.int (0 : Int32)), .val .null, .unset] [(.ref x)]) := fun t_ k_ => R0 t_ (XS.aloadN X0.here hx rfl (hb hby d3_0) rfl rfl k_)
  obtain ⟨T3, X3, e3, st3⟩ := initO X0 hx hZ hown (hw _ (List.mem_of_getElem? (i := 15) rfl)) (hw _ (List.mem_of_getElem? (i := 16) rfl)) (hw _ (List.mem_of_getElem? (i := 17) rfl)) e0 (g := (mkF m 1 #[.val (.ref x), .val (.ref b), .val (.int (0 : Int32)), .val (.int (0 : Int32)), .val .null, .unset] [(.ref x)])) rfl (by rw [hml]; rfl) rfl (hb hby d3_1) (by decide) (W := 0) (by show 2 * 0 + _ ≤ _; exact Nat.le_of_eq rfl) (by decide)
  have R4 : Go p e below P T3 (mkF m 4 #[.val (.ref x), .val (.ref b), .val (.int (0 : Int32)), .val (.int (0 : Int32)), .val .null, .unset] []) := fun t_ k_ => R2 t_ (st3 t_ k_)
  have R5 : Go p e below P T3 (mkF m 5 #[.val (.ref x), .val (.ref b), .val (.int (0 : Int32)), .val (.int (0 : Int32)), .val .null, .unset] [(.int (0 : Int32))]) := fun t_ k_ => R4 t_ (XS.iloadN X3.here hx rfl (hb hby d3_4) rfl k_)
  have R6 : Go p e below P T3 (mkF m 8 #[.val (.ref x), .val (.ref b), .val (.int (0 : Int32)), .val (.int (0 : Int32)), .val .null, .unset] []) := fun t_ k_ => R5 t_ (XS.ifNo X3.here hx rfl (hb hby d3_5) rfl ((if0 _ _).trans (teq rfl).2) k_)
  have R7 : Go p e below P T3 (mkF m 9 #[.val (.ref x), .val (.ref b), .val (.int (0 : Int32)), .val (.int (0 : Int32)), .val .null, .unset] [(.ref x)]) := fun t_ k_ => R6 t_ (XS.aloadN X3.here hx rfl (hb hby d3_8) rfl rfl k_)
  obtain ⟨a8, T8, h8, k8x, t8, kb8, X8, e8, E8, hS8, hk8, hZ, hown, E18, F18, F28, A18, la8, lb8, hC8, hL8, hne8, st8⟩ := ldcCH X3 hx hZ hown (hw _ (List.mem_of_getElem? (i := 92) rfl)) (wS_of hw) e3 hS0 hk0 hEL (List.mem_of_getElem? (i := 0) rfl) C0.1 (text := "") (vs := ((([] : List Int32).map StrChars.lo8).map Value.int)) (z := (Int32.ofNat ([] : List Int32).length)) ⟨by decide, by first | rfl | decide +kernel⟩ (by decide) (by decide) (g := (mkF m 9 #[.val (.ref x), .val (.ref b), .val (.int (0 : Int32)), .val (.int (0 : Int32)), .val .null, .unset] [(.ref x)])) rfl (hb hby d3_9) (n := 0) (by decide) (by decide) (by decide) (by decide)
  have O8 := O0.ext E8
  have C9 := C0.trans hC8
  have R10 : Go p e below P T8 (mkF m 11 #[.val (.ref x), .val (.ref b), .val (.int (0 : Int32)), .val (.int (0 : Int32)), .val .null, .unset] [(.ref a8), (.ref x)]) := fun t_ k_ => R7 t_ (st8 t_ k_)
  obtain ⟨T11, X11, e11, st11⟩ := getF X8 hx hZ hown (host := "") (Or.inl (hw _ (List.mem_of_getElem? (i := 32) rfl))) Via.refl e8 F28 (g := (mkF m 11 #[.val (.ref x), .val (.ref b), .val (.int (0 : Int32)), .val (.int (0 : Int32)), .val .null, .unset] [(.ref a8), (.ref x)])) rfl rfl (hb hby d3_11)
  have R12 : Go p e below P T11 (mkF m 14 #[.val (.ref x), .val (.ref b), .val (.int (0 : Int32)), .val (.int (0 : Int32)), .val .null, .unset] [(.ref t8), (.ref x)]) := fun t_ k_ => R10 t_ (st11 t_ k_)
  have f13 := (P0.ext E8)
  have f14 := (P1.ext E8)
  obtain ⟨T15, h15, X15, e15, W15, st15⟩ := putF X11 hx hZ hown (host := "") (Or.inl (hw _ (List.mem_of_getElem? (i := 32) rfl))) Via.refl e11 f14 f13 (Or.inr ⟨(hw _ (List.mem_of_getElem? (i := 33) rfl)), rfl, hnm⟩) (hw _ (List.mem_of_getElem? (i := 5) rfl)) (ty := (.array .byte)) (by decide) rfl rfl (g := (mkF m 14 #[.val (.ref x), .val (.ref b), .val (.int (0 : Int32)), .val (.int (0 : Int32)), .val .null, .unset] [(.ref t8), (.ref x)])) rfl rfl (hb hby d3_14)
  have f17 := (hC8.safe P0.lt Sw1)
  have Sw16 : Safe Z EL0 _ _ x := f17
  have N15 := Fr.snoc X15 N0 P3
  have Fw15 := f14.same W15
  have O15 := O8.wr W15 P3
  have C18 := C9.trans (CHr.wr W15 Sw16 C9.1)
  have hk18 := Nat.le_trans hk8 (Keep.of_wr W15).1
  have R19 : Go p e below P T15 (mkF m 17 #[.val (.ref x), .val (.ref b), .val (.int (0 : Int32)), .val (.int (0 : Int32)), .val .null, .unset] []) := fun t_ k_ => R12 t_ (st15 t_ k_)
  have R20 : Go p e below P T15 (mkF m 18 #[.val (.ref x), .val (.ref b), .val (.int (0 : Int32)), .val (.int (0 : Int32)), .val .null, .unset] [(.ref x)]) := fun t_ k_ => R19 t_ (XS.aloadN X15.here hx rfl (hb hby d3_17) rfl rfl k_)
  obtain ⟨a21, T21, h21, k21x, t21, kb21, X21, e21, E21, hS21, hk21, hZ, hown, E121, F121, F221, A121, la21, lb21, hC21, hL21, hne21, st21⟩ := ldcCH X15 hx hZ hown (hw _ (List.mem_of_getElem? (i := 92) rfl)) (wS_of hw) e15 hS8 hk18 hEL (List.mem_of_getElem? (i := 0) rfl) C18.1 (text := "") (vs := ((([] : List Int32).map StrChars.lo8).map Value.int)) (z := (Int32.ofNat ([] : List Int32).length)) ⟨by decide, by first | rfl | decide +kernel⟩ (by decide) (by decide) (g := (mkF m 18 #[.val (.ref x), .val (.ref b), .val (.int (0 : Int32)), .val (.int (0 : Int32)), .val .null, .unset] [(.ref x)])) rfl (hb hby d3_18) (n := 0) (by decide) (by decide) (by decide) (by decide)
  have O21 := O15.ext E21
  have C22 := C18.trans hC21
  have R23 : Go p e below P T21 (mkF m 20 #[.val (.ref x), .val (.ref b), .val (.int (0 : Int32)), .val (.int (0 : Int32)), .val .null, .unset] [(.ref a21), (.ref x)]) := fun t_ k_ => R20 t_ (st21 t_ k_)
  obtain ⟨T24, X24, e24, st24⟩ := getF X21 hx hZ hown (host := "") (Or.inl (hw _ (List.mem_of_getElem? (i := 30) rfl))) Via.refl e21 F121 (g := (mkF m 20 #[.val (.ref x), .val (.ref b), .val (.int (0 : Int32)), .val (.int (0 : Int32)), .val .null, .unset] [(.ref a21), (.ref x)])) rfl rfl (hb hby d3_20)
  have R25 : Go p e below P T24 (mkF m 23 #[.val (.ref x), .val (.ref b), .val (.int (0 : Int32)), .val (.int (0 : Int32)), .val .null, .unset] [(.int (0 : Int32)), (.ref x)]) := fun t_ k_ => R23 t_ (st24 t_ k_)
  have f26 := ((f13.wr W15).ext E21)
  have f27 := (((P2.ext E8).other W15 (Or.inr (slot_ne (Or.inr (hw _ (List.mem_of_getElem? (i := 31) rfl))) (Or.inr (hw _ (List.mem_of_getElem? (i := 33) rfl))) (by decide) (t := .byte) (t' := (.array .byte)) (by decide) (by decide)))).ext E21)
  obtain ⟨T28, h28, X28, e28, W28, st28⟩ := putFN X24 hx hZ hown (hw _ (List.mem_of_getElem? (i := 30) rfl)) Via.refl e24 f27 f26 (Or.inr ⟨(hw _ (List.mem_of_getElem? (i := 31) rfl)), rfl, hnm⟩) (hw _ (List.mem_of_getElem? (i := 5) rfl)) (ty := .byte) (v' := (.int (0 : Int32))) (by decide) rfl rfl (g := (mkF m 23 #[.val (.ref x), .val (.ref b), .val (.int (0 : Int32)), .val (.int (0 : Int32)), .val .null, .unset] [(.int (0 : Int32)), (.ref x)])) rfl rfl (hb hby d3_23)
  have f30 := (hC21.safe (f13.wr W15).lt (Safe.wr W15 Sw16 C9.1 Sw16))
  have Sw29 : Safe Z EL0 _ _ x := f30
  have N28 := Fr.snoc X28 N15 P3
  have Fw28 := f27.same W28
  have O28 := O21.wr W28 P3
  have C31 := C22.trans (CHr.wr W28 Sw29 C22.1)
  have hk31 := Nat.le_trans hk21 (Keep.of_wr W28).1
  have R32 : Go p e below P T28 (mkF m 26 #[.val (.ref x), .val (.ref b), .val (.int (0 : Int32)), .val (.int (0 : Int32)), .val .null, .unset] []) := fun t_ k_ => R25 t_ (st28 t_ k_)
  obtain ⟨fs, hr, hrun, hended, hend⟩ := X28.leaveW hS21 (by rw [e28]; exact hk31 : _ ≤ T28.heap.size) (v := none) (fun _ => rfl)
  have f33 := (f26.wr W28)
  have f34 := ((Fw15.ext E21).other W28 (Or.inr (slot_ne (Or.inr (hw _ (List.mem_of_getElem? (i := 33) rfl))) (Or.inr (hw _ (List.mem_of_getElem? (i := 31) rfl))) (by decide) (t := (.array .byte)) (t' := .byte) (by decide) (by decide))))
  have f35 := (((A18.other W15 (Ne.symm (hne8 _ Sw16).2)).ext E21).other W28 (Ne.symm (hne8 _ Sw16).2))
  have hCe := C31.trans (CHv.at X28 hZ hEL C31.1)
  exact ⟨_, _, hP _ (R32 _ (X28.returnOut hx Bd.returns (hb hby d3_26) hr)), hrun, hended, _, _, rfl, ⟨t8, kb8, rfl, N28, (e28.symm ▸ (((((Keep.refl h0 [x]).ext E8).wr W15 (Or.inl (List.mem_of_getElem? (i := 0) rfl))).ext E21).wr W28 (Or.inl (List.mem_of_getElem? (i := 0) rfl)))), (e28.symm ▸ f33), (e28.symm ▸ Fw28), (e28.symm ▸ f34), (e28.symm ▸ f35)⟩, (by show CHr Z EL0 s.vm s.heap T28.vm T28.heap; rw [hh, e28]; exact hCe), ⟨hend.1, hend.2.1, hend.2.2.1, hend.2.2.2.mono (by decide) (by decide)⟩⟩
theorem ef_strE1 (m : MethodId) (x0 : Addr) (x1 : Addr) : entryFrame m #[(.ref x0), (.ref x1)] 2 = mkF m 0 #[.val (.ref x0), .val (.ref x1)] [] := by first | (simp [entryFrame, mkF, argsToLocals, Value.category]; done) | rfl
theorem d2_0 : decode jdk_42_method_3_code 0 = .ok (.aload_n 0, 1) := by decide +kernel
theorem d2_1 : decode jdk_42_method_3_code 1 = .ok (.aload_n 1, 1) := by decide +kernel
theorem d2_2 : decode jdk_42_method_3_code 2 = .ok (.iconst 0, 1) := by decide +kernel
theorem d2_3 : decode jdk_42_method_3_code 3 = .ok (.aload_n 1, 1) := by decide +kernel
theorem d2_4 : decode jdk_42_method_3_code 4 = .ok (.arraylength, 1) := by decide +kernel
theorem d2_5 : decode jdk_42_method_3_code 5 = .ok (.aconst_null, 1) := by decide +kernel
theorem d2_6 : decode jdk_42_method_3_code 6 = .ok (.invokespecial 27, 3) := by decide +kernel
theorem pd_91162829 : parseMethodDescriptor "([CIILjava/lang/Void;)V" = some ⟨[(.array .char), .int, .int, (.object "java/lang/Void")], none⟩ := by decide +kernel
theorem d2_9 : decode jdk_42_method_3_code 9 = .ok (.return_, 1) := by decide +kernel
def Q_strE1 (Z : State) (x : Addr) (b : Addr) (kc : ClassId) (h0 : Heap) (n0 : Nat) (rv_ : Option Value) (rh_ : Heap) (rL_ : List Loc) : Prop := ∃ t : Addr, ∃ kb : ClassId, (rv_ = none) ∧ (Fr n0 rL_) ∧ (Keep h0 rh_ [x]) ∧ (Exa Z rh_ x "java/lang/String") ∧ (Fld Z rh_ x "java/lang/String" "coder" "B" (.int (0 : Int32))) ∧ (Fld Z rh_ x "java/lang/String" "value" "[B" (.ref t)) ∧ (Arv Z rh_ t kb .byte (Int32.ofNat ([] : List Int32).length) ((([] : List Int32).map StrChars.lo8).map Value.int) (.int (0 : Int32)))
set_option maxRecDepth 65536 in
set_option maxHeartbeats 40000000 in
theorem strE1 (l : Launch) (Z : State) (a0 : Array Value) (hw : ∀ d ∈ tables_1, d.before a0 Z = true) (ws : List Jvm.Cond) (x : Addr) (b : Addr) (kc : ClassId) (h0 : Heap) (n0 : Nat) (O0 : Old Z n0 h0) (hEL : EW Z a0 EL0) (P0 : Exa Z h0 x "java/lang/String") (P1 : Fld Z h0 x "java/lang/String" "value" "[B" .null) (P2 : Fld Z h0 x "java/lang/String" "coder" "B" (.int (0 : Int32))) (P3 : n0 ≤ x) (P4 : Arv Z h0 b kc .char (0 : Int32) [] (.int (0 : Int32))) :
    MetFree l (⟨"java/lang/String", "<init>", "([C)V"⟩ : MethodName) (head1 (Jvm.Cond.code (⟨"java/lang/String", "<init>", "([C)V"⟩ : MethodName) jdk_42_method_3_code 2 none :: ws) ({ frames := 2, cells := 4, slots := 8, locals := 29 } : Room)) (fun a_ U_ => a_ = #[(.ref x), (.ref b)] ∧ Z.Warmed39 U_.vm ∧ U_.heap = h0 ∧ CHv Z EL0 U_.vm h0) (fun _ _ _ _ _ => True) (fun _ U_ o_ U_' => ∃ v_ L_, o_ = .returned v_ ∧ Q_strE1 Z x b kc h0 n0 v_ U_'.heap L_ ∧ CHr Z EL0 U_.vm U_.heap U_'.vm U_'.heap ∧ ReturnedEndW U_ o_ U_' L_ ({ frames := 2, cells := 4, slots := 8, locals := 29 } : Room).cells ({ frames := 2, cells := 4, slots := 8, locals := 29 } : Room).slots) := by
  refine MetFree.of_bodySF (plainFor_of_name pn_47582652) hisR ?_
  intro p e s m args below meth c s₁ Bd hml0 hP0 hK
  obtain ⟨rfl, hZ, hh, hCH⟩ := hP0
  have hx := Bd.exec
  have hby := Bd.bytes
  have hml : c.maxLocals = 2 := hml0
  have hown : s.vm.findClass "java/lang/String" = some m.cls := findClass_of_methodNamed Bd.named
  have hnm := (name_of_methodNamed Bd.named Bd.method).1
  have hS0 : s.Since s.vm 0 := (State.WarmedH.refl s).since 0
  have hk0 : 0 ≤ h0.size := Nat.zero_le _
  have C0 : CHr Z EL0 s.vm h0 s.vm h0 := CHr.refl hCH
  have X0 : Stand p l e ({ frames := 2, cells := 4, slots := 8, locals := 29 } : Room) (s.setVm s.vm) m #[(.ref x), (.ref b)] below meth c s₁ [] 0 0 := Stand.of_body Bd
  have e0 : s₁.heap = h0 := by rw [← hh, Bd.state]; rfl
  have N0 := Fr.nil n0
  obtain ⟨P, hP, R0⟩ : ∃ P : State → Prop, (∀ t_, P t_ → Steps p.tables e below (s₁.setTop (entryFrame m #[(.ref x), (.ref b)] 2)) t_) ∧ Go p e below P s₁ (mkF m 0 #[.val (.ref x), .val (.ref b)] []) := ⟨_, fun _ h => h, fun t_ k_ => castTop (ef_strE1 m x b) k_⟩
  have R36 : Go p e below P s₁ (mkF m 1 #[.val (.ref x), .val (.ref b)] [(.ref x)]) := fun t_ k_ => R0 t_ (XS.aloadN X0.here hx rfl (hb hby d2_0) rfl rfl k_)
  have R37 : Go p e below P s₁ (mkF m 2 #[.val (.ref x), .val (.ref b)] [(.ref b), (.ref x)]) := fun t_ k_ => R36 t_ (XS.aloadN X0.here hx rfl (hb hby d2_1) rfl rfl k_)
  have R38 : Go p e below P s₁ (mkF m 3 #[.val (.ref x), .val (.ref b)] [(.int (0 : Int32)), (.ref b), (.ref x)]) := fun t_ k_ => R37 t_ (XS.iconst X0.here hx rfl (hb hby d2_2) k_)
  have R39 : Go p e below P s₁ (mkF m 4 #[.val (.ref x), .val (.ref b)] [(.ref b), (.int (0 : Int32)), (.ref b), (.ref x)]) := fun t_ k_ => R38 t_ (XS.aloadN X0.here hx rfl (hb hby d2_3) rfl rfl k_)
  obtain ⟨cl40, cl40A, -, cl40S, cl40N, -, -⟩ := id P4
  have R41 : Go p e below P s₁ (mkF m 5 #[.val (.ref x), .val (.ref b)] [(.int (0 : Int32)), (.int (0 : Int32)), (.ref b), (.ref x)]) := fun t_ k_ => R39 t_ (X0.arraylength hx (by rw [e0]; exact cl40A.1) (State.isArrayOf_alike hZ.alike cl40A.2.1) (g := (mkF m 4 #[.val (.ref x), .val (.ref b)] [(.ref b), (.int (0 : Int32)), (.ref b), (.ref x)])) rfl rfl (hb hby d2_4) t_ (by rw [len_of cl40S cl40N]; exact k_))
  have R42 : Go p e below P s₁ (mkF m 6 #[.val (.ref x), .val (.ref b)] [.null, (.int (0 : Int32)), (.int (0 : Int32)), (.ref b), (.ref x)]) := fun t_ k_ => R41 t_ (XS.aconstNull X0.here hx rfl (hb hby d2_5) k_)
  obtain ⟨rv43, _, ⟨T43, L43, k43, n43⟩, -, X43, hT43, hG43, ⟨Lc43, hQ43, l43, y43, z43, hC43⟩, st43⟩ := X0.specialBackS hx (y := (⟨"java/lang/String", "<init>", "([CIILjava/lang/Void;)V"⟩ : MethodName)) rfl hown (mvT hZ (hw _ (List.mem_of_getElem? (i := 11) rfl))) (mvT hZ (hw _ (List.mem_of_getElem? (i := 12) rfl))) (mvT hZ (hw _ (List.mem_of_getElem? (i := 14) rfl))) (by decide) (backOfSH (W := 0) (strE4 l Z a0 hw [] x b h0 n0 O0 hEL P0 P1 P2 P3) hZ (hw _ (List.mem_of_getElem? (i := 14) rfl)) (hw _ (List.mem_of_getElem? (i := 6) rfl)) (by decide) (by decide) hEL C0.1) (g := (mkF m 6 #[.val (.ref x), .val (.ref b)] [.null, (.int (0 : Int32)), (.int (0 : Int32)), (.ref b), (.ref x)])) rfl (by rw [hml]; rfl) (Steps.refl _) (a := x) (argsL := [(.ref b), (.int (0 : Int32)), (.int (0 : Int32)), .null]) (rest := []) (lenOf pd_91162829 rfl) rfl (by show 2 * 0 + _ ≤ _; exact Nat.le_of_eq rfl) (hb hby d2_6) (fun _ _ => ⟨rfl, e0, (by decide : 0 + 4 ≤ _), (by decide : 0 + 8 ≤ _)⟩)
  dsimp only [Pt.U, Pt.locs, Pt.cells, Pt.slots] at X43 hT43 hG43 l43 y43 z43 hC43 st43 hQ43
  subst l43 y43 z43
  obtain ⟨X43, hS43, hZ, hown⟩ := rebS hS0 (by rw [e0]; exact hk0) X43 hT43 hG43 hZ hown
  have hk43 : T43.heap.size ≤ T43.heap.size := Nat.le_refl _
  obtain ⟨t_43, kb_43, rfl, N43q, K43, p43_0, p43_1, p43_2, p43_3⟩ := hQ43
  have N43 := Fr.app N0 N43q
  have O43 := O0.keep K43 (allS P3 all0)
  have C44 := C0.trans hC43
  have R45 : Go p e below P T43 (mkF m 9 #[.val (.ref x), .val (.ref b)] []) := fun t_ k_ => R42 t_ (st43.trans k_)
  obtain ⟨fs, hr, hrun, hended, hend⟩ := X43.leaveW hS43 (by rw [(rfl : T43.heap = T43.heap)]; exact hk43 : _ ≤ T43.heap.size) (v := none) (fun _ => rfl)
  have hCe := C44.trans (CHv.at X43 hZ hEL C44.1)
  exact ⟨_, _, hP _ (R45 _ (X43.returnOut hx Bd.returns (hb hby d2_9) hr)), hrun, hended, _, _, rfl, ⟨t_43, kb_43, rfl, N43, ((Keep.refl h0 [x]).trans K43 (allS (Or.inl (List.mem_of_getElem? (i := 0) rfl)) all0)), p43_0, p43_1, p43_2, p43_3⟩, (by show CHr Z EL0 s.vm s.heap T43.vm T43.heap; rw [hh, (rfl : T43.heap = T43.heap)]; exact hCe), ⟨hend.1, hend.2.1, hend.2.2.1, hend.2.2.2.mono (by decide) (by decide)⟩⟩
def strL (n c0 c1 c2 : Int32) : List Int32 := if n = 0 then [] else if n = 1 then [c0] else if n = 2 then [c0, c1] else [c0, c1, c2]
theorem strL_ok {n c0 c1 c2 : Int32} (h0 : nar .char c0 = c0 ∧ ¬ c0 < 0 ∧ ¬ (255 : Int32) < c0) (h1 : nar .char c1 = c1 ∧ ¬ c1 < 0 ∧ ¬ (255 : Int32) < c1) (h2 : nar .char c2 = c2 ∧ ¬ c2 < 0 ∧ ¬ (255 : Int32) < c2) : ∀ c ∈ strL n c0 c1 c2, ¬ c < 0 ∧ ¬ (255 : Int32) < c := by
  intro c hc
  unfold strL at hc
  repeat' split at hc
  all_goals simp only [List.mem_cons, List.not_mem_nil, or_false] at hc
  all_goals (try (rcases hc with hc | hc | hc))
  all_goals (try subst hc)
  all_goals first | exact hc.elim | exact h0.2 | exact h1.2 | exact h2.2
theorem strL_len {n c0 c1 c2 : Int32} : (strL n c0 c1 c2).length ≤ 4000 := by
  unfold strL
  repeat' split
  all_goals simp
theorem pn_52800306 : plainName "com/example/interleave/interleave/engine/CheckValueHeldPinLaw" = true := by first | (simp [plainName, overriddenIn]; done) | decide +kernel
theorem ef_mk_ (m : MethodId) (x0 : Int32) (x1 : Int32) (x2 : Int32) (x3 : Int32) : entryFrame m #[(.int x0), (.int x1), (.int x2), (.int x3)] 4 = mkF m 0 #[.val (.int x0), .val (.int x1), .val (.int x2), .val (.int x3)] [] := by first | (simp [entryFrame, mkF, argsToLocals, Value.category]; done) | rfl
theorem d1_0 : decode method_2_code 0 = .ok (.iload_n 0, 1) := by decide +kernel
theorem d1_1 : decode method_2_code 1 = .ok (.ifCond .ne 14, 3) := by decide +kernel
theorem d1_4 : decode method_2_code 4 = .ok (.new 7, 3) := by decide +kernel
theorem d1_7 : decode method_2_code 7 = .ok (.dup, 1) := by decide +kernel
theorem d1_8 : decode method_2_code 8 = .ok (.iconst 0, 1) := by decide +kernel
theorem d1_9 : decode method_2_code 9 = .ok (.newarray .char, 2) := by decide +kernel
theorem d1_11 : decode method_2_code 11 = .ok (.invokespecial 9, 3) := by decide +kernel
theorem pd_42155922 : parseMethodDescriptor "([C)V" = some ⟨[(.array .char)], none⟩ := by decide +kernel
theorem d1_14 : decode method_2_code 14 = .ok (.areturn, 1) := by decide +kernel
theorem d1_15 : decode method_2_code 15 = .ok (.iload_n 0, 1) := by decide +kernel
theorem d1_16 : decode method_2_code 16 = .ok (.iconst 1, 1) := by decide +kernel
theorem d1_17 : decode method_2_code 17 = .ok (.if_icmp .ne 18, 3) := by decide +kernel
theorem d1_20 : decode method_2_code 20 = .ok (.new 7, 3) := by decide +kernel
theorem d1_23 : decode method_2_code 23 = .ok (.dup, 1) := by decide +kernel
theorem d1_24 : decode method_2_code 24 = .ok (.iconst 1, 1) := by decide +kernel
theorem d1_25 : decode method_2_code 25 = .ok (.newarray .char, 2) := by decide +kernel
theorem d1_27 : decode method_2_code 27 = .ok (.dup, 1) := by decide +kernel
theorem d1_28 : decode method_2_code 28 = .ok (.iconst 0, 1) := by decide +kernel
theorem d1_29 : decode method_2_code 29 = .ok (.iload_n 1, 1) := by decide +kernel
theorem d1_30 : decode method_2_code 30 = .ok (.castore, 1) := by decide +kernel
theorem d1_31 : decode method_2_code 31 = .ok (.invokespecial 9, 3) := by decide +kernel
theorem d1_34 : decode method_2_code 34 = .ok (.areturn, 1) := by decide +kernel
theorem d1_35 : decode method_2_code 35 = .ok (.iload_n 0, 1) := by decide +kernel
theorem d1_36 : decode method_2_code 36 = .ok (.iconst 2, 1) := by decide +kernel
theorem d1_37 : decode method_2_code 37 = .ok (.if_icmp .ne 22, 3) := by decide +kernel
theorem d1_40 : decode method_2_code 40 = .ok (.new 7, 3) := by decide +kernel
theorem d1_43 : decode method_2_code 43 = .ok (.dup, 1) := by decide +kernel
theorem d1_44 : decode method_2_code 44 = .ok (.iconst 2, 1) := by decide +kernel
theorem d1_45 : decode method_2_code 45 = .ok (.newarray .char, 2) := by decide +kernel
theorem d1_47 : decode method_2_code 47 = .ok (.dup, 1) := by decide +kernel
theorem d1_48 : decode method_2_code 48 = .ok (.iconst 0, 1) := by decide +kernel
theorem d1_49 : decode method_2_code 49 = .ok (.iload_n 1, 1) := by decide +kernel
theorem d1_50 : decode method_2_code 50 = .ok (.castore, 1) := by decide +kernel
theorem d1_51 : decode method_2_code 51 = .ok (.dup, 1) := by decide +kernel
theorem d1_52 : decode method_2_code 52 = .ok (.iconst 1, 1) := by decide +kernel
theorem d1_53 : decode method_2_code 53 = .ok (.iload_n 2, 1) := by decide +kernel
theorem d1_54 : decode method_2_code 54 = .ok (.castore, 1) := by decide +kernel
theorem d1_55 : decode method_2_code 55 = .ok (.invokespecial 9, 3) := by decide +kernel
theorem d1_58 : decode method_2_code 58 = .ok (.areturn, 1) := by decide +kernel
theorem d1_59 : decode method_2_code 59 = .ok (.new 7, 3) := by decide +kernel
theorem d1_62 : decode method_2_code 62 = .ok (.dup, 1) := by decide +kernel
theorem d1_63 : decode method_2_code 63 = .ok (.iconst 3, 1) := by decide +kernel
theorem d1_64 : decode method_2_code 64 = .ok (.newarray .char, 2) := by decide +kernel
theorem d1_66 : decode method_2_code 66 = .ok (.dup, 1) := by decide +kernel
theorem d1_67 : decode method_2_code 67 = .ok (.iconst 0, 1) := by decide +kernel
theorem d1_68 : decode method_2_code 68 = .ok (.iload_n 1, 1) := by decide +kernel
theorem d1_69 : decode method_2_code 69 = .ok (.castore, 1) := by decide +kernel
theorem d1_70 : decode method_2_code 70 = .ok (.dup, 1) := by decide +kernel
theorem d1_71 : decode method_2_code 71 = .ok (.iconst 1, 1) := by decide +kernel
theorem d1_72 : decode method_2_code 72 = .ok (.iload_n 2, 1) := by decide +kernel
theorem d1_73 : decode method_2_code 73 = .ok (.castore, 1) := by decide +kernel
theorem d1_74 : decode method_2_code 74 = .ok (.dup, 1) := by decide +kernel
theorem d1_75 : decode method_2_code 75 = .ok (.iconst 2, 1) := by decide +kernel
theorem d1_76 : decode method_2_code 76 = .ok (.iload_n 3, 1) := by decide +kernel
theorem d1_77 : decode method_2_code 77 = .ok (.castore, 1) := by decide +kernel
theorem d1_78 : decode method_2_code 78 = .ok (.invokespecial 9, 3) := by decide +kernel
theorem d1_81 : decode method_2_code 81 = .ok (.areturn, 1) := by decide +kernel
def Q_mk_ (Z : State) (n : Int32) (c0 : Int32) (c1 : Int32) (c2 : Int32) (zc : Int32) (h0 : Heap) (n0 : Nat) (rv_ : Option Value) (rh_ : Heap) (rL_ : List Loc) : Prop := ∃ x : Addr, ∃ t : Addr, ∃ kb : ClassId, (rv_ = some (.ref x)) ∧ (Fr n0 rL_) ∧ (Keep h0 rh_ []) ∧ (h0.size ≤ x) ∧ (Exa Z rh_ x "java/lang/String") ∧ (Fld Z rh_ x "java/lang/String" "coder" "B" (.int (0 : Int32))) ∧ (Fld Z rh_ x "java/lang/String" "value" "[B" (.ref t)) ∧ (Arv Z rh_ t kb .byte (Int32.ofNat (strL n c0 c1 c2).length) (((strL n c0 c1 c2).map StrChars.lo8).map Value.int) (.int (0 : Int32)))
set_option maxRecDepth 65536 in
set_option maxHeartbeats 40000000 in
theorem mk_ (l : Launch) (Z : State) (a0 : Array Value) (hw : ∀ d ∈ tables_1, d.before a0 Z = true) (ws : List Jvm.Cond) (n : Int32) (c0 : Int32) (c1 : Int32) (c2 : Int32) (zc : Int32) (h0 : Heap) (n0 : Nat) (O0 : Old Z n0 h0) (hEL : EW Z a0 EL0) (P0 : Sta Z Z.heap "java/lang/String" "COMPACT_STRINGS" "Z" (.int zc)) (P1 : ¬ zc = 0) (P2 : nar .char c0 = c0 ∧ ¬ c0 < 0 ∧ ¬ (255 : Int32) < c0) (P3 : nar .char c1 = c1 ∧ ¬ c1 < 0 ∧ ¬ (255 : Int32) < c1) (P4 : nar .char c2 = c2 ∧ ¬ c2 < 0 ∧ ¬ (255 : Int32) < c2) :
    MetFree l (⟨"com/example/interleave/interleave/engine/CheckValueHeldPinLaw", "mk", "(ICCC)Ljava/lang/String;"⟩ : MethodName) (head1 (Jvm.Cond.code (⟨"com/example/interleave/interleave/engine/CheckValueHeldPinLaw", "mk", "(ICCC)Ljava/lang/String;"⟩ : MethodName) method_2_code 4 (some (.object "java/lang/String")) :: ws) ({ frames := 4, cells := 6, slots := 12, locals := 66 } : Room)) (fun a_ U_ => a_ = #[(.int n), (.int c0), (.int c1), (.int c2)] ∧ Z.Warmed39 U_.vm ∧ U_.heap = h0 ∧ CHv Z EL0 U_.vm h0) (fun _ _ _ _ _ => True) (fun _ U_ o_ U_' => ∃ v_ L_, o_ = .returned v_ ∧ Q_mk_ Z n c0 c1 c2 zc h0 n0 v_ U_'.heap L_ ∧ CHr Z EL0 U_.vm U_.heap U_'.vm U_'.heap ∧ ReturnedEndW U_ o_ U_' L_ ({ frames := 4, cells := 6, slots := 12, locals := 66 } : Room).cells ({ frames := 4, cells := 6, slots := 12, locals := 66 } : Room).slots) := by
  have hzc := P1
  have hch0 := P2
  have hch1 := P3
  have hch2 := P4
  refine MetFree.of_bodySF (plainFor_of_name pn_52800306) hisR ?_
  intro p e s m args below meth c s₁ Bd hml0 hP0 hK
  obtain ⟨rfl, hZ, hh, hCH⟩ := hP0
  have hx := Bd.exec
  have hby := Bd.bytes
  have hml : c.maxLocals = 4 := hml0
  have hown : s.vm.findClass "com/example/interleave/interleave/engine/CheckValueHeldPinLaw" = some m.cls := findClass_of_methodNamed Bd.named
  have hnm := (name_of_methodNamed Bd.named Bd.method).1
  have hS0 : s.Since s.vm 0 := (State.WarmedH.refl s).since 0
  have hk0 : 0 ≤ h0.size := Nat.zero_le _
  have C0 : CHr Z EL0 s.vm h0 s.vm h0 := CHr.refl hCH
  have X0 : Stand p l e ({ frames := 4, cells := 6, slots := 12, locals := 66 } : Room) (s.setVm s.vm) m #[(.int n), (.int c0), (.int c1), (.int c2)] below meth c s₁ [] 0 0 := Stand.of_body Bd
  have e0 : s₁.heap = h0 := by rw [← hh, Bd.state]; rfl
  have N0 := Fr.nil n0
  obtain ⟨P, hP, R0⟩ : ∃ P : State → Prop, (∀ t_, P t_ → Steps p.tables e below (s₁.setTop (entryFrame m #[(.int n), (.int c0), (.int c1), (.int c2)] 4)) t_) ∧ Go p e below P s₁ (mkF m 0 #[.val (.int n), .val (.int c0), .val (.int c1), .val (.int c2)] []) := ⟨_, fun _ h => h, fun t_ k_ => castTop (ef_mk_ m n c0 c1 c2) k_⟩
  have R46 : Go p e below P s₁ (mkF m 1 #[.val (.int n), .val (.int c0), .val (.int c1), .val (.int c2)] [(.int n)]) := fun t_ k_ => R0 t_ (XS.iloadN X0.here hx rfl (hb hby d1_0) rfl k_)
  by_cases hc47 : n = (0 : Int32)
  · have R48 : Go p e below P s₁ (mkF m 4 #[.val (.int n), .val (.int c0), .val (.int c1), .val (.int c2)] []) := fun t_ k_ => R46 t_ (XS.ifNo X0.here hx rfl (hb hby d1_1) rfl ((if0 _ _).trans (teq hc47).2) k_)
    obtain ⟨T49, h49, X49, e49, E49, A49, D49, -, st49⟩ := newO X0 hx hZ hown (hw _ (List.mem_of_getElem? (i := 4) rfl)) (hw _ (List.mem_of_getElem? (i := 5) rfl)) (hw _ (List.mem_of_getElem? (i := 6) rfl)) e0 (g := (mkF m 4 #[.val (.int n), .val (.int c0), .val (.int c1), .val (.int c2)] [])) rfl (hb hby d1_4) (by decide) (by decide)
    obtain ⟨b49, g49⟩ : ∃ z, z = h0.size := ⟨_, rfl⟩
    rw [← g49] at A49 D49 st49
    have O49 := O0.ext E49
    have C50 := C0.trans (CHr.ext E49 C0.1)
    have hk50 := Nat.le_trans hk0 E49.1
    have Sb49 : Safe Z EL0 _ _ _ := Safe.ext E49 C0.1 (Safe.new (Nat.le_of_eq g49.symm))
    have F49_31 : Fld Z h49 b49 "java/lang/String" "coder" "B" (.int (0 : Int32)) := D49 (Or.inr (hw _ (List.mem_of_getElem? (i := 31) rfl))) (ty := .byte) (by decide)
    have F49_33 : Fld Z h49 b49 "java/lang/String" "value" "[B" .null := D49 (Or.inr (hw _ (List.mem_of_getElem? (i := 33) rfl))) (ty := (.array .byte)) (by decide)
    have R51 : Go p e below P T49 (mkF m 7 #[.val (.int n), .val (.int c0), .val (.int c1), .val (.int c2)] [(.ref b49)]) := fun t_ k_ => R48 t_ (st49 t_ k_)
    have R52 : Go p e below P T49 (mkF m 8 #[.val (.int n), .val (.int c0), .val (.int c1), .val (.int c2)] [(.ref b49), (.ref b49)]) := fun t_ k_ => R51 t_ (XS.dup X49.here hx rfl (hb hby d1_7) rfl rfl k_)
    have R53 : Go p e below P T49 (mkF m 9 #[.val (.int n), .val (.int c0), .val (.int c1), .val (.int c2)] [(.int (0 : Int32)), (.ref b49), (.ref b49)]) := fun t_ k_ => R52 t_ (XS.iconst X49.here hx rfl (hb hby d1_8) k_)
    obtain ⟨T54, h54, k54, X54, e54, E54, A54, st54⟩ := newP X49 hx hZ (hw _ (List.mem_of_getElem? (i := 7) rfl)) e49 (g := (mkF m 9 #[.val (.int n), .val (.int c0), .val (.int c1), .val (.int c2)] [(.int (0 : Int32)), (.ref b49), (.ref b49)])) rfl (hb hby d1_9) rfl (by decide) (cap := 0) (by decide) (by decide) (by decide) (by decide)
    obtain ⟨b54, g54⟩ : ∃ z, z = h49.size := ⟨_, rfl⟩
    rw [← g54] at A54 st54
    have O54 := O49.ext E54
    have V54 : Arv Z h54 b54 k54 .char (0 : Int32) [] (.int (0 : Int32)) := (Arv.new A54 (by decide)).pad (pad_rep [] (.int (0 : Int32)) 0)
    have C55 := C50.trans (CHr.ext E54 C50.1)
    have hk55 := Nat.le_trans hk50 E54.1
    have Sb54 : Safe Z EL0 _ _ _ := Safe.ext E54 C50.1 (Safe.new (Nat.le_of_eq g54.symm))
    have R56 : Go p e below P T54 (mkF m 11 #[.val (.int n), .val (.int c0), .val (.int c1), .val (.int c2)] [(.ref b54), (.ref b49), (.ref b49)]) := fun t_ k_ => R53 t_ (st54 t_ k_)
    have f57 := (A49.ext E54)
    have f58 := (F49_33.ext E54)
    have f59 := (F49_31.ext E54)
    obtain ⟨rv60, _, ⟨T60, L60, k60, n60⟩, -, X60, hT60, hG60, ⟨Lc60, hQ60, l60, y60, z60, hC60⟩, st60⟩ := X54.specialBackS hx (y := (⟨"java/lang/String", "<init>", "([C)V"⟩ : MethodName)) rfl hown (mvT hZ (hw _ (List.mem_of_getElem? (i := 8) rfl))) (mvT hZ (hw _ (List.mem_of_getElem? (i := 9) rfl))) (mvT hZ (hw _ (List.mem_of_getElem? (i := 10) rfl))) (by decide) (backOfSH (W := 1) (strE1 l Z a0 hw [] b49 b54 k54 h54 n0 O54 hEL f57 f58 f59 (Nat.le_trans (oldLe O0) (Nat.le_of_eq g49.symm)) V54) hZ (hw _ (List.mem_of_getElem? (i := 10) rfl)) (hw _ (List.mem_of_getElem? (i := 6) rfl)) (by decide) (by decide) hEL C55.1) (g := (mkF m 11 #[.val (.int n), .val (.int c0), .val (.int c1), .val (.int c2)] [(.ref b54), (.ref b49), (.ref b49)])) rfl (by rw [hml]; rfl) (Steps.refl _) (a := b49) (argsL := [(.ref b54)]) (rest := [(.ref b49)]) (lenOf pd_42155922 rfl) rfl (by show 2 * 0 + _ ≤ _; exact Nat.le_of_eq rfl) (hb hby d1_11) (fun _ _ => ⟨rfl, e54, (by decide : 2 + 4 ≤ _), (by decide : 4 + 8 ≤ _)⟩)
    dsimp only [Pt.U, Pt.locs, Pt.cells, Pt.slots] at X60 hT60 hG60 l60 y60 z60 hC60 st60 hQ60
    subst l60 y60 z60
    obtain ⟨X60, hS60, hZ, hown⟩ := rebS hS0 (by rw [e54]; exact hk55) X60 hT60 hG60 hZ hown
    have hk60 : T60.heap.size ≤ T60.heap.size := Nat.le_refl _
    obtain ⟨t_60, kb_60, rfl, N60q, K60, p60_0, p60_1, p60_2, p60_3⟩ := hQ60
    have N60 := Fr.app N0 N60q
    have O60 := O54.keep K60 (allS (Nat.le_trans (oldLe O0) (Nat.le_of_eq g49.symm)) all0)
    have C61 := C55.trans hC60
    have R62 : Go p e below P T60 (mkF m 14 #[.val (.int n), .val (.int c0), .val (.int c1), .val (.int c2)] [(.ref b49)]) := fun t_ k_ => R56 t_ (st60.trans k_)
    obtain ⟨fs, hr, hrun, hended, hend⟩ := X60.leaveW hS60 (by rw [(rfl : T60.heap = T60.heap)]; exact hk60 : _ ≤ T60.heap.size) (v := some (.ref b49)) (fun h => by rw [Bd.returns] at h; cases h)
    have hCe := C61.trans (CHv.at X60 hZ hEL C61.1)
    exact ⟨_, _, hP _ (R62 _ (retOut X60 hx Bd.returns rfl (Or.inr (Or.inr (Or.inr (Or.inr ⟨rfl, rfl, rfl⟩)))) (hb hby d1_14) hr)), hrun, hended, _, _, rfl, ⟨b49, t_60, kb_60, rfl, N60, ((((Keep.refl h0 []).ext E49).ext E54).trans K60 (allS (Or.inr (Nat.le_of_eq g49.symm)) all0)), (Nat.le_of_eq g49.symm), p60_0, p60_1, p60_2, (by rw [show strL n c0 c1 c2 = [] from by simp [strL, hc47]]; exact p60_3)⟩, (by show CHr Z EL0 s.vm s.heap T60.vm T60.heap; rw [hh, (rfl : T60.heap = T60.heap)]; exact hCe), ⟨hend.1, hend.2.1, hend.2.2.1, hend.2.2.2.mono (by decide) (by decide)⟩⟩
  · have R63 : Go p e below P s₁ (mkF m 15 #[.val (.int n), .val (.int c0), .val (.int c1), .val (.int c2)] []) := fun t_ k_ => R46 t_ (XS.ifYes X0.here hx rfl (pc0 := 1) (pc' := 15) rfl (hb hby d1_1) rfl ((if0 _ _).trans (feq hc47).2) (by decide) (by decide) k_)
    have R64 : Go p e below P s₁ (mkF m 16 #[.val (.int n), .val (.int c0), .val (.int c1), .val (.int c2)] [(.int n)]) := fun t_ k_ => R63 t_ (XS.iloadN X0.here hx rfl (hb hby d1_15) rfl k_)
    have R65 : Go p e below P s₁ (mkF m 17 #[.val (.int n), .val (.int c0), .val (.int c1), .val (.int c2)] [(.int (1 : Int32)), (.int n)]) := fun t_ k_ => R64 t_ (XS.iconst X0.here hx rfl (hb hby d1_16) k_)
    by_cases hc66 : n = (1 : Int32)
    · have R67 : Go p e below P s₁ (mkF m 20 #[.val (.int n), .val (.int c0), .val (.int c1), .val (.int c2)] []) := fun t_ k_ => R65 t_ (XS.icmpNo X0.here hx rfl (hb hby d1_17) rfl (teq hc66).2 k_)
      obtain ⟨T68, h68, X68, e68, E68, A68, D68, -, st68⟩ := newO X0 hx hZ hown (hw _ (List.mem_of_getElem? (i := 4) rfl)) (hw _ (List.mem_of_getElem? (i := 5) rfl)) (hw _ (List.mem_of_getElem? (i := 6) rfl)) e0 (g := (mkF m 20 #[.val (.int n), .val (.int c0), .val (.int c1), .val (.int c2)] [])) rfl (hb hby d1_20) (by decide) (by decide)
      obtain ⟨b68, g68⟩ : ∃ z, z = h0.size := ⟨_, rfl⟩
      rw [← g68] at A68 D68 st68
      have O68 := O0.ext E68
      have C69 := C0.trans (CHr.ext E68 C0.1)
      have hk69 := Nat.le_trans hk0 E68.1
      have Sb68 : Safe Z EL0 _ _ _ := Safe.ext E68 C0.1 (Safe.new (Nat.le_of_eq g68.symm))
      have F68_31 : Fld Z h68 b68 "java/lang/String" "coder" "B" (.int (0 : Int32)) := D68 (Or.inr (hw _ (List.mem_of_getElem? (i := 31) rfl))) (ty := .byte) (by decide)
      have F68_33 : Fld Z h68 b68 "java/lang/String" "value" "[B" .null := D68 (Or.inr (hw _ (List.mem_of_getElem? (i := 33) rfl))) (ty := (.array .byte)) (by decide)
      have R70 : Go p e below P T68 (mkF m 23 #[.val (.int n), .val (.int c0), .val (.int c1), .val (.int c2)] [(.ref b68)]) := fun t_ k_ => R67 t_ (st68 t_ k_)
      have R71 : Go p e below P T68 (mkF m 24 #[.val (.int n), .val (.int c0), .val (.int c1), .val (.int c2)] [(.ref b68), (.ref b68)]) := fun t_ k_ => R70 t_ (XS.dup X68.here hx rfl (hb hby d1_23) rfl rfl k_)
      have R72 : Go p e below P T68 (mkF m 25 #[.val (.int n), .val (.int c0), .val (.int c1), .val (.int c2)] [(.int (1 : Int32)), (.ref b68), (.ref b68)]) := fun t_ k_ => R71 t_ (XS.iconst X68.here hx rfl (hb hby d1_24) k_)
      obtain ⟨T73, h73, k73, X73, e73, E73, A73, st73⟩ := newP X68 hx hZ (hw _ (List.mem_of_getElem? (i := 7) rfl)) e68 (g := (mkF m 25 #[.val (.int n), .val (.int c0), .val (.int c1), .val (.int c2)] [(.int (1 : Int32)), (.ref b68), (.ref b68)])) rfl (hb hby d1_25) rfl (by decide) (cap := 1) (by decide) (by decide) (by decide) (by decide)
      obtain ⟨b73, g73⟩ : ∃ z, z = h68.size := ⟨_, rfl⟩
      rw [← g73] at A73 st73
      have O73 := O68.ext E73
      have V73 : Arv Z h73 b73 k73 .char (1 : Int32) [(.int (0 : Int32))] (.int (0 : Int32)) := (Arv.new A73 (by decide)).pad (pad_rep [] (.int (0 : Int32)) 1)
      have C74 := C69.trans (CHr.ext E73 C69.1)
      have hk74 := Nat.le_trans hk69 E73.1
      have Sb73 : Safe Z EL0 _ _ _ := Safe.ext E73 C69.1 (Safe.new (Nat.le_of_eq g73.symm))
      have R75 : Go p e below P T73 (mkF m 27 #[.val (.int n), .val (.int c0), .val (.int c1), .val (.int c2)] [(.ref b73), (.ref b68), (.ref b68)]) := fun t_ k_ => R72 t_ (st73 t_ k_)
      have R76 : Go p e below P T73 (mkF m 28 #[.val (.int n), .val (.int c0), .val (.int c1), .val (.int c2)] [(.ref b73), (.ref b73), (.ref b68), (.ref b68)]) := fun t_ k_ => R75 t_ (XS.dup X73.here hx rfl (hb hby d1_27) rfl rfl k_)
      have R77 : Go p e below P T73 (mkF m 29 #[.val (.int n), .val (.int c0), .val (.int c1), .val (.int c2)] [(.int (0 : Int32)), (.ref b73), (.ref b73), (.ref b68), (.ref b68)]) := fun t_ k_ => R76 t_ (XS.iconst X73.here hx rfl (hb hby d1_28) k_)
      have R78 : Go p e below P T73 (mkF m 30 #[.val (.int n), .val (.int c0), .val (.int c1), .val (.int c2)] [(.int c0), (.int (0 : Int32)), (.ref b73), (.ref b73), (.ref b68), (.ref b68)]) := fun t_ k_ => R77 t_ (XS.iloadN X73.here hx rfl (hb hby d1_29) rfl k_)
      obtain ⟨cl79, cl79A, cl79q, cl79S, cl79N, cl79H, cl79G⟩ := id V73
      obtain ⟨T80, h80, X80, e80, W80, st80⟩ := stC X73 hx hZ e73 cl79A (j := (0 : Int32)) (inb_of cl79S ⟨by decide, by decide⟩) (g := (mkF m 30 #[.val (.int n), .val (.int c0), .val (.int c1), .val (.int c2)] [(.int c0), (.int (0 : Int32)), (.ref b73), (.ref b73), (.ref b68), (.ref b68)])) rfl rfl (hb hby d1_30)
      have V80 : Arv Z h80 b73 k73 .char (1 : Int32) [(.int (nar .char c0))] (.int (0 : Int32)) := Arv.set cl79A cl79q cl79S cl79N cl79H cl79G (fits_nar_char _) W80 0 rfl (Nat.le_of_ble_eq_true rfl)
      have Sw81 : Safe Z EL0 _ _ b73 := Sb73
      have N80 := Fr.snoc X80 N0 (Nat.le_trans (oldLe O68) (Nat.le_of_eq g73.symm))
      have O80 := O73.wr W80 (Nat.le_trans (oldLe O68) (Nat.le_of_eq g73.symm))
      have V80s : Arv Z h80 b73 k73 .char (1 : Int32) [(.int c0)] (.int (0 : Int32)) := by have q := V80; rw [hch0.1] at q; exact q
      have C82 := C74.trans (CHr.wr W80 Sw81 C74.1)
      have hk82 := Nat.le_trans hk74 (Keep.of_wr W80).1
      have R83 : Go p e below P T80 (mkF m 31 #[.val (.int n), .val (.int c0), .val (.int c1), .val (.int c2)] [(.ref b73), (.ref b68), (.ref b68)]) := fun t_ k_ => R78 t_ (st80 t_ k_)
      have f84 := ((A68.ext E73).wr W80)
      have f85 := ((F68_33.ext E73).other W80 (Or.inl (Nat.ne_of_lt (Nat.lt_of_lt_of_le A68.lt (Nat.le_of_eq g73.symm)))))
      have f86 := ((F68_31.ext E73).other W80 (Or.inl (Nat.ne_of_lt (Nat.lt_of_lt_of_le A68.lt (Nat.le_of_eq g73.symm)))))
      have f88 := (Safe.wr W80 Sw81 C74.1 (Safe.ext E73 C69.1 Sb68))
      have Sw87 : Safe Z EL0 _ _ b68 := f88
      obtain ⟨rv89, _, ⟨T89, L89, k89, n89⟩, -, X89, ⟨Lc89, hQ89, l89, y89, z89⟩, st89⟩ := X80.specialBack hx (y := (⟨"java/lang/String", "<init>", "([C)V"⟩ : MethodName)) rfl hown (mvT hZ (hw _ (List.mem_of_getElem? (i := 8) rfl))) (mvT hZ (hw _ (List.mem_of_getElem? (i := 9) rfl))) (mvT hZ (hw _ (List.mem_of_getElem? (i := 10) rfl))) (by decide) (StrChars.Road.backV (W := 1) hZ (w_backV hw) (kI := 4) (hw _ (List.mem_of_getElem? (i := 5) rfl)) (cs := ([c0] : List Int32)) (bs := ([c0] : List Int32).map (fun c => c.toInt8.toInt32)) (n := 1) (Nat.le_trans (oldLe O0) (Nat.le_of_eq g68.symm)) (oldLe O80) f84 f85 f86 V80s (P0.ext O80.2) hzc rfl rfl (by decide) (by decide) (by intro c hc; simp only [List.mem_cons, List.not_mem_nil, or_false] at hc; subst hc; exact hch0.2) rfl (by decide) (by decide)) (g := (mkF m 31 #[.val (.int n), .val (.int c0), .val (.int c1), .val (.int c2)] [(.ref b73), (.ref b68), (.ref b68)])) rfl (by rw [hml]; rfl) (Steps.refl _) (a := b68) (argsL := [(.ref b73)]) (rest := [(.ref b68)]) (lenOf pd_42155922 rfl) rfl (by show 2 * 0 + _ ≤ _; exact Nat.le_of_eq rfl) (hb hby d1_31) (fun _ _ => ⟨rfl, e80, (by decide : 2 + 1 ≤ _), (by decide : 5 + 1 ≤ _)⟩)
      dsimp only [Pt.U, Pt.locs, Pt.cells, Pt.slots] at X89 l89 y89 z89 st89 hQ89
      subst l89 y89 z89
      obtain ⟨rfl, N89q, K89, pE89, pC89, t89, kb89, -, lt89, tn89, pV89, pA89⟩ := hQ89
      have N89 := Fr.app N80 N89q
      have O89 := O80.keep K89 (allS (Nat.le_trans (oldLe O0) (Nat.le_of_eq g68.symm)) all0)
      have C90 := C82.trans (CHr.keep K89 (sfS Sw87 sf0) C82.1)
      have hk90 := Nat.le_trans hk82 K89.1
      have pB89 : Arv Z T89.heap t89 kb89 .byte (Int32.ofNat ([c0] : List Int32).length) ((([c0] : List Int32).map StrChars.lo8).map Value.int) (.int (0 : Int32)) := pA89
      have R91 : Go p e below P T89 (mkF m 34 #[.val (.int n), .val (.int c0), .val (.int c1), .val (.int c2)] [(.ref b68)]) := fun t_ k_ => R83 t_ (st89.trans k_)
      obtain ⟨fs, hr, hrun, hended, hend⟩ := X89.leaveW hS0 (by rw [(rfl : T89.heap = T89.heap)]; exact hk90 : _ ≤ T89.heap.size) (v := some (.ref b68)) (fun h => by rw [Bd.returns] at h; cases h)
      have hCe := C90.trans (CHv.at X89 hZ hEL C90.1)
      exact ⟨_, _, hP _ (R91 _ (retOut X89 hx Bd.returns rfl (Or.inr (Or.inr (Or.inr (Or.inr ⟨rfl, rfl, rfl⟩)))) (hb hby d1_34) hr)), hrun, hended, _, _, rfl, ⟨b68, t89, kb89, rfl, N89, (((((Keep.refl h0 []).ext E68).ext E73).wr W80 (Or.inr (Nat.le_trans ((Keep.refl h0 []).ext E68).1 (Nat.le_of_eq g73.symm)))).trans K89 (allS (Or.inr (Nat.le_of_eq g68.symm)) all0)), (Nat.le_of_eq g68.symm), pE89, pC89, pV89, (by rw [show strL n c0 c1 c2 = [c0] from by simp [strL, hc47, hc66]]; exact pB89)⟩, (by show CHr Z EL0 s.vm s.heap T89.vm T89.heap; rw [hh, (rfl : T89.heap = T89.heap)]; exact hCe), ⟨hend.1, hend.2.1, hend.2.2.1, hend.2.2.2.mono (by decide) (by decide)⟩⟩
    · have R92 : Go p e below P s₁ (mkF m 35 #[.val (.int n), .val (.int c0), .val (.int c1), .val (.int c2)] []) := fun t_ k_ => R65 t_ (XS.icmpYes X0.here hx rfl (pc0 := 17) (pc' := 35) rfl (hb hby d1_17) rfl (feq hc66).2 (by decide) (by decide) k_)
      have R93 : Go p e below P s₁ (mkF m 36 #[.val (.int n), .val (.int c0), .val (.int c1), .val (.int c2)] [(.int n)]) := fun t_ k_ => R92 t_ (XS.iloadN X0.here hx rfl (hb hby d1_35) rfl k_)
      have R94 : Go p e below P s₁ (mkF m 37 #[.val (.int n), .val (.int c0), .val (.int c1), .val (.int c2)] [(.int (2 : Int32)), (.int n)]) := fun t_ k_ => R93 t_ (XS.iconst X0.here hx rfl (hb hby d1_36) k_)
      by_cases hc95 : n = (2 : Int32)
      · have R96 : Go p e below P s₁ (mkF m 40 #[.val (.int n), .val (.int c0), .val (.int c1), .val (.int c2)] []) := fun t_ k_ => R94 t_ (XS.icmpNo X0.here hx rfl (hb hby d1_37) rfl (teq hc95).2 k_)
        obtain ⟨T97, h97, X97, e97, E97, A97, D97, -, st97⟩ := newO X0 hx hZ hown (hw _ (List.mem_of_getElem? (i := 4) rfl)) (hw _ (List.mem_of_getElem? (i := 5) rfl)) (hw _ (List.mem_of_getElem? (i := 6) rfl)) e0 (g := (mkF m 40 #[.val (.int n), .val (.int c0), .val (.int c1), .val (.int c2)] [])) rfl (hb hby d1_40) (by decide) (by decide)
        obtain ⟨b97, g97⟩ : ∃ z, z = h0.size := ⟨_, rfl⟩
        rw [← g97] at A97 D97 st97
        have O97 := O0.ext E97
        have C98 := C0.trans (CHr.ext E97 C0.1)
        have hk98 := Nat.le_trans hk0 E97.1
        have Sb97 : Safe Z EL0 _ _ _ := Safe.ext E97 C0.1 (Safe.new (Nat.le_of_eq g97.symm))
        have F97_31 : Fld Z h97 b97 "java/lang/String" "coder" "B" (.int (0 : Int32)) := D97 (Or.inr (hw _ (List.mem_of_getElem? (i := 31) rfl))) (ty := .byte) (by decide)
        have F97_33 : Fld Z h97 b97 "java/lang/String" "value" "[B" .null := D97 (Or.inr (hw _ (List.mem_of_getElem? (i := 33) rfl))) (ty := (.array .byte)) (by decide)
        have R99 : Go p e below P T97 (mkF m 43 #[.val (.int n), .val (.int c0), .val (.int c1), .val (.int c2)] [(.ref b97)]) := fun t_ k_ => R96 t_ (st97 t_ k_)
        have R100 : Go p e below P T97 (mkF m 44 #[.val (.int n), .val (.int c0), .val (.int c1), .val (.int c2)] [(.ref b97), (.ref b97)]) := fun t_ k_ => R99 t_ (XS.dup X97.here hx rfl (hb hby d1_43) rfl rfl k_)
        have R101 : Go p e below P T97 (mkF m 45 #[.val (.int n), .val (.int c0), .val (.int c1), .val (.int c2)] [(.int (2 : Int32)), (.ref b97), (.ref b97)]) := fun t_ k_ => R100 t_ (XS.iconst X97.here hx rfl (hb hby d1_44) k_)
        obtain ⟨T102, h102, k102, X102, e102, E102, A102, st102⟩ := newP X97 hx hZ (hw _ (List.mem_of_getElem? (i := 7) rfl)) e97 (g := (mkF m 45 #[.val (.int n), .val (.int c0), .val (.int c1), .val (.int c2)] [(.int (2 : Int32)), (.ref b97), (.ref b97)])) rfl (hb hby d1_45) rfl (by decide) (cap := 2) (by decide) (by decide) (by decide) (by decide)
        obtain ⟨b102, g102⟩ : ∃ z, z = h97.size := ⟨_, rfl⟩
        rw [← g102] at A102 st102
        have O102 := O97.ext E102
        have V102 : Arv Z h102 b102 k102 .char (2 : Int32) [(.int (0 : Int32)), (.int (0 : Int32))] (.int (0 : Int32)) := (Arv.new A102 (by decide)).pad (pad_rep [] (.int (0 : Int32)) 2)
        have C103 := C98.trans (CHr.ext E102 C98.1)
        have hk103 := Nat.le_trans hk98 E102.1
        have Sb102 : Safe Z EL0 _ _ _ := Safe.ext E102 C98.1 (Safe.new (Nat.le_of_eq g102.symm))
        have R104 : Go p e below P T102 (mkF m 47 #[.val (.int n), .val (.int c0), .val (.int c1), .val (.int c2)] [(.ref b102), (.ref b97), (.ref b97)]) := fun t_ k_ => R101 t_ (st102 t_ k_)
        have R105 : Go p e below P T102 (mkF m 48 #[.val (.int n), .val (.int c0), .val (.int c1), .val (.int c2)] [(.ref b102), (.ref b102), (.ref b97), (.ref b97)]) := fun t_ k_ => R104 t_ (XS.dup X102.here hx rfl (hb hby d1_47) rfl rfl k_)
        have R106 : Go p e below P T102 (mkF m 49 #[.val (.int n), .val (.int c0), .val (.int c1), .val (.int c2)] [(.int (0 : Int32)), (.ref b102), (.ref b102), (.ref b97), (.ref b97)]) := fun t_ k_ => R105 t_ (XS.iconst X102.here hx rfl (hb hby d1_48) k_)
        have R107 : Go p e below P T102 (mkF m 50 #[.val (.int n), .val (.int c0), .val (.int c1), .val (.int c2)] [(.int c0), (.int (0 : Int32)), (.ref b102), (.ref b102), (.ref b97), (.ref b97)]) := fun t_ k_ => R106 t_ (XS.iloadN X102.here hx rfl (hb hby d1_49) rfl k_)
        obtain ⟨cl108, cl108A, cl108q, cl108S, cl108N, cl108H, cl108G⟩ := id V102
        obtain ⟨T109, h109, X109, e109, W109, st109⟩ := stC X102 hx hZ e102 cl108A (j := (0 : Int32)) (inb_of cl108S ⟨by decide, by decide⟩) (g := (mkF m 50 #[.val (.int n), .val (.int c0), .val (.int c1), .val (.int c2)] [(.int c0), (.int (0 : Int32)), (.ref b102), (.ref b102), (.ref b97), (.ref b97)])) rfl rfl (hb hby d1_50)
        have V109 : Arv Z h109 b102 k102 .char (2 : Int32) [(.int (nar .char c0)), (.int (0 : Int32))] (.int (0 : Int32)) := Arv.set cl108A cl108q cl108S cl108N cl108H cl108G (fits_nar_char _) W109 0 rfl (Nat.le_of_ble_eq_true rfl)
        have Sw110 : Safe Z EL0 _ _ b102 := Sb102
        have N109 := Fr.snoc X109 N0 (Nat.le_trans (oldLe O97) (Nat.le_of_eq g102.symm))
        have O109 := O102.wr W109 (Nat.le_trans (oldLe O97) (Nat.le_of_eq g102.symm))
        have V109s : Arv Z h109 b102 k102 .char (2 : Int32) [(.int c0), (.int (0 : Int32))] (.int (0 : Int32)) := by have q := V109; rw [hch0.1] at q; exact q
        have C111 := C103.trans (CHr.wr W109 Sw110 C103.1)
        have hk111 := Nat.le_trans hk103 (Keep.of_wr W109).1
        have R112 : Go p e below P T109 (mkF m 51 #[.val (.int n), .val (.int c0), .val (.int c1), .val (.int c2)] [(.ref b102), (.ref b97), (.ref b97)]) := fun t_ k_ => R107 t_ (st109 t_ k_)
        have R113 : Go p e below P T109 (mkF m 52 #[.val (.int n), .val (.int c0), .val (.int c1), .val (.int c2)] [(.ref b102), (.ref b102), (.ref b97), (.ref b97)]) := fun t_ k_ => R112 t_ (XS.dup X109.here hx rfl (hb hby d1_51) rfl rfl k_)
        have R114 : Go p e below P T109 (mkF m 53 #[.val (.int n), .val (.int c0), .val (.int c1), .val (.int c2)] [(.int (1 : Int32)), (.ref b102), (.ref b102), (.ref b97), (.ref b97)]) := fun t_ k_ => R113 t_ (XS.iconst X109.here hx rfl (hb hby d1_52) k_)
        have R115 : Go p e below P T109 (mkF m 54 #[.val (.int n), .val (.int c0), .val (.int c1), .val (.int c2)] [(.int c1), (.int (1 : Int32)), (.ref b102), (.ref b102), (.ref b97), (.ref b97)]) := fun t_ k_ => R114 t_ (XS.iloadN X109.here hx rfl (hb hby d1_53) rfl k_)
        obtain ⟨cl116, cl116A, cl116q, cl116S, cl116N, cl116H, cl116G⟩ := id V109s
        obtain ⟨T117, h117, X117, e117, W117, st117⟩ := stC X109 hx hZ e109 cl116A (j := (1 : Int32)) (inb_of cl116S ⟨by decide, by decide⟩) (g := (mkF m 54 #[.val (.int n), .val (.int c0), .val (.int c1), .val (.int c2)] [(.int c1), (.int (1 : Int32)), (.ref b102), (.ref b102), (.ref b97), (.ref b97)])) rfl rfl (hb hby d1_54)
        have V117 : Arv Z h117 b102 k102 .char (2 : Int32) [(.int c0), (.int (nar .char c1))] (.int (0 : Int32)) := Arv.set cl116A cl116q cl116S cl116N cl116H cl116G (fits_nar_char _) W117 1 rfl (Nat.le_of_ble_eq_true rfl)
        have f119 := (Safe.wr W109 Sw110 C103.1 Sw110)
        have Sw118 : Safe Z EL0 _ _ b102 := f119
        have N117 := Fr.snoc X117 N109 (Nat.le_trans (oldLe O97) (Nat.le_of_eq g102.symm))
        have O117 := O109.wr W117 (Nat.le_trans (oldLe O97) (Nat.le_of_eq g102.symm))
        have V117s : Arv Z h117 b102 k102 .char (2 : Int32) [(.int c0), (.int c1)] (.int (0 : Int32)) := by have q := V117; rw [hch1.1] at q; exact q
        have C120 := C111.trans (CHr.wr W117 Sw118 C111.1)
        have hk120 := Nat.le_trans hk111 (Keep.of_wr W117).1
        have R121 : Go p e below P T117 (mkF m 55 #[.val (.int n), .val (.int c0), .val (.int c1), .val (.int c2)] [(.ref b102), (.ref b97), (.ref b97)]) := fun t_ k_ => R115 t_ (st117 t_ k_)
        have f122 := (((A97.ext E102).wr W109).wr W117)
        have f123 := (((F97_33.ext E102).other W109 (Or.inl (Nat.ne_of_lt (Nat.lt_of_lt_of_le A97.lt (Nat.le_of_eq g102.symm))))).other W117 (Or.inl (Nat.ne_of_lt (Nat.lt_of_lt_of_le A97.lt (Nat.le_of_eq g102.symm)))))
        have f124 := (((F97_31.ext E102).other W109 (Or.inl (Nat.ne_of_lt (Nat.lt_of_lt_of_le A97.lt (Nat.le_of_eq g102.symm))))).other W117 (Or.inl (Nat.ne_of_lt (Nat.lt_of_lt_of_le A97.lt (Nat.le_of_eq g102.symm)))))
        have f126 := (Safe.wr W117 Sw118 C111.1 (Safe.wr W109 Sw110 C103.1 (Safe.ext E102 C98.1 Sb97)))
        have Sw125 : Safe Z EL0 _ _ b97 := f126
        obtain ⟨rv127, _, ⟨T127, L127, k127, n127⟩, -, X127, ⟨Lc127, hQ127, l127, y127, z127⟩, st127⟩ := X117.specialBack hx (y := (⟨"java/lang/String", "<init>", "([C)V"⟩ : MethodName)) rfl hown (mvT hZ (hw _ (List.mem_of_getElem? (i := 8) rfl))) (mvT hZ (hw _ (List.mem_of_getElem? (i := 9) rfl))) (mvT hZ (hw _ (List.mem_of_getElem? (i := 10) rfl))) (by decide) (StrChars.Road.backV (W := 1) hZ (w_backV hw) (kI := 4) (hw _ (List.mem_of_getElem? (i := 5) rfl)) (cs := ([c0, c1] : List Int32)) (bs := ([c0, c1] : List Int32).map (fun c => c.toInt8.toInt32)) (n := 2) (Nat.le_trans (oldLe O0) (Nat.le_of_eq g97.symm)) (oldLe O117) f122 f123 f124 V117s (P0.ext O117.2) hzc rfl rfl (by decide) (by decide) (by intro c hc; simp only [List.mem_cons, List.not_mem_nil, or_false] at hc; rcases hc with rfl | rfl <;> first | exact hch0.2 | exact hch1.2) rfl (by decide) (by decide)) (g := (mkF m 55 #[.val (.int n), .val (.int c0), .val (.int c1), .val (.int c2)] [(.ref b102), (.ref b97), (.ref b97)])) rfl (by rw [hml]; rfl) (Steps.refl _) (a := b97) (argsL := [(.ref b102)]) (rest := [(.ref b97)]) (lenOf pd_42155922 rfl) rfl (by show 2 * 0 + _ ≤ _; exact Nat.le_of_eq rfl) (hb hby d1_55) (fun _ _ => ⟨rfl, e117, (by decide : 2 + 1 ≤ _), (by decide : 6 + 2 ≤ _)⟩)
        dsimp only [Pt.U, Pt.locs, Pt.cells, Pt.slots] at X127 l127 y127 z127 st127 hQ127
        subst l127 y127 z127
        obtain ⟨rfl, N127q, K127, pE127, pC127, t127, kb127, -, lt127, tn127, pV127, pA127⟩ := hQ127
        have N127 := Fr.app N117 N127q
        have O127 := O117.keep K127 (allS (Nat.le_trans (oldLe O0) (Nat.le_of_eq g97.symm)) all0)
        have C128 := C120.trans (CHr.keep K127 (sfS Sw125 sf0) C120.1)
        have hk128 := Nat.le_trans hk120 K127.1
        have pB127 : Arv Z T127.heap t127 kb127 .byte (Int32.ofNat ([c0, c1] : List Int32).length) ((([c0, c1] : List Int32).map StrChars.lo8).map Value.int) (.int (0 : Int32)) := pA127
        have R129 : Go p e below P T127 (mkF m 58 #[.val (.int n), .val (.int c0), .val (.int c1), .val (.int c2)] [(.ref b97)]) := fun t_ k_ => R121 t_ (st127.trans k_)
        obtain ⟨fs, hr, hrun, hended, hend⟩ := X127.leaveW hS0 (by rw [(rfl : T127.heap = T127.heap)]; exact hk128 : _ ≤ T127.heap.size) (v := some (.ref b97)) (fun h => by rw [Bd.returns] at h; cases h)
        have hCe := C128.trans (CHv.at X127 hZ hEL C128.1)
        exact ⟨_, _, hP _ (R129 _ (retOut X127 hx Bd.returns rfl (Or.inr (Or.inr (Or.inr (Or.inr ⟨rfl, rfl, rfl⟩)))) (hb hby d1_58) hr)), hrun, hended, _, _, rfl, ⟨b97, t127, kb127, rfl, N127, ((((((Keep.refl h0 []).ext E97).ext E102).wr W109 (Or.inr (Nat.le_trans ((Keep.refl h0 []).ext E97).1 (Nat.le_of_eq g102.symm)))).wr W117 (Or.inr (Nat.le_trans ((Keep.refl h0 []).ext E97).1 (Nat.le_of_eq g102.symm)))).trans K127 (allS (Or.inr (Nat.le_of_eq g97.symm)) all0)), (Nat.le_of_eq g97.symm), pE127, pC127, pV127, (by rw [show strL n c0 c1 c2 = [c0, c1] from by simp [strL, hc47, hc66, hc95]]; exact pB127)⟩, (by show CHr Z EL0 s.vm s.heap T127.vm T127.heap; rw [hh, (rfl : T127.heap = T127.heap)]; exact hCe), ⟨hend.1, hend.2.1, hend.2.2.1, hend.2.2.2.mono (by decide) (by decide)⟩⟩
      · have R130 : Go p e below P s₁ (mkF m 59 #[.val (.int n), .val (.int c0), .val (.int c1), .val (.int c2)] []) := fun t_ k_ => R94 t_ (XS.icmpYes X0.here hx rfl (pc0 := 37) (pc' := 59) rfl (hb hby d1_37) rfl (feq hc95).2 (by decide) (by decide) k_)
        obtain ⟨T131, h131, X131, e131, E131, A131, D131, -, st131⟩ := newO X0 hx hZ hown (hw _ (List.mem_of_getElem? (i := 4) rfl)) (hw _ (List.mem_of_getElem? (i := 5) rfl)) (hw _ (List.mem_of_getElem? (i := 6) rfl)) e0 (g := (mkF m 59 #[.val (.int n), .val (.int c0), .val (.int c1), .val (.int c2)] [])) rfl (hb hby d1_59) (by decide) (by decide)
        obtain ⟨b131, g131⟩ : ∃ z, z = h0.size := ⟨_, rfl⟩
        rw [← g131] at A131 D131 st131
        have O131 := O0.ext E131
        have C132 := C0.trans (CHr.ext E131 C0.1)
        have hk132 := Nat.le_trans hk0 E131.1
        have Sb131 : Safe Z EL0 _ _ _ := Safe.ext E131 C0.1 (Safe.new (Nat.le_of_eq g131.symm))
        have F131_31 : Fld Z h131 b131 "java/lang/String" "coder" "B" (.int (0 : Int32)) := D131 (Or.inr (hw _ (List.mem_of_getElem? (i := 31) rfl))) (ty := .byte) (by decide)
        have F131_33 : Fld Z h131 b131 "java/lang/String" "value" "[B" .null := D131 (Or.inr (hw _ (List.mem_of_getElem? (i := 33) rfl))) (ty := (.array .byte)) (by decide)
        have R133 : Go p e below P T131 (mkF m 62 #[.val (.int n), .val (.int c0), .val (.int c1), .val (.int c2)] [(.ref b131)]) := fun t_ k_ => R130 t_ (st131 t_ k_)
        have R134 : Go p e below P T131 (mkF m 63 #[.val (.int n), .val (.int c0), .val (.int c1), .val (.int c2)] [(.ref b131), (.ref b131)]) := fun t_ k_ => R133 t_ (XS.dup X131.here hx rfl (hb hby d1_62) rfl rfl k_)
        have R135 : Go p e below P T131 (mkF m 64 #[.val (.int n), .val (.int c0), .val (.int c1), .val (.int c2)] [(.int (3 : Int32)), (.ref b131), (.ref b131)]) := fun t_ k_ => R134 t_ (XS.iconst X131.here hx rfl (hb hby d1_63) k_)
        obtain ⟨T136, h136, k136, X136, e136, E136, A136, st136⟩ := newP X131 hx hZ (hw _ (List.mem_of_getElem? (i := 7) rfl)) e131 (g := (mkF m 64 #[.val (.int n), .val (.int c0), .val (.int c1), .val (.int c2)] [(.int (3 : Int32)), (.ref b131), (.ref b131)])) rfl (hb hby d1_64) rfl (by decide) (cap := 3) (by decide) (by decide) (by decide) (by decide)
        obtain ⟨b136, g136⟩ : ∃ z, z = h131.size := ⟨_, rfl⟩
        rw [← g136] at A136 st136
        have O136 := O131.ext E136
        have V136 : Arv Z h136 b136 k136 .char (3 : Int32) [(.int (0 : Int32)), (.int (0 : Int32)), (.int (0 : Int32))] (.int (0 : Int32)) := (Arv.new A136 (by decide)).pad (pad_rep [] (.int (0 : Int32)) 3)
        have C137 := C132.trans (CHr.ext E136 C132.1)
        have hk137 := Nat.le_trans hk132 E136.1
        have Sb136 : Safe Z EL0 _ _ _ := Safe.ext E136 C132.1 (Safe.new (Nat.le_of_eq g136.symm))
        have R138 : Go p e below P T136 (mkF m 66 #[.val (.int n), .val (.int c0), .val (.int c1), .val (.int c2)] [(.ref b136), (.ref b131), (.ref b131)]) := fun t_ k_ => R135 t_ (st136 t_ k_)
        have R139 : Go p e below P T136 (mkF m 67 #[.val (.int n), .val (.int c0), .val (.int c1), .val (.int c2)] [(.ref b136), (.ref b136), (.ref b131), (.ref b131)]) := fun t_ k_ => R138 t_ (XS.dup X136.here hx rfl (hb hby d1_66) rfl rfl k_)
        have R140 : Go p e below P T136 (mkF m 68 #[.val (.int n), .val (.int c0), .val (.int c1), .val (.int c2)] [(.int (0 : Int32)), (.ref b136), (.ref b136), (.ref b131), (.ref b131)]) := fun t_ k_ => R139 t_ (XS.iconst X136.here hx rfl (hb hby d1_67) k_)
        have R141 : Go p e below P T136 (mkF m 69 #[.val (.int n), .val (.int c0), .val (.int c1), .val (.int c2)] [(.int c0), (.int (0 : Int32)), (.ref b136), (.ref b136), (.ref b131), (.ref b131)]) := fun t_ k_ => R140 t_ (XS.iloadN X136.here hx rfl (hb hby d1_68) rfl k_)
        obtain ⟨cl142, cl142A, cl142q, cl142S, cl142N, cl142H, cl142G⟩ := id V136
        obtain ⟨T143, h143, X143, e143, W143, st143⟩ := stC X136 hx hZ e136 cl142A (j := (0 : Int32)) (inb_of cl142S ⟨by decide, by decide⟩) (g := (mkF m 69 #[.val (.int n), .val (.int c0), .val (.int c1), .val (.int c2)] [(.int c0), (.int (0 : Int32)), (.ref b136), (.ref b136), (.ref b131), (.ref b131)])) rfl rfl (hb hby d1_69)
        have V143 : Arv Z h143 b136 k136 .char (3 : Int32) [(.int (nar .char c0)), (.int (0 : Int32)), (.int (0 : Int32))] (.int (0 : Int32)) := Arv.set cl142A cl142q cl142S cl142N cl142H cl142G (fits_nar_char _) W143 0 rfl (Nat.le_of_ble_eq_true rfl)
        have Sw144 : Safe Z EL0 _ _ b136 := Sb136
        have N143 := Fr.snoc X143 N0 (Nat.le_trans (oldLe O131) (Nat.le_of_eq g136.symm))
        have O143 := O136.wr W143 (Nat.le_trans (oldLe O131) (Nat.le_of_eq g136.symm))
        have V143s : Arv Z h143 b136 k136 .char (3 : Int32) [(.int c0), (.int (0 : Int32)), (.int (0 : Int32))] (.int (0 : Int32)) := by have q := V143; rw [hch0.1] at q; exact q
        have C145 := C137.trans (CHr.wr W143 Sw144 C137.1)
        have hk145 := Nat.le_trans hk137 (Keep.of_wr W143).1
        have R146 : Go p e below P T143 (mkF m 70 #[.val (.int n), .val (.int c0), .val (.int c1), .val (.int c2)] [(.ref b136), (.ref b131), (.ref b131)]) := fun t_ k_ => R141 t_ (st143 t_ k_)
        have R147 : Go p e below P T143 (mkF m 71 #[.val (.int n), .val (.int c0), .val (.int c1), .val (.int c2)] [(.ref b136), (.ref b136), (.ref b131), (.ref b131)]) := fun t_ k_ => R146 t_ (XS.dup X143.here hx rfl (hb hby d1_70) rfl rfl k_)
        have R148 : Go p e below P T143 (mkF m 72 #[.val (.int n), .val (.int c0), .val (.int c1), .val (.int c2)] [(.int (1 : Int32)), (.ref b136), (.ref b136), (.ref b131), (.ref b131)]) := fun t_ k_ => R147 t_ (XS.iconst X143.here hx rfl (hb hby d1_71) k_)
        have R149 : Go p e below P T143 (mkF m 73 #[.val (.int n), .val (.int c0), .val (.int c1), .val (.int c2)] [(.int c1), (.int (1 : Int32)), (.ref b136), (.ref b136), (.ref b131), (.ref b131)]) := fun t_ k_ => R148 t_ (XS.iloadN X143.here hx rfl (hb hby d1_72) rfl k_)
        obtain ⟨cl150, cl150A, cl150q, cl150S, cl150N, cl150H, cl150G⟩ := id V143s
        obtain ⟨T151, h151, X151, e151, W151, st151⟩ := stC X143 hx hZ e143 cl150A (j := (1 : Int32)) (inb_of cl150S ⟨by decide, by decide⟩) (g := (mkF m 73 #[.val (.int n), .val (.int c0), .val (.int c1), .val (.int c2)] [(.int c1), (.int (1 : Int32)), (.ref b136), (.ref b136), (.ref b131), (.ref b131)])) rfl rfl (hb hby d1_73)
        have V151 : Arv Z h151 b136 k136 .char (3 : Int32) [(.int c0), (.int (nar .char c1)), (.int (0 : Int32))] (.int (0 : Int32)) := Arv.set cl150A cl150q cl150S cl150N cl150H cl150G (fits_nar_char _) W151 1 rfl (Nat.le_of_ble_eq_true rfl)
        have f153 := (Safe.wr W143 Sw144 C137.1 Sw144)
        have Sw152 : Safe Z EL0 _ _ b136 := f153
        have N151 := Fr.snoc X151 N143 (Nat.le_trans (oldLe O131) (Nat.le_of_eq g136.symm))
        have O151 := O143.wr W151 (Nat.le_trans (oldLe O131) (Nat.le_of_eq g136.symm))
        have V151s : Arv Z h151 b136 k136 .char (3 : Int32) [(.int c0), (.int c1), (.int (0 : Int32))] (.int (0 : Int32)) := by have q := V151; rw [hch1.1] at q; exact q
        have C154 := C145.trans (CHr.wr W151 Sw152 C145.1)
        have hk154 := Nat.le_trans hk145 (Keep.of_wr W151).1
        have R155 : Go p e below P T151 (mkF m 74 #[.val (.int n), .val (.int c0), .val (.int c1), .val (.int c2)] [(.ref b136), (.ref b131), (.ref b131)]) := fun t_ k_ => R149 t_ (st151 t_ k_)
        have R156 : Go p e below P T151 (mkF m 75 #[.val (.int n), .val (.int c0), .val (.int c1), .val (.int c2)] [(.ref b136), (.ref b136), (.ref b131), (.ref b131)]) := fun t_ k_ => R155 t_ (XS.dup X151.here hx rfl (hb hby d1_74) rfl rfl k_)
        have R157 : Go p e below P T151 (mkF m 76 #[.val (.int n), .val (.int c0), .val (.int c1), .val (.int c2)] [(.int (2 : Int32)), (.ref b136), (.ref b136), (.ref b131), (.ref b131)]) := fun t_ k_ => R156 t_ (XS.iconst X151.here hx rfl (hb hby d1_75) k_)
        have R158 : Go p e below P T151 (mkF m 77 #[.val (.int n), .val (.int c0), .val (.int c1), .val (.int c2)] [(.int c2), (.int (2 : Int32)), (.ref b136), (.ref b136), (.ref b131), (.ref b131)]) := fun t_ k_ => R157 t_ (XS.iloadN X151.here hx rfl (hb hby d1_76) rfl k_)
        obtain ⟨cl159, cl159A, cl159q, cl159S, cl159N, cl159H, cl159G⟩ := id V151s
        obtain ⟨T160, h160, X160, e160, W160, st160⟩ := stC X151 hx hZ e151 cl159A (j := (2 : Int32)) (inb_of cl159S ⟨by decide, by decide⟩) (g := (mkF m 77 #[.val (.int n), .val (.int c0), .val (.int c1), .val (.int c2)] [(.int c2), (.int (2 : Int32)), (.ref b136), (.ref b136), (.ref b131), (.ref b131)])) rfl rfl (hb hby d1_77)
        have V160 : Arv Z h160 b136 k136 .char (3 : Int32) [(.int c0), (.int c1), (.int (nar .char c2))] (.int (0 : Int32)) := Arv.set cl159A cl159q cl159S cl159N cl159H cl159G (fits_nar_char _) W160 2 rfl (Nat.le_of_ble_eq_true rfl)
        have f162 := (Safe.wr W151 Sw152 C145.1 Sw152)
        have Sw161 : Safe Z EL0 _ _ b136 := f162
        have N160 := Fr.snoc X160 N151 (Nat.le_trans (oldLe O131) (Nat.le_of_eq g136.symm))
        have O160 := O151.wr W160 (Nat.le_trans (oldLe O131) (Nat.le_of_eq g136.symm))
        have V160s : Arv Z h160 b136 k136 .char (3 : Int32) [(.int c0), (.int c1), (.int c2)] (.int (0 : Int32)) := by have q := V160; rw [hch2.1] at q; exact q
        have C163 := C154.trans (CHr.wr W160 Sw161 C154.1)
        have hk163 := Nat.le_trans hk154 (Keep.of_wr W160).1
        have R164 : Go p e below P T160 (mkF m 78 #[.val (.int n), .val (.int c0), .val (.int c1), .val (.int c2)] [(.ref b136), (.ref b131), (.ref b131)]) := fun t_ k_ => R158 t_ (st160 t_ k_)
        have f165 := ((((A131.ext E136).wr W143).wr W151).wr W160)
        have f166 := ((((F131_33.ext E136).other W143 (Or.inl (Nat.ne_of_lt (Nat.lt_of_lt_of_le A131.lt (Nat.le_of_eq g136.symm))))).other W151 (Or.inl (Nat.ne_of_lt (Nat.lt_of_lt_of_le A131.lt (Nat.le_of_eq g136.symm))))).other W160 (Or.inl (Nat.ne_of_lt (Nat.lt_of_lt_of_le A131.lt (Nat.le_of_eq g136.symm)))))
        have f167 := ((((F131_31.ext E136).other W143 (Or.inl (Nat.ne_of_lt (Nat.lt_of_lt_of_le A131.lt (Nat.le_of_eq g136.symm))))).other W151 (Or.inl (Nat.ne_of_lt (Nat.lt_of_lt_of_le A131.lt (Nat.le_of_eq g136.symm))))).other W160 (Or.inl (Nat.ne_of_lt (Nat.lt_of_lt_of_le A131.lt (Nat.le_of_eq g136.symm)))))
        have f169 := (Safe.wr W160 Sw161 C154.1 (Safe.wr W151 Sw152 C145.1 (Safe.wr W143 Sw144 C137.1 (Safe.ext E136 C132.1 Sb131))))
        have Sw168 : Safe Z EL0 _ _ b131 := f169
        obtain ⟨rv170, _, ⟨T170, L170, k170, n170⟩, -, X170, ⟨Lc170, hQ170, l170, y170, z170⟩, st170⟩ := X160.specialBack hx (y := (⟨"java/lang/String", "<init>", "([C)V"⟩ : MethodName)) rfl hown (mvT hZ (hw _ (List.mem_of_getElem? (i := 8) rfl))) (mvT hZ (hw _ (List.mem_of_getElem? (i := 9) rfl))) (mvT hZ (hw _ (List.mem_of_getElem? (i := 10) rfl))) (by decide) (StrChars.Road.backV (W := 1) hZ (w_backV hw) (kI := 4) (hw _ (List.mem_of_getElem? (i := 5) rfl)) (cs := ([c0, c1, c2] : List Int32)) (bs := ([c0, c1, c2] : List Int32).map (fun c => c.toInt8.toInt32)) (n := 3) (Nat.le_trans (oldLe O0) (Nat.le_of_eq g131.symm)) (oldLe O160) f165 f166 f167 V160s (P0.ext O160.2) hzc rfl rfl (by decide) (by decide) (by intro c hc; simp only [List.mem_cons, List.not_mem_nil, or_false] at hc; rcases hc with rfl | rfl | rfl <;> first | exact hch0.2 | exact hch1.2 | exact hch2.2) rfl (by decide) (by decide)) (g := (mkF m 78 #[.val (.int n), .val (.int c0), .val (.int c1), .val (.int c2)] [(.ref b136), (.ref b131), (.ref b131)])) rfl (by rw [hml]; rfl) (Steps.refl _) (a := b131) (argsL := [(.ref b136)]) (rest := [(.ref b131)]) (lenOf pd_42155922 rfl) rfl (by show 2 * 0 + _ ≤ _; exact Nat.le_of_eq rfl) (hb hby d1_78) (fun _ _ => ⟨rfl, e160, (by decide : 2 + 1 ≤ _), (by decide : 7 + 3 ≤ _)⟩)
        dsimp only [Pt.U, Pt.locs, Pt.cells, Pt.slots] at X170 l170 y170 z170 st170 hQ170
        subst l170 y170 z170
        obtain ⟨rfl, N170q, K170, pE170, pC170, t170, kb170, -, lt170, tn170, pV170, pA170⟩ := hQ170
        have N170 := Fr.app N160 N170q
        have O170 := O160.keep K170 (allS (Nat.le_trans (oldLe O0) (Nat.le_of_eq g131.symm)) all0)
        have C171 := C163.trans (CHr.keep K170 (sfS Sw168 sf0) C163.1)
        have hk171 := Nat.le_trans hk163 K170.1
        have pB170 : Arv Z T170.heap t170 kb170 .byte (Int32.ofNat ([c0, c1, c2] : List Int32).length) ((([c0, c1, c2] : List Int32).map StrChars.lo8).map Value.int) (.int (0 : Int32)) := pA170
        have R172 : Go p e below P T170 (mkF m 81 #[.val (.int n), .val (.int c0), .val (.int c1), .val (.int c2)] [(.ref b131)]) := fun t_ k_ => R164 t_ (st170.trans k_)
        obtain ⟨fs, hr, hrun, hended, hend⟩ := X170.leaveW hS0 (by rw [(rfl : T170.heap = T170.heap)]; exact hk171 : _ ≤ T170.heap.size) (v := some (.ref b131)) (fun h => by rw [Bd.returns] at h; cases h)
        have hCe := C171.trans (CHv.at X170 hZ hEL C171.1)
        exact ⟨_, _, hP _ (R172 _ (retOut X170 hx Bd.returns rfl (Or.inr (Or.inr (Or.inr (Or.inr ⟨rfl, rfl, rfl⟩)))) (hb hby d1_81) hr)), hrun, hended, _, _, rfl, ⟨b131, t170, kb170, rfl, N170, (((((((Keep.refl h0 []).ext E131).ext E136).wr W143 (Or.inr (Nat.le_trans ((Keep.refl h0 []).ext E131).1 (Nat.le_of_eq g136.symm)))).wr W151 (Or.inr (Nat.le_trans ((Keep.refl h0 []).ext E131).1 (Nat.le_of_eq g136.symm)))).wr W160 (Or.inr (Nat.le_trans ((Keep.refl h0 []).ext E131).1 (Nat.le_of_eq g136.symm)))).trans K170 (allS (Or.inr (Nat.le_of_eq g131.symm)) all0)), (Nat.le_of_eq g131.symm), pE170, pC170, pV170, (by rw [show strL n c0 c1 c2 = [c0, c1, c2] from by simp [strL, hc47, hc66, hc95]]; exact pB170)⟩, (by show CHr Z EL0 s.vm s.heap T170.vm T170.heap; rw [hh, (rfl : T170.heap = T170.heap)]; exact hCe), ⟨hend.1, hend.2.1, hend.2.2.1, hend.2.2.2.mono (by decide) (by decide)⟩⟩
def sameI (tl nl t0 t1 t2 n0 n1 n2 : Int32) : Int32 := if tl = nl ∧ (tl < 1 ∨ t0 = n0) ∧ (tl < 2 ∨ t1 = n1) ∧ (tl < 3 ∨ t2 = n2) then 1 else 0
theorem len4 (y : Int32) : 0 ≤ (y &&& 3).toInt ∧ (y &&& 3).toInt < 4 := by
  have e1 : (y &&& 3).toInt = y.toInt % 2 ^ 2 := Jvm.Kit.i32_mask y 3 (k := 2) (by decide) (by decide)
  omega
theorem four {n : Int32} (h : 0 ≤ n.toInt ∧ n.toInt < 4) : n = 0 ∨ n = 1 ∨ n = 2 ∨ n = 3 := by
  have q0 : (0 : Int32).toInt = 0 := by decide
  have q1 : (1 : Int32).toInt = 1 := by decide
  have q2 : (2 : Int32).toInt = 2 := by decide
  have q3 : (3 : Int32).toInt = 3 := by decide
  rcases (by omega : n.toInt = 0 ∨ n.toInt = 1 ∨ n.toInt = 2 ∨ n.toInt = 3) with h | h | h | h
  · exact Or.inl (Int32.toInt_inj.mp (h.trans q0.symm))
  · exact Or.inr (Or.inl (Int32.toInt_inj.mp (h.trans q1.symm)))
  · exact Or.inr (Or.inr (Or.inl (Int32.toInt_inj.mp (h.trans q2.symm))))
  · exact Or.inr (Or.inr (Or.inr (Int32.toInt_inj.mp (h.trans q3.symm))))
theorem own_same {tl nl t0 t1 t2 n0 n1 n2 : Int32} (h1 : 0 ≤ tl.toInt ∧ tl.toInt < 4) (h2 : 0 ≤ nl.toInt ∧ nl.toInt < 4) : sameI tl nl t0 t1 t2 n0 n1 n2 = eqI (strL tl t0 t1 t2) (strL nl n0 n1 n2) := by
  rcases four h1 with rfl | rfl | rfl | rfl <;> rcases four h2 with rfl | rfl | rfl | rfl <;> simp [sameI, eqI, strL]
theorem eqI01 (cs ds : List Int32) : eqI cs ds = 0 ∨ eqI cs ds = 1 := by unfold eqI; split <;> simp
theorem pn_50637713 : plainName "java/util/Objects" = true := by first | (simp [plainName, overriddenIn]; done) | decide +kernel
theorem ef_req_ (m : MethodId) (x0 : Addr) : entryFrame m #[(.ref x0)] 1 = mkF m 0 #[.val (.ref x0)] [] := by first | (simp [entryFrame, mkF, argsToLocals, Value.category]; done) | rfl
theorem d9_0 : decode jdk_31_method_10_code 0 = .ok (.aload_n 0, 1) := by decide +kernel
theorem d9_1 : decode jdk_31_method_10_code 1 = .ok (.ifnonnull 11, 3) := by decide +kernel
theorem d9_12 : decode jdk_31_method_10_code 12 = .ok (.aload_n 0, 1) := by decide +kernel
theorem d9_13 : decode jdk_31_method_10_code 13 = .ok (.areturn, 1) := by decide +kernel
def Q_req_ (Z : State) (o : Addr) (h0 : Heap) (n0 : Nat) (rv_ : Option Value) (rh_ : Heap) (rL_ : List Loc) : Prop := (rv_ = some (.ref o)) ∧ (Fr n0 rL_) ∧ (rh_ = h0)
set_option maxRecDepth 65536 in
set_option maxHeartbeats 40000000 in
theorem req_ (l : Launch) (Z : State) (a0 : Array Value) (hw : ∀ d ∈ tables_1, d.before a0 Z = true) (ws : List Jvm.Cond) (o : Addr) (h0 : Heap) (n0 : Nat) (O0 : Old Z n0 h0) :
    MetFree l (⟨"java/util/Objects", "requireNonNull", "(Ljava/lang/Object;)Ljava/lang/Object;"⟩ : MethodName) (head1 (Jvm.Cond.code (⟨"java/util/Objects", "requireNonNull", "(Ljava/lang/Object;)Ljava/lang/Object;"⟩ : MethodName) jdk_31_method_10_code 1 (some (.object "java/lang/Object")) :: ws) ({ frames := 0, cells := 0, slots := 0, locals := 0 } : Room)) (fun a_ U_ => a_ = #[(.ref o)] ∧ Z.Warmed39 U_.vm ∧ U_.heap = h0) (fun _ _ _ _ _ => True) (fun _ U_ o_ U_' => ∃ v_ L_, o_ = .returned v_ ∧ Q_req_ Z o h0 n0 v_ U_'.heap L_ ∧ FrameEnd U_ o_ U_' L_ ({ frames := 0, cells := 0, slots := 0, locals := 0 } : Room).cells ({ frames := 0, cells := 0, slots := 0, locals := 0 } : Room).slots) := by
  refine MetFree.of_bodySF (plainFor_of_name pn_50637713) hisR ?_
  intro p e s m args below meth c s₁ Bd hml0 hP0 hK
  obtain ⟨rfl, hZ, hh⟩ := hP0
  have hx := Bd.exec
  have hby := Bd.bytes
  have hml : c.maxLocals = 1 := hml0
  have hown : s.vm.findClass "java/util/Objects" = some m.cls := findClass_of_methodNamed Bd.named
  have hnm := (name_of_methodNamed Bd.named Bd.method).1
  have X0 : Stand p l e ({ frames := 0, cells := 0, slots := 0, locals := 0 } : Room) s m #[(.ref o)] below meth c s₁ [] 0 0 := Stand.of_body Bd
  have e0 : s₁.heap = h0 := by rw [← hh, Bd.state]; rfl
  have N0 := Fr.nil n0
  obtain ⟨P, hP, R0⟩ : ∃ P : State → Prop, (∀ t_, P t_ → Steps p.tables e below (s₁.setTop (entryFrame m #[(.ref o)] 1)) t_) ∧ Go p e below P s₁ (mkF m 0 #[.val (.ref o)] []) := ⟨_, fun _ h => h, fun t_ k_ => castTop (ef_req_ m o) k_⟩
  have R173 : Go p e below P s₁ (mkF m 1 #[.val (.ref o)] [(.ref o)]) := fun t_ k_ => R0 t_ (XS.aloadN X0.here hx rfl (hb hby d9_0) rfl rfl k_)
  have R174 : Go p e below P s₁ (mkF m 12 #[.val (.ref o)] []) := fun t_ k_ => R173 t_ (XS.ifnonnullYes X0.here hx rfl (pc0 := 1) (pc' := 12) rfl (hb hby d9_1) rfl (by decide) (by decide) k_)
  have R175 : Go p e below P s₁ (mkF m 13 #[.val (.ref o)] [(.ref o)]) := fun t_ k_ => R174 t_ (XS.aloadN X0.here hx rfl (hb hby d9_12) rfl rfl k_)
  obtain ⟨fs, hr, hrun, hended, hW, hsame⟩ := X0.leave (v := some (.ref o)) (fun h => by rw [Bd.returns] at h; cases h)
  exact ⟨_, _, hP _ (R175 _ (retOut X0 hx Bd.returns rfl (Or.inr (Or.inr (Or.inr (Or.inr ⟨rfl, rfl, rfl⟩)))) (hb hby d9_13) hr)), hrun, hended, _, _, rfl, ⟨rfl, N0, e0⟩, ⟨_, rfl⟩, hW, hsame.mono (by decide) (by decide)⟩
theorem pn_54609431 : plainName "java/util/Optional" = true := by first | (simp [plainName, overriddenIn]; done) | decide +kernel
theorem ef_oinit_ (m : MethodId) (x0 : Addr) (x1 : Addr) : entryFrame m #[(.ref x0), (.ref x1)] 2 = mkF m 0 #[.val (.ref x0), .val (.ref x1)] [] := by first | (simp [entryFrame, mkF, argsToLocals, Value.category]; done) | rfl
theorem d10_0 : decode jdk_32_method_2_code 0 = .ok (.aload_n 0, 1) := by decide +kernel
theorem d10_1 : decode jdk_32_method_2_code 1 = .ok (.invokespecial 7, 3) := by decide +kernel
theorem d10_4 : decode jdk_32_method_2_code 4 = .ok (.aload_n 0, 1) := by decide +kernel
theorem d10_5 : decode jdk_32_method_2_code 5 = .ok (.aload_n 1, 1) := by decide +kernel
theorem d10_6 : decode jdk_32_method_2_code 6 = .ok (.putfield 13, 3) := by decide +kernel
theorem d10_9 : decode jdk_32_method_2_code 9 = .ok (.return_, 1) := by decide +kernel
def Q_oinit_ (Z : State) (a : Addr) (u : Addr) (h0 : Heap) (n0 : Nat) (rv_ : Option Value) (rh_ : Heap) (rL_ : List Loc) : Prop := (rv_ = none) ∧ (Fr n0 rL_) ∧ (Keep h0 rh_ [a]) ∧ (Exa Z rh_ a "java/util/Optional") ∧ (Fld Z rh_ a "java/util/Optional" "value" "Ljava/lang/Object;" (.ref u))
set_option maxRecDepth 65536 in
set_option maxHeartbeats 40000000 in
theorem oinit_ (l : Launch) (Z : State) (a0 : Array Value) (hw : ∀ d ∈ tables_1, d.before a0 Z = true) (ws : List Jvm.Cond) (a : Addr) (u : Addr) (h0 : Heap) (n0 : Nat) (O0 : Old Z n0 h0) (P0 : Exa Z h0 a "java/util/Optional") (P1 : Fld Z h0 a "java/util/Optional" "value" "Ljava/lang/Object;" .null) (P2 : n0 ≤ a) :
    MetFree l (⟨"java/util/Optional", "<init>", "(Ljava/lang/Object;)V"⟩ : MethodName) (head1 (Jvm.Cond.code (⟨"java/util/Optional", "<init>", "(Ljava/lang/Object;)V"⟩ : MethodName) jdk_32_method_2_code 2 none :: ws) ({ frames := 1, cells := 0, slots := 0, locals := 12 } : Room)) (fun a_ U_ => a_ = #[(.ref a), (.ref u)] ∧ Z.Warmed39 U_.vm ∧ U_.heap = h0) (fun _ _ _ _ _ => True) (fun _ U_ o_ U_' => ∃ v_ L_, o_ = .returned v_ ∧ Q_oinit_ Z a u h0 n0 v_ U_'.heap L_ ∧ FrameEnd U_ o_ U_' L_ ({ frames := 1, cells := 0, slots := 0, locals := 12 } : Room).cells ({ frames := 1, cells := 0, slots := 0, locals := 12 } : Room).slots) := by
  refine MetFree.of_bodySF (plainFor_of_name pn_54609431) hisR ?_
  intro p e s m args below meth c s₁ Bd hml0 hP0 hK
  obtain ⟨rfl, hZ, hh⟩ := hP0
  have hx := Bd.exec
  have hby := Bd.bytes
  have hml : c.maxLocals = 2 := hml0
  have hown : s.vm.findClass "java/util/Optional" = some m.cls := findClass_of_methodNamed Bd.named
  have hnm := (name_of_methodNamed Bd.named Bd.method).1
  have X0 : Stand p l e ({ frames := 1, cells := 0, slots := 0, locals := 12 } : Room) s m #[(.ref a), (.ref u)] below meth c s₁ [] 0 0 := Stand.of_body Bd
  have e0 : s₁.heap = h0 := by rw [← hh, Bd.state]; rfl
  have N0 := Fr.nil n0
  obtain ⟨P, hP, R0⟩ : ∃ P : State → Prop, (∀ t_, P t_ → Steps p.tables e below (s₁.setTop (entryFrame m #[(.ref a), (.ref u)] 2)) t_) ∧ Go p e below P s₁ (mkF m 0 #[.val (.ref a), .val (.ref u)] []) := ⟨_, fun _ h => h, fun t_ k_ => castTop (ef_oinit_ m a u) k_⟩
  have R176 : Go p e below P s₁ (mkF m 1 #[.val (.ref a), .val (.ref u)] [(.ref a)]) := fun t_ k_ => R0 t_ (XS.aloadN X0.here hx rfl (hb hby d10_0) rfl rfl k_)
  obtain ⟨T177, X177, e177, st177⟩ := initO X0 hx hZ hown (hw _ (List.mem_of_getElem? (i := 48) rfl)) (hw _ (List.mem_of_getElem? (i := 16) rfl)) (hw _ (List.mem_of_getElem? (i := 17) rfl)) e0 (g := (mkF m 1 #[.val (.ref a), .val (.ref u)] [(.ref a)])) rfl (by rw [hml]; rfl) rfl (hb hby d10_1) (by decide) (W := 0) (by show 2 * 0 + _ ≤ _; exact Nat.le_of_eq rfl) (by decide)
  have R178 : Go p e below P T177 (mkF m 4 #[.val (.ref a), .val (.ref u)] []) := fun t_ k_ => R176 t_ (st177 t_ k_)
  have R179 : Go p e below P T177 (mkF m 5 #[.val (.ref a), .val (.ref u)] [(.ref a)]) := fun t_ k_ => R178 t_ (XS.aloadN X177.here hx rfl (hb hby d10_4) rfl rfl k_)
  have R180 : Go p e below P T177 (mkF m 6 #[.val (.ref a), .val (.ref u)] [(.ref u), (.ref a)]) := fun t_ k_ => R179 t_ (XS.aloadN X177.here hx rfl (hb hby d10_5) rfl rfl k_)
  obtain ⟨T181, h181, X181, e181, W181, st181⟩ := putF X177 hx hZ hown (host := "") (Or.inl (hw _ (List.mem_of_getElem? (i := 49) rfl))) Via.refl e177 P1 P0 (Or.inr ⟨(hw _ (List.mem_of_getElem? (i := 50) rfl)), rfl, hnm⟩) (hw _ (List.mem_of_getElem? (i := 39) rfl)) (ty := (.object "java/lang/Object")) (by decide) rfl rfl (g := (mkF m 6 #[.val (.ref a), .val (.ref u)] [(.ref u), (.ref a)])) rfl rfl (hb hby d10_6)
  have N181 := Fr.snoc X181 N0 P2
  have Fw181 := P1.same W181
  have O181 := O0.wr W181 P2
  have R182 : Go p e below P T181 (mkF m 9 #[.val (.ref a), .val (.ref u)] []) := fun t_ k_ => R180 t_ (st181 t_ k_)
  obtain ⟨fs, hr, hrun, hended, hW, hsame⟩ := X181.leave (v := none) (fun _ => rfl)
  have f183 := (P0.wr W181)
  exact ⟨_, _, hP _ (R182 _ (X181.returnOut hx Bd.returns (hb hby d10_9) hr)), hrun, hended, _, _, rfl, ⟨rfl, N181, (e181.symm ▸ ((Keep.refl h0 [a]).wr W181 (Or.inl (List.mem_of_getElem? (i := 0) rfl)))), (e181.symm ▸ f183), (e181.symm ▸ Fw181)⟩, ⟨_, rfl⟩, hW, hsame.mono (by decide) (by decide)⟩
theorem ef_oof_ (m : MethodId) (x0 : Addr) : entryFrame m #[(.ref x0)] 1 = mkF m 0 #[.val (.ref x0)] [] := by first | (simp [entryFrame, mkF, argsToLocals, Value.category]; done) | rfl
theorem d8_0 : decode jdk_32_method_3_code 0 = .ok (.new 2, 3) := by decide +kernel
theorem d8_3 : decode jdk_32_method_3_code 3 = .ok (.dup, 1) := by decide +kernel
theorem d8_4 : decode jdk_32_method_3_code 4 = .ok (.aload_n 0, 1) := by decide +kernel
theorem d8_5 : decode jdk_32_method_3_code 5 = .ok (.invokestatic 17, 3) := by decide +kernel
theorem pd_72566344 : parseMethodDescriptor "(Ljava/lang/Object;)Ljava/lang/Object;" = some ⟨[(.object "java/lang/Object")], some (.object "java/lang/Object")⟩ := by decide +kernel
theorem d8_8 : decode jdk_32_method_3_code 8 = .ok (.invokespecial 23, 3) := by decide +kernel
theorem pd_90185810 : parseMethodDescriptor "(Ljava/lang/Object;)V" = some ⟨[(.object "java/lang/Object")], none⟩ := by decide +kernel
theorem d8_11 : decode jdk_32_method_3_code 11 = .ok (.areturn, 1) := by decide +kernel
def Q_oof_ (Z : State) (u : Addr) (h0 : Heap) (n0 : Nat) (rv_ : Option Value) (rh_ : Heap) (rL_ : List Loc) : Prop := ∃ r : Addr, (rv_ = some (.ref r)) ∧ (Fr n0 rL_) ∧ (Keep h0 rh_ []) ∧ (h0.size ≤ r) ∧ (Exa Z rh_ r "java/util/Optional") ∧ (Fld Z rh_ r "java/util/Optional" "value" "Ljava/lang/Object;" (.ref u))
set_option maxRecDepth 65536 in
set_option maxHeartbeats 40000000 in
theorem oof_ (l : Launch) (Z : State) (a0 : Array Value) (hw : ∀ d ∈ tables_1, d.before a0 Z = true) (ws : List Jvm.Cond) (u : Addr) (h0 : Heap) (n0 : Nat) (O0 : Old Z n0 h0) :
    MetFree l (⟨"java/util/Optional", "of", "(Ljava/lang/Object;)Ljava/util/Optional;"⟩ : MethodName) (head1 (Jvm.Cond.code (⟨"java/util/Optional", "of", "(Ljava/lang/Object;)Ljava/util/Optional;"⟩ : MethodName) jdk_32_method_3_code 1 (some (.object "java/util/Optional")) :: ws) ({ frames := 2, cells := 1, slots := 1, locals := 26 } : Room)) (fun a_ U_ => a_ = #[(.ref u)] ∧ Z.Warmed39 U_.vm ∧ U_.heap = h0) (fun _ _ _ _ _ => True) (fun _ U_ o_ U_' => ∃ v_ L_, o_ = .returned v_ ∧ Q_oof_ Z u h0 n0 v_ U_'.heap L_ ∧ FrameEnd U_ o_ U_' L_ ({ frames := 2, cells := 1, slots := 1, locals := 26 } : Room).cells ({ frames := 2, cells := 1, slots := 1, locals := 26 } : Room).slots) := by
  refine MetFree.of_bodySF (plainFor_of_name pn_54609431) hisR ?_
  intro p e s m args below meth c s₁ Bd hml0 hP0 hK
  obtain ⟨rfl, hZ, hh⟩ := hP0
  have hx := Bd.exec
  have hby := Bd.bytes
  have hml : c.maxLocals = 1 := hml0
  have hown : s.vm.findClass "java/util/Optional" = some m.cls := findClass_of_methodNamed Bd.named
  have hnm := (name_of_methodNamed Bd.named Bd.method).1
  have X0 : Stand p l e ({ frames := 2, cells := 1, slots := 1, locals := 26 } : Room) s m #[(.ref u)] below meth c s₁ [] 0 0 := Stand.of_body Bd
  have e0 : s₁.heap = h0 := by rw [← hh, Bd.state]; rfl
  have N0 := Fr.nil n0
  obtain ⟨P, hP, R0⟩ : ∃ P : State → Prop, (∀ t_, P t_ → Steps p.tables e below (s₁.setTop (entryFrame m #[(.ref u)] 1)) t_) ∧ Go p e below P s₁ (mkF m 0 #[.val (.ref u)] []) := ⟨_, fun _ h => h, fun t_ k_ => castTop (ef_oof_ m u) k_⟩
  obtain ⟨T184, h184, X184, e184, E184, A184, D184, -, st184⟩ := newO X0 hx hZ hown (hw _ (List.mem_of_getElem? (i := 38) rfl)) (hw _ (List.mem_of_getElem? (i := 39) rfl)) (hw _ (List.mem_of_getElem? (i := 36) rfl)) e0 (g := (mkF m 0 #[.val (.ref u)] [])) rfl (hb hby d8_0) (by decide) (by decide)
  obtain ⟨b184, g184⟩ : ∃ z, z = h0.size := ⟨_, rfl⟩
  rw [← g184] at A184 D184 st184
  have O184 := O0.ext E184
  have F184_50 : Fld Z h184 b184 "java/util/Optional" "value" "Ljava/lang/Object;" .null := D184 (Or.inr (hw _ (List.mem_of_getElem? (i := 50) rfl))) (ty := (.object "java/lang/Object")) (by decide)
  have R185 : Go p e below P T184 (mkF m 3 #[.val (.ref u)] [(.ref b184)]) := fun t_ k_ => R0 t_ (st184 t_ k_)
  have R186 : Go p e below P T184 (mkF m 4 #[.val (.ref u)] [(.ref b184), (.ref b184)]) := fun t_ k_ => R185 t_ (XS.dup X184.here hx rfl (hb hby d8_3) rfl rfl k_)
  have R187 : Go p e below P T184 (mkF m 5 #[.val (.ref u)] [(.ref u), (.ref b184), (.ref b184)]) := fun t_ k_ => R186 t_ (XS.aloadN X184.here hx rfl (hb hby d8_4) rfl rfl k_)
  obtain ⟨rv188, _, ⟨T188, L188, k188, n188⟩, -, X188, ⟨Lc188, hQ188, l188, y188, z188⟩, st188⟩ := Jvm.LawKit.callS X184 hx (y := (⟨"java/util/Objects", "requireNonNull", "(Ljava/lang/Object;)Ljava/lang/Object;"⟩ : MethodName)) hown (mvT hZ (hw _ (List.mem_of_getElem? (i := 40) rfl))) (mvT hZ (hw _ (List.mem_of_getElem? (i := 41) rfl))) (mvT hZ (hw _ (List.mem_of_getElem? (i := 42) rfl))) (mvT hZ (hw _ (List.mem_of_getElem? (i := 43) rfl))) (by decide) (backOf (W := 2) (req_ l Z a0 hw [] u h184 n0 O184) hZ (hw _ (List.mem_of_getElem? (i := 43) rfl)) (hw _ (List.mem_of_getElem? (i := 42) rfl)) (by decide) (by decide)) (g := (mkF m 5 #[.val (.ref u)] [(.ref u), (.ref b184), (.ref b184)])) rfl (by rw [hml]; rfl) (argsL := [(.ref u)]) (rest := [(.ref b184), (.ref b184)]) (lenOf pd_72566344 rfl) rfl (by show 2 * 0 + _ ≤ _; exact Nat.le_of_eq rfl) (hb hby d8_5) (fun _ _ => ⟨rfl, e184, (by decide : 1 + 0 ≤ _), (by decide : 1 + 0 ≤ _)⟩)
  dsimp only [Pt.U, Pt.locs, Pt.cells, Pt.slots] at X188 l188 y188 z188 st188 hQ188
  subst l188 y188 z188
  obtain ⟨rfl, N188q, K188⟩ := hQ188
  have N188 := Fr.app N0 N188q
  have R189 : Go p e below P T188 (mkF m 8 #[.val (.ref u)] [(.ref u), (.ref b184), (.ref b184)]) := fun t_ k_ => R187 t_ (st188 t_ k_)
  obtain ⟨rv190, _, ⟨T190, L190, k190, n190⟩, -, X190, ⟨Lc190, hQ190, l190, y190, z190⟩, st190⟩ := X188.specialBack hx (y := (⟨"java/util/Optional", "<init>", "(Ljava/lang/Object;)V"⟩ : MethodName)) rfl hown (mvT hZ (hw _ (List.mem_of_getElem? (i := 44) rfl))) (mvT hZ (hw _ (List.mem_of_getElem? (i := 45) rfl))) (mvT hZ (hw _ (List.mem_of_getElem? (i := 47) rfl))) (by decide) (backOf (W := 1) (oinit_ l Z a0 hw [] b184 u h184 n0 O184 A184 F184_50 (Nat.le_trans (oldLe O0) (Nat.le_of_eq g184.symm))) hZ (hw _ (List.mem_of_getElem? (i := 47) rfl)) (hw _ (List.mem_of_getElem? (i := 36) rfl)) (by decide) (by decide)) (g := (mkF m 8 #[.val (.ref u)] [(.ref u), (.ref b184), (.ref b184)])) rfl (by rw [hml]; rfl) (Steps.refl _) (a := b184) (argsL := [(.ref u)]) (rest := [(.ref b184)]) (lenOf pd_90185810 rfl) rfl (by show 2 * 0 + _ ≤ _; exact Nat.le_of_eq rfl) (hb hby d8_8) (fun _ _ => ⟨rfl, K188, (by decide : 1 + 0 ≤ _), (by decide : 1 + 0 ≤ _)⟩)
  dsimp only [Pt.U, Pt.locs, Pt.cells, Pt.slots] at X190 l190 y190 z190 st190 hQ190
  subst l190 y190 z190
  obtain ⟨rfl, N190q, K190, p190_0, p190_1⟩ := hQ190
  have N190 := Fr.app N188 N190q
  have O190 := O184.keep K190 (allS (Nat.le_trans (oldLe O0) (Nat.le_of_eq g184.symm)) all0)
  have R191 : Go p e below P T190 (mkF m 11 #[.val (.ref u)] [(.ref b184)]) := fun t_ k_ => R189 t_ (st190.trans k_)
  obtain ⟨fs, hr, hrun, hended, hW, hsame⟩ := X190.leave (v := some (.ref b184)) (fun h => by rw [Bd.returns] at h; cases h)
  exact ⟨_, _, hP _ (R191 _ (retOut X190 hx Bd.returns rfl (Or.inr (Or.inr (Or.inr (Or.inr ⟨rfl, rfl, rfl⟩)))) (hb hby d8_11) hr)), hrun, hended, _, _, rfl, ⟨b184, rfl, N190, (((Keep.refl h0 []).ext E184).trans K190 (allS (Or.inr (Nat.le_of_eq g184.symm)) all0)), (Nat.le_of_eq g184.symm), p190_0, p190_1⟩, ⟨_, rfl⟩, hW, hsame.mono (by decide) (by decide)⟩
theorem ef_oempty_ (m : MethodId)  : entryFrame m #[] 1 = mkF m 0 #[.unset] [] := by first | (simp [entryFrame, mkF, argsToLocals, Value.category]; done) | rfl
theorem d17_0 : decode jdk_32_method_1_code 0 = .ok (.getstatic 1, 3) := by decide +kernel
theorem d17_3 : decode jdk_32_method_1_code 3 = .ok (.astore_n 0, 1) := by decide +kernel
theorem d17_4 : decode jdk_32_method_1_code 4 = .ok (.aload_n 0, 1) := by decide +kernel
theorem d17_5 : decode jdk_32_method_1_code 5 = .ok (.areturn, 1) := by decide +kernel
def Q_oempty_ (Z : State) (wE : Addr) (h0 : Heap) (n0 : Nat) (rv_ : Option Value) (rh_ : Heap) (rL_ : List Loc) : Prop := (rv_ = some (.ref wE)) ∧ (Fr n0 rL_) ∧ (rh_ = h0)
set_option maxRecDepth 65536 in
set_option maxHeartbeats 40000000 in
theorem oempty_ (l : Launch) (Z : State) (a0 : Array Value) (hw : ∀ d ∈ tables_1, d.before a0 Z = true) (ws : List Jvm.Cond) (wE : Addr) (h0 : Heap) (n0 : Nat) (O0 : Old Z n0 h0) (P0 : Sta Z Z.heap "java/util/Optional" "EMPTY" "Ljava/util/Optional;" (.ref wE)) :
    MetFree l (⟨"java/util/Optional", "empty", "()Ljava/util/Optional;"⟩ : MethodName) (head1 (Jvm.Cond.code (⟨"java/util/Optional", "empty", "()Ljava/util/Optional;"⟩ : MethodName) jdk_32_method_1_code 1 (some (.object "java/util/Optional")) :: ws) ({ frames := 0, cells := 0, slots := 0, locals := 0 } : Room)) (fun a_ U_ => a_ = #[] ∧ Z.Warmed39 U_.vm ∧ U_.heap = h0) (fun _ _ _ _ _ => True) (fun _ U_ o_ U_' => ∃ v_ L_, o_ = .returned v_ ∧ Q_oempty_ Z wE h0 n0 v_ U_'.heap L_ ∧ FrameEnd U_ o_ U_' L_ ({ frames := 0, cells := 0, slots := 0, locals := 0 } : Room).cells ({ frames := 0, cells := 0, slots := 0, locals := 0 } : Room).slots) := by
  refine MetFree.of_bodySF (plainFor_of_name pn_54609431) hisR ?_
  intro p e s m args below meth c s₁ Bd hml0 hP0 hK
  obtain ⟨rfl, hZ, hh⟩ := hP0
  have hx := Bd.exec
  have hby := Bd.bytes
  have hml : c.maxLocals = 1 := hml0
  have hown : s.vm.findClass "java/util/Optional" = some m.cls := findClass_of_methodNamed Bd.named
  have hnm := (name_of_methodNamed Bd.named Bd.method).1
  have X0 : Stand p l e ({ frames := 0, cells := 0, slots := 0, locals := 0 } : Room) s m #[] below meth c s₁ [] 0 0 := Stand.of_body Bd
  have e0 : s₁.heap = h0 := by rw [← hh, Bd.state]; rfl
  have N0 := Fr.nil n0
  obtain ⟨P, hP, R0⟩ : ∃ P : State → Prop, (∀ t_, P t_ → Steps p.tables e below (s₁.setTop (entryFrame m #[] 1)) t_) ∧ Go p e below P s₁ (mkF m 0 #[.unset] []) := ⟨_, fun _ h => h, fun t_ k_ => castTop (ef_oempty_ m) k_⟩
  obtain ⟨T192, X192, e192, st192⟩ := getS2 X0 hx hZ hown (host := "") (Or.inl (hw _ (List.mem_of_getElem? (i := 91) rfl))) Via.refl e0 (P0.ext O0.2) (g := (mkF m 0 #[.unset] [])) rfl (hb hby d17_0)
  have R193 : Go p e below P T192 (mkF m 3 #[.unset] [(.ref wE)]) := fun t_ k_ => R0 t_ (st192 t_ k_)
  have R194 : Go p e below P T192 (mkF m 4 #[.val (.ref wE)] []) := fun t_ k_ => R193 t_ (XS.astoreN X192.here hx rfl (hb hby d17_3) rfl rfl (l' := #[.val (.ref wE)]) rfl k_)
  have R195 : Go p e below P T192 (mkF m 5 #[.val (.ref wE)] [(.ref wE)]) := fun t_ k_ => R194 t_ (XS.aloadN X192.here hx rfl (hb hby d17_4) rfl rfl k_)
  obtain ⟨fs, hr, hrun, hended, hW, hsame⟩ := X192.leave (v := some (.ref wE)) (fun h => by rw [Bd.returns] at h; cases h)
  exact ⟨_, _, hP _ (R195 _ (retOut X192 hx Bd.returns rfl (Or.inr (Or.inr (Or.inr (Or.inr ⟨rfl, rfl, rfl⟩)))) (hb hby d17_5) hr)), hrun, hended, _, _, rfl, ⟨rfl, N0, e192⟩, ⟨_, rfl⟩, hW, hsame.mono (by decide) (by decide)⟩
theorem ef_orP_ (m : MethodId) (x0 : Addr) : entryFrame m #[(.ref x0), .null] 2 = mkF m 0 #[.val (.ref x0), .val .null] [] := by first | (simp [entryFrame, mkF, argsToLocals, Value.category]; done) | rfl
theorem d12_0 : decode jdk_32_method_15_code 0 = .ok (.aload_n 0, 1) := by decide +kernel
theorem d12_1 : decode jdk_32_method_15_code 1 = .ok (.getfield 13, 3) := by decide +kernel
theorem d12_4 : decode jdk_32_method_15_code 4 = .ok (.ifnull 10, 3) := by decide +kernel
theorem d12_7 : decode jdk_32_method_15_code 7 = .ok (.aload_n 0, 1) := by decide +kernel
theorem d12_8 : decode jdk_32_method_15_code 8 = .ok (.getfield 13, 3) := by decide +kernel
theorem d12_11 : decode jdk_32_method_15_code 11 = .ok (.goto 4, 3) := by decide +kernel
theorem d12_15 : decode jdk_32_method_15_code 15 = .ok (.areturn, 1) := by decide +kernel
def Q_orP_ (Z : State) (r : Addr) (y : Addr) (h0 : Heap) (n0 : Nat) (rv_ : Option Value) (rh_ : Heap) (rL_ : List Loc) : Prop := (rv_ = some (.ref y)) ∧ (Fr n0 rL_) ∧ (rh_ = h0)
set_option maxRecDepth 65536 in
set_option maxHeartbeats 40000000 in
theorem orP_ (l : Launch) (Z : State) (a0 : Array Value) (hw : ∀ d ∈ tables_1, d.before a0 Z = true) (ws : List Jvm.Cond) (r : Addr) (y : Addr) (h0 : Heap) (n0 : Nat) (O0 : Old Z n0 h0) (P0 : Fld Z h0 r "java/util/Optional" "value" "Ljava/lang/Object;" (.ref y)) :
    MetFree l (⟨"java/util/Optional", "orElse", "(Ljava/lang/Object;)Ljava/lang/Object;"⟩ : MethodName) (head1 (Jvm.Cond.code (⟨"java/util/Optional", "orElse", "(Ljava/lang/Object;)Ljava/lang/Object;"⟩ : MethodName) jdk_32_method_15_code 2 (some (.object "java/lang/Object")) :: ws) ({ frames := 0, cells := 0, slots := 0, locals := 0 } : Room)) (fun a_ U_ => a_ = #[(.ref r), .null] ∧ Z.Warmed39 U_.vm ∧ U_.heap = h0) (fun _ _ _ _ _ => True) (fun _ U_ o_ U_' => ∃ v_ L_, o_ = .returned v_ ∧ Q_orP_ Z r y h0 n0 v_ U_'.heap L_ ∧ FrameEnd U_ o_ U_' L_ ({ frames := 0, cells := 0, slots := 0, locals := 0 } : Room).cells ({ frames := 0, cells := 0, slots := 0, locals := 0 } : Room).slots) := by
  refine MetFree.of_bodySF (plainFor_of_name pn_54609431) hisR ?_
  intro p e s m args below meth c s₁ Bd hml0 hP0 hK
  obtain ⟨rfl, hZ, hh⟩ := hP0
  have hx := Bd.exec
  have hby := Bd.bytes
  have hml : c.maxLocals = 2 := hml0
  have hown : s.vm.findClass "java/util/Optional" = some m.cls := findClass_of_methodNamed Bd.named
  have hnm := (name_of_methodNamed Bd.named Bd.method).1
  have X0 : Stand p l e ({ frames := 0, cells := 0, slots := 0, locals := 0 } : Room) s m #[(.ref r), .null] below meth c s₁ [] 0 0 := Stand.of_body Bd
  have e0 : s₁.heap = h0 := by rw [← hh, Bd.state]; rfl
  have N0 := Fr.nil n0
  obtain ⟨P, hP, R0⟩ : ∃ P : State → Prop, (∀ t_, P t_ → Steps p.tables e below (s₁.setTop (entryFrame m #[(.ref r), .null] 2)) t_) ∧ Go p e below P s₁ (mkF m 0 #[.val (.ref r), .val .null] []) := ⟨_, fun _ h => h, fun t_ k_ => castTop (ef_orP_ m r) k_⟩
  have R196 : Go p e below P s₁ (mkF m 1 #[.val (.ref r), .val .null] [(.ref r)]) := fun t_ k_ => R0 t_ (XS.aloadN X0.here hx rfl (hb hby d12_0) rfl rfl k_)
  obtain ⟨T197, X197, e197, st197⟩ := getF X0 hx hZ hown (host := "") (Or.inl (hw _ (List.mem_of_getElem? (i := 49) rfl))) Via.refl e0 P0 (g := (mkF m 1 #[.val (.ref r), .val .null] [(.ref r)])) rfl rfl (hb hby d12_1)
  have R198 : Go p e below P T197 (mkF m 4 #[.val (.ref r), .val .null] [(.ref y)]) := fun t_ k_ => R196 t_ (st197 t_ k_)
  have R199 : Go p e below P T197 (mkF m 7 #[.val (.ref r), .val .null] []) := fun t_ k_ => R198 t_ (XS.ifnullNo X197.here hx rfl (hb hby d12_4) rfl k_)
  have R200 : Go p e below P T197 (mkF m 8 #[.val (.ref r), .val .null] [(.ref r)]) := fun t_ k_ => R199 t_ (XS.aloadN X197.here hx rfl (hb hby d12_7) rfl rfl k_)
  obtain ⟨T201, X201, e201, st201⟩ := getF X197 hx hZ hown (host := "") (Or.inl (hw _ (List.mem_of_getElem? (i := 49) rfl))) Via.refl e197 P0 (g := (mkF m 8 #[.val (.ref r), .val .null] [(.ref r)])) rfl rfl (hb hby d12_8)
  have R202 : Go p e below P T201 (mkF m 11 #[.val (.ref r), .val .null] [(.ref y)]) := fun t_ k_ => R200 t_ (st201 t_ k_)
  have R203 : Go p e below P T201 (mkF m 15 #[.val (.ref r), .val .null] [(.ref y)]) := fun t_ k_ => R202 t_ (XS.goto X201.here hx rfl (pc0 := 11) (pc' := 15) rfl (hb hby d12_11) (by decide) (by decide) k_)
  obtain ⟨fs, hr, hrun, hended, hW, hsame⟩ := X201.leave (v := some (.ref y)) (fun h => by rw [Bd.returns] at h; cases h)
  exact ⟨_, _, hP _ (R203 _ (retOut X201 hx Bd.returns rfl (Or.inr (Or.inr (Or.inr (Or.inr ⟨rfl, rfl, rfl⟩)))) (hb hby d12_15) hr)), hrun, hended, _, _, rfl, ⟨rfl, N0, e201⟩, ⟨_, rfl⟩, hW, hsame.mono (by decide) (by decide)⟩
theorem ef_orE_ (m : MethodId) (x0 : Addr) : entryFrame m #[(.ref x0), .null] 2 = mkF m 0 #[.val (.ref x0), .val .null] [] := by first | (simp [entryFrame, mkF, argsToLocals, Value.category]; done) | rfl
theorem d12_14 : decode jdk_32_method_15_code 14 = .ok (.aload_n 1, 1) := by decide +kernel
def Q_orE_ (Z : State) (r : Addr) (h0 : Heap) (n0 : Nat) (rv_ : Option Value) (rh_ : Heap) (rL_ : List Loc) : Prop := (rv_ = some .null) ∧ (Fr n0 rL_) ∧ (rh_ = h0)
set_option maxRecDepth 65536 in
set_option maxHeartbeats 40000000 in
theorem orE_ (l : Launch) (Z : State) (a0 : Array Value) (hw : ∀ d ∈ tables_1, d.before a0 Z = true) (ws : List Jvm.Cond) (r : Addr) (h0 : Heap) (n0 : Nat) (O0 : Old Z n0 h0) (P0 : Fld Z h0 r "java/util/Optional" "value" "Ljava/lang/Object;" .null) :
    MetFree l (⟨"java/util/Optional", "orElse", "(Ljava/lang/Object;)Ljava/lang/Object;"⟩ : MethodName) (head1 (Jvm.Cond.code (⟨"java/util/Optional", "orElse", "(Ljava/lang/Object;)Ljava/lang/Object;"⟩ : MethodName) jdk_32_method_15_code 2 (some (.object "java/lang/Object")) :: ws) ({ frames := 0, cells := 0, slots := 0, locals := 0 } : Room)) (fun a_ U_ => a_ = #[(.ref r), .null] ∧ Z.Warmed39 U_.vm ∧ U_.heap = h0) (fun _ _ _ _ _ => True) (fun _ U_ o_ U_' => ∃ v_ L_, o_ = .returned v_ ∧ Q_orE_ Z r h0 n0 v_ U_'.heap L_ ∧ FrameEnd U_ o_ U_' L_ ({ frames := 0, cells := 0, slots := 0, locals := 0 } : Room).cells ({ frames := 0, cells := 0, slots := 0, locals := 0 } : Room).slots) := by
  refine MetFree.of_bodySF (plainFor_of_name pn_54609431) hisR ?_
  intro p e s m args below meth c s₁ Bd hml0 hP0 hK
  obtain ⟨rfl, hZ, hh⟩ := hP0
  have hx := Bd.exec
  have hby := Bd.bytes
  have hml : c.maxLocals = 2 := hml0
  have hown : s.vm.findClass "java/util/Optional" = some m.cls := findClass_of_methodNamed Bd.named
  have hnm := (name_of_methodNamed Bd.named Bd.method).1
  have X0 : Stand p l e ({ frames := 0, cells := 0, slots := 0, locals := 0 } : Room) s m #[(.ref r), .null] below meth c s₁ [] 0 0 := Stand.of_body Bd
  have e0 : s₁.heap = h0 := by rw [← hh, Bd.state]; rfl
  have N0 := Fr.nil n0
  obtain ⟨P, hP, R0⟩ : ∃ P : State → Prop, (∀ t_, P t_ → Steps p.tables e below (s₁.setTop (entryFrame m #[(.ref r), .null] 2)) t_) ∧ Go p e below P s₁ (mkF m 0 #[.val (.ref r), .val .null] []) := ⟨_, fun _ h => h, fun t_ k_ => castTop (ef_orE_ m r) k_⟩
  have R204 : Go p e below P s₁ (mkF m 1 #[.val (.ref r), .val .null] [(.ref r)]) := fun t_ k_ => R0 t_ (XS.aloadN X0.here hx rfl (hb hby d12_0) rfl rfl k_)
  obtain ⟨T205, X205, e205, st205⟩ := getF X0 hx hZ hown (host := "") (Or.inl (hw _ (List.mem_of_getElem? (i := 49) rfl))) Via.refl e0 P0 (g := (mkF m 1 #[.val (.ref r), .val .null] [(.ref r)])) rfl rfl (hb hby d12_1)
  have R206 : Go p e below P T205 (mkF m 4 #[.val (.ref r), .val .null] [.null]) := fun t_ k_ => R204 t_ (st205 t_ k_)
  have R207 : Go p e below P T205 (mkF m 14 #[.val (.ref r), .val .null] []) := fun t_ k_ => R206 t_ (XS.ifnullYes X205.here hx rfl (pc0 := 4) (pc' := 14) rfl (hb hby d12_4) rfl (by decide) (by decide) k_)
  have R208 : Go p e below P T205 (mkF m 15 #[.val (.ref r), .val .null] [.null]) := fun t_ k_ => R207 t_ (XS.aloadN X205.here hx rfl (hb hby d12_14) rfl rfl k_)
  obtain ⟨fs, hr, hrun, hended, hW, hsame⟩ := X205.leave (v := some .null) (fun h => by rw [Bd.returns] at h; cases h)
  exact ⟨_, _, hP _ (R208 _ (retOut X205 hx Bd.returns rfl (Or.inr (Or.inr (Or.inr (Or.inr ⟨rfl, rfl, rfl⟩)))) (hb hby d12_15) hr)), hrun, hended, _, _, rfl, ⟨rfl, N0, e205⟩, ⟨_, rfl⟩, hW, hsame.mono (by decide) (by decide)⟩
theorem pn_51754308 : plainName "com/example/interleave/interleave/engine/CheckValue" = true := by first | (simp [plainName, overriddenIn]; done) | decide +kernel
theorem ef_cvP_ (m : MethodId) (x0 : Addr) (x1 : Int32) (x2 : Addr) (x3 : Addr) : entryFrame m #[(.ref x0), (.int x1), (.ref x2), (.ref x3)] 4 = mkF m 0 #[.val (.ref x0), .val (.int x1), .val (.ref x2), .val (.ref x3)] [] := by first | (simp [entryFrame, mkF, argsToLocals, Value.category]; done) | rfl
theorem d11_0 : decode prog_2_method_1_code 0 = .ok (.aload_n 0, 1) := by decide +kernel
theorem d11_1 : decode prog_2_method_1_code 1 = .ok (.invokespecial 1, 3) := by decide +kernel
theorem d11_4 : decode prog_2_method_1_code 4 = .ok (.aload_n 0, 1) := by decide +kernel
theorem d11_5 : decode prog_2_method_1_code 5 = .ok (.iload_n 1, 1) := by decide +kernel
theorem d11_6 : decode prog_2_method_1_code 6 = .ok (.putfield 7, 3) := by decide +kernel
theorem d11_9 : decode prog_2_method_1_code 9 = .ok (.aload_n 0, 1) := by decide +kernel
theorem d11_10 : decode prog_2_method_1_code 10 = .ok (.aload_n 2, 1) := by decide +kernel
theorem d11_11 : decode prog_2_method_1_code 11 = .ok (.putfield 13, 3) := by decide +kernel
theorem d11_14 : decode prog_2_method_1_code 14 = .ok (.aload_n 0, 1) := by decide +kernel
theorem d11_15 : decode prog_2_method_1_code 15 = .ok (.aload_n 3, 1) := by decide +kernel
theorem d11_16 : decode prog_2_method_1_code 16 = .ok (.aconst_null, 1) := by decide +kernel
theorem d11_17 : decode prog_2_method_1_code 17 = .ok (.invokevirtual 17, 3) := by decide +kernel
theorem d11_20 : decode prog_2_method_1_code 20 = .ok (.checkcast 23, 3) := by decide +kernel
theorem d11_23 : decode prog_2_method_1_code 23 = .ok (.putfield 25, 3) := by decide +kernel
theorem d11_26 : decode prog_2_method_1_code 26 = .ok (.return_, 1) := by decide +kernel
def Q_cvP_ (Z : State) (a : Addr) (n : Int32) (u : Addr) (r : Addr) (y : Addr) (h0 : Heap) (n0 : Nat) (rv_ : Option Value) (rh_ : Heap) (rL_ : List Loc) : Prop := (rv_ = none) ∧ (Fr n0 rL_) ∧ (Keep h0 rh_ [a]) ∧ (Exa Z rh_ a "com/example/interleave/interleave/engine/CheckValue") ∧ (Fld Z rh_ a "com/example/interleave/interleave/engine/CheckValue" "number" "I" (.int n)) ∧ (Fld Z rh_ a "com/example/interleave/interleave/engine/CheckValue" "value" "Ljava/lang/String;" (.ref u)) ∧ (Fld Z rh_ a "com/example/interleave/interleave/engine/CheckValue" "expected" "Ljava/lang/String;" (.ref y))
set_option maxRecDepth 65536 in
set_option maxHeartbeats 40000000 in
theorem cvP_ (l : Launch) (Z : State) (a0 : Array Value) (hw : ∀ d ∈ tables_1, d.before a0 Z = true) (ws : List Jvm.Cond) (a : Addr) (n : Int32) (u : Addr) (r : Addr) (y : Addr) (h0 : Heap) (n0 : Nat) (O0 : Old Z n0 h0) (P0 : Exa Z h0 a "com/example/interleave/interleave/engine/CheckValue") (P1 : Fld Z h0 a "com/example/interleave/interleave/engine/CheckValue" "number" "I" (.int (0 : Int32))) (P2 : Fld Z h0 a "com/example/interleave/interleave/engine/CheckValue" "value" "Ljava/lang/String;" .null) (P3 : Fld Z h0 a "com/example/interleave/interleave/engine/CheckValue" "expected" "Ljava/lang/String;" .null) (P4 : n0 ≤ a) (P5 : Exa Z h0 r "java/util/Optional") (P6 : Fld Z h0 r "java/util/Optional" "value" "Ljava/lang/Object;" (.ref y)) (P7 : Exa Z h0 y "java/lang/String") (P8 : r ≠ a) :
    MetFree l (⟨"com/example/interleave/interleave/engine/CheckValue", "<init>", "(ILjava/lang/String;Ljava/util/Optional;)V"⟩ : MethodName) (head1 (Jvm.Cond.code (⟨"com/example/interleave/interleave/engine/CheckValue", "<init>", "(ILjava/lang/String;Ljava/util/Optional;)V"⟩ : MethodName) prog_2_method_1_code 4 none :: ws) ({ frames := 1, cells := 0, slots := 0, locals := 14 } : Room)) (fun a_ U_ => a_ = #[(.ref a), (.int n), (.ref u), (.ref r)] ∧ Z.Warmed39 U_.vm ∧ U_.heap = h0) (fun _ _ _ _ _ => True) (fun _ U_ o_ U_' => ∃ v_ L_, o_ = .returned v_ ∧ Q_cvP_ Z a n u r y h0 n0 v_ U_'.heap L_ ∧ FrameEnd U_ o_ U_' L_ ({ frames := 1, cells := 0, slots := 0, locals := 14 } : Room).cells ({ frames := 1, cells := 0, slots := 0, locals := 14 } : Room).slots) := by
  refine MetFree.of_bodySF (plainFor_of_name pn_51754308) hisR ?_
  intro p e s m args below meth c s₁ Bd hml0 hP0 hK
  obtain ⟨rfl, hZ, hh⟩ := hP0
  have hx := Bd.exec
  have hby := Bd.bytes
  have hml : c.maxLocals = 4 := hml0
  have hown : s.vm.findClass "com/example/interleave/interleave/engine/CheckValue" = some m.cls := findClass_of_methodNamed Bd.named
  have hnm := (name_of_methodNamed Bd.named Bd.method).1
  have X0 : Stand p l e ({ frames := 1, cells := 0, slots := 0, locals := 14 } : Room) s m #[(.ref a), (.int n), (.ref u), (.ref r)] below meth c s₁ [] 0 0 := Stand.of_body Bd
  have e0 : s₁.heap = h0 := by rw [← hh, Bd.state]; rfl
  have N0 := Fr.nil n0
  obtain ⟨P, hP, R0⟩ : ∃ P : State → Prop, (∀ t_, P t_ → Steps p.tables e below (s₁.setTop (entryFrame m #[(.ref a), (.int n), (.ref u), (.ref r)] 4)) t_) ∧ Go p e below P s₁ (mkF m 0 #[.val (.ref a), .val (.int n), .val (.ref u), .val (.ref r)] []) := ⟨_, fun _ h => h, fun t_ k_ => castTop (ef_cvP_ m a n u r) k_⟩
  have R209 : Go p e below P s₁ (mkF m 1 #[.val (.ref a), .val (.int n), .val (.ref u), .val (.ref r)] [(.ref a)]) := fun t_ k_ => R0 t_ (XS.aloadN X0.here hx rfl (hb hby d11_0) rfl rfl k_)
  obtain ⟨T210, X210, e210, st210⟩ := initO X0 hx hZ hown (hw _ (List.mem_of_getElem? (i := 57) rfl)) (hw _ (List.mem_of_getElem? (i := 16) rfl)) (hw _ (List.mem_of_getElem? (i := 17) rfl)) e0 (g := (mkF m 1 #[.val (.ref a), .val (.int n), .val (.ref u), .val (.ref r)] [(.ref a)])) rfl (by rw [hml]; rfl) rfl (hb hby d11_1) (by decide) (W := 0) (by show 2 * 0 + _ ≤ _; exact Nat.le_of_eq rfl) (by decide)
  have R211 : Go p e below P T210 (mkF m 4 #[.val (.ref a), .val (.int n), .val (.ref u), .val (.ref r)] []) := fun t_ k_ => R209 t_ (st210 t_ k_)
  have R212 : Go p e below P T210 (mkF m 5 #[.val (.ref a), .val (.int n), .val (.ref u), .val (.ref r)] [(.ref a)]) := fun t_ k_ => R211 t_ (XS.aloadN X210.here hx rfl (hb hby d11_4) rfl rfl k_)
  have R213 : Go p e below P T210 (mkF m 6 #[.val (.ref a), .val (.int n), .val (.ref u), .val (.ref r)] [(.int n), (.ref a)]) := fun t_ k_ => R212 t_ (XS.iloadN X210.here hx rfl (hb hby d11_5) rfl k_)
  obtain ⟨T214, h214, X214, e214, W214, st214⟩ := putF X210 hx hZ hown (host := "") (Or.inl (hw _ (List.mem_of_getElem? (i := 58) rfl))) Via.refl e210 P1 P0 (Or.inr ⟨(hw _ (List.mem_of_getElem? (i := 59) rfl)), rfl, hnm⟩) (hw _ (List.mem_of_getElem? (i := 52) rfl)) (ty := .int) (by decide) rfl rfl (g := (mkF m 6 #[.val (.ref a), .val (.int n), .val (.ref u), .val (.ref r)] [(.int n), (.ref a)])) rfl rfl (hb hby d11_6)
  have N214 := Fr.snoc X214 N0 P4
  have Fw214 := P1.same W214
  have O214 := O0.wr W214 P4
  have R215 : Go p e below P T214 (mkF m 9 #[.val (.ref a), .val (.int n), .val (.ref u), .val (.ref r)] []) := fun t_ k_ => R213 t_ (st214 t_ k_)
  have R216 : Go p e below P T214 (mkF m 10 #[.val (.ref a), .val (.int n), .val (.ref u), .val (.ref r)] [(.ref a)]) := fun t_ k_ => R215 t_ (XS.aloadN X214.here hx rfl (hb hby d11_9) rfl rfl k_)
  have R217 : Go p e below P T214 (mkF m 11 #[.val (.ref a), .val (.int n), .val (.ref u), .val (.ref r)] [(.ref u), (.ref a)]) := fun t_ k_ => R216 t_ (XS.aloadN X214.here hx rfl (hb hby d11_10) rfl rfl k_)
  have f218 := (P0.wr W214)
  have f219 := (P2.other W214 (Or.inr (slot_ne (Or.inr (hw _ (List.mem_of_getElem? (i := 61) rfl))) (Or.inr (hw _ (List.mem_of_getElem? (i := 59) rfl))) (by decide) (t := (.object "java/lang/String")) (t' := .int) (by decide) (by decide))))
  obtain ⟨T220, h220, X220, e220, W220, st220⟩ := putF X214 hx hZ hown (host := "") (Or.inl (hw _ (List.mem_of_getElem? (i := 60) rfl))) Via.refl e214 f219 f218 (Or.inr ⟨(hw _ (List.mem_of_getElem? (i := 61) rfl)), rfl, hnm⟩) (hw _ (List.mem_of_getElem? (i := 52) rfl)) (ty := (.object "java/lang/String")) (by decide) rfl rfl (g := (mkF m 11 #[.val (.ref a), .val (.int n), .val (.ref u), .val (.ref r)] [(.ref u), (.ref a)])) rfl rfl (hb hby d11_11)
  have N220 := Fr.snoc X220 N214 P4
  have Fw220 := f219.same W220
  have O220 := O214.wr W220 P4
  have R221 : Go p e below P T220 (mkF m 14 #[.val (.ref a), .val (.int n), .val (.ref u), .val (.ref r)] []) := fun t_ k_ => R217 t_ (st220 t_ k_)
  have R222 : Go p e below P T220 (mkF m 15 #[.val (.ref a), .val (.int n), .val (.ref u), .val (.ref r)] [(.ref a)]) := fun t_ k_ => R221 t_ (XS.aloadN X220.here hx rfl (hb hby d11_14) rfl rfl k_)
  have R223 : Go p e below P T220 (mkF m 16 #[.val (.ref a), .val (.int n), .val (.ref u), .val (.ref r)] [(.ref r), (.ref a)]) := fun t_ k_ => R222 t_ (XS.aloadN X220.here hx rfl (hb hby d11_15) rfl rfl k_)
  have R224 : Go p e below P T220 (mkF m 17 #[.val (.ref a), .val (.int n), .val (.ref u), .val (.ref r)] [.null, (.ref r), (.ref a)]) := fun t_ k_ => R223 t_ (XS.aconstNull X220.here hx rfl (hb hby d11_16) k_)
  have f225 := ((P5.wr W214).wr W220)
  have f226 := ((P6.other W214 (Or.inl P8)).other W220 (Or.inl P8))
  obtain ⟨cq227, kq227, q227a, q227b, q227c⟩ := isOf hZ e220 f225
  obtain ⟨rv227, _, ⟨T227, L227, k227, n227⟩, -, X227, ⟨Lc227, hQ227, l227, y227, z227⟩, st227⟩ := X220.virtualBack hx (y := (⟨"java/util/Optional", "orElse", "(Ljava/lang/Object;)Ljava/lang/Object;"⟩ : MethodName)) (z := (⟨"java/util/Optional", "orElse", "(Ljava/lang/Object;)Ljava/lang/Object;"⟩ : MethodName)) hown (mvT hZ (hw _ (List.mem_of_getElem? (i := 62) rfl))) (mvT hZ (hw _ (List.mem_of_getElem? (i := 63) rfl))) (notFace_of_selects (args := #[]) (mvT hZ (hw _ (List.mem_of_getElem? (i := 65) rfl)))) (mvT hZ (hw _ (List.mem_of_getElem? (i := 65) rfl))) (mvT hZ (hw _ (List.mem_of_getElem? (i := 64) rfl))) (by decide) (backOf (W := 1) (orP_ l Z a0 hw [] r y h220 n0 O220 f226) hZ (hw _ (List.mem_of_getElem? (i := 66) rfl)) (hw _ (List.mem_of_getElem? (i := 36) rfl)) (by decide) (by decide)) q227a q227c (g := (mkF m 17 #[.val (.ref a), .val (.int n), .val (.ref u), .val (.ref r)] [.null, (.ref r), (.ref a)])) rfl (by rw [hml]; rfl) (Steps.refl _) (argsL := [.null]) (rest := [(.ref a)]) (lenOf pd_72566344 rfl) rfl (by show 2 * 0 + _ ≤ _; exact Nat.le_of_eq rfl) (hb hby d11_17) (fun _ _ => ⟨rfl, e220, (by decide : 0 + 0 ≤ _), (by decide : 0 + 0 ≤ _)⟩)
  dsimp only [Pt.U, Pt.locs, Pt.cells, Pt.slots] at X227 l227 y227 z227 st227 hQ227
  subst l227 y227 z227
  obtain ⟨rfl, N227q, K227⟩ := hQ227
  have N227 := Fr.app N220 N227q
  have R228 : Go p e below P T227 (mkF m 20 #[.val (.ref a), .val (.int n), .val (.ref u), .val (.ref r)] [(.ref y), (.ref a)]) := fun t_ k_ => R224 t_ (st227.trans k_)
  have f229 := ((P7.wr W214).wr W220)
  obtain ⟨T230, X230, e230, st230⟩ := castY X227 hx hZ hown (hw _ (List.mem_of_getElem? (i := 67) rfl)) K227 (Ins.self f229) (g := (mkF m 20 #[.val (.ref a), .val (.int n), .val (.ref u), .val (.ref r)] [(.ref y), (.ref a)])) rfl rfl (hb hby d11_20)
  have R231 : Go p e below P T230 (mkF m 23 #[.val (.ref a), .val (.int n), .val (.ref u), .val (.ref r)] [(.ref y), (.ref a)]) := fun t_ k_ => R228 t_ (st230 t_ k_)
  have f232 := (f218.wr W220)
  have f233 := ((P3.other W214 (Or.inr (slot_ne (Or.inr (hw _ (List.mem_of_getElem? (i := 69) rfl))) (Or.inr (hw _ (List.mem_of_getElem? (i := 59) rfl))) (by decide) (t := (.object "java/lang/String")) (t' := .int) (by decide) (by decide)))).other W220 (Or.inr (slot_ne (Or.inr (hw _ (List.mem_of_getElem? (i := 69) rfl))) (Or.inr (hw _ (List.mem_of_getElem? (i := 61) rfl))) (by decide) (t := (.object "java/lang/String")) (t' := (.object "java/lang/String")) (by decide) (by decide))))
  obtain ⟨T234, h234, X234, e234, W234, st234⟩ := putF X230 hx hZ hown (host := "") (Or.inl (hw _ (List.mem_of_getElem? (i := 68) rfl))) Via.refl e230 f233 f232 (Or.inr ⟨(hw _ (List.mem_of_getElem? (i := 69) rfl)), rfl, hnm⟩) (hw _ (List.mem_of_getElem? (i := 52) rfl)) (ty := (.object "java/lang/String")) (by decide) rfl rfl (g := (mkF m 23 #[.val (.ref a), .val (.int n), .val (.ref u), .val (.ref r)] [(.ref y), (.ref a)])) rfl rfl (hb hby d11_23)
  have N234 := Fr.snoc X234 N227 P4
  have Fw234 := f233.same W234
  have O234 := O220.wr W234 P4
  have R235 : Go p e below P T234 (mkF m 26 #[.val (.ref a), .val (.int n), .val (.ref u), .val (.ref r)] []) := fun t_ k_ => R231 t_ (st234 t_ k_)
  obtain ⟨fs, hr, hrun, hended, hW, hsame⟩ := X234.leave (v := none) (fun _ => rfl)
  have f236 := (f232.wr W234)
  have f237 := ((Fw214.other W220 (Or.inr (slot_ne (Or.inr (hw _ (List.mem_of_getElem? (i := 59) rfl))) (Or.inr (hw _ (List.mem_of_getElem? (i := 61) rfl))) (by decide) (t := .int) (t' := (.object "java/lang/String")) (by decide) (by decide)))).other W234 (Or.inr (slot_ne (Or.inr (hw _ (List.mem_of_getElem? (i := 59) rfl))) (Or.inr (hw _ (List.mem_of_getElem? (i := 69) rfl))) (by decide) (t := .int) (t' := (.object "java/lang/String")) (by decide) (by decide))))
  have f238 := (Fw220.other W234 (Or.inr (slot_ne (Or.inr (hw _ (List.mem_of_getElem? (i := 61) rfl))) (Or.inr (hw _ (List.mem_of_getElem? (i := 69) rfl))) (by decide) (t := (.object "java/lang/String")) (t' := (.object "java/lang/String")) (by decide) (by decide))))
  exact ⟨_, _, hP _ (R235 _ (X234.returnOut hx Bd.returns (hb hby d11_26) hr)), hrun, hended, _, _, rfl, ⟨rfl, N234, (e234.symm ▸ ((((Keep.refl h0 [a]).wr W214 (Or.inl (List.mem_of_getElem? (i := 0) rfl))).wr W220 (Or.inl (List.mem_of_getElem? (i := 0) rfl))).wr W234 (Or.inl (List.mem_of_getElem? (i := 0) rfl)))), (e234.symm ▸ f236), (e234.symm ▸ f237), (e234.symm ▸ f238), (e234.symm ▸ Fw234)⟩, ⟨_, rfl⟩, hW, hsame.mono (by decide) (by decide)⟩
theorem ef_cvE_ (m : MethodId) (x0 : Addr) (x1 : Int32) (x2 : Addr) (x3 : Addr) : entryFrame m #[(.ref x0), (.int x1), (.ref x2), (.ref x3)] 4 = mkF m 0 #[.val (.ref x0), .val (.int x1), .val (.ref x2), .val (.ref x3)] [] := by first | (simp [entryFrame, mkF, argsToLocals, Value.category]; done) | rfl
def Q_cvE_ (Z : State) (a : Addr) (n : Int32) (u : Addr) (r : Addr) (h0 : Heap) (n0 : Nat) (rv_ : Option Value) (rh_ : Heap) (rL_ : List Loc) : Prop := (rv_ = none) ∧ (Fr n0 rL_) ∧ (Keep h0 rh_ [a]) ∧ (Exa Z rh_ a "com/example/interleave/interleave/engine/CheckValue") ∧ (Fld Z rh_ a "com/example/interleave/interleave/engine/CheckValue" "number" "I" (.int n)) ∧ (Fld Z rh_ a "com/example/interleave/interleave/engine/CheckValue" "value" "Ljava/lang/String;" (.ref u)) ∧ (Fld Z rh_ a "com/example/interleave/interleave/engine/CheckValue" "expected" "Ljava/lang/String;" .null)
set_option maxRecDepth 65536 in
set_option maxHeartbeats 40000000 in
theorem cvE_ (l : Launch) (Z : State) (a0 : Array Value) (hw : ∀ d ∈ tables_1, d.before a0 Z = true) (ws : List Jvm.Cond) (a : Addr) (n : Int32) (u : Addr) (r : Addr) (h0 : Heap) (n0 : Nat) (O0 : Old Z n0 h0) (P0 : Exa Z h0 a "com/example/interleave/interleave/engine/CheckValue") (P1 : Fld Z h0 a "com/example/interleave/interleave/engine/CheckValue" "number" "I" (.int (0 : Int32))) (P2 : Fld Z h0 a "com/example/interleave/interleave/engine/CheckValue" "value" "Ljava/lang/String;" .null) (P3 : Fld Z h0 a "com/example/interleave/interleave/engine/CheckValue" "expected" "Ljava/lang/String;" .null) (P4 : n0 ≤ a) (P5 : Exa Z h0 r "java/util/Optional") (P6 : Fld Z h0 r "java/util/Optional" "value" "Ljava/lang/Object;" .null) (P7 : r ≠ a) :
    MetFree l (⟨"com/example/interleave/interleave/engine/CheckValue", "<init>", "(ILjava/lang/String;Ljava/util/Optional;)V"⟩ : MethodName) (head1 (Jvm.Cond.code (⟨"com/example/interleave/interleave/engine/CheckValue", "<init>", "(ILjava/lang/String;Ljava/util/Optional;)V"⟩ : MethodName) prog_2_method_1_code 4 none :: ws) ({ frames := 1, cells := 0, slots := 0, locals := 14 } : Room)) (fun a_ U_ => a_ = #[(.ref a), (.int n), (.ref u), (.ref r)] ∧ Z.Warmed39 U_.vm ∧ U_.heap = h0) (fun _ _ _ _ _ => True) (fun _ U_ o_ U_' => ∃ v_ L_, o_ = .returned v_ ∧ Q_cvE_ Z a n u r h0 n0 v_ U_'.heap L_ ∧ FrameEnd U_ o_ U_' L_ ({ frames := 1, cells := 0, slots := 0, locals := 14 } : Room).cells ({ frames := 1, cells := 0, slots := 0, locals := 14 } : Room).slots) := by
  refine MetFree.of_bodySF (plainFor_of_name pn_51754308) hisR ?_
  intro p e s m args below meth c s₁ Bd hml0 hP0 hK
  obtain ⟨rfl, hZ, hh⟩ := hP0
  have hx := Bd.exec
  have hby := Bd.bytes
  have hml : c.maxLocals = 4 := hml0
  have hown : s.vm.findClass "com/example/interleave/interleave/engine/CheckValue" = some m.cls := findClass_of_methodNamed Bd.named
  have hnm := (name_of_methodNamed Bd.named Bd.method).1
  have X0 : Stand p l e ({ frames := 1, cells := 0, slots := 0, locals := 14 } : Room) s m #[(.ref a), (.int n), (.ref u), (.ref r)] below meth c s₁ [] 0 0 := Stand.of_body Bd
  have e0 : s₁.heap = h0 := by rw [← hh, Bd.state]; rfl
  have N0 := Fr.nil n0
  obtain ⟨P, hP, R0⟩ : ∃ P : State → Prop, (∀ t_, P t_ → Steps p.tables e below (s₁.setTop (entryFrame m #[(.ref a), (.int n), (.ref u), (.ref r)] 4)) t_) ∧ Go p e below P s₁ (mkF m 0 #[.val (.ref a), .val (.int n), .val (.ref u), .val (.ref r)] []) := ⟨_, fun _ h => h, fun t_ k_ => castTop (ef_cvE_ m a n u r) k_⟩
  have R239 : Go p e below P s₁ (mkF m 1 #[.val (.ref a), .val (.int n), .val (.ref u), .val (.ref r)] [(.ref a)]) := fun t_ k_ => R0 t_ (XS.aloadN X0.here hx rfl (hb hby d11_0) rfl rfl k_)
  obtain ⟨T240, X240, e240, st240⟩ := initO X0 hx hZ hown (hw _ (List.mem_of_getElem? (i := 57) rfl)) (hw _ (List.mem_of_getElem? (i := 16) rfl)) (hw _ (List.mem_of_getElem? (i := 17) rfl)) e0 (g := (mkF m 1 #[.val (.ref a), .val (.int n), .val (.ref u), .val (.ref r)] [(.ref a)])) rfl (by rw [hml]; rfl) rfl (hb hby d11_1) (by decide) (W := 0) (by show 2 * 0 + _ ≤ _; exact Nat.le_of_eq rfl) (by decide)
  have R241 : Go p e below P T240 (mkF m 4 #[.val (.ref a), .val (.int n), .val (.ref u), .val (.ref r)] []) := fun t_ k_ => R239 t_ (st240 t_ k_)
  have R242 : Go p e below P T240 (mkF m 5 #[.val (.ref a), .val (.int n), .val (.ref u), .val (.ref r)] [(.ref a)]) := fun t_ k_ => R241 t_ (XS.aloadN X240.here hx rfl (hb hby d11_4) rfl rfl k_)
  have R243 : Go p e below P T240 (mkF m 6 #[.val (.ref a), .val (.int n), .val (.ref u), .val (.ref r)] [(.int n), (.ref a)]) := fun t_ k_ => R242 t_ (XS.iloadN X240.here hx rfl (hb hby d11_5) rfl k_)
  obtain ⟨T244, h244, X244, e244, W244, st244⟩ := putF X240 hx hZ hown (host := "") (Or.inl (hw _ (List.mem_of_getElem? (i := 58) rfl))) Via.refl e240 P1 P0 (Or.inr ⟨(hw _ (List.mem_of_getElem? (i := 59) rfl)), rfl, hnm⟩) (hw _ (List.mem_of_getElem? (i := 52) rfl)) (ty := .int) (by decide) rfl rfl (g := (mkF m 6 #[.val (.ref a), .val (.int n), .val (.ref u), .val (.ref r)] [(.int n), (.ref a)])) rfl rfl (hb hby d11_6)
  have N244 := Fr.snoc X244 N0 P4
  have Fw244 := P1.same W244
  have O244 := O0.wr W244 P4
  have R245 : Go p e below P T244 (mkF m 9 #[.val (.ref a), .val (.int n), .val (.ref u), .val (.ref r)] []) := fun t_ k_ => R243 t_ (st244 t_ k_)
  have R246 : Go p e below P T244 (mkF m 10 #[.val (.ref a), .val (.int n), .val (.ref u), .val (.ref r)] [(.ref a)]) := fun t_ k_ => R245 t_ (XS.aloadN X244.here hx rfl (hb hby d11_9) rfl rfl k_)
  have R247 : Go p e below P T244 (mkF m 11 #[.val (.ref a), .val (.int n), .val (.ref u), .val (.ref r)] [(.ref u), (.ref a)]) := fun t_ k_ => R246 t_ (XS.aloadN X244.here hx rfl (hb hby d11_10) rfl rfl k_)
  have f248 := (P0.wr W244)
  have f249 := (P2.other W244 (Or.inr (slot_ne (Or.inr (hw _ (List.mem_of_getElem? (i := 61) rfl))) (Or.inr (hw _ (List.mem_of_getElem? (i := 59) rfl))) (by decide) (t := (.object "java/lang/String")) (t' := .int) (by decide) (by decide))))
  obtain ⟨T250, h250, X250, e250, W250, st250⟩ := putF X244 hx hZ hown (host := "") (Or.inl (hw _ (List.mem_of_getElem? (i := 60) rfl))) Via.refl e244 f249 f248 (Or.inr ⟨(hw _ (List.mem_of_getElem? (i := 61) rfl)), rfl, hnm⟩) (hw _ (List.mem_of_getElem? (i := 52) rfl)) (ty := (.object "java/lang/String")) (by decide) rfl rfl (g := (mkF m 11 #[.val (.ref a), .val (.int n), .val (.ref u), .val (.ref r)] [(.ref u), (.ref a)])) rfl rfl (hb hby d11_11)
  have N250 := Fr.snoc X250 N244 P4
  have Fw250 := f249.same W250
  have O250 := O244.wr W250 P4
  have R251 : Go p e below P T250 (mkF m 14 #[.val (.ref a), .val (.int n), .val (.ref u), .val (.ref r)] []) := fun t_ k_ => R247 t_ (st250 t_ k_)
  have R252 : Go p e below P T250 (mkF m 15 #[.val (.ref a), .val (.int n), .val (.ref u), .val (.ref r)] [(.ref a)]) := fun t_ k_ => R251 t_ (XS.aloadN X250.here hx rfl (hb hby d11_14) rfl rfl k_)
  have R253 : Go p e below P T250 (mkF m 16 #[.val (.ref a), .val (.int n), .val (.ref u), .val (.ref r)] [(.ref r), (.ref a)]) := fun t_ k_ => R252 t_ (XS.aloadN X250.here hx rfl (hb hby d11_15) rfl rfl k_)
  have R254 : Go p e below P T250 (mkF m 17 #[.val (.ref a), .val (.int n), .val (.ref u), .val (.ref r)] [.null, (.ref r), (.ref a)]) := fun t_ k_ => R253 t_ (XS.aconstNull X250.here hx rfl (hb hby d11_16) k_)
  have f255 := ((P5.wr W244).wr W250)
  have f256 := ((P6.other W244 (Or.inl P7)).other W250 (Or.inl P7))
  obtain ⟨cq257, kq257, q257a, q257b, q257c⟩ := isOf hZ e250 f255
  obtain ⟨rv257, _, ⟨T257, L257, k257, n257⟩, -, X257, ⟨Lc257, hQ257, l257, y257, z257⟩, st257⟩ := X250.virtualBack hx (y := (⟨"java/util/Optional", "orElse", "(Ljava/lang/Object;)Ljava/lang/Object;"⟩ : MethodName)) (z := (⟨"java/util/Optional", "orElse", "(Ljava/lang/Object;)Ljava/lang/Object;"⟩ : MethodName)) hown (mvT hZ (hw _ (List.mem_of_getElem? (i := 62) rfl))) (mvT hZ (hw _ (List.mem_of_getElem? (i := 63) rfl))) (notFace_of_selects (args := #[]) (mvT hZ (hw _ (List.mem_of_getElem? (i := 65) rfl)))) (mvT hZ (hw _ (List.mem_of_getElem? (i := 65) rfl))) (mvT hZ (hw _ (List.mem_of_getElem? (i := 64) rfl))) (by decide) (backOf (W := 1) (orE_ l Z a0 hw [] r h250 n0 O250 f256) hZ (hw _ (List.mem_of_getElem? (i := 66) rfl)) (hw _ (List.mem_of_getElem? (i := 36) rfl)) (by decide) (by decide)) q257a q257c (g := (mkF m 17 #[.val (.ref a), .val (.int n), .val (.ref u), .val (.ref r)] [.null, (.ref r), (.ref a)])) rfl (by rw [hml]; rfl) (Steps.refl _) (argsL := [.null]) (rest := [(.ref a)]) (lenOf pd_72566344 rfl) rfl (by show 2 * 0 + _ ≤ _; exact Nat.le_of_eq rfl) (hb hby d11_17) (fun _ _ => ⟨rfl, e250, (by decide : 0 + 0 ≤ _), (by decide : 0 + 0 ≤ _)⟩)
  dsimp only [Pt.U, Pt.locs, Pt.cells, Pt.slots] at X257 l257 y257 z257 st257 hQ257
  subst l257 y257 z257
  obtain ⟨rfl, N257q, K257⟩ := hQ257
  have N257 := Fr.app N250 N257q
  have R258 : Go p e below P T257 (mkF m 20 #[.val (.ref a), .val (.int n), .val (.ref u), .val (.ref r)] [.null, (.ref a)]) := fun t_ k_ => R254 t_ (st257.trans k_)
  have R259 : Go p e below P T257 (mkF m 23 #[.val (.ref a), .val (.int n), .val (.ref u), .val (.ref r)] [.null, (.ref a)]) := fun t_ k_ => R258 t_ (X257.checkcastNull hx (g := (mkF m 20 #[.val (.ref a), .val (.int n), .val (.ref u), .val (.ref r)] [.null, (.ref a)])) rfl rfl (hb hby d11_20) t_ k_)
  have f260 := (f248.wr W250)
  have f261 := ((P3.other W244 (Or.inr (slot_ne (Or.inr (hw _ (List.mem_of_getElem? (i := 69) rfl))) (Or.inr (hw _ (List.mem_of_getElem? (i := 59) rfl))) (by decide) (t := (.object "java/lang/String")) (t' := .int) (by decide) (by decide)))).other W250 (Or.inr (slot_ne (Or.inr (hw _ (List.mem_of_getElem? (i := 69) rfl))) (Or.inr (hw _ (List.mem_of_getElem? (i := 61) rfl))) (by decide) (t := (.object "java/lang/String")) (t' := (.object "java/lang/String")) (by decide) (by decide))))
  obtain ⟨T262, h262, X262, e262, W262, st262⟩ := putF X257 hx hZ hown (host := "") (Or.inl (hw _ (List.mem_of_getElem? (i := 68) rfl))) Via.refl K257 f261 f260 (Or.inr ⟨(hw _ (List.mem_of_getElem? (i := 69) rfl)), rfl, hnm⟩) (hw _ (List.mem_of_getElem? (i := 52) rfl)) (ty := (.object "java/lang/String")) (by decide) rfl rfl (g := (mkF m 23 #[.val (.ref a), .val (.int n), .val (.ref u), .val (.ref r)] [.null, (.ref a)])) rfl rfl (hb hby d11_23)
  have N262 := Fr.snoc X262 N257 P4
  have Fw262 := f261.same W262
  have O262 := O250.wr W262 P4
  have R263 : Go p e below P T262 (mkF m 26 #[.val (.ref a), .val (.int n), .val (.ref u), .val (.ref r)] []) := fun t_ k_ => R259 t_ (st262 t_ k_)
  obtain ⟨fs, hr, hrun, hended, hW, hsame⟩ := X262.leave (v := none) (fun _ => rfl)
  have f264 := (f260.wr W262)
  have f265 := ((Fw244.other W250 (Or.inr (slot_ne (Or.inr (hw _ (List.mem_of_getElem? (i := 59) rfl))) (Or.inr (hw _ (List.mem_of_getElem? (i := 61) rfl))) (by decide) (t := .int) (t' := (.object "java/lang/String")) (by decide) (by decide)))).other W262 (Or.inr (slot_ne (Or.inr (hw _ (List.mem_of_getElem? (i := 59) rfl))) (Or.inr (hw _ (List.mem_of_getElem? (i := 69) rfl))) (by decide) (t := .int) (t' := (.object "java/lang/String")) (by decide) (by decide))))
  have f266 := (Fw250.other W262 (Or.inr (slot_ne (Or.inr (hw _ (List.mem_of_getElem? (i := 61) rfl))) (Or.inr (hw _ (List.mem_of_getElem? (i := 69) rfl))) (by decide) (t := (.object "java/lang/String")) (t' := (.object "java/lang/String")) (by decide) (by decide))))
  exact ⟨_, _, hP _ (R263 _ (X262.returnOut hx Bd.returns (hb hby d11_26) hr)), hrun, hended, _, _, rfl, ⟨rfl, N262, (e262.symm ▸ ((((Keep.refl h0 [a]).wr W244 (Or.inl (List.mem_of_getElem? (i := 0) rfl))).wr W250 (Or.inl (List.mem_of_getElem? (i := 0) rfl))).wr W262 (Or.inl (List.mem_of_getElem? (i := 0) rfl)))), (e262.symm ▸ f264), (e262.symm ▸ f265), (e262.symm ▸ f266), (e262.symm ▸ Fw262)⟩, ⟨_, rfl⟩, hW, hsame.mono (by decide) (by decide)⟩
theorem ef_heldP_ (m : MethodId) (x0 : Addr) : entryFrame m #[(.ref x0)] 1 = mkF m 0 #[.val (.ref x0)] [] := by first | (simp [entryFrame, mkF, argsToLocals, Value.category]; done) | rfl
theorem d14_0 : decode prog_2_method_2_code 0 = .ok (.aload_n 0, 1) := by decide +kernel
theorem d14_1 : decode prog_2_method_2_code 1 = .ok (.getfield 25, 3) := by decide +kernel
theorem d14_4 : decode prog_2_method_2_code 4 = .ok (.ifnull 17, 3) := by decide +kernel
theorem d14_7 : decode prog_2_method_2_code 7 = .ok (.aload_n 0, 1) := by decide +kernel
theorem d14_8 : decode prog_2_method_2_code 8 = .ok (.getfield 25, 3) := by decide +kernel
theorem d14_11 : decode prog_2_method_2_code 11 = .ok (.aload_n 0, 1) := by decide +kernel
theorem d14_12 : decode prog_2_method_2_code 12 = .ok (.getfield 13, 3) := by decide +kernel
theorem d14_15 : decode prog_2_method_2_code 15 = .ok (.invokevirtual 28, 3) := by decide +kernel
theorem pd_90185814 : parseMethodDescriptor "(Ljava/lang/Object;)Z" = some ⟨[(.object "java/lang/Object")], some .boolean⟩ := by decide +kernel
theorem d14_18 : decode prog_2_method_2_code 18 = .ok (.ifCond .eq 7, 3) := by decide +kernel
theorem d14_25 : decode prog_2_method_2_code 25 = .ok (.iconst 0, 1) := by decide +kernel
theorem d14_26 : decode prog_2_method_2_code 26 = .ok (.ireturn, 1) := by decide +kernel
theorem d14_21 : decode prog_2_method_2_code 21 = .ok (.iconst 1, 1) := by decide +kernel
theorem d14_22 : decode prog_2_method_2_code 22 = .ok (.goto 4, 3) := by decide +kernel
def Q_heldP_ (Z : State) (a : Addr) (u : Addr) (ut : Addr) (uk : ClassId) (cs : List Int32) (y : Addr) (yt : Addr) (yk : ClassId) (ds : List Int32) (zc : Int32) (h0 : Heap) (n0 : Nat) (rv_ : Option Value) (rh_ : Heap) (rL_ : List Loc) : Prop := (rv_ = some (.int (eqI ds cs))) ∧ (Fr n0 rL_) ∧ (rh_ = h0)
set_option maxRecDepth 65536 in
set_option maxHeartbeats 40000000 in
theorem heldP_ (l : Launch) (Z : State) (a0 : Array Value) (hw : ∀ d ∈ tables_1, d.before a0 Z = true) (ws : List Jvm.Cond) (a : Addr) (u : Addr) (ut : Addr) (uk : ClassId) (cs : List Int32) (y : Addr) (yt : Addr) (yk : ClassId) (ds : List Int32) (zc : Int32) (h0 : Heap) (n0 : Nat) (O0 : Old Z n0 h0) (P0 : Fld Z h0 a "com/example/interleave/interleave/engine/CheckValue" "value" "Ljava/lang/String;" (.ref u)) (P1 : Fld Z h0 a "com/example/interleave/interleave/engine/CheckValue" "expected" "Ljava/lang/String;" (.ref y)) (P2 : Exa Z h0 u "java/lang/String") (P3 : Fld Z h0 u "java/lang/String" "coder" "B" (.int (0 : Int32))) (P4 : Fld Z h0 u "java/lang/String" "value" "[B" (.ref ut)) (P5 : Arv Z h0 ut uk .byte (Int32.ofNat cs.length) ((cs.map StrChars.lo8).map Value.int) (.int (0 : Int32))) (P6 : Exa Z h0 y "java/lang/String") (P7 : Fld Z h0 y "java/lang/String" "coder" "B" (.int (0 : Int32))) (P8 : Fld Z h0 y "java/lang/String" "value" "[B" (.ref yt)) (P9 : Arv Z h0 yt yk .byte (Int32.ofNat ds.length) ((ds.map StrChars.lo8).map Value.int) (.int (0 : Int32))) (P10 : Sta Z Z.heap "java/lang/String" "COMPACT_STRINGS" "Z" (.int zc)) (P11 : ¬ zc = 0) (P12 : ∀ c ∈ cs, ¬ c < 0 ∧ ¬ (255 : Int32) < c) (P13 : ∀ c ∈ ds, ¬ c < 0 ∧ ¬ (255 : Int32) < c) (P14 : cs.length ≤ 4000) (P15 : ds.length ≤ 4000) :
    MetFree l (⟨"com/example/interleave/interleave/engine/CheckValue", "held", "()Z"⟩ : MethodName) (head1 (Jvm.Cond.code (⟨"com/example/interleave/interleave/engine/CheckValue", "held", "()Z"⟩ : MethodName) prog_2_method_2_code 1 (some .boolean) :: ws) ({ frames := 2, cells := 0, slots := 0, locals := 28 } : Room)) (fun a_ U_ => a_ = #[(.ref a)] ∧ Z.Warmed39 U_.vm ∧ U_.heap = h0) (fun _ _ _ _ _ => True) (fun _ U_ o_ U_' => ∃ v_ L_, o_ = .returned v_ ∧ Q_heldP_ Z a u ut uk cs y yt yk ds zc h0 n0 v_ U_'.heap L_ ∧ FrameEnd U_ o_ U_' L_ ({ frames := 2, cells := 0, slots := 0, locals := 28 } : Room).cells ({ frames := 2, cells := 0, slots := 0, locals := 28 } : Room).slots) := by
  have hzc := P11
  have hcs := P12
  have hds := P13
  have lcs := P14
  have lds := P15
  refine MetFree.of_bodySF (plainFor_of_name pn_51754308) hisR ?_
  intro p e s m args below meth c s₁ Bd hml0 hP0 hK
  obtain ⟨rfl, hZ, hh⟩ := hP0
  have hx := Bd.exec
  have hby := Bd.bytes
  have hml : c.maxLocals = 1 := hml0
  have hown : s.vm.findClass "com/example/interleave/interleave/engine/CheckValue" = some m.cls := findClass_of_methodNamed Bd.named
  have hnm := (name_of_methodNamed Bd.named Bd.method).1
  have X0 : Stand p l e ({ frames := 2, cells := 0, slots := 0, locals := 28 } : Room) s m #[(.ref a)] below meth c s₁ [] 0 0 := Stand.of_body Bd
  have e0 : s₁.heap = h0 := by rw [← hh, Bd.state]; rfl
  have N0 := Fr.nil n0
  obtain ⟨P, hP, R0⟩ : ∃ P : State → Prop, (∀ t_, P t_ → Steps p.tables e below (s₁.setTop (entryFrame m #[(.ref a)] 1)) t_) ∧ Go p e below P s₁ (mkF m 0 #[.val (.ref a)] []) := ⟨_, fun _ h => h, fun t_ k_ => castTop (ef_heldP_ m a) k_⟩
  have R267 : Go p e below P s₁ (mkF m 1 #[.val (.ref a)] [(.ref a)]) := fun t_ k_ => R0 t_ (XS.aloadN X0.here hx rfl (hb hby d14_0) rfl rfl k_)
  obtain ⟨T268, X268, e268, st268⟩ := getF X0 hx hZ hown (host := "") (Or.inl (hw _ (List.mem_of_getElem? (i := 68) rfl))) Via.refl e0 P1 (g := (mkF m 1 #[.val (.ref a)] [(.ref a)])) rfl rfl (hb hby d14_1)
  have R269 : Go p e below P T268 (mkF m 4 #[.val (.ref a)] [(.ref y)]) := fun t_ k_ => R267 t_ (st268 t_ k_)
  have R270 : Go p e below P T268 (mkF m 7 #[.val (.ref a)] []) := fun t_ k_ => R269 t_ (XS.ifnullNo X268.here hx rfl (hb hby d14_4) rfl k_)
  have R271 : Go p e below P T268 (mkF m 8 #[.val (.ref a)] [(.ref a)]) := fun t_ k_ => R270 t_ (XS.aloadN X268.here hx rfl (hb hby d14_7) rfl rfl k_)
  obtain ⟨T272, X272, e272, st272⟩ := getF X268 hx hZ hown (host := "") (Or.inl (hw _ (List.mem_of_getElem? (i := 68) rfl))) Via.refl e268 P1 (g := (mkF m 8 #[.val (.ref a)] [(.ref a)])) rfl rfl (hb hby d14_8)
  have R273 : Go p e below P T272 (mkF m 11 #[.val (.ref a)] [(.ref y)]) := fun t_ k_ => R271 t_ (st272 t_ k_)
  have R274 : Go p e below P T272 (mkF m 12 #[.val (.ref a)] [(.ref a), (.ref y)]) := fun t_ k_ => R273 t_ (XS.aloadN X272.here hx rfl (hb hby d14_11) rfl rfl k_)
  obtain ⟨T275, X275, e275, st275⟩ := getF X272 hx hZ hown (host := "") (Or.inl (hw _ (List.mem_of_getElem? (i := 60) rfl))) Via.refl e272 P0 (g := (mkF m 12 #[.val (.ref a)] [(.ref a), (.ref y)])) rfl rfl (hb hby d14_12)
  have R276 : Go p e below P T275 (mkF m 15 #[.val (.ref a)] [(.ref u), (.ref y)]) := fun t_ k_ => R274 t_ (st275 t_ k_)
  obtain ⟨cq277, kq277, q277a, q277b, q277c⟩ := isOf hZ e275 P6
  obtain ⟨rv277, _, ⟨T277, L277, k277, n277⟩, -, X277, ⟨Lc277, hQ277, l277, y277, z277⟩, st277⟩ := X275.virtualBack hx (y := (⟨"java/lang/String", "equals", "(Ljava/lang/Object;)Z"⟩ : MethodName)) (z := (⟨"java/lang/String", "equals", "(Ljava/lang/Object;)Z"⟩ : MethodName)) hown (mvT hZ (hw _ (List.mem_of_getElem? (i := 78) rfl))) (mvT hZ (hw _ (List.mem_of_getElem? (i := 79) rfl))) (notFace_of_selects (args := #[]) (mvT hZ (hw _ (List.mem_of_getElem? (i := 81) rfl)))) (mvT hZ (hw _ (List.mem_of_getElem? (i := 81) rfl))) (mvT hZ (hw _ (List.mem_of_getElem? (i := 80) rfl))) (by decide) (StrChars.Road.eqW (W := 0) hZ (w_eqW hw) (kI := 4) (hw _ (List.mem_of_getElem? (i := 5) rfl)) P6 P8 P7 P9 (hcod hds) (upC hds) lds P2 P4 P3 P5 (hcod hcs) (upC hcs) lcs (P10.ext O0.2) hzc (by decide) (by decide)) q277a q277c (g := (mkF m 15 #[.val (.ref a)] [(.ref u), (.ref y)])) rfl (by rw [hml]; rfl) (Steps.refl _) (argsL := [(.ref u)]) (rest := []) (lenOf pd_90185814 rfl) rfl (by show 2 * 0 + _ ≤ _; exact Nat.le_of_eq rfl) (hb hby d14_15) (fun _ _ => ⟨rfl, e275, (by decide : 0 + 0 ≤ _), (by decide : 0 + 0 ≤ _)⟩)
  dsimp only [Pt.U, Pt.locs, Pt.cells, Pt.slots] at X277 l277 y277 z277 st277 hQ277
  subst l277 y277 z277
  obtain ⟨hv277, rfl, K277⟩ := hQ277
  obtain rfl : rv277 = some (Value.int (eqI ds cs)) := by rcases hv277 with ⟨q1, q2⟩ | ⟨q1, q2⟩ <;> rw [q1] <;> simp [eqI, q2]
  try rw [List.append_nil] at X277
  have R278 : Go p e below P T277 (mkF m 18 #[.val (.ref a)] [(.int (eqI ds cs))]) := fun t_ k_ => R276 t_ (st277.trans k_)
  by_cases hc279 : (eqI ds cs) = (0 : Int32)
  · have R280 : Go p e below P T277 (mkF m 25 #[.val (.ref a)] []) := fun t_ k_ => R278 t_ (XS.ifYes X277.here hx rfl (pc0 := 18) (pc' := 25) rfl (hb hby d14_18) rfl ((if0 _ _).trans (teq hc279).1) (by decide) (by decide) k_)
    have R281 : Go p e below P T277 (mkF m 26 #[.val (.ref a)] [(.int (0 : Int32))]) := fun t_ k_ => R280 t_ (XS.iconst X277.here hx rfl (hb hby d14_25) k_)
    obtain ⟨fs, hr, hrun, hended, hW, hsame⟩ := X277.leave (v := some (.int (nar .boolean (0 : Int32)))) (fun h => by rw [Bd.returns] at h; cases h)
    exact ⟨_, _, hP _ (R281 _ (retN X277 hx (t := .boolean) Bd.returns (by simp) (hb hby d14_26) hr)), hrun, hended, _, _, rfl, ⟨(by have h := hc279; by_cases q : ds = cs <;> simp [eqI, nar_b0, nar_b1, q] at h ⊢), N0, K277⟩, ⟨_, rfl⟩, hW, hsame.mono (by decide) (by decide)⟩
  · have R282 : Go p e below P T277 (mkF m 21 #[.val (.ref a)] []) := fun t_ k_ => R278 t_ (XS.ifNo X277.here hx rfl (hb hby d14_18) rfl ((if0 _ _).trans (feq hc279).1) k_)
    have R283 : Go p e below P T277 (mkF m 22 #[.val (.ref a)] [(.int (1 : Int32))]) := fun t_ k_ => R282 t_ (XS.iconst X277.here hx rfl (hb hby d14_21) k_)
    have R284 : Go p e below P T277 (mkF m 26 #[.val (.ref a)] [(.int (1 : Int32))]) := fun t_ k_ => R283 t_ (XS.goto X277.here hx rfl (pc0 := 22) (pc' := 26) rfl (hb hby d14_22) (by decide) (by decide) k_)
    obtain ⟨fs, hr, hrun, hended, hW, hsame⟩ := X277.leave (v := some (.int (nar .boolean (1 : Int32)))) (fun h => by rw [Bd.returns] at h; cases h)
    exact ⟨_, _, hP _ (R284 _ (retN X277 hx (t := .boolean) Bd.returns (by simp) (hb hby d14_26) hr)), hrun, hended, _, _, rfl, ⟨(by have h := hc279; by_cases q : ds = cs <;> simp [eqI, nar_b0, nar_b1, q] at h ⊢), N0, K277⟩, ⟨_, rfl⟩, hW, hsame.mono (by decide) (by decide)⟩
theorem ef_heldN_ (m : MethodId) (x0 : Addr) : entryFrame m #[(.ref x0)] 1 = mkF m 0 #[.val (.ref x0)] [] := by first | (simp [entryFrame, mkF, argsToLocals, Value.category]; done) | rfl
def Q_heldN_ (Z : State) (a : Addr) (h0 : Heap) (n0 : Nat) (rv_ : Option Value) (rh_ : Heap) (rL_ : List Loc) : Prop := (rv_ = some (.int (1 : Int32))) ∧ (Fr n0 rL_) ∧ (rh_ = h0)
set_option maxRecDepth 65536 in
set_option maxHeartbeats 40000000 in
theorem heldN_ (l : Launch) (Z : State) (a0 : Array Value) (hw : ∀ d ∈ tables_1, d.before a0 Z = true) (ws : List Jvm.Cond) (a : Addr) (h0 : Heap) (n0 : Nat) (O0 : Old Z n0 h0) (P0 : Fld Z h0 a "com/example/interleave/interleave/engine/CheckValue" "expected" "Ljava/lang/String;" .null) :
    MetFree l (⟨"com/example/interleave/interleave/engine/CheckValue", "held", "()Z"⟩ : MethodName) (head1 (Jvm.Cond.code (⟨"com/example/interleave/interleave/engine/CheckValue", "held", "()Z"⟩ : MethodName) prog_2_method_2_code 1 (some .boolean) :: ws) ({ frames := 0, cells := 0, slots := 0, locals := 0 } : Room)) (fun a_ U_ => a_ = #[(.ref a)] ∧ Z.Warmed39 U_.vm ∧ U_.heap = h0) (fun _ _ _ _ _ => True) (fun _ U_ o_ U_' => ∃ v_ L_, o_ = .returned v_ ∧ Q_heldN_ Z a h0 n0 v_ U_'.heap L_ ∧ FrameEnd U_ o_ U_' L_ ({ frames := 0, cells := 0, slots := 0, locals := 0 } : Room).cells ({ frames := 0, cells := 0, slots := 0, locals := 0 } : Room).slots) := by
  refine MetFree.of_bodySF (plainFor_of_name pn_51754308) hisR ?_
  intro p e s m args below meth c s₁ Bd hml0 hP0 hK
  obtain ⟨rfl, hZ, hh⟩ := hP0
  have hx := Bd.exec
  have hby := Bd.bytes
  have hml : c.maxLocals = 1 := hml0
  have hown : s.vm.findClass "com/example/interleave/interleave/engine/CheckValue" = some m.cls := findClass_of_methodNamed Bd.named
  have hnm := (name_of_methodNamed Bd.named Bd.method).1
  have X0 : Stand p l e ({ frames := 0, cells := 0, slots := 0, locals := 0 } : Room) s m #[(.ref a)] below meth c s₁ [] 0 0 := Stand.of_body Bd
  have e0 : s₁.heap = h0 := by rw [← hh, Bd.state]; rfl
  have N0 := Fr.nil n0
  obtain ⟨P, hP, R0⟩ : ∃ P : State → Prop, (∀ t_, P t_ → Steps p.tables e below (s₁.setTop (entryFrame m #[(.ref a)] 1)) t_) ∧ Go p e below P s₁ (mkF m 0 #[.val (.ref a)] []) := ⟨_, fun _ h => h, fun t_ k_ => castTop (ef_heldN_ m a) k_⟩
  have R285 : Go p e below P s₁ (mkF m 1 #[.val (.ref a)] [(.ref a)]) := fun t_ k_ => R0 t_ (XS.aloadN X0.here hx rfl (hb hby d14_0) rfl rfl k_)
  obtain ⟨T286, X286, e286, st286⟩ := getF X0 hx hZ hown (host := "") (Or.inl (hw _ (List.mem_of_getElem? (i := 68) rfl))) Via.refl e0 P0 (g := (mkF m 1 #[.val (.ref a)] [(.ref a)])) rfl rfl (hb hby d14_1)
  have R287 : Go p e below P T286 (mkF m 4 #[.val (.ref a)] [.null]) := fun t_ k_ => R285 t_ (st286 t_ k_)
  have R288 : Go p e below P T286 (mkF m 21 #[.val (.ref a)] []) := fun t_ k_ => R287 t_ (XS.ifnullYes X286.here hx rfl (pc0 := 4) (pc' := 21) rfl (hb hby d14_4) rfl (by decide) (by decide) k_)
  have R289 : Go p e below P T286 (mkF m 22 #[.val (.ref a)] [(.int (1 : Int32))]) := fun t_ k_ => R288 t_ (XS.iconst X286.here hx rfl (hb hby d14_21) k_)
  have R290 : Go p e below P T286 (mkF m 26 #[.val (.ref a)] [(.int (1 : Int32))]) := fun t_ k_ => R289 t_ (XS.goto X286.here hx rfl (pc0 := 22) (pc' := 26) rfl (hb hby d14_22) (by decide) (by decide) k_)
  obtain ⟨fs, hr, hrun, hended, hW, hsame⟩ := X286.leave (v := some (.int (nar .boolean (1 : Int32)))) (fun h => by rw [Bd.returns] at h; cases h)
  exact ⟨_, _, hP _ (R290 _ (retN X286 hx (t := .boolean) Bd.returns (by simp) (hb hby d14_26) hr)), hrun, hended, _, _, rfl, ⟨rfl, N0, e286⟩, ⟨_, rfl⟩, hW, hsame.mono (by decide) (by decide)⟩
theorem ef_same_ (m : MethodId) (x0 : Int32) (x1 : Int32) (x2 : Int32) (x3 : Int32) (x4 : Int32) (x5 : Int32) (x6 : Int32) (x7 : Int32) : entryFrame m #[(.int x0), (.int x1), (.int x2), (.int x3), (.int x4), (.int x5), (.int x6), (.int x7)] 8 = mkF m 0 #[.val (.int x0), .val (.int x1), .val (.int x2), .val (.int x3), .val (.int x4), .val (.int x5), .val (.int x6), .val (.int x7)] [] := by first | (simp [entryFrame, mkF, argsToLocals, Value.category]; done) | rfl
theorem d13_0 : decode method_3_code 0 = .ok (.iload_n 0, 1) := by decide +kernel
theorem d13_1 : decode method_3_code 1 = .ok (.iload 4, 2) := by decide +kernel
theorem d13_3 : decode method_3_code 3 = .ok (.if_icmp .eq 5, 3) := by decide +kernel
theorem d13_8 : decode method_3_code 8 = .ok (.iload_n 0, 1) := by decide +kernel
theorem d13_9 : decode method_3_code 9 = .ok (.iconst 1, 1) := by decide +kernel
theorem d13_10 : decode method_3_code 10 = .ok (.if_icmp .lt 11, 3) := by decide +kernel
theorem d13_21 : decode method_3_code 21 = .ok (.iload_n 0, 1) := by decide +kernel
theorem d13_22 : decode method_3_code 22 = .ok (.iconst 2, 1) := by decide +kernel
theorem d13_23 : decode method_3_code 23 = .ok (.if_icmp .lt 11, 3) := by decide +kernel
theorem d13_34 : decode method_3_code 34 = .ok (.iload_n 0, 1) := by decide +kernel
theorem d13_35 : decode method_3_code 35 = .ok (.iconst 3, 1) := by decide +kernel
theorem d13_36 : decode method_3_code 36 = .ok (.if_icmp .lt 11, 3) := by decide +kernel
theorem d13_47 : decode method_3_code 47 = .ok (.iconst 1, 1) := by decide +kernel
theorem d13_48 : decode method_3_code 48 = .ok (.ireturn, 1) := by decide +kernel
theorem d13_39 : decode method_3_code 39 = .ok (.iload_n 3, 1) := by decide +kernel
theorem d13_40 : decode method_3_code 40 = .ok (.iload 7, 2) := by decide +kernel
theorem d13_42 : decode method_3_code 42 = .ok (.if_icmp .eq 5, 3) := by decide +kernel
theorem d13_45 : decode method_3_code 45 = .ok (.iconst 0, 1) := by decide +kernel
theorem d13_46 : decode method_3_code 46 = .ok (.ireturn, 1) := by decide +kernel
theorem d13_26 : decode method_3_code 26 = .ok (.iload_n 2, 1) := by decide +kernel
theorem d13_27 : decode method_3_code 27 = .ok (.iload 6, 2) := by decide +kernel
theorem d13_29 : decode method_3_code 29 = .ok (.if_icmp .eq 5, 3) := by decide +kernel
theorem d13_32 : decode method_3_code 32 = .ok (.iconst 0, 1) := by decide +kernel
theorem d13_33 : decode method_3_code 33 = .ok (.ireturn, 1) := by decide +kernel
theorem d13_13 : decode method_3_code 13 = .ok (.iload_n 1, 1) := by decide +kernel
theorem d13_14 : decode method_3_code 14 = .ok (.iload 5, 2) := by decide +kernel
theorem d13_16 : decode method_3_code 16 = .ok (.if_icmp .eq 5, 3) := by decide +kernel
theorem d13_19 : decode method_3_code 19 = .ok (.iconst 0, 1) := by decide +kernel
theorem d13_20 : decode method_3_code 20 = .ok (.ireturn, 1) := by decide +kernel
theorem d13_6 : decode method_3_code 6 = .ok (.iconst 0, 1) := by decide +kernel
theorem d13_7 : decode method_3_code 7 = .ok (.ireturn, 1) := by decide +kernel
def Q_same_ (Z : State) (la : Int32) (a0_ : Int32) (a1_ : Int32) (a2_ : Int32) (lb : Int32) (b0_ : Int32) (b1_ : Int32) (b2_ : Int32) (h0 : Heap) (n0 : Nat) (rv_ : Option Value) (rh_ : Heap) (rL_ : List Loc) : Prop := (rv_ = some (.int (sameI la lb a0_ a1_ a2_ b0_ b1_ b2_))) ∧ (Fr n0 rL_) ∧ (rh_ = h0)
set_option maxRecDepth 65536 in
set_option maxHeartbeats 40000000 in
theorem same_ (l : Launch) (Z : State) (a0 : Array Value) (hw : ∀ d ∈ tables_1, d.before a0 Z = true) (ws : List Jvm.Cond) (la : Int32) (a0_ : Int32) (a1_ : Int32) (a2_ : Int32) (lb : Int32) (b0_ : Int32) (b1_ : Int32) (b2_ : Int32) (h0 : Heap) (n0 : Nat) (O0 : Old Z n0 h0) :
    MetFree l (⟨"com/example/interleave/interleave/engine/CheckValueHeldPinLaw", "same", "(ICCCICCC)Z"⟩ : MethodName) (head1 (Jvm.Cond.code (⟨"com/example/interleave/interleave/engine/CheckValueHeldPinLaw", "same", "(ICCCICCC)Z"⟩ : MethodName) method_3_code 8 (some .boolean) :: ws) ({ frames := 0, cells := 0, slots := 0, locals := 0 } : Room)) (fun a_ U_ => a_ = #[(.int la), (.int a0_), (.int a1_), (.int a2_), (.int lb), (.int b0_), (.int b1_), (.int b2_)] ∧ Z.Warmed39 U_.vm ∧ U_.heap = h0) (fun _ _ _ _ _ => True) (fun _ U_ o_ U_' => ∃ v_ L_, o_ = .returned v_ ∧ Q_same_ Z la a0_ a1_ a2_ lb b0_ b1_ b2_ h0 n0 v_ U_'.heap L_ ∧ FrameEnd U_ o_ U_' L_ ({ frames := 0, cells := 0, slots := 0, locals := 0 } : Room).cells ({ frames := 0, cells := 0, slots := 0, locals := 0 } : Room).slots) := by
  refine MetFree.of_bodySF (plainFor_of_name pn_52800306) hisR ?_
  intro p e s m args below meth c s₁ Bd hml0 hP0 hK
  obtain ⟨rfl, hZ, hh⟩ := hP0
  have hx := Bd.exec
  have hby := Bd.bytes
  have hml : c.maxLocals = 8 := hml0
  have hown : s.vm.findClass "com/example/interleave/interleave/engine/CheckValueHeldPinLaw" = some m.cls := findClass_of_methodNamed Bd.named
  have hnm := (name_of_methodNamed Bd.named Bd.method).1
  have X0 : Stand p l e ({ frames := 0, cells := 0, slots := 0, locals := 0 } : Room) s m #[(.int la), (.int a0_), (.int a1_), (.int a2_), (.int lb), (.int b0_), (.int b1_), (.int b2_)] below meth c s₁ [] 0 0 := Stand.of_body Bd
  have e0 : s₁.heap = h0 := by rw [← hh, Bd.state]; rfl
  have N0 := Fr.nil n0
  obtain ⟨P, hP, R0⟩ : ∃ P : State → Prop, (∀ t_, P t_ → Steps p.tables e below (s₁.setTop (entryFrame m #[(.int la), (.int a0_), (.int a1_), (.int a2_), (.int lb), (.int b0_), (.int b1_), (.int b2_)] 8)) t_) ∧ Go p e below P s₁ (mkF m 0 #[.val (.int la), .val (.int a0_), .val (.int a1_), .val (.int a2_), .val (.int lb), .val (.int b0_), .val (.int b1_), .val (.int b2_)] []) := ⟨_, fun _ h => h, fun t_ k_ => castTop (ef_same_ m la a0_ a1_ a2_ lb b0_ b1_ b2_) k_⟩
  have R291 : Go p e below P s₁ (mkF m 1 #[.val (.int la), .val (.int a0_), .val (.int a1_), .val (.int a2_), .val (.int lb), .val (.int b0_), .val (.int b1_), .val (.int b2_)] [(.int la)]) := fun t_ k_ => R0 t_ (XS.iloadN X0.here hx rfl (hb hby d13_0) rfl k_)
  have R292 : Go p e below P s₁ (mkF m 3 #[.val (.int la), .val (.int a0_), .val (.int a1_), .val (.int a2_), .val (.int lb), .val (.int b0_), .val (.int b1_), .val (.int b2_)] [(.int lb), (.int la)]) := fun t_ k_ => R291 t_ (XS.iload X0.here hx rfl (hb hby d13_1) rfl k_)
  by_cases hc293 : la = lb
  · have R294 : Go p e below P s₁ (mkF m 8 #[.val (.int la), .val (.int a0_), .val (.int a1_), .val (.int a2_), .val (.int lb), .val (.int b0_), .val (.int b1_), .val (.int b2_)] []) := fun t_ k_ => R292 t_ (XS.icmpYes X0.here hx rfl (pc0 := 3) (pc' := 8) rfl (hb hby d13_3) rfl (teq hc293).1 (by decide) (by decide) k_)
    have R295 : Go p e below P s₁ (mkF m 9 #[.val (.int la), .val (.int a0_), .val (.int a1_), .val (.int a2_), .val (.int lb), .val (.int b0_), .val (.int b1_), .val (.int b2_)] [(.int la)]) := fun t_ k_ => R294 t_ (XS.iloadN X0.here hx rfl (hb hby d13_8) rfl k_)
    have R296 : Go p e below P s₁ (mkF m 10 #[.val (.int la), .val (.int a0_), .val (.int a1_), .val (.int a2_), .val (.int lb), .val (.int b0_), .val (.int b1_), .val (.int b2_)] [(.int (1 : Int32)), (.int la)]) := fun t_ k_ => R295 t_ (XS.iconst X0.here hx rfl (hb hby d13_9) k_)
    by_cases hc297 : la < (1 : Int32)
    · have R298 : Go p e below P s₁ (mkF m 21 #[.val (.int la), .val (.int a0_), .val (.int a1_), .val (.int a2_), .val (.int lb), .val (.int b0_), .val (.int b1_), .val (.int b2_)] []) := fun t_ k_ => R296 t_ (XS.icmpYes X0.here hx rfl (pc0 := 10) (pc' := 21) rfl (hb hby d13_10) rfl (tlt hc297).1 (by decide) (by decide) k_)
      have R299 : Go p e below P s₁ (mkF m 22 #[.val (.int la), .val (.int a0_), .val (.int a1_), .val (.int a2_), .val (.int lb), .val (.int b0_), .val (.int b1_), .val (.int b2_)] [(.int la)]) := fun t_ k_ => R298 t_ (XS.iloadN X0.here hx rfl (hb hby d13_21) rfl k_)
      have R300 : Go p e below P s₁ (mkF m 23 #[.val (.int la), .val (.int a0_), .val (.int a1_), .val (.int a2_), .val (.int lb), .val (.int b0_), .val (.int b1_), .val (.int b2_)] [(.int (2 : Int32)), (.int la)]) := fun t_ k_ => R299 t_ (XS.iconst X0.here hx rfl (hb hby d13_22) k_)
      by_cases hc301 : la < (2 : Int32)
      · have R302 : Go p e below P s₁ (mkF m 34 #[.val (.int la), .val (.int a0_), .val (.int a1_), .val (.int a2_), .val (.int lb), .val (.int b0_), .val (.int b1_), .val (.int b2_)] []) := fun t_ k_ => R300 t_ (XS.icmpYes X0.here hx rfl (pc0 := 23) (pc' := 34) rfl (hb hby d13_23) rfl (tlt hc301).1 (by decide) (by decide) k_)
        have R303 : Go p e below P s₁ (mkF m 35 #[.val (.int la), .val (.int a0_), .val (.int a1_), .val (.int a2_), .val (.int lb), .val (.int b0_), .val (.int b1_), .val (.int b2_)] [(.int la)]) := fun t_ k_ => R302 t_ (XS.iloadN X0.here hx rfl (hb hby d13_34) rfl k_)
        have R304 : Go p e below P s₁ (mkF m 36 #[.val (.int la), .val (.int a0_), .val (.int a1_), .val (.int a2_), .val (.int lb), .val (.int b0_), .val (.int b1_), .val (.int b2_)] [(.int (3 : Int32)), (.int la)]) := fun t_ k_ => R303 t_ (XS.iconst X0.here hx rfl (hb hby d13_35) k_)
        by_cases hc305 : la < (3 : Int32)
        · have R306 : Go p e below P s₁ (mkF m 47 #[.val (.int la), .val (.int a0_), .val (.int a1_), .val (.int a2_), .val (.int lb), .val (.int b0_), .val (.int b1_), .val (.int b2_)] []) := fun t_ k_ => R304 t_ (XS.icmpYes X0.here hx rfl (pc0 := 36) (pc' := 47) rfl (hb hby d13_36) rfl (tlt hc305).1 (by decide) (by decide) k_)
          have R307 : Go p e below P s₁ (mkF m 48 #[.val (.int la), .val (.int a0_), .val (.int a1_), .val (.int a2_), .val (.int lb), .val (.int b0_), .val (.int b1_), .val (.int b2_)] [(.int (1 : Int32))]) := fun t_ k_ => R306 t_ (XS.iconst X0.here hx rfl (hb hby d13_47) k_)
          obtain ⟨fs, hr, hrun, hended, hW, hsame⟩ := X0.leave (v := some (.int (nar .boolean (1 : Int32)))) (fun h => by rw [Bd.returns] at h; cases h)
          exact ⟨_, _, hP _ (R307 _ (retN X0 hx (t := .boolean) Bd.returns (by simp) (hb hby d13_48) hr)), hrun, hended, _, _, rfl, ⟨(by first | (simp only [sameI, nar_b0, nar_b1, eq_true hc293, eq_true hc297, eq_true hc301, eq_true hc305, true_and, and_true, false_and, and_false, true_or, or_true, false_or, or_false, not_true_eq_false, not_false_eq_true, ↓reduceIte, nar_b0, nar_b1]; done) | simp [sameI, nar_b0, nar_b1, nar_b0, nar_b1, hc293, hc297, hc301, hc305]), N0, e0⟩, ⟨_, rfl⟩, hW, hsame.mono (by decide) (by decide)⟩
        · have R308 : Go p e below P s₁ (mkF m 39 #[.val (.int la), .val (.int a0_), .val (.int a1_), .val (.int a2_), .val (.int lb), .val (.int b0_), .val (.int b1_), .val (.int b2_)] []) := fun t_ k_ => R304 t_ (XS.icmpNo X0.here hx rfl (hb hby d13_36) rfl (flt hc305).1 k_)
          have R309 : Go p e below P s₁ (mkF m 40 #[.val (.int la), .val (.int a0_), .val (.int a1_), .val (.int a2_), .val (.int lb), .val (.int b0_), .val (.int b1_), .val (.int b2_)] [(.int a2_)]) := fun t_ k_ => R308 t_ (XS.iloadN X0.here hx rfl (hb hby d13_39) rfl k_)
          have R310 : Go p e below P s₁ (mkF m 42 #[.val (.int la), .val (.int a0_), .val (.int a1_), .val (.int a2_), .val (.int lb), .val (.int b0_), .val (.int b1_), .val (.int b2_)] [(.int b2_), (.int a2_)]) := fun t_ k_ => R309 t_ (XS.iload X0.here hx rfl (hb hby d13_40) rfl k_)
          by_cases hc311 : a2_ = b2_
          · have R312 : Go p e below P s₁ (mkF m 47 #[.val (.int la), .val (.int a0_), .val (.int a1_), .val (.int a2_), .val (.int lb), .val (.int b0_), .val (.int b1_), .val (.int b2_)] []) := fun t_ k_ => R310 t_ (XS.icmpYes X0.here hx rfl (pc0 := 42) (pc' := 47) rfl (hb hby d13_42) rfl (teq hc311).1 (by decide) (by decide) k_)
            have R313 : Go p e below P s₁ (mkF m 48 #[.val (.int la), .val (.int a0_), .val (.int a1_), .val (.int a2_), .val (.int lb), .val (.int b0_), .val (.int b1_), .val (.int b2_)] [(.int (1 : Int32))]) := fun t_ k_ => R312 t_ (XS.iconst X0.here hx rfl (hb hby d13_47) k_)
            obtain ⟨fs, hr, hrun, hended, hW, hsame⟩ := X0.leave (v := some (.int (nar .boolean (1 : Int32)))) (fun h => by rw [Bd.returns] at h; cases h)
            exact ⟨_, _, hP _ (R313 _ (retN X0 hx (t := .boolean) Bd.returns (by simp) (hb hby d13_48) hr)), hrun, hended, _, _, rfl, ⟨(by first | (simp only [sameI, nar_b0, nar_b1, eq_true hc293, eq_true hc297, eq_true hc301, eq_false hc305, eq_true hc311, true_and, and_true, false_and, and_false, true_or, or_true, false_or, or_false, not_true_eq_false, not_false_eq_true, ↓reduceIte, nar_b0, nar_b1]; done) | simp [sameI, nar_b0, nar_b1, nar_b0, nar_b1, hc293, hc297, hc301, hc305, hc311]), N0, e0⟩, ⟨_, rfl⟩, hW, hsame.mono (by decide) (by decide)⟩
          · have R314 : Go p e below P s₁ (mkF m 45 #[.val (.int la), .val (.int a0_), .val (.int a1_), .val (.int a2_), .val (.int lb), .val (.int b0_), .val (.int b1_), .val (.int b2_)] []) := fun t_ k_ => R310 t_ (XS.icmpNo X0.here hx rfl (hb hby d13_42) rfl (feq hc311).1 k_)
            have R315 : Go p e below P s₁ (mkF m 46 #[.val (.int la), .val (.int a0_), .val (.int a1_), .val (.int a2_), .val (.int lb), .val (.int b0_), .val (.int b1_), .val (.int b2_)] [(.int (0 : Int32))]) := fun t_ k_ => R314 t_ (XS.iconst X0.here hx rfl (hb hby d13_45) k_)
            obtain ⟨fs, hr, hrun, hended, hW, hsame⟩ := X0.leave (v := some (.int (nar .boolean (0 : Int32)))) (fun h => by rw [Bd.returns] at h; cases h)
            exact ⟨_, _, hP _ (R315 _ (retN X0 hx (t := .boolean) Bd.returns (by simp) (hb hby d13_46) hr)), hrun, hended, _, _, rfl, ⟨(by first | (simp only [sameI, nar_b0, nar_b1, eq_true hc293, eq_true hc297, eq_true hc301, eq_false hc305, eq_false hc311, true_and, and_true, false_and, and_false, true_or, or_true, false_or, or_false, not_true_eq_false, not_false_eq_true, ↓reduceIte, nar_b0, nar_b1]; done) | simp [sameI, nar_b0, nar_b1, nar_b0, nar_b1, hc293, hc297, hc301, hc305, hc311]), N0, e0⟩, ⟨_, rfl⟩, hW, hsame.mono (by decide) (by decide)⟩
      · have R316 : Go p e below P s₁ (mkF m 26 #[.val (.int la), .val (.int a0_), .val (.int a1_), .val (.int a2_), .val (.int lb), .val (.int b0_), .val (.int b1_), .val (.int b2_)] []) := fun t_ k_ => R300 t_ (XS.icmpNo X0.here hx rfl (hb hby d13_23) rfl (flt hc301).1 k_)
        have R317 : Go p e below P s₁ (mkF m 27 #[.val (.int la), .val (.int a0_), .val (.int a1_), .val (.int a2_), .val (.int lb), .val (.int b0_), .val (.int b1_), .val (.int b2_)] [(.int a1_)]) := fun t_ k_ => R316 t_ (XS.iloadN X0.here hx rfl (hb hby d13_26) rfl k_)
        have R318 : Go p e below P s₁ (mkF m 29 #[.val (.int la), .val (.int a0_), .val (.int a1_), .val (.int a2_), .val (.int lb), .val (.int b0_), .val (.int b1_), .val (.int b2_)] [(.int b1_), (.int a1_)]) := fun t_ k_ => R317 t_ (XS.iload X0.here hx rfl (hb hby d13_27) rfl k_)
        by_cases hc319 : a1_ = b1_
        · have R320 : Go p e below P s₁ (mkF m 34 #[.val (.int la), .val (.int a0_), .val (.int a1_), .val (.int a2_), .val (.int lb), .val (.int b0_), .val (.int b1_), .val (.int b2_)] []) := fun t_ k_ => R318 t_ (XS.icmpYes X0.here hx rfl (pc0 := 29) (pc' := 34) rfl (hb hby d13_29) rfl (teq hc319).1 (by decide) (by decide) k_)
          have R321 : Go p e below P s₁ (mkF m 35 #[.val (.int la), .val (.int a0_), .val (.int a1_), .val (.int a2_), .val (.int lb), .val (.int b0_), .val (.int b1_), .val (.int b2_)] [(.int la)]) := fun t_ k_ => R320 t_ (XS.iloadN X0.here hx rfl (hb hby d13_34) rfl k_)
          have R322 : Go p e below P s₁ (mkF m 36 #[.val (.int la), .val (.int a0_), .val (.int a1_), .val (.int a2_), .val (.int lb), .val (.int b0_), .val (.int b1_), .val (.int b2_)] [(.int (3 : Int32)), (.int la)]) := fun t_ k_ => R321 t_ (XS.iconst X0.here hx rfl (hb hby d13_35) k_)
          by_cases hc323 : la < (3 : Int32)
          · have R324 : Go p e below P s₁ (mkF m 47 #[.val (.int la), .val (.int a0_), .val (.int a1_), .val (.int a2_), .val (.int lb), .val (.int b0_), .val (.int b1_), .val (.int b2_)] []) := fun t_ k_ => R322 t_ (XS.icmpYes X0.here hx rfl (pc0 := 36) (pc' := 47) rfl (hb hby d13_36) rfl (tlt hc323).1 (by decide) (by decide) k_)
            have R325 : Go p e below P s₁ (mkF m 48 #[.val (.int la), .val (.int a0_), .val (.int a1_), .val (.int a2_), .val (.int lb), .val (.int b0_), .val (.int b1_), .val (.int b2_)] [(.int (1 : Int32))]) := fun t_ k_ => R324 t_ (XS.iconst X0.here hx rfl (hb hby d13_47) k_)
            obtain ⟨fs, hr, hrun, hended, hW, hsame⟩ := X0.leave (v := some (.int (nar .boolean (1 : Int32)))) (fun h => by rw [Bd.returns] at h; cases h)
            exact ⟨_, _, hP _ (R325 _ (retN X0 hx (t := .boolean) Bd.returns (by simp) (hb hby d13_48) hr)), hrun, hended, _, _, rfl, ⟨(by first | (simp only [sameI, nar_b0, nar_b1, eq_true hc293, eq_true hc297, eq_false hc301, eq_true hc319, eq_true hc323, true_and, and_true, false_and, and_false, true_or, or_true, false_or, or_false, not_true_eq_false, not_false_eq_true, ↓reduceIte, nar_b0, nar_b1]; done) | simp [sameI, nar_b0, nar_b1, nar_b0, nar_b1, hc293, hc297, hc301, hc319, hc323]), N0, e0⟩, ⟨_, rfl⟩, hW, hsame.mono (by decide) (by decide)⟩
          · have R326 : Go p e below P s₁ (mkF m 39 #[.val (.int la), .val (.int a0_), .val (.int a1_), .val (.int a2_), .val (.int lb), .val (.int b0_), .val (.int b1_), .val (.int b2_)] []) := fun t_ k_ => R322 t_ (XS.icmpNo X0.here hx rfl (hb hby d13_36) rfl (flt hc323).1 k_)
            have R327 : Go p e below P s₁ (mkF m 40 #[.val (.int la), .val (.int a0_), .val (.int a1_), .val (.int a2_), .val (.int lb), .val (.int b0_), .val (.int b1_), .val (.int b2_)] [(.int a2_)]) := fun t_ k_ => R326 t_ (XS.iloadN X0.here hx rfl (hb hby d13_39) rfl k_)
            have R328 : Go p e below P s₁ (mkF m 42 #[.val (.int la), .val (.int a0_), .val (.int a1_), .val (.int a2_), .val (.int lb), .val (.int b0_), .val (.int b1_), .val (.int b2_)] [(.int b2_), (.int a2_)]) := fun t_ k_ => R327 t_ (XS.iload X0.here hx rfl (hb hby d13_40) rfl k_)
            by_cases hc329 : a2_ = b2_
            · have R330 : Go p e below P s₁ (mkF m 47 #[.val (.int la), .val (.int a0_), .val (.int a1_), .val (.int a2_), .val (.int lb), .val (.int b0_), .val (.int b1_), .val (.int b2_)] []) := fun t_ k_ => R328 t_ (XS.icmpYes X0.here hx rfl (pc0 := 42) (pc' := 47) rfl (hb hby d13_42) rfl (teq hc329).1 (by decide) (by decide) k_)
              have R331 : Go p e below P s₁ (mkF m 48 #[.val (.int la), .val (.int a0_), .val (.int a1_), .val (.int a2_), .val (.int lb), .val (.int b0_), .val (.int b1_), .val (.int b2_)] [(.int (1 : Int32))]) := fun t_ k_ => R330 t_ (XS.iconst X0.here hx rfl (hb hby d13_47) k_)
              obtain ⟨fs, hr, hrun, hended, hW, hsame⟩ := X0.leave (v := some (.int (nar .boolean (1 : Int32)))) (fun h => by rw [Bd.returns] at h; cases h)
              exact ⟨_, _, hP _ (R331 _ (retN X0 hx (t := .boolean) Bd.returns (by simp) (hb hby d13_48) hr)), hrun, hended, _, _, rfl, ⟨(by first | (simp only [sameI, nar_b0, nar_b1, eq_true hc293, eq_true hc297, eq_false hc301, eq_true hc319, eq_false hc323, eq_true hc329, true_and, and_true, false_and, and_false, true_or, or_true, false_or, or_false, not_true_eq_false, not_false_eq_true, ↓reduceIte, nar_b0, nar_b1]; done) | simp [sameI, nar_b0, nar_b1, nar_b0, nar_b1, hc293, hc297, hc301, hc319, hc323, hc329]), N0, e0⟩, ⟨_, rfl⟩, hW, hsame.mono (by decide) (by decide)⟩
            · have R332 : Go p e below P s₁ (mkF m 45 #[.val (.int la), .val (.int a0_), .val (.int a1_), .val (.int a2_), .val (.int lb), .val (.int b0_), .val (.int b1_), .val (.int b2_)] []) := fun t_ k_ => R328 t_ (XS.icmpNo X0.here hx rfl (hb hby d13_42) rfl (feq hc329).1 k_)
              have R333 : Go p e below P s₁ (mkF m 46 #[.val (.int la), .val (.int a0_), .val (.int a1_), .val (.int a2_), .val (.int lb), .val (.int b0_), .val (.int b1_), .val (.int b2_)] [(.int (0 : Int32))]) := fun t_ k_ => R332 t_ (XS.iconst X0.here hx rfl (hb hby d13_45) k_)
              obtain ⟨fs, hr, hrun, hended, hW, hsame⟩ := X0.leave (v := some (.int (nar .boolean (0 : Int32)))) (fun h => by rw [Bd.returns] at h; cases h)
              exact ⟨_, _, hP _ (R333 _ (retN X0 hx (t := .boolean) Bd.returns (by simp) (hb hby d13_46) hr)), hrun, hended, _, _, rfl, ⟨(by first | (simp only [sameI, nar_b0, nar_b1, eq_true hc293, eq_true hc297, eq_false hc301, eq_true hc319, eq_false hc323, eq_false hc329, true_and, and_true, false_and, and_false, true_or, or_true, false_or, or_false, not_true_eq_false, not_false_eq_true, ↓reduceIte, nar_b0, nar_b1]; done) | simp [sameI, nar_b0, nar_b1, nar_b0, nar_b1, hc293, hc297, hc301, hc319, hc323, hc329]), N0, e0⟩, ⟨_, rfl⟩, hW, hsame.mono (by decide) (by decide)⟩
        · have R334 : Go p e below P s₁ (mkF m 32 #[.val (.int la), .val (.int a0_), .val (.int a1_), .val (.int a2_), .val (.int lb), .val (.int b0_), .val (.int b1_), .val (.int b2_)] []) := fun t_ k_ => R318 t_ (XS.icmpNo X0.here hx rfl (hb hby d13_29) rfl (feq hc319).1 k_)
          have R335 : Go p e below P s₁ (mkF m 33 #[.val (.int la), .val (.int a0_), .val (.int a1_), .val (.int a2_), .val (.int lb), .val (.int b0_), .val (.int b1_), .val (.int b2_)] [(.int (0 : Int32))]) := fun t_ k_ => R334 t_ (XS.iconst X0.here hx rfl (hb hby d13_32) k_)
          obtain ⟨fs, hr, hrun, hended, hW, hsame⟩ := X0.leave (v := some (.int (nar .boolean (0 : Int32)))) (fun h => by rw [Bd.returns] at h; cases h)
          exact ⟨_, _, hP _ (R335 _ (retN X0 hx (t := .boolean) Bd.returns (by simp) (hb hby d13_33) hr)), hrun, hended, _, _, rfl, ⟨(by first | (simp only [sameI, nar_b0, nar_b1, eq_true hc293, eq_true hc297, eq_false hc301, eq_false hc319, true_and, and_true, false_and, and_false, true_or, or_true, false_or, or_false, not_true_eq_false, not_false_eq_true, ↓reduceIte, nar_b0, nar_b1]; done) | simp [sameI, nar_b0, nar_b1, nar_b0, nar_b1, hc293, hc297, hc301, hc319]), N0, e0⟩, ⟨_, rfl⟩, hW, hsame.mono (by decide) (by decide)⟩
    · have R336 : Go p e below P s₁ (mkF m 13 #[.val (.int la), .val (.int a0_), .val (.int a1_), .val (.int a2_), .val (.int lb), .val (.int b0_), .val (.int b1_), .val (.int b2_)] []) := fun t_ k_ => R296 t_ (XS.icmpNo X0.here hx rfl (hb hby d13_10) rfl (flt hc297).1 k_)
      have R337 : Go p e below P s₁ (mkF m 14 #[.val (.int la), .val (.int a0_), .val (.int a1_), .val (.int a2_), .val (.int lb), .val (.int b0_), .val (.int b1_), .val (.int b2_)] [(.int a0_)]) := fun t_ k_ => R336 t_ (XS.iloadN X0.here hx rfl (hb hby d13_13) rfl k_)
      have R338 : Go p e below P s₁ (mkF m 16 #[.val (.int la), .val (.int a0_), .val (.int a1_), .val (.int a2_), .val (.int lb), .val (.int b0_), .val (.int b1_), .val (.int b2_)] [(.int b0_), (.int a0_)]) := fun t_ k_ => R337 t_ (XS.iload X0.here hx rfl (hb hby d13_14) rfl k_)
      by_cases hc339 : a0_ = b0_
      · have R340 : Go p e below P s₁ (mkF m 21 #[.val (.int la), .val (.int a0_), .val (.int a1_), .val (.int a2_), .val (.int lb), .val (.int b0_), .val (.int b1_), .val (.int b2_)] []) := fun t_ k_ => R338 t_ (XS.icmpYes X0.here hx rfl (pc0 := 16) (pc' := 21) rfl (hb hby d13_16) rfl (teq hc339).1 (by decide) (by decide) k_)
        have R341 : Go p e below P s₁ (mkF m 22 #[.val (.int la), .val (.int a0_), .val (.int a1_), .val (.int a2_), .val (.int lb), .val (.int b0_), .val (.int b1_), .val (.int b2_)] [(.int la)]) := fun t_ k_ => R340 t_ (XS.iloadN X0.here hx rfl (hb hby d13_21) rfl k_)
        have R342 : Go p e below P s₁ (mkF m 23 #[.val (.int la), .val (.int a0_), .val (.int a1_), .val (.int a2_), .val (.int lb), .val (.int b0_), .val (.int b1_), .val (.int b2_)] [(.int (2 : Int32)), (.int la)]) := fun t_ k_ => R341 t_ (XS.iconst X0.here hx rfl (hb hby d13_22) k_)
        by_cases hc343 : la < (2 : Int32)
        · have R344 : Go p e below P s₁ (mkF m 34 #[.val (.int la), .val (.int a0_), .val (.int a1_), .val (.int a2_), .val (.int lb), .val (.int b0_), .val (.int b1_), .val (.int b2_)] []) := fun t_ k_ => R342 t_ (XS.icmpYes X0.here hx rfl (pc0 := 23) (pc' := 34) rfl (hb hby d13_23) rfl (tlt hc343).1 (by decide) (by decide) k_)
          have R345 : Go p e below P s₁ (mkF m 35 #[.val (.int la), .val (.int a0_), .val (.int a1_), .val (.int a2_), .val (.int lb), .val (.int b0_), .val (.int b1_), .val (.int b2_)] [(.int la)]) := fun t_ k_ => R344 t_ (XS.iloadN X0.here hx rfl (hb hby d13_34) rfl k_)
          have R346 : Go p e below P s₁ (mkF m 36 #[.val (.int la), .val (.int a0_), .val (.int a1_), .val (.int a2_), .val (.int lb), .val (.int b0_), .val (.int b1_), .val (.int b2_)] [(.int (3 : Int32)), (.int la)]) := fun t_ k_ => R345 t_ (XS.iconst X0.here hx rfl (hb hby d13_35) k_)
          by_cases hc347 : la < (3 : Int32)
          · have R348 : Go p e below P s₁ (mkF m 47 #[.val (.int la), .val (.int a0_), .val (.int a1_), .val (.int a2_), .val (.int lb), .val (.int b0_), .val (.int b1_), .val (.int b2_)] []) := fun t_ k_ => R346 t_ (XS.icmpYes X0.here hx rfl (pc0 := 36) (pc' := 47) rfl (hb hby d13_36) rfl (tlt hc347).1 (by decide) (by decide) k_)
            have R349 : Go p e below P s₁ (mkF m 48 #[.val (.int la), .val (.int a0_), .val (.int a1_), .val (.int a2_), .val (.int lb), .val (.int b0_), .val (.int b1_), .val (.int b2_)] [(.int (1 : Int32))]) := fun t_ k_ => R348 t_ (XS.iconst X0.here hx rfl (hb hby d13_47) k_)
            obtain ⟨fs, hr, hrun, hended, hW, hsame⟩ := X0.leave (v := some (.int (nar .boolean (1 : Int32)))) (fun h => by rw [Bd.returns] at h; cases h)
            exact ⟨_, _, hP _ (R349 _ (retN X0 hx (t := .boolean) Bd.returns (by simp) (hb hby d13_48) hr)), hrun, hended, _, _, rfl, ⟨(by first | (simp only [sameI, nar_b0, nar_b1, eq_true hc293, eq_false hc297, eq_true hc339, eq_true hc343, eq_true hc347, true_and, and_true, false_and, and_false, true_or, or_true, false_or, or_false, not_true_eq_false, not_false_eq_true, ↓reduceIte, nar_b0, nar_b1]; done) | simp [sameI, nar_b0, nar_b1, nar_b0, nar_b1, hc293, hc297, hc339, hc343, hc347]), N0, e0⟩, ⟨_, rfl⟩, hW, hsame.mono (by decide) (by decide)⟩
          · have R350 : Go p e below P s₁ (mkF m 39 #[.val (.int la), .val (.int a0_), .val (.int a1_), .val (.int a2_), .val (.int lb), .val (.int b0_), .val (.int b1_), .val (.int b2_)] []) := fun t_ k_ => R346 t_ (XS.icmpNo X0.here hx rfl (hb hby d13_36) rfl (flt hc347).1 k_)
            have R351 : Go p e below P s₁ (mkF m 40 #[.val (.int la), .val (.int a0_), .val (.int a1_), .val (.int a2_), .val (.int lb), .val (.int b0_), .val (.int b1_), .val (.int b2_)] [(.int a2_)]) := fun t_ k_ => R350 t_ (XS.iloadN X0.here hx rfl (hb hby d13_39) rfl k_)
            have R352 : Go p e below P s₁ (mkF m 42 #[.val (.int la), .val (.int a0_), .val (.int a1_), .val (.int a2_), .val (.int lb), .val (.int b0_), .val (.int b1_), .val (.int b2_)] [(.int b2_), (.int a2_)]) := fun t_ k_ => R351 t_ (XS.iload X0.here hx rfl (hb hby d13_40) rfl k_)
            by_cases hc353 : a2_ = b2_
            · have R354 : Go p e below P s₁ (mkF m 47 #[.val (.int la), .val (.int a0_), .val (.int a1_), .val (.int a2_), .val (.int lb), .val (.int b0_), .val (.int b1_), .val (.int b2_)] []) := fun t_ k_ => R352 t_ (XS.icmpYes X0.here hx rfl (pc0 := 42) (pc' := 47) rfl (hb hby d13_42) rfl (teq hc353).1 (by decide) (by decide) k_)
              have R355 : Go p e below P s₁ (mkF m 48 #[.val (.int la), .val (.int a0_), .val (.int a1_), .val (.int a2_), .val (.int lb), .val (.int b0_), .val (.int b1_), .val (.int b2_)] [(.int (1 : Int32))]) := fun t_ k_ => R354 t_ (XS.iconst X0.here hx rfl (hb hby d13_47) k_)
              obtain ⟨fs, hr, hrun, hended, hW, hsame⟩ := X0.leave (v := some (.int (nar .boolean (1 : Int32)))) (fun h => by rw [Bd.returns] at h; cases h)
              exact ⟨_, _, hP _ (R355 _ (retN X0 hx (t := .boolean) Bd.returns (by simp) (hb hby d13_48) hr)), hrun, hended, _, _, rfl, ⟨(by first | (simp only [sameI, nar_b0, nar_b1, eq_true hc293, eq_false hc297, eq_true hc339, eq_true hc343, eq_false hc347, eq_true hc353, true_and, and_true, false_and, and_false, true_or, or_true, false_or, or_false, not_true_eq_false, not_false_eq_true, ↓reduceIte, nar_b0, nar_b1]; done) | simp [sameI, nar_b0, nar_b1, nar_b0, nar_b1, hc293, hc297, hc339, hc343, hc347, hc353]), N0, e0⟩, ⟨_, rfl⟩, hW, hsame.mono (by decide) (by decide)⟩
            · have R356 : Go p e below P s₁ (mkF m 45 #[.val (.int la), .val (.int a0_), .val (.int a1_), .val (.int a2_), .val (.int lb), .val (.int b0_), .val (.int b1_), .val (.int b2_)] []) := fun t_ k_ => R352 t_ (XS.icmpNo X0.here hx rfl (hb hby d13_42) rfl (feq hc353).1 k_)
              have R357 : Go p e below P s₁ (mkF m 46 #[.val (.int la), .val (.int a0_), .val (.int a1_), .val (.int a2_), .val (.int lb), .val (.int b0_), .val (.int b1_), .val (.int b2_)] [(.int (0 : Int32))]) := fun t_ k_ => R356 t_ (XS.iconst X0.here hx rfl (hb hby d13_45) k_)
              obtain ⟨fs, hr, hrun, hended, hW, hsame⟩ := X0.leave (v := some (.int (nar .boolean (0 : Int32)))) (fun h => by rw [Bd.returns] at h; cases h)
              exact ⟨_, _, hP _ (R357 _ (retN X0 hx (t := .boolean) Bd.returns (by simp) (hb hby d13_46) hr)), hrun, hended, _, _, rfl, ⟨(by first | (simp only [sameI, nar_b0, nar_b1, eq_true hc293, eq_false hc297, eq_true hc339, eq_true hc343, eq_false hc347, eq_false hc353, true_and, and_true, false_and, and_false, true_or, or_true, false_or, or_false, not_true_eq_false, not_false_eq_true, ↓reduceIte, nar_b0, nar_b1]; done) | simp [sameI, nar_b0, nar_b1, nar_b0, nar_b1, hc293, hc297, hc339, hc343, hc347, hc353]), N0, e0⟩, ⟨_, rfl⟩, hW, hsame.mono (by decide) (by decide)⟩
        · have R358 : Go p e below P s₁ (mkF m 26 #[.val (.int la), .val (.int a0_), .val (.int a1_), .val (.int a2_), .val (.int lb), .val (.int b0_), .val (.int b1_), .val (.int b2_)] []) := fun t_ k_ => R342 t_ (XS.icmpNo X0.here hx rfl (hb hby d13_23) rfl (flt hc343).1 k_)
          have R359 : Go p e below P s₁ (mkF m 27 #[.val (.int la), .val (.int a0_), .val (.int a1_), .val (.int a2_), .val (.int lb), .val (.int b0_), .val (.int b1_), .val (.int b2_)] [(.int a1_)]) := fun t_ k_ => R358 t_ (XS.iloadN X0.here hx rfl (hb hby d13_26) rfl k_)
          have R360 : Go p e below P s₁ (mkF m 29 #[.val (.int la), .val (.int a0_), .val (.int a1_), .val (.int a2_), .val (.int lb), .val (.int b0_), .val (.int b1_), .val (.int b2_)] [(.int b1_), (.int a1_)]) := fun t_ k_ => R359 t_ (XS.iload X0.here hx rfl (hb hby d13_27) rfl k_)
          by_cases hc361 : a1_ = b1_
          · have R362 : Go p e below P s₁ (mkF m 34 #[.val (.int la), .val (.int a0_), .val (.int a1_), .val (.int a2_), .val (.int lb), .val (.int b0_), .val (.int b1_), .val (.int b2_)] []) := fun t_ k_ => R360 t_ (XS.icmpYes X0.here hx rfl (pc0 := 29) (pc' := 34) rfl (hb hby d13_29) rfl (teq hc361).1 (by decide) (by decide) k_)
            have R363 : Go p e below P s₁ (mkF m 35 #[.val (.int la), .val (.int a0_), .val (.int a1_), .val (.int a2_), .val (.int lb), .val (.int b0_), .val (.int b1_), .val (.int b2_)] [(.int la)]) := fun t_ k_ => R362 t_ (XS.iloadN X0.here hx rfl (hb hby d13_34) rfl k_)
            have R364 : Go p e below P s₁ (mkF m 36 #[.val (.int la), .val (.int a0_), .val (.int a1_), .val (.int a2_), .val (.int lb), .val (.int b0_), .val (.int b1_), .val (.int b2_)] [(.int (3 : Int32)), (.int la)]) := fun t_ k_ => R363 t_ (XS.iconst X0.here hx rfl (hb hby d13_35) k_)
            by_cases hc365 : la < (3 : Int32)
            · have R366 : Go p e below P s₁ (mkF m 47 #[.val (.int la), .val (.int a0_), .val (.int a1_), .val (.int a2_), .val (.int lb), .val (.int b0_), .val (.int b1_), .val (.int b2_)] []) := fun t_ k_ => R364 t_ (XS.icmpYes X0.here hx rfl (pc0 := 36) (pc' := 47) rfl (hb hby d13_36) rfl (tlt hc365).1 (by decide) (by decide) k_)
              have R367 : Go p e below P s₁ (mkF m 48 #[.val (.int la), .val (.int a0_), .val (.int a1_), .val (.int a2_), .val (.int lb), .val (.int b0_), .val (.int b1_), .val (.int b2_)] [(.int (1 : Int32))]) := fun t_ k_ => R366 t_ (XS.iconst X0.here hx rfl (hb hby d13_47) k_)
              obtain ⟨fs, hr, hrun, hended, hW, hsame⟩ := X0.leave (v := some (.int (nar .boolean (1 : Int32)))) (fun h => by rw [Bd.returns] at h; cases h)
              exact ⟨_, _, hP _ (R367 _ (retN X0 hx (t := .boolean) Bd.returns (by simp) (hb hby d13_48) hr)), hrun, hended, _, _, rfl, ⟨(by first | (simp only [sameI, nar_b0, nar_b1, eq_true hc293, eq_false hc297, eq_true hc339, eq_false hc343, eq_true hc361, eq_true hc365, true_and, and_true, false_and, and_false, true_or, or_true, false_or, or_false, not_true_eq_false, not_false_eq_true, ↓reduceIte, nar_b0, nar_b1]; done) | simp [sameI, nar_b0, nar_b1, nar_b0, nar_b1, hc293, hc297, hc339, hc343, hc361, hc365]), N0, e0⟩, ⟨_, rfl⟩, hW, hsame.mono (by decide) (by decide)⟩
            · have R368 : Go p e below P s₁ (mkF m 39 #[.val (.int la), .val (.int a0_), .val (.int a1_), .val (.int a2_), .val (.int lb), .val (.int b0_), .val (.int b1_), .val (.int b2_)] []) := fun t_ k_ => R364 t_ (XS.icmpNo X0.here hx rfl (hb hby d13_36) rfl (flt hc365).1 k_)
              have R369 : Go p e below P s₁ (mkF m 40 #[.val (.int la), .val (.int a0_), .val (.int a1_), .val (.int a2_), .val (.int lb), .val (.int b0_), .val (.int b1_), .val (.int b2_)] [(.int a2_)]) := fun t_ k_ => R368 t_ (XS.iloadN X0.here hx rfl (hb hby d13_39) rfl k_)
              have R370 : Go p e below P s₁ (mkF m 42 #[.val (.int la), .val (.int a0_), .val (.int a1_), .val (.int a2_), .val (.int lb), .val (.int b0_), .val (.int b1_), .val (.int b2_)] [(.int b2_), (.int a2_)]) := fun t_ k_ => R369 t_ (XS.iload X0.here hx rfl (hb hby d13_40) rfl k_)
              by_cases hc371 : a2_ = b2_
              · have R372 : Go p e below P s₁ (mkF m 47 #[.val (.int la), .val (.int a0_), .val (.int a1_), .val (.int a2_), .val (.int lb), .val (.int b0_), .val (.int b1_), .val (.int b2_)] []) := fun t_ k_ => R370 t_ (XS.icmpYes X0.here hx rfl (pc0 := 42) (pc' := 47) rfl (hb hby d13_42) rfl (teq hc371).1 (by decide) (by decide) k_)
                have R373 : Go p e below P s₁ (mkF m 48 #[.val (.int la), .val (.int a0_), .val (.int a1_), .val (.int a2_), .val (.int lb), .val (.int b0_), .val (.int b1_), .val (.int b2_)] [(.int (1 : Int32))]) := fun t_ k_ => R372 t_ (XS.iconst X0.here hx rfl (hb hby d13_47) k_)
                obtain ⟨fs, hr, hrun, hended, hW, hsame⟩ := X0.leave (v := some (.int (nar .boolean (1 : Int32)))) (fun h => by rw [Bd.returns] at h; cases h)
                exact ⟨_, _, hP _ (R373 _ (retN X0 hx (t := .boolean) Bd.returns (by simp) (hb hby d13_48) hr)), hrun, hended, _, _, rfl, ⟨(by first | (simp only [sameI, nar_b0, nar_b1, eq_true hc293, eq_false hc297, eq_true hc339, eq_false hc343, eq_true hc361, eq_false hc365, eq_true hc371, true_and, and_true, false_and, and_false, true_or, or_true, false_or, or_false, not_true_eq_false, not_false_eq_true, ↓reduceIte, nar_b0, nar_b1]; done) | simp [sameI, nar_b0, nar_b1, nar_b0, nar_b1, hc293, hc297, hc339, hc343, hc361, hc365, hc371]), N0, e0⟩, ⟨_, rfl⟩, hW, hsame.mono (by decide) (by decide)⟩
              · have R374 : Go p e below P s₁ (mkF m 45 #[.val (.int la), .val (.int a0_), .val (.int a1_), .val (.int a2_), .val (.int lb), .val (.int b0_), .val (.int b1_), .val (.int b2_)] []) := fun t_ k_ => R370 t_ (XS.icmpNo X0.here hx rfl (hb hby d13_42) rfl (feq hc371).1 k_)
                have R375 : Go p e below P s₁ (mkF m 46 #[.val (.int la), .val (.int a0_), .val (.int a1_), .val (.int a2_), .val (.int lb), .val (.int b0_), .val (.int b1_), .val (.int b2_)] [(.int (0 : Int32))]) := fun t_ k_ => R374 t_ (XS.iconst X0.here hx rfl (hb hby d13_45) k_)
                obtain ⟨fs, hr, hrun, hended, hW, hsame⟩ := X0.leave (v := some (.int (nar .boolean (0 : Int32)))) (fun h => by rw [Bd.returns] at h; cases h)
                exact ⟨_, _, hP _ (R375 _ (retN X0 hx (t := .boolean) Bd.returns (by simp) (hb hby d13_46) hr)), hrun, hended, _, _, rfl, ⟨(by first | (simp only [sameI, nar_b0, nar_b1, eq_true hc293, eq_false hc297, eq_true hc339, eq_false hc343, eq_true hc361, eq_false hc365, eq_false hc371, true_and, and_true, false_and, and_false, true_or, or_true, false_or, or_false, not_true_eq_false, not_false_eq_true, ↓reduceIte, nar_b0, nar_b1]; done) | simp [sameI, nar_b0, nar_b1, nar_b0, nar_b1, hc293, hc297, hc339, hc343, hc361, hc365, hc371]), N0, e0⟩, ⟨_, rfl⟩, hW, hsame.mono (by decide) (by decide)⟩
          · have R376 : Go p e below P s₁ (mkF m 32 #[.val (.int la), .val (.int a0_), .val (.int a1_), .val (.int a2_), .val (.int lb), .val (.int b0_), .val (.int b1_), .val (.int b2_)] []) := fun t_ k_ => R360 t_ (XS.icmpNo X0.here hx rfl (hb hby d13_29) rfl (feq hc361).1 k_)
            have R377 : Go p e below P s₁ (mkF m 33 #[.val (.int la), .val (.int a0_), .val (.int a1_), .val (.int a2_), .val (.int lb), .val (.int b0_), .val (.int b1_), .val (.int b2_)] [(.int (0 : Int32))]) := fun t_ k_ => R376 t_ (XS.iconst X0.here hx rfl (hb hby d13_32) k_)
            obtain ⟨fs, hr, hrun, hended, hW, hsame⟩ := X0.leave (v := some (.int (nar .boolean (0 : Int32)))) (fun h => by rw [Bd.returns] at h; cases h)
            exact ⟨_, _, hP _ (R377 _ (retN X0 hx (t := .boolean) Bd.returns (by simp) (hb hby d13_33) hr)), hrun, hended, _, _, rfl, ⟨(by first | (simp only [sameI, nar_b0, nar_b1, eq_true hc293, eq_false hc297, eq_true hc339, eq_false hc343, eq_false hc361, true_and, and_true, false_and, and_false, true_or, or_true, false_or, or_false, not_true_eq_false, not_false_eq_true, ↓reduceIte, nar_b0, nar_b1]; done) | simp [sameI, nar_b0, nar_b1, nar_b0, nar_b1, hc293, hc297, hc339, hc343, hc361]), N0, e0⟩, ⟨_, rfl⟩, hW, hsame.mono (by decide) (by decide)⟩
      · have R378 : Go p e below P s₁ (mkF m 19 #[.val (.int la), .val (.int a0_), .val (.int a1_), .val (.int a2_), .val (.int lb), .val (.int b0_), .val (.int b1_), .val (.int b2_)] []) := fun t_ k_ => R338 t_ (XS.icmpNo X0.here hx rfl (hb hby d13_16) rfl (feq hc339).1 k_)
        have R379 : Go p e below P s₁ (mkF m 20 #[.val (.int la), .val (.int a0_), .val (.int a1_), .val (.int a2_), .val (.int lb), .val (.int b0_), .val (.int b1_), .val (.int b2_)] [(.int (0 : Int32))]) := fun t_ k_ => R378 t_ (XS.iconst X0.here hx rfl (hb hby d13_19) k_)
        obtain ⟨fs, hr, hrun, hended, hW, hsame⟩ := X0.leave (v := some (.int (nar .boolean (0 : Int32)))) (fun h => by rw [Bd.returns] at h; cases h)
        exact ⟨_, _, hP _ (R379 _ (retN X0 hx (t := .boolean) Bd.returns (by simp) (hb hby d13_20) hr)), hrun, hended, _, _, rfl, ⟨(by first | (simp only [sameI, nar_b0, nar_b1, eq_true hc293, eq_false hc297, eq_false hc339, true_and, and_true, false_and, and_false, true_or, or_true, false_or, or_false, not_true_eq_false, not_false_eq_true, ↓reduceIte, nar_b0, nar_b1]; done) | simp [sameI, nar_b0, nar_b1, nar_b0, nar_b1, hc293, hc297, hc339]), N0, e0⟩, ⟨_, rfl⟩, hW, hsame.mono (by decide) (by decide)⟩
  · have R380 : Go p e below P s₁ (mkF m 6 #[.val (.int la), .val (.int a0_), .val (.int a1_), .val (.int a2_), .val (.int lb), .val (.int b0_), .val (.int b1_), .val (.int b2_)] []) := fun t_ k_ => R292 t_ (XS.icmpNo X0.here hx rfl (hb hby d13_3) rfl (feq hc293).1 k_)
    have R381 : Go p e below P s₁ (mkF m 7 #[.val (.int la), .val (.int a0_), .val (.int a1_), .val (.int a2_), .val (.int lb), .val (.int b0_), .val (.int b1_), .val (.int b2_)] [(.int (0 : Int32))]) := fun t_ k_ => R380 t_ (XS.iconst X0.here hx rfl (hb hby d13_6) k_)
    obtain ⟨fs, hr, hrun, hended, hW, hsame⟩ := X0.leave (v := some (.int (nar .boolean (0 : Int32)))) (fun h => by rw [Bd.returns] at h; cases h)
    exact ⟨_, _, hP _ (R381 _ (retN X0 hx (t := .boolean) Bd.returns (by simp) (hb hby d13_7) hr)), hrun, hended, _, _, rfl, ⟨(by first | (simp only [sameI, nar_b0, nar_b1, eq_false hc293, true_and, and_true, false_and, and_false, true_or, or_true, false_or, or_false, not_true_eq_false, not_false_eq_true, ↓reduceIte, nar_b0, nar_b1]; done) | simp [sameI, nar_b0, nar_b1, nar_b0, nar_b1, hc293]), N0, e0⟩, ⟨_, rfl⟩, hW, hsame.mono (by decide) (by decide)⟩
theorem ef_law_ (m : MethodId) (x0 : Int32) (x1 : Int32) (x2 : Int32) (x3 : Int32) : entryFrame m #[(.int x0), (.int x1), (.int x2), (.int x3)] maxLocals = mkF m 0 #[.val (.int x0), .val (.int x1), .val (.int x2), .val (.int x3), .unset, .unset, .unset, .unset, .unset, .unset, .unset, .unset, .unset, .unset, .unset, .unset, .unset, .unset, .unset] [] := by first | (simp [entryFrame, mkF, argsToLocals, Value.category, maxLocals]; done) | rfl
theorem pd_13925964 : parseMethodDescriptor "(ICCC)Ljava/lang/String;" = some ⟨[.int, .char, .char, .char], some (.object "java/lang/String")⟩ := by decide +kernel
theorem pd_73631591 : parseMethodDescriptor "()Ljava/util/Optional;" = some ⟨[], some (.object "java/util/Optional")⟩ := by decide +kernel
theorem pd_32923742 : parseMethodDescriptor "(ILjava/lang/String;Ljava/util/Optional;)V" = some ⟨[.int, (.object "java/lang/String"), (.object "java/util/Optional")], none⟩ := by decide +kernel
theorem pd_16428538 : parseMethodDescriptor "()Z" = some ⟨[], some .boolean⟩ := by decide +kernel
theorem pd_61619995 : parseMethodDescriptor "(Ljava/lang/Object;)Ljava/util/Optional;" = some ⟨[(.object "java/lang/Object")], some (.object "java/util/Optional")⟩ := by decide +kernel
theorem pd_19852302 : parseMethodDescriptor "(ICCCICCC)Z" = some ⟨[.int, .char, .char, .char, .int, .char, .char, .char], some .boolean⟩ := by decide +kernel
def Q_law_ (Z : State) (i0 : Int32) (i1 : Int32) (i2 : Int32) (i3 : Int32) (wE : Addr) (zc : Int32) (h0 : Heap) (n0 : Nat) (rv_ : Option Value) (rh_ : Heap) (rL_ : List Loc) : Prop := (rv_ = some (.int (1 : Int32))) ∧ (Fr n0 rL_) ∧ (Keep h0 rh_ [])
set_option maxRecDepth 65536 in
set_option maxHeartbeats 40000000 in
theorem law_ (l : Launch) (Z : State) (a0 : Array Value) (hw : ∀ d ∈ tables_1, d.before a0 Z = true) (ws : List Jvm.Cond) (i0 : Int32) (i1 : Int32) (i2 : Int32) (i3 : Int32) (wE : Addr) (zc : Int32) (h0 : Heap) (n0 : Nat) (O0 : Old Z n0 h0) (hEL : EW Z a0 EL0) (P0 : Sta Z Z.heap "java/lang/String" "COMPACT_STRINGS" "Z" (.int zc)) (P1 : Sta Z Z.heap "java/util/Optional" "EMPTY" "Ljava/util/Optional;" (.ref wE)) (P2 : Exa Z Z.heap wE "java/util/Optional") (P3 : Fld Z Z.heap wE "java/util/Optional" "value" "Ljava/lang/Object;" .null) (P4 : ¬ zc = 0) :
    MetFree l x (head1 (Jvm.Cond.code x code maxLocals ret :: ws) room_1) (fun a_ U_ => a_ = #[(.int i0), (.int i1), (.int i2), (.int i3)] ∧ Z.Warmed39 U_.vm ∧ U_.heap = h0 ∧ CHv Z EL0 U_.vm h0) (fun _ _ _ _ _ => True) (fun _ U_ o_ U_' => ∃ v_ L_, o_ = .returned v_ ∧ Q_law_ Z i0 i1 i2 i3 wE zc h0 n0 v_ U_'.heap L_ ∧ CHr Z EL0 U_.vm U_.heap U_'.vm U_'.heap ∧ ReturnedEndW U_ o_ U_' L_ room_1.cells room_1.slots) := by
  have hzc := P4
  refine MetFree.of_bodySF (plainFor_of_name pn_52800306) hisR ?_
  intro p e s m args below meth c s₁ Bd hml0 hP0 hK
  obtain ⟨rfl, hZ, hh, hCH⟩ := hP0
  have hx := Bd.exec
  have hby := Bd.bytes
  have hml : c.maxLocals = 19 := hml0
  have hown : s.vm.findClass "com/example/interleave/interleave/engine/CheckValueHeldPinLaw" = some m.cls := findClass_of_methodNamed Bd.named
  have hnm := (name_of_methodNamed Bd.named Bd.method).1
  have hS0 : s.Since s.vm 0 := (State.WarmedH.refl s).since 0
  have hk0 : 0 ≤ h0.size := Nat.zero_le _
  have C0 : CHr Z EL0 s.vm h0 s.vm h0 := CHr.refl hCH
  have X0 : Stand p l e room_1 (s.setVm s.vm) m #[(.int i0), (.int i1), (.int i2), (.int i3)] below meth c s₁ [] 0 0 := Stand.of_body Bd
  have e0 : s₁.heap = h0 := by rw [← hh, Bd.state]; rfl
  have N0 := Fr.nil n0
  obtain ⟨P, hP, R0⟩ : ∃ P : State → Prop, (∀ t_, P t_ → Steps p.tables e below (s₁.setTop (entryFrame m #[(.int i0), (.int i1), (.int i2), (.int i3)] maxLocals)) t_) ∧ Go p e below P s₁ (mkF m 0 #[.val (.int i0), .val (.int i1), .val (.int i2), .val (.int i3), .unset, .unset, .unset, .unset, .unset, .unset, .unset, .unset, .unset, .unset, .unset, .unset, .unset, .unset, .unset] []) := ⟨_, fun _ h => h, fun t_ k_ => castTop (ef_law_ m i0 i1 i2 i3) k_⟩
  have R382 : Go p e below P s₁ (mkF m 1 #[.val (.int i0), .val (.int i1), .val (.int i2), .val (.int i3), .unset, .unset, .unset, .unset, .unset, .unset, .unset, .unset, .unset, .unset, .unset, .unset, .unset, .unset, .unset] [(.int i1)]) := fun t_ k_ => R0 t_ (XS.iloadN X0.here hx rfl (hb hby at_0) rfl k_)
  have R383 : Go p e below P s₁ (mkF m 2 #[.val (.int i0), .val (.int i1), .val (.int i2), .val (.int i3), .unset, .unset, .unset, .unset, .unset, .unset, .unset, .unset, .unset, .unset, .unset, .unset, .unset, .unset, .unset] [(.int (3 : Int32)), (.int i1)]) := fun t_ k_ => R382 t_ (XS.iconst X0.here hx rfl (hb hby at_1) k_)
  have R384 : Go p e below P s₁ (mkF m 3 #[.val (.int i0), .val (.int i1), .val (.int i2), .val (.int i3), .unset, .unset, .unset, .unset, .unset, .unset, .unset, .unset, .unset, .unset, .unset, .unset, .unset, .unset, .unset] [(.int (i1 &&& (3 : Int32)))]) := fun t_ k_ => R383 t_ (XS.iand X0.here hx rfl (hb hby at_2) rfl k_)
  obtain ⟨vl, hvl⟩ : ∃ z : Int32, z = (i1 &&& (3 : Int32)) := ⟨_, rfl⟩
  have R385 : Go p e below P s₁ (mkF m 3 #[.val (.int i0), .val (.int i1), .val (.int i2), .val (.int i3), .unset, .unset, .unset, .unset, .unset, .unset, .unset, .unset, .unset, .unset, .unset, .unset, .unset, .unset, .unset] [(.int vl)]) := by rw [hvl]; exact R384
  have rvl : 0 ≤ vl.toInt ∧ vl.toInt < 4 := by rw [hvl]; exact len4 _
  have R386 : Go p e below P s₁ (mkF m 5 #[.val (.int i0), .val (.int i1), .val (.int i2), .val (.int i3), .val (.int vl), .unset, .unset, .unset, .unset, .unset, .unset, .unset, .unset, .unset, .unset, .unset, .unset, .unset, .unset] []) := fun t_ k_ => R385 t_ (XS.istore X0.here hx rfl (hb hby at_3) rfl (l' := #[.val (.int i0), .val (.int i1), .val (.int i2), .val (.int i3), .val (.int vl), .unset, .unset, .unset, .unset, .unset, .unset, .unset, .unset, .unset, .unset, .unset, .unset, .unset, .unset]) rfl k_)
  have R387 : Go p e below P s₁ (mkF m 6 #[.val (.int i0), .val (.int i1), .val (.int i2), .val (.int i3), .val (.int vl), .unset, .unset, .unset, .unset, .unset, .unset, .unset, .unset, .unset, .unset, .unset, .unset, .unset, .unset] [(.int i1)]) := fun t_ k_ => R386 t_ (XS.iloadN X0.here hx rfl (hb hby at_5) rfl k_)
  have R388 : Go p e below P s₁ (mkF m 7 #[.val (.int i0), .val (.int i1), .val (.int i2), .val (.int i3), .val (.int vl), .unset, .unset, .unset, .unset, .unset, .unset, .unset, .unset, .unset, .unset, .unset, .unset, .unset, .unset] [(.int (2 : Int32)), (.int i1)]) := fun t_ k_ => R387 t_ (XS.iconst X0.here hx rfl (hb hby at_6) k_)
  have R389 : Go p e below P s₁ (mkF m 8 #[.val (.int i0), .val (.int i1), .val (.int i2), .val (.int i3), .val (.int vl), .unset, .unset, .unset, .unset, .unset, .unset, .unset, .unset, .unset, .unset, .unset, .unset, .unset, .unset] [(.int ((i1.toUInt32 >>> ((2 : Int32) &&& 31).toUInt32).toInt32))]) := fun t_ k_ => R388 t_ (XS.iushr X0.here hx rfl (hb hby at_7) rfl k_)
  have R390 : Go p e below P s₁ (mkF m 11 #[.val (.int i0), .val (.int i1), .val (.int i2), .val (.int i3), .val (.int vl), .unset, .unset, .unset, .unset, .unset, .unset, .unset, .unset, .unset, .unset, .unset, .unset, .unset, .unset] [(.int (255 : Int32)), (.int ((i1.toUInt32 >>> ((2 : Int32) &&& 31).toUInt32).toInt32))]) := fun t_ k_ => R389 t_ (XS.sipush X0.here hx rfl (hb hby at_8) k_)
  have R391 : Go p e below P s₁ (mkF m 12 #[.val (.int i0), .val (.int i1), .val (.int i2), .val (.int i3), .val (.int vl), .unset, .unset, .unset, .unset, .unset, .unset, .unset, .unset, .unset, .unset, .unset, .unset, .unset, .unset] [(.int (((i1.toUInt32 >>> ((2 : Int32) &&& 31).toUInt32).toInt32) &&& (255 : Int32)))]) := fun t_ k_ => R390 t_ (XS.iand X0.here hx rfl (hb hby at_11) rfl k_)
  have R392 : Go p e below P s₁ (mkF m 13 #[.val (.int i0), .val (.int i1), .val (.int i2), .val (.int i3), .val (.int vl), .unset, .unset, .unset, .unset, .unset, .unset, .unset, .unset, .unset, .unset, .unset, .unset, .unset, .unset] [(.int ((((i1.toUInt32 >>> ((2 : Int32) &&& 31).toUInt32).toInt32) &&& (255 : Int32)).toUInt32.toUInt16.toUInt32.toInt32))]) := fun t_ k_ => R391 t_ (XS.i2c X0.here hx rfl (hb hby at_12) rfl k_)
  obtain ⟨v0, hv0⟩ : ∃ z : Int32, z = ((((i1.toUInt32 >>> ((2 : Int32) &&& 31).toUInt32).toInt32) &&& (255 : Int32)).toUInt32.toUInt16.toUInt32.toInt32) := ⟨_, rfl⟩
  have R393 : Go p e below P s₁ (mkF m 13 #[.val (.int i0), .val (.int i1), .val (.int i2), .val (.int i3), .val (.int vl), .unset, .unset, .unset, .unset, .unset, .unset, .unset, .unset, .unset, .unset, .unset, .unset, .unset, .unset] [(.int v0)]) := by rw [hv0]; exact R392
  have cv0 : nar .char v0 = v0 ∧ ¬ v0 < 0 ∧ ¬ (255 : Int32) < v0 := by rw [hv0]; exact chr255 _
  have R394 : Go p e below P s₁ (mkF m 15 #[.val (.int i0), .val (.int i1), .val (.int i2), .val (.int i3), .val (.int vl), .val (.int v0), .unset, .unset, .unset, .unset, .unset, .unset, .unset, .unset, .unset, .unset, .unset, .unset, .unset] []) := fun t_ k_ => R393 t_ (XS.istore X0.here hx rfl (hb hby at_13) rfl (l' := #[.val (.int i0), .val (.int i1), .val (.int i2), .val (.int i3), .val (.int vl), .val (.int v0), .unset, .unset, .unset, .unset, .unset, .unset, .unset, .unset, .unset, .unset, .unset, .unset, .unset]) rfl k_)
  have R395 : Go p e below P s₁ (mkF m 16 #[.val (.int i0), .val (.int i1), .val (.int i2), .val (.int i3), .val (.int vl), .val (.int v0), .unset, .unset, .unset, .unset, .unset, .unset, .unset, .unset, .unset, .unset, .unset, .unset, .unset] [(.int i1)]) := fun t_ k_ => R394 t_ (XS.iloadN X0.here hx rfl (hb hby at_15) rfl k_)
  have R396 : Go p e below P s₁ (mkF m 18 #[.val (.int i0), .val (.int i1), .val (.int i2), .val (.int i3), .val (.int vl), .val (.int v0), .unset, .unset, .unset, .unset, .unset, .unset, .unset, .unset, .unset, .unset, .unset, .unset, .unset] [(.int (10 : Int32)), (.int i1)]) := fun t_ k_ => R395 t_ (XS.bipush X0.here hx rfl (hb hby at_16) k_)
  have R397 : Go p e below P s₁ (mkF m 19 #[.val (.int i0), .val (.int i1), .val (.int i2), .val (.int i3), .val (.int vl), .val (.int v0), .unset, .unset, .unset, .unset, .unset, .unset, .unset, .unset, .unset, .unset, .unset, .unset, .unset] [(.int ((i1.toUInt32 >>> ((10 : Int32) &&& 31).toUInt32).toInt32))]) := fun t_ k_ => R396 t_ (XS.iushr X0.here hx rfl (hb hby at_18) rfl k_)
  have R398 : Go p e below P s₁ (mkF m 22 #[.val (.int i0), .val (.int i1), .val (.int i2), .val (.int i3), .val (.int vl), .val (.int v0), .unset, .unset, .unset, .unset, .unset, .unset, .unset, .unset, .unset, .unset, .unset, .unset, .unset] [(.int (255 : Int32)), (.int ((i1.toUInt32 >>> ((10 : Int32) &&& 31).toUInt32).toInt32))]) := fun t_ k_ => R397 t_ (XS.sipush X0.here hx rfl (hb hby at_19) k_)
  have R399 : Go p e below P s₁ (mkF m 23 #[.val (.int i0), .val (.int i1), .val (.int i2), .val (.int i3), .val (.int vl), .val (.int v0), .unset, .unset, .unset, .unset, .unset, .unset, .unset, .unset, .unset, .unset, .unset, .unset, .unset] [(.int (((i1.toUInt32 >>> ((10 : Int32) &&& 31).toUInt32).toInt32) &&& (255 : Int32)))]) := fun t_ k_ => R398 t_ (XS.iand X0.here hx rfl (hb hby at_22) rfl k_)
  have R400 : Go p e below P s₁ (mkF m 24 #[.val (.int i0), .val (.int i1), .val (.int i2), .val (.int i3), .val (.int vl), .val (.int v0), .unset, .unset, .unset, .unset, .unset, .unset, .unset, .unset, .unset, .unset, .unset, .unset, .unset] [(.int ((((i1.toUInt32 >>> ((10 : Int32) &&& 31).toUInt32).toInt32) &&& (255 : Int32)).toUInt32.toUInt16.toUInt32.toInt32))]) := fun t_ k_ => R399 t_ (XS.i2c X0.here hx rfl (hb hby at_23) rfl k_)
  obtain ⟨v1, hv1⟩ : ∃ z : Int32, z = ((((i1.toUInt32 >>> ((10 : Int32) &&& 31).toUInt32).toInt32) &&& (255 : Int32)).toUInt32.toUInt16.toUInt32.toInt32) := ⟨_, rfl⟩
  have R401 : Go p e below P s₁ (mkF m 24 #[.val (.int i0), .val (.int i1), .val (.int i2), .val (.int i3), .val (.int vl), .val (.int v0), .unset, .unset, .unset, .unset, .unset, .unset, .unset, .unset, .unset, .unset, .unset, .unset, .unset] [(.int v1)]) := by rw [hv1]; exact R400
  have cv1 : nar .char v1 = v1 ∧ ¬ v1 < 0 ∧ ¬ (255 : Int32) < v1 := by rw [hv1]; exact chr255 _
  have R402 : Go p e below P s₁ (mkF m 26 #[.val (.int i0), .val (.int i1), .val (.int i2), .val (.int i3), .val (.int vl), .val (.int v0), .val (.int v1), .unset, .unset, .unset, .unset, .unset, .unset, .unset, .unset, .unset, .unset, .unset, .unset] []) := fun t_ k_ => R401 t_ (XS.istore X0.here hx rfl (hb hby at_24) rfl (l' := #[.val (.int i0), .val (.int i1), .val (.int i2), .val (.int i3), .val (.int vl), .val (.int v0), .val (.int v1), .unset, .unset, .unset, .unset, .unset, .unset, .unset, .unset, .unset, .unset, .unset, .unset]) rfl k_)
  have R403 : Go p e below P s₁ (mkF m 27 #[.val (.int i0), .val (.int i1), .val (.int i2), .val (.int i3), .val (.int vl), .val (.int v0), .val (.int v1), .unset, .unset, .unset, .unset, .unset, .unset, .unset, .unset, .unset, .unset, .unset, .unset] [(.int i1)]) := fun t_ k_ => R402 t_ (XS.iloadN X0.here hx rfl (hb hby at_26) rfl k_)
  have R404 : Go p e below P s₁ (mkF m 29 #[.val (.int i0), .val (.int i1), .val (.int i2), .val (.int i3), .val (.int vl), .val (.int v0), .val (.int v1), .unset, .unset, .unset, .unset, .unset, .unset, .unset, .unset, .unset, .unset, .unset, .unset] [(.int (18 : Int32)), (.int i1)]) := fun t_ k_ => R403 t_ (XS.bipush X0.here hx rfl (hb hby at_27) k_)
  have R405 : Go p e below P s₁ (mkF m 30 #[.val (.int i0), .val (.int i1), .val (.int i2), .val (.int i3), .val (.int vl), .val (.int v0), .val (.int v1), .unset, .unset, .unset, .unset, .unset, .unset, .unset, .unset, .unset, .unset, .unset, .unset] [(.int ((i1.toUInt32 >>> ((18 : Int32) &&& 31).toUInt32).toInt32))]) := fun t_ k_ => R404 t_ (XS.iushr X0.here hx rfl (hb hby at_29) rfl k_)
  have R406 : Go p e below P s₁ (mkF m 33 #[.val (.int i0), .val (.int i1), .val (.int i2), .val (.int i3), .val (.int vl), .val (.int v0), .val (.int v1), .unset, .unset, .unset, .unset, .unset, .unset, .unset, .unset, .unset, .unset, .unset, .unset] [(.int (255 : Int32)), (.int ((i1.toUInt32 >>> ((18 : Int32) &&& 31).toUInt32).toInt32))]) := fun t_ k_ => R405 t_ (XS.sipush X0.here hx rfl (hb hby at_30) k_)
  have R407 : Go p e below P s₁ (mkF m 34 #[.val (.int i0), .val (.int i1), .val (.int i2), .val (.int i3), .val (.int vl), .val (.int v0), .val (.int v1), .unset, .unset, .unset, .unset, .unset, .unset, .unset, .unset, .unset, .unset, .unset, .unset] [(.int (((i1.toUInt32 >>> ((18 : Int32) &&& 31).toUInt32).toInt32) &&& (255 : Int32)))]) := fun t_ k_ => R406 t_ (XS.iand X0.here hx rfl (hb hby at_33) rfl k_)
  have R408 : Go p e below P s₁ (mkF m 35 #[.val (.int i0), .val (.int i1), .val (.int i2), .val (.int i3), .val (.int vl), .val (.int v0), .val (.int v1), .unset, .unset, .unset, .unset, .unset, .unset, .unset, .unset, .unset, .unset, .unset, .unset] [(.int ((((i1.toUInt32 >>> ((18 : Int32) &&& 31).toUInt32).toInt32) &&& (255 : Int32)).toUInt32.toUInt16.toUInt32.toInt32))]) := fun t_ k_ => R407 t_ (XS.i2c X0.here hx rfl (hb hby at_34) rfl k_)
  obtain ⟨v2, hv2⟩ : ∃ z : Int32, z = ((((i1.toUInt32 >>> ((18 : Int32) &&& 31).toUInt32).toInt32) &&& (255 : Int32)).toUInt32.toUInt16.toUInt32.toInt32) := ⟨_, rfl⟩
  have R409 : Go p e below P s₁ (mkF m 35 #[.val (.int i0), .val (.int i1), .val (.int i2), .val (.int i3), .val (.int vl), .val (.int v0), .val (.int v1), .unset, .unset, .unset, .unset, .unset, .unset, .unset, .unset, .unset, .unset, .unset, .unset] [(.int v2)]) := by rw [hv2]; exact R408
  have cv2 : nar .char v2 = v2 ∧ ¬ v2 < 0 ∧ ¬ (255 : Int32) < v2 := by rw [hv2]; exact chr255 _
  have R410 : Go p e below P s₁ (mkF m 37 #[.val (.int i0), .val (.int i1), .val (.int i2), .val (.int i3), .val (.int vl), .val (.int v0), .val (.int v1), .val (.int v2), .unset, .unset, .unset, .unset, .unset, .unset, .unset, .unset, .unset, .unset, .unset] []) := fun t_ k_ => R409 t_ (XS.istore X0.here hx rfl (hb hby at_35) rfl (l' := #[.val (.int i0), .val (.int i1), .val (.int i2), .val (.int i3), .val (.int vl), .val (.int v0), .val (.int v1), .val (.int v2), .unset, .unset, .unset, .unset, .unset, .unset, .unset, .unset, .unset, .unset, .unset]) rfl k_)
  have R411 : Go p e below P s₁ (mkF m 38 #[.val (.int i0), .val (.int i1), .val (.int i2), .val (.int i3), .val (.int vl), .val (.int v0), .val (.int v1), .val (.int v2), .unset, .unset, .unset, .unset, .unset, .unset, .unset, .unset, .unset, .unset, .unset] [(.int i3)]) := fun t_ k_ => R410 t_ (XS.iloadN X0.here hx rfl (hb hby at_37) rfl k_)
  have R412 : Go p e below P s₁ (mkF m 39 #[.val (.int i0), .val (.int i1), .val (.int i2), .val (.int i3), .val (.int vl), .val (.int v0), .val (.int v1), .val (.int v2), .unset, .unset, .unset, .unset, .unset, .unset, .unset, .unset, .unset, .unset, .unset] [(.int (1 : Int32)), (.int i3)]) := fun t_ k_ => R411 t_ (XS.iconst X0.here hx rfl (hb hby at_38) k_)
  have R413 : Go p e below P s₁ (mkF m 40 #[.val (.int i0), .val (.int i1), .val (.int i2), .val (.int i3), .val (.int vl), .val (.int v0), .val (.int v1), .val (.int v2), .unset, .unset, .unset, .unset, .unset, .unset, .unset, .unset, .unset, .unset, .unset] [(.int (i3 &&& (1 : Int32)))]) := fun t_ k_ => R412 t_ (XS.iand X0.here hx rfl (hb hby at_39) rfl k_)
  by_cases hc414 : (i3 &&& (1 : Int32)) = (0 : Int32)
  · have R415 : Go p e below P s₁ (mkF m 47 #[.val (.int i0), .val (.int i1), .val (.int i2), .val (.int i3), .val (.int vl), .val (.int v0), .val (.int v1), .val (.int v2), .unset, .unset, .unset, .unset, .unset, .unset, .unset, .unset, .unset, .unset, .unset] []) := fun t_ k_ => R413 t_ (XS.ifYes X0.here hx rfl (pc0 := 40) (pc' := 47) rfl (hb hby at_40) rfl ((if0 _ _).trans (teq hc414).1) (by decide) (by decide) k_)
    have R416 : Go p e below P s₁ (mkF m 48 #[.val (.int i0), .val (.int i1), .val (.int i2), .val (.int i3), .val (.int vl), .val (.int v0), .val (.int v1), .val (.int v2), .unset, .unset, .unset, .unset, .unset, .unset, .unset, .unset, .unset, .unset, .unset] [(.int (0 : Int32))]) := fun t_ k_ => R415 t_ (XS.iconst X0.here hx rfl (hb hby at_47) k_)
    have R417 : Go p e below P s₁ (mkF m 50 #[.val (.int i0), .val (.int i1), .val (.int i2), .val (.int i3), .val (.int vl), .val (.int v0), .val (.int v1), .val (.int v2), .val (.int (0 : Int32)), .unset, .unset, .unset, .unset, .unset, .unset, .unset, .unset, .unset, .unset] []) := fun t_ k_ => R416 t_ (XS.istore X0.here hx rfl (hb hby at_48) rfl (l' := #[.val (.int i0), .val (.int i1), .val (.int i2), .val (.int i3), .val (.int vl), .val (.int v0), .val (.int v1), .val (.int v2), .val (.int (0 : Int32)), .unset, .unset, .unset, .unset, .unset, .unset, .unset, .unset, .unset, .unset]) rfl k_)
    obtain ⟨cpf, el, e0_, e1_, e2_, hj419, R418⟩ : ∃ cpf : Int32, ∃ el : Int32, ∃ e0_ : Int32, ∃ e1_ : Int32, ∃ e2_ : Int32, ((0 ≤ el.toInt ∧ el.toInt < 4) ∧ (nar .char e0_ = e0_ ∧ ¬ e0_ < 0 ∧ ¬ (255 : Int32) < e0_) ∧ (nar .char e1_ = e1_ ∧ ¬ e1_ < 0 ∧ ¬ (255 : Int32) < e1_) ∧ (nar .char e2_ = e2_ ∧ ¬ e2_ < 0 ∧ ¬ (255 : Int32) < e2_)) ∧ Go p e below P s₁ (mkF m 124 #[.val (.int i0), .val (.int i1), .val (.int i2), .val (.int i3), .val (.int vl), .val (.int v0), .val (.int v1), .val (.int v2), .val (.int (0 : Int32)), .val (.int cpf), .val (.int el), .val (.int e0_), .val (.int e1_), .val (.int e2_), .unset, .unset, .unset, .unset, .unset] []) := by
      have R420 : Go p e below P s₁ (mkF m 51 #[.val (.int i0), .val (.int i1), .val (.int i2), .val (.int i3), .val (.int vl), .val (.int v0), .val (.int v1), .val (.int v2), .val (.int (0 : Int32)), .unset, .unset, .unset, .unset, .unset, .unset, .unset, .unset, .unset, .unset] [(.int i3)]) := fun t_ k_ => R417 t_ (XS.iloadN X0.here hx rfl (hb hby at_50) rfl k_)
      have R421 : Go p e below P s₁ (mkF m 52 #[.val (.int i0), .val (.int i1), .val (.int i2), .val (.int i3), .val (.int vl), .val (.int v0), .val (.int v1), .val (.int v2), .val (.int (0 : Int32)), .unset, .unset, .unset, .unset, .unset, .unset, .unset, .unset, .unset, .unset] [(.int (2 : Int32)), (.int i3)]) := fun t_ k_ => R420 t_ (XS.iconst X0.here hx rfl (hb hby at_51) k_)
      have R422 : Go p e below P s₁ (mkF m 53 #[.val (.int i0), .val (.int i1), .val (.int i2), .val (.int i3), .val (.int vl), .val (.int v0), .val (.int v1), .val (.int v2), .val (.int (0 : Int32)), .unset, .unset, .unset, .unset, .unset, .unset, .unset, .unset, .unset, .unset] [(.int (i3 &&& (2 : Int32)))]) := fun t_ k_ => R421 t_ (XS.iand X0.here hx rfl (hb hby at_52) rfl k_)
      by_cases hc423 : (i3 &&& (2 : Int32)) = (0 : Int32)
      · have R424 : Go p e below P s₁ (mkF m 60 #[.val (.int i0), .val (.int i1), .val (.int i2), .val (.int i3), .val (.int vl), .val (.int v0), .val (.int v1), .val (.int v2), .val (.int (0 : Int32)), .unset, .unset, .unset, .unset, .unset, .unset, .unset, .unset, .unset, .unset] []) := fun t_ k_ => R422 t_ (XS.ifYes X0.here hx rfl (pc0 := 53) (pc' := 60) rfl (hb hby at_53) rfl ((if0 _ _).trans (teq hc423).1) (by decide) (by decide) k_)
        have R425 : Go p e below P s₁ (mkF m 61 #[.val (.int i0), .val (.int i1), .val (.int i2), .val (.int i3), .val (.int vl), .val (.int v0), .val (.int v1), .val (.int v2), .val (.int (0 : Int32)), .unset, .unset, .unset, .unset, .unset, .unset, .unset, .unset, .unset, .unset] [(.int (0 : Int32))]) := fun t_ k_ => R424 t_ (XS.iconst X0.here hx rfl (hb hby at_60) k_)
        have R426 : Go p e below P s₁ (mkF m 63 #[.val (.int i0), .val (.int i1), .val (.int i2), .val (.int i3), .val (.int vl), .val (.int v0), .val (.int v1), .val (.int v2), .val (.int (0 : Int32)), .val (.int (0 : Int32)), .unset, .unset, .unset, .unset, .unset, .unset, .unset, .unset, .unset] []) := fun t_ k_ => R425 t_ (XS.istore X0.here hx rfl (hb hby at_61) rfl (l' := #[.val (.int i0), .val (.int i1), .val (.int i2), .val (.int i3), .val (.int vl), .val (.int v0), .val (.int v1), .val (.int v2), .val (.int (0 : Int32)), .val (.int (0 : Int32)), .unset, .unset, .unset, .unset, .unset, .unset, .unset, .unset, .unset]) rfl k_)
        have R427 : Go p e below P s₁ (mkF m 65 #[.val (.int i0), .val (.int i1), .val (.int i2), .val (.int i3), .val (.int vl), .val (.int v0), .val (.int v1), .val (.int v2), .val (.int (0 : Int32)), .val (.int (0 : Int32)), .unset, .unset, .unset, .unset, .unset, .unset, .unset, .unset, .unset] [(.int (0 : Int32))]) := fun t_ k_ => R426 t_ (XS.iload X0.here hx rfl (hb hby at_63) rfl k_)
        have R428 : Go p e below P s₁ (mkF m 87 #[.val (.int i0), .val (.int i1), .val (.int i2), .val (.int i3), .val (.int vl), .val (.int v0), .val (.int v1), .val (.int v2), .val (.int (0 : Int32)), .val (.int (0 : Int32)), .unset, .unset, .unset, .unset, .unset, .unset, .unset, .unset, .unset] []) := fun t_ k_ => R427 t_ (XS.ifYes X0.here hx rfl (pc0 := 65) (pc' := 87) rfl (hb hby at_65) rfl ((if0 _ _).trans (teq rfl).1) (by decide) (by decide) k_)
        have R429 : Go p e below P s₁ (mkF m 88 #[.val (.int i0), .val (.int i1), .val (.int i2), .val (.int i3), .val (.int vl), .val (.int v0), .val (.int v1), .val (.int v2), .val (.int (0 : Int32)), .val (.int (0 : Int32)), .unset, .unset, .unset, .unset, .unset, .unset, .unset, .unset, .unset] [(.int i2)]) := fun t_ k_ => R428 t_ (XS.iloadN X0.here hx rfl (hb hby at_87) rfl k_)
        have R430 : Go p e below P s₁ (mkF m 89 #[.val (.int i0), .val (.int i1), .val (.int i2), .val (.int i3), .val (.int vl), .val (.int v0), .val (.int v1), .val (.int v2), .val (.int (0 : Int32)), .val (.int (0 : Int32)), .unset, .unset, .unset, .unset, .unset, .unset, .unset, .unset, .unset] [(.int (3 : Int32)), (.int i2)]) := fun t_ k_ => R429 t_ (XS.iconst X0.here hx rfl (hb hby at_88) k_)
        have R431 : Go p e below P s₁ (mkF m 90 #[.val (.int i0), .val (.int i1), .val (.int i2), .val (.int i3), .val (.int vl), .val (.int v0), .val (.int v1), .val (.int v2), .val (.int (0 : Int32)), .val (.int (0 : Int32)), .unset, .unset, .unset, .unset, .unset, .unset, .unset, .unset, .unset] [(.int (i2 &&& (3 : Int32)))]) := fun t_ k_ => R430 t_ (XS.iand X0.here hx rfl (hb hby at_89) rfl k_)
        have R432 : Go p e below P s₁ (mkF m 92 #[.val (.int i0), .val (.int i1), .val (.int i2), .val (.int i3), .val (.int vl), .val (.int v0), .val (.int v1), .val (.int v2), .val (.int (0 : Int32)), .val (.int (0 : Int32)), .val (.int (i2 &&& (3 : Int32))), .unset, .unset, .unset, .unset, .unset, .unset, .unset, .unset] []) := fun t_ k_ => R431 t_ (XS.istore X0.here hx rfl (hb hby at_90) rfl (l' := #[.val (.int i0), .val (.int i1), .val (.int i2), .val (.int i3), .val (.int vl), .val (.int v0), .val (.int v1), .val (.int v2), .val (.int (0 : Int32)), .val (.int (0 : Int32)), .val (.int (i2 &&& (3 : Int32))), .unset, .unset, .unset, .unset, .unset, .unset, .unset, .unset]) rfl k_)
        have R433 : Go p e below P s₁ (mkF m 93 #[.val (.int i0), .val (.int i1), .val (.int i2), .val (.int i3), .val (.int vl), .val (.int v0), .val (.int v1), .val (.int v2), .val (.int (0 : Int32)), .val (.int (0 : Int32)), .val (.int (i2 &&& (3 : Int32))), .unset, .unset, .unset, .unset, .unset, .unset, .unset, .unset] [(.int i2)]) := fun t_ k_ => R432 t_ (XS.iloadN X0.here hx rfl (hb hby at_92) rfl k_)
        have R434 : Go p e below P s₁ (mkF m 94 #[.val (.int i0), .val (.int i1), .val (.int i2), .val (.int i3), .val (.int vl), .val (.int v0), .val (.int v1), .val (.int v2), .val (.int (0 : Int32)), .val (.int (0 : Int32)), .val (.int (i2 &&& (3 : Int32))), .unset, .unset, .unset, .unset, .unset, .unset, .unset, .unset] [(.int (2 : Int32)), (.int i2)]) := fun t_ k_ => R433 t_ (XS.iconst X0.here hx rfl (hb hby at_93) k_)
        have R435 : Go p e below P s₁ (mkF m 95 #[.val (.int i0), .val (.int i1), .val (.int i2), .val (.int i3), .val (.int vl), .val (.int v0), .val (.int v1), .val (.int v2), .val (.int (0 : Int32)), .val (.int (0 : Int32)), .val (.int (i2 &&& (3 : Int32))), .unset, .unset, .unset, .unset, .unset, .unset, .unset, .unset] [(.int ((i2.toUInt32 >>> ((2 : Int32) &&& 31).toUInt32).toInt32))]) := fun t_ k_ => R434 t_ (XS.iushr X0.here hx rfl (hb hby at_94) rfl k_)
        have R436 : Go p e below P s₁ (mkF m 98 #[.val (.int i0), .val (.int i1), .val (.int i2), .val (.int i3), .val (.int vl), .val (.int v0), .val (.int v1), .val (.int v2), .val (.int (0 : Int32)), .val (.int (0 : Int32)), .val (.int (i2 &&& (3 : Int32))), .unset, .unset, .unset, .unset, .unset, .unset, .unset, .unset] [(.int (255 : Int32)), (.int ((i2.toUInt32 >>> ((2 : Int32) &&& 31).toUInt32).toInt32))]) := fun t_ k_ => R435 t_ (XS.sipush X0.here hx rfl (hb hby at_95) k_)
        have R437 : Go p e below P s₁ (mkF m 99 #[.val (.int i0), .val (.int i1), .val (.int i2), .val (.int i3), .val (.int vl), .val (.int v0), .val (.int v1), .val (.int v2), .val (.int (0 : Int32)), .val (.int (0 : Int32)), .val (.int (i2 &&& (3 : Int32))), .unset, .unset, .unset, .unset, .unset, .unset, .unset, .unset] [(.int (((i2.toUInt32 >>> ((2 : Int32) &&& 31).toUInt32).toInt32) &&& (255 : Int32)))]) := fun t_ k_ => R436 t_ (XS.iand X0.here hx rfl (hb hby at_98) rfl k_)
        have R438 : Go p e below P s₁ (mkF m 100 #[.val (.int i0), .val (.int i1), .val (.int i2), .val (.int i3), .val (.int vl), .val (.int v0), .val (.int v1), .val (.int v2), .val (.int (0 : Int32)), .val (.int (0 : Int32)), .val (.int (i2 &&& (3 : Int32))), .unset, .unset, .unset, .unset, .unset, .unset, .unset, .unset] [(.int ((((i2.toUInt32 >>> ((2 : Int32) &&& 31).toUInt32).toInt32) &&& (255 : Int32)).toUInt32.toUInt16.toUInt32.toInt32))]) := fun t_ k_ => R437 t_ (XS.i2c X0.here hx rfl (hb hby at_99) rfl k_)
        have R439 : Go p e below P s₁ (mkF m 102 #[.val (.int i0), .val (.int i1), .val (.int i2), .val (.int i3), .val (.int vl), .val (.int v0), .val (.int v1), .val (.int v2), .val (.int (0 : Int32)), .val (.int (0 : Int32)), .val (.int (i2 &&& (3 : Int32))), .val (.int ((((i2.toUInt32 >>> ((2 : Int32) &&& 31).toUInt32).toInt32) &&& (255 : Int32)).toUInt32.toUInt16.toUInt32.toInt32)), .unset, .unset, .unset, .unset, .unset, .unset, .unset] []) := fun t_ k_ => R438 t_ (XS.istore X0.here hx rfl (hb hby at_100) rfl (l' := #[.val (.int i0), .val (.int i1), .val (.int i2), .val (.int i3), .val (.int vl), .val (.int v0), .val (.int v1), .val (.int v2), .val (.int (0 : Int32)), .val (.int (0 : Int32)), .val (.int (i2 &&& (3 : Int32))), .val (.int ((((i2.toUInt32 >>> ((2 : Int32) &&& 31).toUInt32).toInt32) &&& (255 : Int32)).toUInt32.toUInt16.toUInt32.toInt32)), .unset, .unset, .unset, .unset, .unset, .unset, .unset]) rfl k_)
        have R440 : Go p e below P s₁ (mkF m 103 #[.val (.int i0), .val (.int i1), .val (.int i2), .val (.int i3), .val (.int vl), .val (.int v0), .val (.int v1), .val (.int v2), .val (.int (0 : Int32)), .val (.int (0 : Int32)), .val (.int (i2 &&& (3 : Int32))), .val (.int ((((i2.toUInt32 >>> ((2 : Int32) &&& 31).toUInt32).toInt32) &&& (255 : Int32)).toUInt32.toUInt16.toUInt32.toInt32)), .unset, .unset, .unset, .unset, .unset, .unset, .unset] [(.int i2)]) := fun t_ k_ => R439 t_ (XS.iloadN X0.here hx rfl (hb hby at_102) rfl k_)
        have R441 : Go p e below P s₁ (mkF m 105 #[.val (.int i0), .val (.int i1), .val (.int i2), .val (.int i3), .val (.int vl), .val (.int v0), .val (.int v1), .val (.int v2), .val (.int (0 : Int32)), .val (.int (0 : Int32)), .val (.int (i2 &&& (3 : Int32))), .val (.int ((((i2.toUInt32 >>> ((2 : Int32) &&& 31).toUInt32).toInt32) &&& (255 : Int32)).toUInt32.toUInt16.toUInt32.toInt32)), .unset, .unset, .unset, .unset, .unset, .unset, .unset] [(.int (10 : Int32)), (.int i2)]) := fun t_ k_ => R440 t_ (XS.bipush X0.here hx rfl (hb hby at_103) k_)
        have R442 : Go p e below P s₁ (mkF m 106 #[.val (.int i0), .val (.int i1), .val (.int i2), .val (.int i3), .val (.int vl), .val (.int v0), .val (.int v1), .val (.int v2), .val (.int (0 : Int32)), .val (.int (0 : Int32)), .val (.int (i2 &&& (3 : Int32))), .val (.int ((((i2.toUInt32 >>> ((2 : Int32) &&& 31).toUInt32).toInt32) &&& (255 : Int32)).toUInt32.toUInt16.toUInt32.toInt32)), .unset, .unset, .unset, .unset, .unset, .unset, .unset] [(.int ((i2.toUInt32 >>> ((10 : Int32) &&& 31).toUInt32).toInt32))]) := fun t_ k_ => R441 t_ (XS.iushr X0.here hx rfl (hb hby at_105) rfl k_)
        have R443 : Go p e below P s₁ (mkF m 109 #[.val (.int i0), .val (.int i1), .val (.int i2), .val (.int i3), .val (.int vl), .val (.int v0), .val (.int v1), .val (.int v2), .val (.int (0 : Int32)), .val (.int (0 : Int32)), .val (.int (i2 &&& (3 : Int32))), .val (.int ((((i2.toUInt32 >>> ((2 : Int32) &&& 31).toUInt32).toInt32) &&& (255 : Int32)).toUInt32.toUInt16.toUInt32.toInt32)), .unset, .unset, .unset, .unset, .unset, .unset, .unset] [(.int (255 : Int32)), (.int ((i2.toUInt32 >>> ((10 : Int32) &&& 31).toUInt32).toInt32))]) := fun t_ k_ => R442 t_ (XS.sipush X0.here hx rfl (hb hby at_106) k_)
        have R444 : Go p e below P s₁ (mkF m 110 #[.val (.int i0), .val (.int i1), .val (.int i2), .val (.int i3), .val (.int vl), .val (.int v0), .val (.int v1), .val (.int v2), .val (.int (0 : Int32)), .val (.int (0 : Int32)), .val (.int (i2 &&& (3 : Int32))), .val (.int ((((i2.toUInt32 >>> ((2 : Int32) &&& 31).toUInt32).toInt32) &&& (255 : Int32)).toUInt32.toUInt16.toUInt32.toInt32)), .unset, .unset, .unset, .unset, .unset, .unset, .unset] [(.int (((i2.toUInt32 >>> ((10 : Int32) &&& 31).toUInt32).toInt32) &&& (255 : Int32)))]) := fun t_ k_ => R443 t_ (XS.iand X0.here hx rfl (hb hby at_109) rfl k_)
        have R445 : Go p e below P s₁ (mkF m 111 #[.val (.int i0), .val (.int i1), .val (.int i2), .val (.int i3), .val (.int vl), .val (.int v0), .val (.int v1), .val (.int v2), .val (.int (0 : Int32)), .val (.int (0 : Int32)), .val (.int (i2 &&& (3 : Int32))), .val (.int ((((i2.toUInt32 >>> ((2 : Int32) &&& 31).toUInt32).toInt32) &&& (255 : Int32)).toUInt32.toUInt16.toUInt32.toInt32)), .unset, .unset, .unset, .unset, .unset, .unset, .unset] [(.int ((((i2.toUInt32 >>> ((10 : Int32) &&& 31).toUInt32).toInt32) &&& (255 : Int32)).toUInt32.toUInt16.toUInt32.toInt32))]) := fun t_ k_ => R444 t_ (XS.i2c X0.here hx rfl (hb hby at_110) rfl k_)
        have R446 : Go p e below P s₁ (mkF m 113 #[.val (.int i0), .val (.int i1), .val (.int i2), .val (.int i3), .val (.int vl), .val (.int v0), .val (.int v1), .val (.int v2), .val (.int (0 : Int32)), .val (.int (0 : Int32)), .val (.int (i2 &&& (3 : Int32))), .val (.int ((((i2.toUInt32 >>> ((2 : Int32) &&& 31).toUInt32).toInt32) &&& (255 : Int32)).toUInt32.toUInt16.toUInt32.toInt32)), .val (.int ((((i2.toUInt32 >>> ((10 : Int32) &&& 31).toUInt32).toInt32) &&& (255 : Int32)).toUInt32.toUInt16.toUInt32.toInt32)), .unset, .unset, .unset, .unset, .unset, .unset] []) := fun t_ k_ => R445 t_ (XS.istore X0.here hx rfl (hb hby at_111) rfl (l' := #[.val (.int i0), .val (.int i1), .val (.int i2), .val (.int i3), .val (.int vl), .val (.int v0), .val (.int v1), .val (.int v2), .val (.int (0 : Int32)), .val (.int (0 : Int32)), .val (.int (i2 &&& (3 : Int32))), .val (.int ((((i2.toUInt32 >>> ((2 : Int32) &&& 31).toUInt32).toInt32) &&& (255 : Int32)).toUInt32.toUInt16.toUInt32.toInt32)), .val (.int ((((i2.toUInt32 >>> ((10 : Int32) &&& 31).toUInt32).toInt32) &&& (255 : Int32)).toUInt32.toUInt16.toUInt32.toInt32)), .unset, .unset, .unset, .unset, .unset, .unset]) rfl k_)
        have R447 : Go p e below P s₁ (mkF m 114 #[.val (.int i0), .val (.int i1), .val (.int i2), .val (.int i3), .val (.int vl), .val (.int v0), .val (.int v1), .val (.int v2), .val (.int (0 : Int32)), .val (.int (0 : Int32)), .val (.int (i2 &&& (3 : Int32))), .val (.int ((((i2.toUInt32 >>> ((2 : Int32) &&& 31).toUInt32).toInt32) &&& (255 : Int32)).toUInt32.toUInt16.toUInt32.toInt32)), .val (.int ((((i2.toUInt32 >>> ((10 : Int32) &&& 31).toUInt32).toInt32) &&& (255 : Int32)).toUInt32.toUInt16.toUInt32.toInt32)), .unset, .unset, .unset, .unset, .unset, .unset] [(.int i2)]) := fun t_ k_ => R446 t_ (XS.iloadN X0.here hx rfl (hb hby at_113) rfl k_)
        have R448 : Go p e below P s₁ (mkF m 116 #[.val (.int i0), .val (.int i1), .val (.int i2), .val (.int i3), .val (.int vl), .val (.int v0), .val (.int v1), .val (.int v2), .val (.int (0 : Int32)), .val (.int (0 : Int32)), .val (.int (i2 &&& (3 : Int32))), .val (.int ((((i2.toUInt32 >>> ((2 : Int32) &&& 31).toUInt32).toInt32) &&& (255 : Int32)).toUInt32.toUInt16.toUInt32.toInt32)), .val (.int ((((i2.toUInt32 >>> ((10 : Int32) &&& 31).toUInt32).toInt32) &&& (255 : Int32)).toUInt32.toUInt16.toUInt32.toInt32)), .unset, .unset, .unset, .unset, .unset, .unset] [(.int (18 : Int32)), (.int i2)]) := fun t_ k_ => R447 t_ (XS.bipush X0.here hx rfl (hb hby at_114) k_)
        have R449 : Go p e below P s₁ (mkF m 117 #[.val (.int i0), .val (.int i1), .val (.int i2), .val (.int i3), .val (.int vl), .val (.int v0), .val (.int v1), .val (.int v2), .val (.int (0 : Int32)), .val (.int (0 : Int32)), .val (.int (i2 &&& (3 : Int32))), .val (.int ((((i2.toUInt32 >>> ((2 : Int32) &&& 31).toUInt32).toInt32) &&& (255 : Int32)).toUInt32.toUInt16.toUInt32.toInt32)), .val (.int ((((i2.toUInt32 >>> ((10 : Int32) &&& 31).toUInt32).toInt32) &&& (255 : Int32)).toUInt32.toUInt16.toUInt32.toInt32)), .unset, .unset, .unset, .unset, .unset, .unset] [(.int ((i2.toUInt32 >>> ((18 : Int32) &&& 31).toUInt32).toInt32))]) := fun t_ k_ => R448 t_ (XS.iushr X0.here hx rfl (hb hby at_116) rfl k_)
        have R450 : Go p e below P s₁ (mkF m 120 #[.val (.int i0), .val (.int i1), .val (.int i2), .val (.int i3), .val (.int vl), .val (.int v0), .val (.int v1), .val (.int v2), .val (.int (0 : Int32)), .val (.int (0 : Int32)), .val (.int (i2 &&& (3 : Int32))), .val (.int ((((i2.toUInt32 >>> ((2 : Int32) &&& 31).toUInt32).toInt32) &&& (255 : Int32)).toUInt32.toUInt16.toUInt32.toInt32)), .val (.int ((((i2.toUInt32 >>> ((10 : Int32) &&& 31).toUInt32).toInt32) &&& (255 : Int32)).toUInt32.toUInt16.toUInt32.toInt32)), .unset, .unset, .unset, .unset, .unset, .unset] [(.int (255 : Int32)), (.int ((i2.toUInt32 >>> ((18 : Int32) &&& 31).toUInt32).toInt32))]) := fun t_ k_ => R449 t_ (XS.sipush X0.here hx rfl (hb hby at_117) k_)
        have R451 : Go p e below P s₁ (mkF m 121 #[.val (.int i0), .val (.int i1), .val (.int i2), .val (.int i3), .val (.int vl), .val (.int v0), .val (.int v1), .val (.int v2), .val (.int (0 : Int32)), .val (.int (0 : Int32)), .val (.int (i2 &&& (3 : Int32))), .val (.int ((((i2.toUInt32 >>> ((2 : Int32) &&& 31).toUInt32).toInt32) &&& (255 : Int32)).toUInt32.toUInt16.toUInt32.toInt32)), .val (.int ((((i2.toUInt32 >>> ((10 : Int32) &&& 31).toUInt32).toInt32) &&& (255 : Int32)).toUInt32.toUInt16.toUInt32.toInt32)), .unset, .unset, .unset, .unset, .unset, .unset] [(.int (((i2.toUInt32 >>> ((18 : Int32) &&& 31).toUInt32).toInt32) &&& (255 : Int32)))]) := fun t_ k_ => R450 t_ (XS.iand X0.here hx rfl (hb hby at_120) rfl k_)
        have R452 : Go p e below P s₁ (mkF m 122 #[.val (.int i0), .val (.int i1), .val (.int i2), .val (.int i3), .val (.int vl), .val (.int v0), .val (.int v1), .val (.int v2), .val (.int (0 : Int32)), .val (.int (0 : Int32)), .val (.int (i2 &&& (3 : Int32))), .val (.int ((((i2.toUInt32 >>> ((2 : Int32) &&& 31).toUInt32).toInt32) &&& (255 : Int32)).toUInt32.toUInt16.toUInt32.toInt32)), .val (.int ((((i2.toUInt32 >>> ((10 : Int32) &&& 31).toUInt32).toInt32) &&& (255 : Int32)).toUInt32.toUInt16.toUInt32.toInt32)), .unset, .unset, .unset, .unset, .unset, .unset] [(.int ((((i2.toUInt32 >>> ((18 : Int32) &&& 31).toUInt32).toInt32) &&& (255 : Int32)).toUInt32.toUInt16.toUInt32.toInt32))]) := fun t_ k_ => R451 t_ (XS.i2c X0.here hx rfl (hb hby at_121) rfl k_)
        have R453 : Go p e below P s₁ (mkF m 124 #[.val (.int i0), .val (.int i1), .val (.int i2), .val (.int i3), .val (.int vl), .val (.int v0), .val (.int v1), .val (.int v2), .val (.int (0 : Int32)), .val (.int (0 : Int32)), .val (.int (i2 &&& (3 : Int32))), .val (.int ((((i2.toUInt32 >>> ((2 : Int32) &&& 31).toUInt32).toInt32) &&& (255 : Int32)).toUInt32.toUInt16.toUInt32.toInt32)), .val (.int ((((i2.toUInt32 >>> ((10 : Int32) &&& 31).toUInt32).toInt32) &&& (255 : Int32)).toUInt32.toUInt16.toUInt32.toInt32)), .val (.int ((((i2.toUInt32 >>> ((18 : Int32) &&& 31).toUInt32).toInt32) &&& (255 : Int32)).toUInt32.toUInt16.toUInt32.toInt32)), .unset, .unset, .unset, .unset, .unset] []) := fun t_ k_ => R452 t_ (XS.istore X0.here hx rfl (hb hby at_122) rfl (l' := #[.val (.int i0), .val (.int i1), .val (.int i2), .val (.int i3), .val (.int vl), .val (.int v0), .val (.int v1), .val (.int v2), .val (.int (0 : Int32)), .val (.int (0 : Int32)), .val (.int (i2 &&& (3 : Int32))), .val (.int ((((i2.toUInt32 >>> ((2 : Int32) &&& 31).toUInt32).toInt32) &&& (255 : Int32)).toUInt32.toUInt16.toUInt32.toInt32)), .val (.int ((((i2.toUInt32 >>> ((10 : Int32) &&& 31).toUInt32).toInt32) &&& (255 : Int32)).toUInt32.toUInt16.toUInt32.toInt32)), .val (.int ((((i2.toUInt32 >>> ((18 : Int32) &&& 31).toUInt32).toInt32) &&& (255 : Int32)).toUInt32.toUInt16.toUInt32.toInt32)), .unset, .unset, .unset, .unset, .unset]) rfl k_)
        exact ⟨(0 : Int32), (i2 &&& (3 : Int32)), ((((i2.toUInt32 >>> ((2 : Int32) &&& 31).toUInt32).toInt32) &&& (255 : Int32)).toUInt32.toUInt16.toUInt32.toInt32), ((((i2.toUInt32 >>> ((10 : Int32) &&& 31).toUInt32).toInt32) &&& (255 : Int32)).toUInt32.toUInt16.toUInt32.toInt32), ((((i2.toUInt32 >>> ((18 : Int32) &&& 31).toUInt32).toInt32) &&& (255 : Int32)).toUInt32.toUInt16.toUInt32.toInt32), ⟨len4 _, chr255 _, chr255 _, chr255 _⟩, R453⟩
      · have R454 : Go p e below P s₁ (mkF m 56 #[.val (.int i0), .val (.int i1), .val (.int i2), .val (.int i3), .val (.int vl), .val (.int v0), .val (.int v1), .val (.int v2), .val (.int (0 : Int32)), .unset, .unset, .unset, .unset, .unset, .unset, .unset, .unset, .unset, .unset] []) := fun t_ k_ => R422 t_ (XS.ifNo X0.here hx rfl (hb hby at_53) rfl ((if0 _ _).trans (feq hc423).1) k_)
        have R455 : Go p e below P s₁ (mkF m 57 #[.val (.int i0), .val (.int i1), .val (.int i2), .val (.int i3), .val (.int vl), .val (.int v0), .val (.int v1), .val (.int v2), .val (.int (0 : Int32)), .unset, .unset, .unset, .unset, .unset, .unset, .unset, .unset, .unset, .unset] [(.int (1 : Int32))]) := fun t_ k_ => R454 t_ (XS.iconst X0.here hx rfl (hb hby at_56) k_)
        have R456 : Go p e below P s₁ (mkF m 61 #[.val (.int i0), .val (.int i1), .val (.int i2), .val (.int i3), .val (.int vl), .val (.int v0), .val (.int v1), .val (.int v2), .val (.int (0 : Int32)), .unset, .unset, .unset, .unset, .unset, .unset, .unset, .unset, .unset, .unset] [(.int (1 : Int32))]) := fun t_ k_ => R455 t_ (XS.goto X0.here hx rfl (pc0 := 57) (pc' := 61) rfl (hb hby at_57) (by decide) (by decide) k_)
        have R457 : Go p e below P s₁ (mkF m 63 #[.val (.int i0), .val (.int i1), .val (.int i2), .val (.int i3), .val (.int vl), .val (.int v0), .val (.int v1), .val (.int v2), .val (.int (0 : Int32)), .val (.int (1 : Int32)), .unset, .unset, .unset, .unset, .unset, .unset, .unset, .unset, .unset] []) := fun t_ k_ => R456 t_ (XS.istore X0.here hx rfl (hb hby at_61) rfl (l' := #[.val (.int i0), .val (.int i1), .val (.int i2), .val (.int i3), .val (.int vl), .val (.int v0), .val (.int v1), .val (.int v2), .val (.int (0 : Int32)), .val (.int (1 : Int32)), .unset, .unset, .unset, .unset, .unset, .unset, .unset, .unset, .unset]) rfl k_)
        have R458 : Go p e below P s₁ (mkF m 65 #[.val (.int i0), .val (.int i1), .val (.int i2), .val (.int i3), .val (.int vl), .val (.int v0), .val (.int v1), .val (.int v2), .val (.int (0 : Int32)), .val (.int (1 : Int32)), .unset, .unset, .unset, .unset, .unset, .unset, .unset, .unset, .unset] [(.int (1 : Int32))]) := fun t_ k_ => R457 t_ (XS.iload X0.here hx rfl (hb hby at_63) rfl k_)
        have R459 : Go p e below P s₁ (mkF m 68 #[.val (.int i0), .val (.int i1), .val (.int i2), .val (.int i3), .val (.int vl), .val (.int v0), .val (.int v1), .val (.int v2), .val (.int (0 : Int32)), .val (.int (1 : Int32)), .unset, .unset, .unset, .unset, .unset, .unset, .unset, .unset, .unset] []) := fun t_ k_ => R458 t_ (XS.ifNo X0.here hx rfl (hb hby at_65) rfl ((if0 _ _).trans (feq (by decide : ¬ ((1 : Int32) = (0 : Int32)))).1) k_)
        have R460 : Go p e below P s₁ (mkF m 70 #[.val (.int i0), .val (.int i1), .val (.int i2), .val (.int i3), .val (.int vl), .val (.int v0), .val (.int v1), .val (.int v2), .val (.int (0 : Int32)), .val (.int (1 : Int32)), .unset, .unset, .unset, .unset, .unset, .unset, .unset, .unset, .unset] [(.int vl)]) := fun t_ k_ => R459 t_ (XS.iload X0.here hx rfl (hb hby at_68) rfl k_)
        have R461 : Go p e below P s₁ (mkF m 72 #[.val (.int i0), .val (.int i1), .val (.int i2), .val (.int i3), .val (.int vl), .val (.int v0), .val (.int v1), .val (.int v2), .val (.int (0 : Int32)), .val (.int (1 : Int32)), .val (.int vl), .unset, .unset, .unset, .unset, .unset, .unset, .unset, .unset] []) := fun t_ k_ => R460 t_ (XS.istore X0.here hx rfl (hb hby at_70) rfl (l' := #[.val (.int i0), .val (.int i1), .val (.int i2), .val (.int i3), .val (.int vl), .val (.int v0), .val (.int v1), .val (.int v2), .val (.int (0 : Int32)), .val (.int (1 : Int32)), .val (.int vl), .unset, .unset, .unset, .unset, .unset, .unset, .unset, .unset]) rfl k_)
        have R462 : Go p e below P s₁ (mkF m 74 #[.val (.int i0), .val (.int i1), .val (.int i2), .val (.int i3), .val (.int vl), .val (.int v0), .val (.int v1), .val (.int v2), .val (.int (0 : Int32)), .val (.int (1 : Int32)), .val (.int vl), .unset, .unset, .unset, .unset, .unset, .unset, .unset, .unset] [(.int v0)]) := fun t_ k_ => R461 t_ (XS.iload X0.here hx rfl (hb hby at_72) rfl k_)
        have R463 : Go p e below P s₁ (mkF m 76 #[.val (.int i0), .val (.int i1), .val (.int i2), .val (.int i3), .val (.int vl), .val (.int v0), .val (.int v1), .val (.int v2), .val (.int (0 : Int32)), .val (.int (1 : Int32)), .val (.int vl), .val (.int v0), .unset, .unset, .unset, .unset, .unset, .unset, .unset] []) := fun t_ k_ => R462 t_ (XS.istore X0.here hx rfl (hb hby at_74) rfl (l' := #[.val (.int i0), .val (.int i1), .val (.int i2), .val (.int i3), .val (.int vl), .val (.int v0), .val (.int v1), .val (.int v2), .val (.int (0 : Int32)), .val (.int (1 : Int32)), .val (.int vl), .val (.int v0), .unset, .unset, .unset, .unset, .unset, .unset, .unset]) rfl k_)
        have R464 : Go p e below P s₁ (mkF m 78 #[.val (.int i0), .val (.int i1), .val (.int i2), .val (.int i3), .val (.int vl), .val (.int v0), .val (.int v1), .val (.int v2), .val (.int (0 : Int32)), .val (.int (1 : Int32)), .val (.int vl), .val (.int v0), .unset, .unset, .unset, .unset, .unset, .unset, .unset] [(.int v1)]) := fun t_ k_ => R463 t_ (XS.iload X0.here hx rfl (hb hby at_76) rfl k_)
        have R465 : Go p e below P s₁ (mkF m 80 #[.val (.int i0), .val (.int i1), .val (.int i2), .val (.int i3), .val (.int vl), .val (.int v0), .val (.int v1), .val (.int v2), .val (.int (0 : Int32)), .val (.int (1 : Int32)), .val (.int vl), .val (.int v0), .val (.int v1), .unset, .unset, .unset, .unset, .unset, .unset] []) := fun t_ k_ => R464 t_ (XS.istore X0.here hx rfl (hb hby at_78) rfl (l' := #[.val (.int i0), .val (.int i1), .val (.int i2), .val (.int i3), .val (.int vl), .val (.int v0), .val (.int v1), .val (.int v2), .val (.int (0 : Int32)), .val (.int (1 : Int32)), .val (.int vl), .val (.int v0), .val (.int v1), .unset, .unset, .unset, .unset, .unset, .unset]) rfl k_)
        have R466 : Go p e below P s₁ (mkF m 82 #[.val (.int i0), .val (.int i1), .val (.int i2), .val (.int i3), .val (.int vl), .val (.int v0), .val (.int v1), .val (.int v2), .val (.int (0 : Int32)), .val (.int (1 : Int32)), .val (.int vl), .val (.int v0), .val (.int v1), .unset, .unset, .unset, .unset, .unset, .unset] [(.int v2)]) := fun t_ k_ => R465 t_ (XS.iload X0.here hx rfl (hb hby at_80) rfl k_)
        have R467 : Go p e below P s₁ (mkF m 84 #[.val (.int i0), .val (.int i1), .val (.int i2), .val (.int i3), .val (.int vl), .val (.int v0), .val (.int v1), .val (.int v2), .val (.int (0 : Int32)), .val (.int (1 : Int32)), .val (.int vl), .val (.int v0), .val (.int v1), .val (.int v2), .unset, .unset, .unset, .unset, .unset] []) := fun t_ k_ => R466 t_ (XS.istore X0.here hx rfl (hb hby at_82) rfl (l' := #[.val (.int i0), .val (.int i1), .val (.int i2), .val (.int i3), .val (.int vl), .val (.int v0), .val (.int v1), .val (.int v2), .val (.int (0 : Int32)), .val (.int (1 : Int32)), .val (.int vl), .val (.int v0), .val (.int v1), .val (.int v2), .unset, .unset, .unset, .unset, .unset]) rfl k_)
        have R468 : Go p e below P s₁ (mkF m 124 #[.val (.int i0), .val (.int i1), .val (.int i2), .val (.int i3), .val (.int vl), .val (.int v0), .val (.int v1), .val (.int v2), .val (.int (0 : Int32)), .val (.int (1 : Int32)), .val (.int vl), .val (.int v0), .val (.int v1), .val (.int v2), .unset, .unset, .unset, .unset, .unset] []) := fun t_ k_ => R467 t_ (XS.goto X0.here hx rfl (pc0 := 84) (pc' := 124) rfl (hb hby at_84) (by decide) (by decide) k_)
        exact ⟨(1 : Int32), vl, v0, v1, v2, ⟨rvl, cv0, cv1, cv2⟩, R468⟩
    obtain ⟨rel, ce0, ce1, ce2⟩ := hj419
    have R469 : Go p e below P s₁ (mkF m 126 #[.val (.int i0), .val (.int i1), .val (.int i2), .val (.int i3), .val (.int vl), .val (.int v0), .val (.int v1), .val (.int v2), .val (.int (0 : Int32)), .val (.int cpf), .val (.int el), .val (.int e0_), .val (.int e1_), .val (.int e2_), .unset, .unset, .unset, .unset, .unset] [(.int vl)]) := fun t_ k_ => R418 t_ (XS.iload X0.here hx rfl (hb hby at_124) rfl k_)
    have R470 : Go p e below P s₁ (mkF m 128 #[.val (.int i0), .val (.int i1), .val (.int i2), .val (.int i3), .val (.int vl), .val (.int v0), .val (.int v1), .val (.int v2), .val (.int (0 : Int32)), .val (.int cpf), .val (.int el), .val (.int e0_), .val (.int e1_), .val (.int e2_), .unset, .unset, .unset, .unset, .unset] [(.int v0), (.int vl)]) := fun t_ k_ => R469 t_ (XS.iload X0.here hx rfl (hb hby at_126) rfl k_)
    have R471 : Go p e below P s₁ (mkF m 130 #[.val (.int i0), .val (.int i1), .val (.int i2), .val (.int i3), .val (.int vl), .val (.int v0), .val (.int v1), .val (.int v2), .val (.int (0 : Int32)), .val (.int cpf), .val (.int el), .val (.int e0_), .val (.int e1_), .val (.int e2_), .unset, .unset, .unset, .unset, .unset] [(.int v1), (.int v0), (.int vl)]) := fun t_ k_ => R470 t_ (XS.iload X0.here hx rfl (hb hby at_128) rfl k_)
    have R472 : Go p e below P s₁ (mkF m 132 #[.val (.int i0), .val (.int i1), .val (.int i2), .val (.int i3), .val (.int vl), .val (.int v0), .val (.int v1), .val (.int v2), .val (.int (0 : Int32)), .val (.int cpf), .val (.int el), .val (.int e0_), .val (.int e1_), .val (.int e2_), .unset, .unset, .unset, .unset, .unset] [(.int v2), (.int v1), (.int v0), (.int vl)]) := fun t_ k_ => R471 t_ (XS.iload X0.here hx rfl (hb hby at_130) rfl k_)
    obtain ⟨rv473, _, ⟨T473, L473, k473, n473⟩, -, X473, hT473, hG473, ⟨Lc473, hQ473, l473, y473, z473, hC473⟩, st473⟩ := callSS X0 hx (y := (⟨"com/example/interleave/interleave/engine/CheckValueHeldPinLaw", "mk", "(ICCC)Ljava/lang/String;"⟩ : MethodName)) hown (mvT hZ (hw _ (List.mem_of_getElem? (i := 0) rfl))) (mvT hZ (hw _ (List.mem_of_getElem? (i := 1) rfl))) (mvT hZ (hw _ (List.mem_of_getElem? (i := 2) rfl))) (mvT hZ (hw _ (List.mem_of_getElem? (i := 3) rfl))) (by decide) (backOfSH (W := 0) (mk_ l Z a0 hw [] vl v0 v1 v2 zc h0 n0 O0 hEL P0 hzc cv0 cv1 cv2) hZ (hw _ (List.mem_of_getElem? (i := 3) rfl)) (hw _ (List.mem_of_getElem? (i := 2) rfl)) (by decide) (by decide) hEL C0.1) (g := (mkF m 132 #[.val (.int i0), .val (.int i1), .val (.int i2), .val (.int i3), .val (.int vl), .val (.int v0), .val (.int v1), .val (.int v2), .val (.int (0 : Int32)), .val (.int cpf), .val (.int el), .val (.int e0_), .val (.int e1_), .val (.int e2_), .unset, .unset, .unset, .unset, .unset] [(.int v2), (.int v1), (.int v0), (.int vl)])) rfl (by rw [hml]; rfl) (argsL := [(.int vl), (.int v0), (.int v1), (.int v2)]) (rest := []) (lenOf pd_13925964 rfl) rfl (by show 2 * 0 + _ ≤ _; exact Nat.le_of_eq rfl) (hb hby at_132) (fun _ _ => ⟨rfl, e0, (by decide : 0 + 6 ≤ _), (by decide : 0 + 12 ≤ _)⟩)
    dsimp only [Pt.U, Pt.locs, Pt.cells, Pt.slots] at X473 hT473 hG473 l473 y473 z473 hC473 st473 hQ473
    subst l473 y473 z473
    obtain ⟨X473, hS473, hZ, hown⟩ := rebS hS0 (by rw [e0]; exact hk0) X473 hT473 hG473 hZ hown
    have hk473 : T473.heap.size ≤ T473.heap.size := Nat.le_refl _
    obtain ⟨x_473, t_473, kb_473, rfl, N473q, K473, p473_0, p473_1, p473_2, p473_3, p473_4⟩ := hQ473
    have N473 := Fr.app N0 N473q
    have O473 := O0.keep K473 all0
    have C474 := C0.trans hC473
    have R475 : Go p e below P T473 (mkF m 135 #[.val (.int i0), .val (.int i1), .val (.int i2), .val (.int i3), .val (.int vl), .val (.int v0), .val (.int v1), .val (.int v2), .val (.int (0 : Int32)), .val (.int cpf), .val (.int el), .val (.int e0_), .val (.int e1_), .val (.int e2_), .unset, .unset, .unset, .unset, .unset] [(.ref x_473)]) := fun t_ k_ => R472 t_ (st473.trans k_)
    have R476 : Go p e below P T473 (mkF m 137 #[.val (.int i0), .val (.int i1), .val (.int i2), .val (.int i3), .val (.int vl), .val (.int v0), .val (.int v1), .val (.int v2), .val (.int (0 : Int32)), .val (.int cpf), .val (.int el), .val (.int e0_), .val (.int e1_), .val (.int e2_), .val (.ref x_473), .unset, .unset, .unset, .unset] []) := fun t_ k_ => R475 t_ (XS.astore X473.here hx rfl (hb hby at_135) rfl rfl (l' := #[.val (.int i0), .val (.int i1), .val (.int i2), .val (.int i3), .val (.int vl), .val (.int v0), .val (.int v1), .val (.int v2), .val (.int (0 : Int32)), .val (.int cpf), .val (.int el), .val (.int e0_), .val (.int e1_), .val (.int e2_), .val (.ref x_473), .unset, .unset, .unset, .unset]) rfl k_)
    have R477 : Go p e below P T473 (mkF m 139 #[.val (.int i0), .val (.int i1), .val (.int i2), .val (.int i3), .val (.int vl), .val (.int v0), .val (.int v1), .val (.int v2), .val (.int (0 : Int32)), .val (.int cpf), .val (.int el), .val (.int e0_), .val (.int e1_), .val (.int e2_), .val (.ref x_473), .unset, .unset, .unset, .unset] [(.int el)]) := fun t_ k_ => R476 t_ (XS.iload X473.here hx rfl (hb hby at_137) rfl k_)
    have R478 : Go p e below P T473 (mkF m 141 #[.val (.int i0), .val (.int i1), .val (.int i2), .val (.int i3), .val (.int vl), .val (.int v0), .val (.int v1), .val (.int v2), .val (.int (0 : Int32)), .val (.int cpf), .val (.int el), .val (.int e0_), .val (.int e1_), .val (.int e2_), .val (.ref x_473), .unset, .unset, .unset, .unset] [(.int e0_), (.int el)]) := fun t_ k_ => R477 t_ (XS.iload X473.here hx rfl (hb hby at_139) rfl k_)
    have R479 : Go p e below P T473 (mkF m 143 #[.val (.int i0), .val (.int i1), .val (.int i2), .val (.int i3), .val (.int vl), .val (.int v0), .val (.int v1), .val (.int v2), .val (.int (0 : Int32)), .val (.int cpf), .val (.int el), .val (.int e0_), .val (.int e1_), .val (.int e2_), .val (.ref x_473), .unset, .unset, .unset, .unset] [(.int e1_), (.int e0_), (.int el)]) := fun t_ k_ => R478 t_ (XS.iload X473.here hx rfl (hb hby at_141) rfl k_)
    have R480 : Go p e below P T473 (mkF m 145 #[.val (.int i0), .val (.int i1), .val (.int i2), .val (.int i3), .val (.int vl), .val (.int v0), .val (.int v1), .val (.int v2), .val (.int (0 : Int32)), .val (.int cpf), .val (.int el), .val (.int e0_), .val (.int e1_), .val (.int e2_), .val (.ref x_473), .unset, .unset, .unset, .unset] [(.int e2_), (.int e1_), (.int e0_), (.int el)]) := fun t_ k_ => R479 t_ (XS.iload X473.here hx rfl (hb hby at_143) rfl k_)
    obtain ⟨rv481, _, ⟨T481, L481, k481, n481⟩, -, X481, hT481, hG481, ⟨Lc481, hQ481, l481, y481, z481, hC481⟩, st481⟩ := callSS X473 hx (y := (⟨"com/example/interleave/interleave/engine/CheckValueHeldPinLaw", "mk", "(ICCC)Ljava/lang/String;"⟩ : MethodName)) hown (mvT hZ (hw _ (List.mem_of_getElem? (i := 0) rfl))) (mvT hZ (hw _ (List.mem_of_getElem? (i := 1) rfl))) (mvT hZ (hw _ (List.mem_of_getElem? (i := 2) rfl))) (mvT hZ (hw _ (List.mem_of_getElem? (i := 3) rfl))) (by decide) (backOfSH (W := 0) (mk_ l Z a0 hw [] el e0_ e1_ e2_ zc T473.heap n0 O473 hEL P0 hzc ce0 ce1 ce2) hZ (hw _ (List.mem_of_getElem? (i := 3) rfl)) (hw _ (List.mem_of_getElem? (i := 2) rfl)) (by decide) (by decide) hEL C474.1) (g := (mkF m 145 #[.val (.int i0), .val (.int i1), .val (.int i2), .val (.int i3), .val (.int vl), .val (.int v0), .val (.int v1), .val (.int v2), .val (.int (0 : Int32)), .val (.int cpf), .val (.int el), .val (.int e0_), .val (.int e1_), .val (.int e2_), .val (.ref x_473), .unset, .unset, .unset, .unset] [(.int e2_), (.int e1_), (.int e0_), (.int el)])) rfl (by rw [hml]; rfl) (argsL := [(.int el), (.int e0_), (.int e1_), (.int e2_)]) (rest := []) (lenOf pd_13925964 rfl) rfl (by show 2 * 0 + _ ≤ _; exact Nat.le_of_eq rfl) (hb hby at_145) (fun _ _ => ⟨rfl, (rfl : T473.heap = T473.heap), (by decide : 6 + 6 ≤ _), (by decide : 12 + 12 ≤ _)⟩)
    dsimp only [Pt.U, Pt.locs, Pt.cells, Pt.slots] at X481 hT481 hG481 l481 y481 z481 hC481 st481 hQ481
    subst l481 y481 z481
    obtain ⟨X481, hS481, hZ, hown⟩ := rebS hS473 (by rw [(rfl : T473.heap = T473.heap)]; exact hk473) X481 hT481 hG481 hZ hown
    have hk481 : T481.heap.size ≤ T481.heap.size := Nat.le_refl _
    obtain ⟨x_481, t_481, kb_481, rfl, N481q, K481, p481_0, p481_1, p481_2, p481_3, p481_4⟩ := hQ481
    have N481 := Fr.app N473 N481q
    have O481 := O473.keep K481 all0
    have C482 := C474.trans hC481
    have R483 : Go p e below P T481 (mkF m 148 #[.val (.int i0), .val (.int i1), .val (.int i2), .val (.int i3), .val (.int vl), .val (.int v0), .val (.int v1), .val (.int v2), .val (.int (0 : Int32)), .val (.int cpf), .val (.int el), .val (.int e0_), .val (.int e1_), .val (.int e2_), .val (.ref x_473), .unset, .unset, .unset, .unset] [(.ref x_481)]) := fun t_ k_ => R480 t_ (st481.trans k_)
    have R484 : Go p e below P T481 (mkF m 150 #[.val (.int i0), .val (.int i1), .val (.int i2), .val (.int i3), .val (.int vl), .val (.int v0), .val (.int v1), .val (.int v2), .val (.int (0 : Int32)), .val (.int cpf), .val (.int el), .val (.int e0_), .val (.int e1_), .val (.int e2_), .val (.ref x_473), .val (.ref x_481), .unset, .unset, .unset] []) := fun t_ k_ => R483 t_ (XS.astore X481.here hx rfl (hb hby at_148) rfl rfl (l' := #[.val (.int i0), .val (.int i1), .val (.int i2), .val (.int i3), .val (.int vl), .val (.int v0), .val (.int v1), .val (.int v2), .val (.int (0 : Int32)), .val (.int cpf), .val (.int el), .val (.int e0_), .val (.int e1_), .val (.int e2_), .val (.ref x_473), .val (.ref x_481), .unset, .unset, .unset]) rfl k_)
    have R485 : Go p e below P T481 (mkF m 152 #[.val (.int i0), .val (.int i1), .val (.int i2), .val (.int i3), .val (.int vl), .val (.int v0), .val (.int v1), .val (.int v2), .val (.int (0 : Int32)), .val (.int cpf), .val (.int el), .val (.int e0_), .val (.int e1_), .val (.int e2_), .val (.ref x_473), .val (.ref x_481), .unset, .unset, .unset] [(.int (0 : Int32))]) := fun t_ k_ => R484 t_ (XS.iload X481.here hx rfl (hb hby at_150) rfl k_)
    have R486 : Go p e below P T481 (mkF m 163 #[.val (.int i0), .val (.int i1), .val (.int i2), .val (.int i3), .val (.int vl), .val (.int v0), .val (.int v1), .val (.int v2), .val (.int (0 : Int32)), .val (.int cpf), .val (.int el), .val (.int e0_), .val (.int e1_), .val (.int e2_), .val (.ref x_473), .val (.ref x_481), .unset, .unset, .unset] []) := fun t_ k_ => R485 t_ (XS.ifYes X481.here hx rfl (pc0 := 152) (pc' := 163) rfl (hb hby at_152) rfl ((if0 _ _).trans (teq rfl).1) (by decide) (by decide) k_)
    obtain ⟨rv487, _, ⟨T487, L487, k487, n487⟩, -, X487, ⟨Lc487, hQ487, l487, y487, z487⟩, st487⟩ := Jvm.LawKit.callS X481 hx (y := (⟨"java/util/Optional", "empty", "()Ljava/util/Optional;"⟩ : MethodName)) hown (mvT hZ (hw _ (List.mem_of_getElem? (i := 88) rfl))) (mvT hZ (hw _ (List.mem_of_getElem? (i := 89) rfl))) (mvT hZ (hw _ (List.mem_of_getElem? (i := 36) rfl))) (mvT hZ (hw _ (List.mem_of_getElem? (i := 90) rfl))) (by decide) (backOf (W := 0) (oempty_ l Z a0 hw [] wE T481.heap n0 O481 P1) hZ (hw _ (List.mem_of_getElem? (i := 90) rfl)) (hw _ (List.mem_of_getElem? (i := 36) rfl)) (by decide) (by decide)) (g := (mkF m 163 #[.val (.int i0), .val (.int i1), .val (.int i2), .val (.int i3), .val (.int vl), .val (.int v0), .val (.int v1), .val (.int v2), .val (.int (0 : Int32)), .val (.int cpf), .val (.int el), .val (.int e0_), .val (.int e1_), .val (.int e2_), .val (.ref x_473), .val (.ref x_481), .unset, .unset, .unset] [])) rfl (by rw [hml]; rfl) (argsL := []) (rest := []) (lenOf pd_73631591 rfl) rfl (by show 2 * 0 + _ ≤ _; exact Nat.le_of_eq rfl) (hb hby at_163) (fun _ _ => ⟨rfl, (rfl : T481.heap = T481.heap), (by decide : 12 + 0 ≤ _), (by decide : 24 + 0 ≤ _)⟩)
    dsimp only [Pt.U, Pt.locs, Pt.cells, Pt.slots] at X487 l487 y487 z487 st487 hQ487
    subst l487 y487 z487
    obtain ⟨rfl, N487q, K487⟩ := hQ487
    have N487 := Fr.app N481 N487q
    have R488 : Go p e below P T487 (mkF m 166 #[.val (.int i0), .val (.int i1), .val (.int i2), .val (.int i3), .val (.int vl), .val (.int v0), .val (.int v1), .val (.int v2), .val (.int (0 : Int32)), .val (.int cpf), .val (.int el), .val (.int e0_), .val (.int e1_), .val (.int e2_), .val (.ref x_473), .val (.ref x_481), .unset, .unset, .unset] [(.ref wE)]) := fun t_ k_ => R486 t_ (st487 t_ k_)
    have R489 : Go p e below P T487 (mkF m 168 #[.val (.int i0), .val (.int i1), .val (.int i2), .val (.int i3), .val (.int vl), .val (.int v0), .val (.int v1), .val (.int v2), .val (.int (0 : Int32)), .val (.int cpf), .val (.int el), .val (.int e0_), .val (.int e1_), .val (.int e2_), .val (.ref x_473), .val (.ref x_481), .val (.ref wE), .unset, .unset] []) := fun t_ k_ => R488 t_ (XS.astore X487.here hx rfl (hb hby at_166) rfl rfl (l' := #[.val (.int i0), .val (.int i1), .val (.int i2), .val (.int i3), .val (.int vl), .val (.int v0), .val (.int v1), .val (.int v2), .val (.int (0 : Int32)), .val (.int cpf), .val (.int el), .val (.int e0_), .val (.int e1_), .val (.int e2_), .val (.ref x_473), .val (.ref x_481), .val (.ref wE), .unset, .unset]) rfl k_)
    obtain ⟨T490, h490, X490, e490, E490, A490, D490, -, st490⟩ := newO X487 hx hZ hown (hw _ (List.mem_of_getElem? (i := 51) rfl)) (hw _ (List.mem_of_getElem? (i := 52) rfl)) (hw _ (List.mem_of_getElem? (i := 53) rfl)) K487 (g := (mkF m 168 #[.val (.int i0), .val (.int i1), .val (.int i2), .val (.int i3), .val (.int vl), .val (.int v0), .val (.int v1), .val (.int v2), .val (.int (0 : Int32)), .val (.int cpf), .val (.int el), .val (.int e0_), .val (.int e1_), .val (.int e2_), .val (.ref x_473), .val (.ref x_481), .val (.ref wE), .unset, .unset] [])) rfl (hb hby at_168) (by decide) (by decide)
    obtain ⟨b490, g490⟩ : ∃ z, z = T481.heap.size := ⟨_, rfl⟩
    rw [← g490] at A490 D490 st490
    have O490 := O481.ext E490
    have C491 := C482.trans (CHr.ext E490 C482.1)
    have hk491 := Nat.le_trans hk481 E490.1
    have Sb490 : Safe Z EL0 _ _ _ := Safe.ext E490 C482.1 (Safe.new (Nat.le_of_eq g490.symm))
    have F490_59 : Fld Z h490 b490 "com/example/interleave/interleave/engine/CheckValue" "number" "I" (.int (0 : Int32)) := D490 (Or.inr (hw _ (List.mem_of_getElem? (i := 59) rfl))) (ty := .int) (by decide)
    have F490_61 : Fld Z h490 b490 "com/example/interleave/interleave/engine/CheckValue" "value" "Ljava/lang/String;" .null := D490 (Or.inr (hw _ (List.mem_of_getElem? (i := 61) rfl))) (ty := (.object "java/lang/String")) (by decide)
    have F490_69 : Fld Z h490 b490 "com/example/interleave/interleave/engine/CheckValue" "expected" "Ljava/lang/String;" .null := D490 (Or.inr (hw _ (List.mem_of_getElem? (i := 69) rfl))) (ty := (.object "java/lang/String")) (by decide)
    have R492 : Go p e below P T490 (mkF m 171 #[.val (.int i0), .val (.int i1), .val (.int i2), .val (.int i3), .val (.int vl), .val (.int v0), .val (.int v1), .val (.int v2), .val (.int (0 : Int32)), .val (.int cpf), .val (.int el), .val (.int e0_), .val (.int e1_), .val (.int e2_), .val (.ref x_473), .val (.ref x_481), .val (.ref wE), .unset, .unset] [(.ref b490)]) := fun t_ k_ => R489 t_ (st490 t_ k_)
    have R493 : Go p e below P T490 (mkF m 172 #[.val (.int i0), .val (.int i1), .val (.int i2), .val (.int i3), .val (.int vl), .val (.int v0), .val (.int v1), .val (.int v2), .val (.int (0 : Int32)), .val (.int cpf), .val (.int el), .val (.int e0_), .val (.int e1_), .val (.int e2_), .val (.ref x_473), .val (.ref x_481), .val (.ref wE), .unset, .unset] [(.ref b490), (.ref b490)]) := fun t_ k_ => R492 t_ (XS.dup X490.here hx rfl (hb hby at_171) rfl rfl k_)
    have R494 : Go p e below P T490 (mkF m 173 #[.val (.int i0), .val (.int i1), .val (.int i2), .val (.int i3), .val (.int vl), .val (.int v0), .val (.int v1), .val (.int v2), .val (.int (0 : Int32)), .val (.int cpf), .val (.int el), .val (.int e0_), .val (.int e1_), .val (.int e2_), .val (.ref x_473), .val (.ref x_481), .val (.ref wE), .unset, .unset] [(.int i0), (.ref b490), (.ref b490)]) := fun t_ k_ => R493 t_ (XS.iloadN X490.here hx rfl (hb hby at_172) rfl k_)
    have R495 : Go p e below P T490 (mkF m 175 #[.val (.int i0), .val (.int i1), .val (.int i2), .val (.int i3), .val (.int vl), .val (.int v0), .val (.int v1), .val (.int v2), .val (.int (0 : Int32)), .val (.int cpf), .val (.int el), .val (.int e0_), .val (.int e1_), .val (.int e2_), .val (.ref x_473), .val (.ref x_481), .val (.ref wE), .unset, .unset] [(.ref x_473), (.int i0), (.ref b490), (.ref b490)]) := fun t_ k_ => R494 t_ (XS.aload X490.here hx rfl (hb hby at_173) rfl rfl k_)
    have R496 : Go p e below P T490 (mkF m 177 #[.val (.int i0), .val (.int i1), .val (.int i2), .val (.int i3), .val (.int vl), .val (.int v0), .val (.int v1), .val (.int v2), .val (.int (0 : Int32)), .val (.int cpf), .val (.int el), .val (.int e0_), .val (.int e1_), .val (.int e2_), .val (.ref x_473), .val (.ref x_481), .val (.ref wE), .unset, .unset] [(.ref wE), (.ref x_473), (.int i0), (.ref b490), (.ref b490)]) := fun t_ k_ => R495 t_ (XS.aload X490.here hx rfl (hb hby at_175) rfl rfl k_)
    have Sw497 : Safe Z EL0 _ _ b490 := Sb490
    obtain ⟨rv498, _, ⟨T498, L498, k498, n498⟩, -, X498, ⟨Lc498, hQ498, l498, y498, z498⟩, st498⟩ := X490.specialBack hx (y := (⟨"com/example/interleave/interleave/engine/CheckValue", "<init>", "(ILjava/lang/String;Ljava/util/Optional;)V"⟩ : MethodName)) rfl hown (mvT hZ (hw _ (List.mem_of_getElem? (i := 54) rfl))) (mvT hZ (hw _ (List.mem_of_getElem? (i := 55) rfl))) (mvT hZ (hw _ (List.mem_of_getElem? (i := 56) rfl))) (by decide) (backOf (W := 1) (cvE_ l Z a0 hw [] b490 i0 x_473 wE h490 n0 O490 A490 F490_59 F490_61 F490_69 (Nat.le_trans (oldLe O481) (Nat.le_of_eq g490.symm)) (P2.ext O490.2) (P3.ext O490.2) (Old.ne O481 P2.lt (Nat.le_trans (oldLe O481) (Nat.le_of_eq g490.symm)))) hZ (hw _ (List.mem_of_getElem? (i := 56) rfl)) (hw _ (List.mem_of_getElem? (i := 53) rfl)) (by decide) (by decide)) (g := (mkF m 177 #[.val (.int i0), .val (.int i1), .val (.int i2), .val (.int i3), .val (.int vl), .val (.int v0), .val (.int v1), .val (.int v2), .val (.int (0 : Int32)), .val (.int cpf), .val (.int el), .val (.int e0_), .val (.int e1_), .val (.int e2_), .val (.ref x_473), .val (.ref x_481), .val (.ref wE), .unset, .unset] [(.ref wE), (.ref x_473), (.int i0), (.ref b490), (.ref b490)])) rfl (by rw [hml]; rfl) (Steps.refl _) (a := b490) (argsL := [(.int i0), (.ref x_473), (.ref wE)]) (rest := [(.ref b490)]) (lenOf pd_32923742 rfl) rfl (by show 2 * 0 + _ ≤ _; exact Nat.le_of_eq rfl) (hb hby at_177) (fun _ _ => ⟨rfl, e490, (by decide : 13 + 0 ≤ _), (by decide : 27 + 0 ≤ _)⟩)
    dsimp only [Pt.U, Pt.locs, Pt.cells, Pt.slots] at X498 l498 y498 z498 st498 hQ498
    subst l498 y498 z498
    obtain ⟨rfl, N498q, K498, p498_0, p498_1, p498_2, p498_3⟩ := hQ498
    have N498 := Fr.app N487 N498q
    have O498 := O490.keep K498 (allS (Nat.le_trans (oldLe O481) (Nat.le_of_eq g490.symm)) all0)
    have C499 := C491.trans (CHr.keep K498 (sfS Sw497 sf0) C491.1)
    have hk499 := Nat.le_trans hk491 K498.1
    have R500 : Go p e below P T498 (mkF m 180 #[.val (.int i0), .val (.int i1), .val (.int i2), .val (.int i3), .val (.int vl), .val (.int v0), .val (.int v1), .val (.int v2), .val (.int (0 : Int32)), .val (.int cpf), .val (.int el), .val (.int e0_), .val (.int e1_), .val (.int e2_), .val (.ref x_473), .val (.ref x_481), .val (.ref wE), .unset, .unset] [(.ref b490)]) := fun t_ k_ => R496 t_ (st498.trans k_)
    have R501 : Go p e below P T498 (mkF m 182 #[.val (.int i0), .val (.int i1), .val (.int i2), .val (.int i3), .val (.int vl), .val (.int v0), .val (.int v1), .val (.int v2), .val (.int (0 : Int32)), .val (.int cpf), .val (.int el), .val (.int e0_), .val (.int e1_), .val (.int e2_), .val (.ref x_473), .val (.ref x_481), .val (.ref wE), .val (.ref b490), .unset] []) := fun t_ k_ => R500 t_ (XS.astore X498.here hx rfl (hb hby at_180) rfl rfl (l' := #[.val (.int i0), .val (.int i1), .val (.int i2), .val (.int i3), .val (.int vl), .val (.int v0), .val (.int v1), .val (.int v2), .val (.int (0 : Int32)), .val (.int cpf), .val (.int el), .val (.int e0_), .val (.int e1_), .val (.int e2_), .val (.ref x_473), .val (.ref x_481), .val (.ref wE), .val (.ref b490), .unset]) rfl k_)
    have R502 : Go p e below P T498 (mkF m 184 #[.val (.int i0), .val (.int i1), .val (.int i2), .val (.int i3), .val (.int vl), .val (.int v0), .val (.int v1), .val (.int v2), .val (.int (0 : Int32)), .val (.int cpf), .val (.int el), .val (.int e0_), .val (.int e1_), .val (.int e2_), .val (.ref x_473), .val (.ref x_481), .val (.ref wE), .val (.ref b490), .unset] [(.int (0 : Int32))]) := fun t_ k_ => R501 t_ (XS.iload X498.here hx rfl (hb hby at_182) rfl k_)
    have R503 : Go p e below P T498 (mkF m 209 #[.val (.int i0), .val (.int i1), .val (.int i2), .val (.int i3), .val (.int vl), .val (.int v0), .val (.int v1), .val (.int v2), .val (.int (0 : Int32)), .val (.int cpf), .val (.int el), .val (.int e0_), .val (.int e1_), .val (.int e2_), .val (.ref x_473), .val (.ref x_481), .val (.ref wE), .val (.ref b490), .unset] []) := fun t_ k_ => R502 t_ (XS.ifYes X498.here hx rfl (pc0 := 184) (pc' := 209) rfl (hb hby at_184) rfl ((if0 _ _).trans (teq rfl).1) (by decide) (by decide) k_)
    have R504 : Go p e below P T498 (mkF m 210 #[.val (.int i0), .val (.int i1), .val (.int i2), .val (.int i3), .val (.int vl), .val (.int v0), .val (.int v1), .val (.int v2), .val (.int (0 : Int32)), .val (.int cpf), .val (.int el), .val (.int e0_), .val (.int e1_), .val (.int e2_), .val (.ref x_473), .val (.ref x_481), .val (.ref wE), .val (.ref b490), .unset] [(.int (1 : Int32))]) := fun t_ k_ => R503 t_ (XS.iconst X498.here hx rfl (hb hby at_209) k_)
    have R505 : Go p e below P T498 (mkF m 214 #[.val (.int i0), .val (.int i1), .val (.int i2), .val (.int i3), .val (.int vl), .val (.int v0), .val (.int v1), .val (.int v2), .val (.int (0 : Int32)), .val (.int cpf), .val (.int el), .val (.int e0_), .val (.int e1_), .val (.int e2_), .val (.ref x_473), .val (.ref x_481), .val (.ref wE), .val (.ref b490), .unset] [(.int (1 : Int32))]) := fun t_ k_ => R504 t_ (XS.goto X498.here hx rfl (pc0 := 210) (pc' := 214) rfl (hb hby at_210) (by decide) (by decide) k_)
    have R506 : Go p e below P T498 (mkF m 216 #[.val (.int i0), .val (.int i1), .val (.int i2), .val (.int i3), .val (.int vl), .val (.int v0), .val (.int v1), .val (.int v2), .val (.int (0 : Int32)), .val (.int cpf), .val (.int el), .val (.int e0_), .val (.int e1_), .val (.int e2_), .val (.ref x_473), .val (.ref x_481), .val (.ref wE), .val (.ref b490), .val (.int (1 : Int32))] []) := fun t_ k_ => R505 t_ (XS.istore X498.here hx rfl (hb hby at_214) rfl (l' := #[.val (.int i0), .val (.int i1), .val (.int i2), .val (.int i3), .val (.int vl), .val (.int v0), .val (.int v1), .val (.int v2), .val (.int (0 : Int32)), .val (.int cpf), .val (.int el), .val (.int e0_), .val (.int e1_), .val (.int e2_), .val (.ref x_473), .val (.ref x_481), .val (.ref wE), .val (.ref b490), .val (.int (1 : Int32))]) rfl k_)
    have R507 : Go p e below P T498 (mkF m 218 #[.val (.int i0), .val (.int i1), .val (.int i2), .val (.int i3), .val (.int vl), .val (.int v0), .val (.int v1), .val (.int v2), .val (.int (0 : Int32)), .val (.int cpf), .val (.int el), .val (.int e0_), .val (.int e1_), .val (.int e2_), .val (.ref x_473), .val (.ref x_481), .val (.ref wE), .val (.ref b490), .val (.int (1 : Int32))] [(.ref b490)]) := fun t_ k_ => R506 t_ (XS.aload X498.here hx rfl (hb hby at_216) rfl rfl k_)
    obtain ⟨cq508, kq508, q508a, q508b, q508c⟩ := isOf hZ (rfl : T498.heap = T498.heap) p498_0
    obtain ⟨rv508, _, ⟨T508, L508, k508, n508⟩, -, X508, ⟨Lc508, hQ508, l508, y508, z508⟩, st508⟩ := X498.virtualBack hx (y := (⟨"com/example/interleave/interleave/engine/CheckValue", "held", "()Z"⟩ : MethodName)) (z := (⟨"com/example/interleave/interleave/engine/CheckValue", "held", "()Z"⟩ : MethodName)) hown (mvT hZ (hw _ (List.mem_of_getElem? (i := 73) rfl))) (mvT hZ (hw _ (List.mem_of_getElem? (i := 74) rfl))) (notFace_of_selects (args := #[]) (mvT hZ (hw _ (List.mem_of_getElem? (i := 76) rfl)))) (mvT hZ (hw _ (List.mem_of_getElem? (i := 76) rfl))) (mvT hZ (hw _ (List.mem_of_getElem? (i := 75) rfl))) (by decide) (backOf (W := 0) (heldN_ l Z a0 hw [] b490 T498.heap n0 O498 p498_3) hZ (hw _ (List.mem_of_getElem? (i := 77) rfl)) (hw _ (List.mem_of_getElem? (i := 53) rfl)) (by decide) (by decide)) q508a q508c (g := (mkF m 218 #[.val (.int i0), .val (.int i1), .val (.int i2), .val (.int i3), .val (.int vl), .val (.int v0), .val (.int v1), .val (.int v2), .val (.int (0 : Int32)), .val (.int cpf), .val (.int el), .val (.int e0_), .val (.int e1_), .val (.int e2_), .val (.ref x_473), .val (.ref x_481), .val (.ref wE), .val (.ref b490), .val (.int (1 : Int32))] [(.ref b490)])) rfl (by rw [hml]; rfl) (Steps.refl _) (argsL := []) (rest := []) (lenOf pd_16428538 rfl) rfl (by show 2 * 0 + _ ≤ _; exact Nat.le_of_eq rfl) (hb hby at_218) (fun _ _ => ⟨rfl, (rfl : T498.heap = T498.heap), (by decide : 13 + 0 ≤ _), (by decide : 27 + 0 ≤ _)⟩)
    dsimp only [Pt.U, Pt.locs, Pt.cells, Pt.slots] at X508 l508 y508 z508 st508 hQ508
    subst l508 y508 z508
    obtain ⟨rfl, N508q, K508⟩ := hQ508
    have N508 := Fr.app N498 N508q
    have R509 : Go p e below P T508 (mkF m 221 #[.val (.int i0), .val (.int i1), .val (.int i2), .val (.int i3), .val (.int vl), .val (.int v0), .val (.int v1), .val (.int v2), .val (.int (0 : Int32)), .val (.int cpf), .val (.int el), .val (.int e0_), .val (.int e1_), .val (.int e2_), .val (.ref x_473), .val (.ref x_481), .val (.ref wE), .val (.ref b490), .val (.int (1 : Int32))] [(.int (1 : Int32))]) := fun t_ k_ => R507 t_ (st508.trans k_)
    have R510 : Go p e below P T508 (mkF m 223 #[.val (.int i0), .val (.int i1), .val (.int i2), .val (.int i3), .val (.int vl), .val (.int v0), .val (.int v1), .val (.int v2), .val (.int (0 : Int32)), .val (.int cpf), .val (.int el), .val (.int e0_), .val (.int e1_), .val (.int e2_), .val (.ref x_473), .val (.ref x_481), .val (.ref wE), .val (.ref b490), .val (.int (1 : Int32))] [(.int (1 : Int32)), (.int (1 : Int32))]) := fun t_ k_ => R509 t_ (XS.iload X508.here hx rfl (hb hby at_221) rfl k_)
    have R511 : Go p e below P T508 (mkF m 226 #[.val (.int i0), .val (.int i1), .val (.int i2), .val (.int i3), .val (.int vl), .val (.int v0), .val (.int v1), .val (.int v2), .val (.int (0 : Int32)), .val (.int cpf), .val (.int el), .val (.int e0_), .val (.int e1_), .val (.int e2_), .val (.ref x_473), .val (.ref x_481), .val (.ref wE), .val (.ref b490), .val (.int (1 : Int32))] []) := fun t_ k_ => R510 t_ (XS.icmpNo X508.here hx rfl (hb hby at_223) rfl (teq rfl).2 k_)
    have R512 : Go p e below P T508 (mkF m 227 #[.val (.int i0), .val (.int i1), .val (.int i2), .val (.int i3), .val (.int vl), .val (.int v0), .val (.int v1), .val (.int v2), .val (.int (0 : Int32)), .val (.int cpf), .val (.int el), .val (.int e0_), .val (.int e1_), .val (.int e2_), .val (.ref x_473), .val (.ref x_481), .val (.ref wE), .val (.ref b490), .val (.int (1 : Int32))] [(.int (1 : Int32))]) := fun t_ k_ => R511 t_ (XS.iconst X508.here hx rfl (hb hby at_226) k_)
    have R513 : Go p e below P T508 (mkF m 231 #[.val (.int i0), .val (.int i1), .val (.int i2), .val (.int i3), .val (.int vl), .val (.int v0), .val (.int v1), .val (.int v2), .val (.int (0 : Int32)), .val (.int cpf), .val (.int el), .val (.int e0_), .val (.int e1_), .val (.int e2_), .val (.ref x_473), .val (.ref x_481), .val (.ref wE), .val (.ref b490), .val (.int (1 : Int32))] [(.int (1 : Int32))]) := fun t_ k_ => R512 t_ (XS.goto X508.here hx rfl (pc0 := 227) (pc' := 231) rfl (hb hby at_227) (by decide) (by decide) k_)
    obtain ⟨fs, hr, hrun, hended, hend⟩ := X508.leaveW hS481 (by rw [K508]; exact hk499 : _ ≤ T508.heap.size) (v := some (.int (nar .boolean (1 : Int32)))) (fun h => by rw [Bd.returns] at h; cases h)
    have hCe := C499.trans (CHv.at X508 hZ hEL C499.1)
    exact ⟨_, _, hP _ (R513 _ (retN X508 hx (t := .boolean) Bd.returns (by simp) (hb hby at_231) hr)), hrun, hended, _, _, rfl, ⟨rfl, N508, (K508.symm ▸ (((((Keep.refl h0 []).trans K473 all0).trans K481 all0).ext E490).trans K498 (allS (Or.inr (Nat.le_trans (((Keep.refl h0 []).trans K473 all0).trans K481 all0).1 (Nat.le_of_eq g490.symm))) all0)))⟩, (by show CHr Z EL0 s.vm s.heap T508.vm T508.heap; rw [hh, K508]; exact hCe), ⟨hend.1, hend.2.1, hend.2.2.1, hend.2.2.2.mono (by decide) (by decide)⟩⟩
  · have R514 : Go p e below P s₁ (mkF m 43 #[.val (.int i0), .val (.int i1), .val (.int i2), .val (.int i3), .val (.int vl), .val (.int v0), .val (.int v1), .val (.int v2), .unset, .unset, .unset, .unset, .unset, .unset, .unset, .unset, .unset, .unset, .unset] []) := fun t_ k_ => R413 t_ (XS.ifNo X0.here hx rfl (hb hby at_40) rfl ((if0 _ _).trans (feq hc414).1) k_)
    have R515 : Go p e below P s₁ (mkF m 44 #[.val (.int i0), .val (.int i1), .val (.int i2), .val (.int i3), .val (.int vl), .val (.int v0), .val (.int v1), .val (.int v2), .unset, .unset, .unset, .unset, .unset, .unset, .unset, .unset, .unset, .unset, .unset] [(.int (1 : Int32))]) := fun t_ k_ => R514 t_ (XS.iconst X0.here hx rfl (hb hby at_43) k_)
    have R516 : Go p e below P s₁ (mkF m 48 #[.val (.int i0), .val (.int i1), .val (.int i2), .val (.int i3), .val (.int vl), .val (.int v0), .val (.int v1), .val (.int v2), .unset, .unset, .unset, .unset, .unset, .unset, .unset, .unset, .unset, .unset, .unset] [(.int (1 : Int32))]) := fun t_ k_ => R515 t_ (XS.goto X0.here hx rfl (pc0 := 44) (pc' := 48) rfl (hb hby at_44) (by decide) (by decide) k_)
    have R517 : Go p e below P s₁ (mkF m 50 #[.val (.int i0), .val (.int i1), .val (.int i2), .val (.int i3), .val (.int vl), .val (.int v0), .val (.int v1), .val (.int v2), .val (.int (1 : Int32)), .unset, .unset, .unset, .unset, .unset, .unset, .unset, .unset, .unset, .unset] []) := fun t_ k_ => R516 t_ (XS.istore X0.here hx rfl (hb hby at_48) rfl (l' := #[.val (.int i0), .val (.int i1), .val (.int i2), .val (.int i3), .val (.int vl), .val (.int v0), .val (.int v1), .val (.int v2), .val (.int (1 : Int32)), .unset, .unset, .unset, .unset, .unset, .unset, .unset, .unset, .unset, .unset]) rfl k_)
    obtain ⟨cpf, el, e0_, e1_, e2_, hj519, R518⟩ : ∃ cpf : Int32, ∃ el : Int32, ∃ e0_ : Int32, ∃ e1_ : Int32, ∃ e2_ : Int32, ((0 ≤ el.toInt ∧ el.toInt < 4) ∧ (nar .char e0_ = e0_ ∧ ¬ e0_ < 0 ∧ ¬ (255 : Int32) < e0_) ∧ (nar .char e1_ = e1_ ∧ ¬ e1_ < 0 ∧ ¬ (255 : Int32) < e1_) ∧ (nar .char e2_ = e2_ ∧ ¬ e2_ < 0 ∧ ¬ (255 : Int32) < e2_)) ∧ Go p e below P s₁ (mkF m 124 #[.val (.int i0), .val (.int i1), .val (.int i2), .val (.int i3), .val (.int vl), .val (.int v0), .val (.int v1), .val (.int v2), .val (.int (1 : Int32)), .val (.int cpf), .val (.int el), .val (.int e0_), .val (.int e1_), .val (.int e2_), .unset, .unset, .unset, .unset, .unset] []) := by
      have R520 : Go p e below P s₁ (mkF m 51 #[.val (.int i0), .val (.int i1), .val (.int i2), .val (.int i3), .val (.int vl), .val (.int v0), .val (.int v1), .val (.int v2), .val (.int (1 : Int32)), .unset, .unset, .unset, .unset, .unset, .unset, .unset, .unset, .unset, .unset] [(.int i3)]) := fun t_ k_ => R517 t_ (XS.iloadN X0.here hx rfl (hb hby at_50) rfl k_)
      have R521 : Go p e below P s₁ (mkF m 52 #[.val (.int i0), .val (.int i1), .val (.int i2), .val (.int i3), .val (.int vl), .val (.int v0), .val (.int v1), .val (.int v2), .val (.int (1 : Int32)), .unset, .unset, .unset, .unset, .unset, .unset, .unset, .unset, .unset, .unset] [(.int (2 : Int32)), (.int i3)]) := fun t_ k_ => R520 t_ (XS.iconst X0.here hx rfl (hb hby at_51) k_)
      have R522 : Go p e below P s₁ (mkF m 53 #[.val (.int i0), .val (.int i1), .val (.int i2), .val (.int i3), .val (.int vl), .val (.int v0), .val (.int v1), .val (.int v2), .val (.int (1 : Int32)), .unset, .unset, .unset, .unset, .unset, .unset, .unset, .unset, .unset, .unset] [(.int (i3 &&& (2 : Int32)))]) := fun t_ k_ => R521 t_ (XS.iand X0.here hx rfl (hb hby at_52) rfl k_)
      by_cases hc523 : (i3 &&& (2 : Int32)) = (0 : Int32)
      · have R524 : Go p e below P s₁ (mkF m 60 #[.val (.int i0), .val (.int i1), .val (.int i2), .val (.int i3), .val (.int vl), .val (.int v0), .val (.int v1), .val (.int v2), .val (.int (1 : Int32)), .unset, .unset, .unset, .unset, .unset, .unset, .unset, .unset, .unset, .unset] []) := fun t_ k_ => R522 t_ (XS.ifYes X0.here hx rfl (pc0 := 53) (pc' := 60) rfl (hb hby at_53) rfl ((if0 _ _).trans (teq hc523).1) (by decide) (by decide) k_)
        have R525 : Go p e below P s₁ (mkF m 61 #[.val (.int i0), .val (.int i1), .val (.int i2), .val (.int i3), .val (.int vl), .val (.int v0), .val (.int v1), .val (.int v2), .val (.int (1 : Int32)), .unset, .unset, .unset, .unset, .unset, .unset, .unset, .unset, .unset, .unset] [(.int (0 : Int32))]) := fun t_ k_ => R524 t_ (XS.iconst X0.here hx rfl (hb hby at_60) k_)
        have R526 : Go p e below P s₁ (mkF m 63 #[.val (.int i0), .val (.int i1), .val (.int i2), .val (.int i3), .val (.int vl), .val (.int v0), .val (.int v1), .val (.int v2), .val (.int (1 : Int32)), .val (.int (0 : Int32)), .unset, .unset, .unset, .unset, .unset, .unset, .unset, .unset, .unset] []) := fun t_ k_ => R525 t_ (XS.istore X0.here hx rfl (hb hby at_61) rfl (l' := #[.val (.int i0), .val (.int i1), .val (.int i2), .val (.int i3), .val (.int vl), .val (.int v0), .val (.int v1), .val (.int v2), .val (.int (1 : Int32)), .val (.int (0 : Int32)), .unset, .unset, .unset, .unset, .unset, .unset, .unset, .unset, .unset]) rfl k_)
        have R527 : Go p e below P s₁ (mkF m 65 #[.val (.int i0), .val (.int i1), .val (.int i2), .val (.int i3), .val (.int vl), .val (.int v0), .val (.int v1), .val (.int v2), .val (.int (1 : Int32)), .val (.int (0 : Int32)), .unset, .unset, .unset, .unset, .unset, .unset, .unset, .unset, .unset] [(.int (0 : Int32))]) := fun t_ k_ => R526 t_ (XS.iload X0.here hx rfl (hb hby at_63) rfl k_)
        have R528 : Go p e below P s₁ (mkF m 87 #[.val (.int i0), .val (.int i1), .val (.int i2), .val (.int i3), .val (.int vl), .val (.int v0), .val (.int v1), .val (.int v2), .val (.int (1 : Int32)), .val (.int (0 : Int32)), .unset, .unset, .unset, .unset, .unset, .unset, .unset, .unset, .unset] []) := fun t_ k_ => R527 t_ (XS.ifYes X0.here hx rfl (pc0 := 65) (pc' := 87) rfl (hb hby at_65) rfl ((if0 _ _).trans (teq rfl).1) (by decide) (by decide) k_)
        have R529 : Go p e below P s₁ (mkF m 88 #[.val (.int i0), .val (.int i1), .val (.int i2), .val (.int i3), .val (.int vl), .val (.int v0), .val (.int v1), .val (.int v2), .val (.int (1 : Int32)), .val (.int (0 : Int32)), .unset, .unset, .unset, .unset, .unset, .unset, .unset, .unset, .unset] [(.int i2)]) := fun t_ k_ => R528 t_ (XS.iloadN X0.here hx rfl (hb hby at_87) rfl k_)
        have R530 : Go p e below P s₁ (mkF m 89 #[.val (.int i0), .val (.int i1), .val (.int i2), .val (.int i3), .val (.int vl), .val (.int v0), .val (.int v1), .val (.int v2), .val (.int (1 : Int32)), .val (.int (0 : Int32)), .unset, .unset, .unset, .unset, .unset, .unset, .unset, .unset, .unset] [(.int (3 : Int32)), (.int i2)]) := fun t_ k_ => R529 t_ (XS.iconst X0.here hx rfl (hb hby at_88) k_)
        have R531 : Go p e below P s₁ (mkF m 90 #[.val (.int i0), .val (.int i1), .val (.int i2), .val (.int i3), .val (.int vl), .val (.int v0), .val (.int v1), .val (.int v2), .val (.int (1 : Int32)), .val (.int (0 : Int32)), .unset, .unset, .unset, .unset, .unset, .unset, .unset, .unset, .unset] [(.int (i2 &&& (3 : Int32)))]) := fun t_ k_ => R530 t_ (XS.iand X0.here hx rfl (hb hby at_89) rfl k_)
        have R532 : Go p e below P s₁ (mkF m 92 #[.val (.int i0), .val (.int i1), .val (.int i2), .val (.int i3), .val (.int vl), .val (.int v0), .val (.int v1), .val (.int v2), .val (.int (1 : Int32)), .val (.int (0 : Int32)), .val (.int (i2 &&& (3 : Int32))), .unset, .unset, .unset, .unset, .unset, .unset, .unset, .unset] []) := fun t_ k_ => R531 t_ (XS.istore X0.here hx rfl (hb hby at_90) rfl (l' := #[.val (.int i0), .val (.int i1), .val (.int i2), .val (.int i3), .val (.int vl), .val (.int v0), .val (.int v1), .val (.int v2), .val (.int (1 : Int32)), .val (.int (0 : Int32)), .val (.int (i2 &&& (3 : Int32))), .unset, .unset, .unset, .unset, .unset, .unset, .unset, .unset]) rfl k_)
        have R533 : Go p e below P s₁ (mkF m 93 #[.val (.int i0), .val (.int i1), .val (.int i2), .val (.int i3), .val (.int vl), .val (.int v0), .val (.int v1), .val (.int v2), .val (.int (1 : Int32)), .val (.int (0 : Int32)), .val (.int (i2 &&& (3 : Int32))), .unset, .unset, .unset, .unset, .unset, .unset, .unset, .unset] [(.int i2)]) := fun t_ k_ => R532 t_ (XS.iloadN X0.here hx rfl (hb hby at_92) rfl k_)
        have R534 : Go p e below P s₁ (mkF m 94 #[.val (.int i0), .val (.int i1), .val (.int i2), .val (.int i3), .val (.int vl), .val (.int v0), .val (.int v1), .val (.int v2), .val (.int (1 : Int32)), .val (.int (0 : Int32)), .val (.int (i2 &&& (3 : Int32))), .unset, .unset, .unset, .unset, .unset, .unset, .unset, .unset] [(.int (2 : Int32)), (.int i2)]) := fun t_ k_ => R533 t_ (XS.iconst X0.here hx rfl (hb hby at_93) k_)
        have R535 : Go p e below P s₁ (mkF m 95 #[.val (.int i0), .val (.int i1), .val (.int i2), .val (.int i3), .val (.int vl), .val (.int v0), .val (.int v1), .val (.int v2), .val (.int (1 : Int32)), .val (.int (0 : Int32)), .val (.int (i2 &&& (3 : Int32))), .unset, .unset, .unset, .unset, .unset, .unset, .unset, .unset] [(.int ((i2.toUInt32 >>> ((2 : Int32) &&& 31).toUInt32).toInt32))]) := fun t_ k_ => R534 t_ (XS.iushr X0.here hx rfl (hb hby at_94) rfl k_)
        have R536 : Go p e below P s₁ (mkF m 98 #[.val (.int i0), .val (.int i1), .val (.int i2), .val (.int i3), .val (.int vl), .val (.int v0), .val (.int v1), .val (.int v2), .val (.int (1 : Int32)), .val (.int (0 : Int32)), .val (.int (i2 &&& (3 : Int32))), .unset, .unset, .unset, .unset, .unset, .unset, .unset, .unset] [(.int (255 : Int32)), (.int ((i2.toUInt32 >>> ((2 : Int32) &&& 31).toUInt32).toInt32))]) := fun t_ k_ => R535 t_ (XS.sipush X0.here hx rfl (hb hby at_95) k_)
        have R537 : Go p e below P s₁ (mkF m 99 #[.val (.int i0), .val (.int i1), .val (.int i2), .val (.int i3), .val (.int vl), .val (.int v0), .val (.int v1), .val (.int v2), .val (.int (1 : Int32)), .val (.int (0 : Int32)), .val (.int (i2 &&& (3 : Int32))), .unset, .unset, .unset, .unset, .unset, .unset, .unset, .unset] [(.int (((i2.toUInt32 >>> ((2 : Int32) &&& 31).toUInt32).toInt32) &&& (255 : Int32)))]) := fun t_ k_ => R536 t_ (XS.iand X0.here hx rfl (hb hby at_98) rfl k_)
        have R538 : Go p e below P s₁ (mkF m 100 #[.val (.int i0), .val (.int i1), .val (.int i2), .val (.int i3), .val (.int vl), .val (.int v0), .val (.int v1), .val (.int v2), .val (.int (1 : Int32)), .val (.int (0 : Int32)), .val (.int (i2 &&& (3 : Int32))), .unset, .unset, .unset, .unset, .unset, .unset, .unset, .unset] [(.int ((((i2.toUInt32 >>> ((2 : Int32) &&& 31).toUInt32).toInt32) &&& (255 : Int32)).toUInt32.toUInt16.toUInt32.toInt32))]) := fun t_ k_ => R537 t_ (XS.i2c X0.here hx rfl (hb hby at_99) rfl k_)
        have R539 : Go p e below P s₁ (mkF m 102 #[.val (.int i0), .val (.int i1), .val (.int i2), .val (.int i3), .val (.int vl), .val (.int v0), .val (.int v1), .val (.int v2), .val (.int (1 : Int32)), .val (.int (0 : Int32)), .val (.int (i2 &&& (3 : Int32))), .val (.int ((((i2.toUInt32 >>> ((2 : Int32) &&& 31).toUInt32).toInt32) &&& (255 : Int32)).toUInt32.toUInt16.toUInt32.toInt32)), .unset, .unset, .unset, .unset, .unset, .unset, .unset] []) := fun t_ k_ => R538 t_ (XS.istore X0.here hx rfl (hb hby at_100) rfl (l' := #[.val (.int i0), .val (.int i1), .val (.int i2), .val (.int i3), .val (.int vl), .val (.int v0), .val (.int v1), .val (.int v2), .val (.int (1 : Int32)), .val (.int (0 : Int32)), .val (.int (i2 &&& (3 : Int32))), .val (.int ((((i2.toUInt32 >>> ((2 : Int32) &&& 31).toUInt32).toInt32) &&& (255 : Int32)).toUInt32.toUInt16.toUInt32.toInt32)), .unset, .unset, .unset, .unset, .unset, .unset, .unset]) rfl k_)
        have R540 : Go p e below P s₁ (mkF m 103 #[.val (.int i0), .val (.int i1), .val (.int i2), .val (.int i3), .val (.int vl), .val (.int v0), .val (.int v1), .val (.int v2), .val (.int (1 : Int32)), .val (.int (0 : Int32)), .val (.int (i2 &&& (3 : Int32))), .val (.int ((((i2.toUInt32 >>> ((2 : Int32) &&& 31).toUInt32).toInt32) &&& (255 : Int32)).toUInt32.toUInt16.toUInt32.toInt32)), .unset, .unset, .unset, .unset, .unset, .unset, .unset] [(.int i2)]) := fun t_ k_ => R539 t_ (XS.iloadN X0.here hx rfl (hb hby at_102) rfl k_)
        have R541 : Go p e below P s₁ (mkF m 105 #[.val (.int i0), .val (.int i1), .val (.int i2), .val (.int i3), .val (.int vl), .val (.int v0), .val (.int v1), .val (.int v2), .val (.int (1 : Int32)), .val (.int (0 : Int32)), .val (.int (i2 &&& (3 : Int32))), .val (.int ((((i2.toUInt32 >>> ((2 : Int32) &&& 31).toUInt32).toInt32) &&& (255 : Int32)).toUInt32.toUInt16.toUInt32.toInt32)), .unset, .unset, .unset, .unset, .unset, .unset, .unset] [(.int (10 : Int32)), (.int i2)]) := fun t_ k_ => R540 t_ (XS.bipush X0.here hx rfl (hb hby at_103) k_)
        have R542 : Go p e below P s₁ (mkF m 106 #[.val (.int i0), .val (.int i1), .val (.int i2), .val (.int i3), .val (.int vl), .val (.int v0), .val (.int v1), .val (.int v2), .val (.int (1 : Int32)), .val (.int (0 : Int32)), .val (.int (i2 &&& (3 : Int32))), .val (.int ((((i2.toUInt32 >>> ((2 : Int32) &&& 31).toUInt32).toInt32) &&& (255 : Int32)).toUInt32.toUInt16.toUInt32.toInt32)), .unset, .unset, .unset, .unset, .unset, .unset, .unset] [(.int ((i2.toUInt32 >>> ((10 : Int32) &&& 31).toUInt32).toInt32))]) := fun t_ k_ => R541 t_ (XS.iushr X0.here hx rfl (hb hby at_105) rfl k_)
        have R543 : Go p e below P s₁ (mkF m 109 #[.val (.int i0), .val (.int i1), .val (.int i2), .val (.int i3), .val (.int vl), .val (.int v0), .val (.int v1), .val (.int v2), .val (.int (1 : Int32)), .val (.int (0 : Int32)), .val (.int (i2 &&& (3 : Int32))), .val (.int ((((i2.toUInt32 >>> ((2 : Int32) &&& 31).toUInt32).toInt32) &&& (255 : Int32)).toUInt32.toUInt16.toUInt32.toInt32)), .unset, .unset, .unset, .unset, .unset, .unset, .unset] [(.int (255 : Int32)), (.int ((i2.toUInt32 >>> ((10 : Int32) &&& 31).toUInt32).toInt32))]) := fun t_ k_ => R542 t_ (XS.sipush X0.here hx rfl (hb hby at_106) k_)
        have R544 : Go p e below P s₁ (mkF m 110 #[.val (.int i0), .val (.int i1), .val (.int i2), .val (.int i3), .val (.int vl), .val (.int v0), .val (.int v1), .val (.int v2), .val (.int (1 : Int32)), .val (.int (0 : Int32)), .val (.int (i2 &&& (3 : Int32))), .val (.int ((((i2.toUInt32 >>> ((2 : Int32) &&& 31).toUInt32).toInt32) &&& (255 : Int32)).toUInt32.toUInt16.toUInt32.toInt32)), .unset, .unset, .unset, .unset, .unset, .unset, .unset] [(.int (((i2.toUInt32 >>> ((10 : Int32) &&& 31).toUInt32).toInt32) &&& (255 : Int32)))]) := fun t_ k_ => R543 t_ (XS.iand X0.here hx rfl (hb hby at_109) rfl k_)
        have R545 : Go p e below P s₁ (mkF m 111 #[.val (.int i0), .val (.int i1), .val (.int i2), .val (.int i3), .val (.int vl), .val (.int v0), .val (.int v1), .val (.int v2), .val (.int (1 : Int32)), .val (.int (0 : Int32)), .val (.int (i2 &&& (3 : Int32))), .val (.int ((((i2.toUInt32 >>> ((2 : Int32) &&& 31).toUInt32).toInt32) &&& (255 : Int32)).toUInt32.toUInt16.toUInt32.toInt32)), .unset, .unset, .unset, .unset, .unset, .unset, .unset] [(.int ((((i2.toUInt32 >>> ((10 : Int32) &&& 31).toUInt32).toInt32) &&& (255 : Int32)).toUInt32.toUInt16.toUInt32.toInt32))]) := fun t_ k_ => R544 t_ (XS.i2c X0.here hx rfl (hb hby at_110) rfl k_)
        have R546 : Go p e below P s₁ (mkF m 113 #[.val (.int i0), .val (.int i1), .val (.int i2), .val (.int i3), .val (.int vl), .val (.int v0), .val (.int v1), .val (.int v2), .val (.int (1 : Int32)), .val (.int (0 : Int32)), .val (.int (i2 &&& (3 : Int32))), .val (.int ((((i2.toUInt32 >>> ((2 : Int32) &&& 31).toUInt32).toInt32) &&& (255 : Int32)).toUInt32.toUInt16.toUInt32.toInt32)), .val (.int ((((i2.toUInt32 >>> ((10 : Int32) &&& 31).toUInt32).toInt32) &&& (255 : Int32)).toUInt32.toUInt16.toUInt32.toInt32)), .unset, .unset, .unset, .unset, .unset, .unset] []) := fun t_ k_ => R545 t_ (XS.istore X0.here hx rfl (hb hby at_111) rfl (l' := #[.val (.int i0), .val (.int i1), .val (.int i2), .val (.int i3), .val (.int vl), .val (.int v0), .val (.int v1), .val (.int v2), .val (.int (1 : Int32)), .val (.int (0 : Int32)), .val (.int (i2 &&& (3 : Int32))), .val (.int ((((i2.toUInt32 >>> ((2 : Int32) &&& 31).toUInt32).toInt32) &&& (255 : Int32)).toUInt32.toUInt16.toUInt32.toInt32)), .val (.int ((((i2.toUInt32 >>> ((10 : Int32) &&& 31).toUInt32).toInt32) &&& (255 : Int32)).toUInt32.toUInt16.toUInt32.toInt32)), .unset, .unset, .unset, .unset, .unset, .unset]) rfl k_)
        have R547 : Go p e below P s₁ (mkF m 114 #[.val (.int i0), .val (.int i1), .val (.int i2), .val (.int i3), .val (.int vl), .val (.int v0), .val (.int v1), .val (.int v2), .val (.int (1 : Int32)), .val (.int (0 : Int32)), .val (.int (i2 &&& (3 : Int32))), .val (.int ((((i2.toUInt32 >>> ((2 : Int32) &&& 31).toUInt32).toInt32) &&& (255 : Int32)).toUInt32.toUInt16.toUInt32.toInt32)), .val (.int ((((i2.toUInt32 >>> ((10 : Int32) &&& 31).toUInt32).toInt32) &&& (255 : Int32)).toUInt32.toUInt16.toUInt32.toInt32)), .unset, .unset, .unset, .unset, .unset, .unset] [(.int i2)]) := fun t_ k_ => R546 t_ (XS.iloadN X0.here hx rfl (hb hby at_113) rfl k_)
        have R548 : Go p e below P s₁ (mkF m 116 #[.val (.int i0), .val (.int i1), .val (.int i2), .val (.int i3), .val (.int vl), .val (.int v0), .val (.int v1), .val (.int v2), .val (.int (1 : Int32)), .val (.int (0 : Int32)), .val (.int (i2 &&& (3 : Int32))), .val (.int ((((i2.toUInt32 >>> ((2 : Int32) &&& 31).toUInt32).toInt32) &&& (255 : Int32)).toUInt32.toUInt16.toUInt32.toInt32)), .val (.int ((((i2.toUInt32 >>> ((10 : Int32) &&& 31).toUInt32).toInt32) &&& (255 : Int32)).toUInt32.toUInt16.toUInt32.toInt32)), .unset, .unset, .unset, .unset, .unset, .unset] [(.int (18 : Int32)), (.int i2)]) := fun t_ k_ => R547 t_ (XS.bipush X0.here hx rfl (hb hby at_114) k_)
        have R549 : Go p e below P s₁ (mkF m 117 #[.val (.int i0), .val (.int i1), .val (.int i2), .val (.int i3), .val (.int vl), .val (.int v0), .val (.int v1), .val (.int v2), .val (.int (1 : Int32)), .val (.int (0 : Int32)), .val (.int (i2 &&& (3 : Int32))), .val (.int ((((i2.toUInt32 >>> ((2 : Int32) &&& 31).toUInt32).toInt32) &&& (255 : Int32)).toUInt32.toUInt16.toUInt32.toInt32)), .val (.int ((((i2.toUInt32 >>> ((10 : Int32) &&& 31).toUInt32).toInt32) &&& (255 : Int32)).toUInt32.toUInt16.toUInt32.toInt32)), .unset, .unset, .unset, .unset, .unset, .unset] [(.int ((i2.toUInt32 >>> ((18 : Int32) &&& 31).toUInt32).toInt32))]) := fun t_ k_ => R548 t_ (XS.iushr X0.here hx rfl (hb hby at_116) rfl k_)
        have R550 : Go p e below P s₁ (mkF m 120 #[.val (.int i0), .val (.int i1), .val (.int i2), .val (.int i3), .val (.int vl), .val (.int v0), .val (.int v1), .val (.int v2), .val (.int (1 : Int32)), .val (.int (0 : Int32)), .val (.int (i2 &&& (3 : Int32))), .val (.int ((((i2.toUInt32 >>> ((2 : Int32) &&& 31).toUInt32).toInt32) &&& (255 : Int32)).toUInt32.toUInt16.toUInt32.toInt32)), .val (.int ((((i2.toUInt32 >>> ((10 : Int32) &&& 31).toUInt32).toInt32) &&& (255 : Int32)).toUInt32.toUInt16.toUInt32.toInt32)), .unset, .unset, .unset, .unset, .unset, .unset] [(.int (255 : Int32)), (.int ((i2.toUInt32 >>> ((18 : Int32) &&& 31).toUInt32).toInt32))]) := fun t_ k_ => R549 t_ (XS.sipush X0.here hx rfl (hb hby at_117) k_)
        have R551 : Go p e below P s₁ (mkF m 121 #[.val (.int i0), .val (.int i1), .val (.int i2), .val (.int i3), .val (.int vl), .val (.int v0), .val (.int v1), .val (.int v2), .val (.int (1 : Int32)), .val (.int (0 : Int32)), .val (.int (i2 &&& (3 : Int32))), .val (.int ((((i2.toUInt32 >>> ((2 : Int32) &&& 31).toUInt32).toInt32) &&& (255 : Int32)).toUInt32.toUInt16.toUInt32.toInt32)), .val (.int ((((i2.toUInt32 >>> ((10 : Int32) &&& 31).toUInt32).toInt32) &&& (255 : Int32)).toUInt32.toUInt16.toUInt32.toInt32)), .unset, .unset, .unset, .unset, .unset, .unset] [(.int (((i2.toUInt32 >>> ((18 : Int32) &&& 31).toUInt32).toInt32) &&& (255 : Int32)))]) := fun t_ k_ => R550 t_ (XS.iand X0.here hx rfl (hb hby at_120) rfl k_)
        have R552 : Go p e below P s₁ (mkF m 122 #[.val (.int i0), .val (.int i1), .val (.int i2), .val (.int i3), .val (.int vl), .val (.int v0), .val (.int v1), .val (.int v2), .val (.int (1 : Int32)), .val (.int (0 : Int32)), .val (.int (i2 &&& (3 : Int32))), .val (.int ((((i2.toUInt32 >>> ((2 : Int32) &&& 31).toUInt32).toInt32) &&& (255 : Int32)).toUInt32.toUInt16.toUInt32.toInt32)), .val (.int ((((i2.toUInt32 >>> ((10 : Int32) &&& 31).toUInt32).toInt32) &&& (255 : Int32)).toUInt32.toUInt16.toUInt32.toInt32)), .unset, .unset, .unset, .unset, .unset, .unset] [(.int ((((i2.toUInt32 >>> ((18 : Int32) &&& 31).toUInt32).toInt32) &&& (255 : Int32)).toUInt32.toUInt16.toUInt32.toInt32))]) := fun t_ k_ => R551 t_ (XS.i2c X0.here hx rfl (hb hby at_121) rfl k_)
        have R553 : Go p e below P s₁ (mkF m 124 #[.val (.int i0), .val (.int i1), .val (.int i2), .val (.int i3), .val (.int vl), .val (.int v0), .val (.int v1), .val (.int v2), .val (.int (1 : Int32)), .val (.int (0 : Int32)), .val (.int (i2 &&& (3 : Int32))), .val (.int ((((i2.toUInt32 >>> ((2 : Int32) &&& 31).toUInt32).toInt32) &&& (255 : Int32)).toUInt32.toUInt16.toUInt32.toInt32)), .val (.int ((((i2.toUInt32 >>> ((10 : Int32) &&& 31).toUInt32).toInt32) &&& (255 : Int32)).toUInt32.toUInt16.toUInt32.toInt32)), .val (.int ((((i2.toUInt32 >>> ((18 : Int32) &&& 31).toUInt32).toInt32) &&& (255 : Int32)).toUInt32.toUInt16.toUInt32.toInt32)), .unset, .unset, .unset, .unset, .unset] []) := fun t_ k_ => R552 t_ (XS.istore X0.here hx rfl (hb hby at_122) rfl (l' := #[.val (.int i0), .val (.int i1), .val (.int i2), .val (.int i3), .val (.int vl), .val (.int v0), .val (.int v1), .val (.int v2), .val (.int (1 : Int32)), .val (.int (0 : Int32)), .val (.int (i2 &&& (3 : Int32))), .val (.int ((((i2.toUInt32 >>> ((2 : Int32) &&& 31).toUInt32).toInt32) &&& (255 : Int32)).toUInt32.toUInt16.toUInt32.toInt32)), .val (.int ((((i2.toUInt32 >>> ((10 : Int32) &&& 31).toUInt32).toInt32) &&& (255 : Int32)).toUInt32.toUInt16.toUInt32.toInt32)), .val (.int ((((i2.toUInt32 >>> ((18 : Int32) &&& 31).toUInt32).toInt32) &&& (255 : Int32)).toUInt32.toUInt16.toUInt32.toInt32)), .unset, .unset, .unset, .unset, .unset]) rfl k_)
        exact ⟨(0 : Int32), (i2 &&& (3 : Int32)), ((((i2.toUInt32 >>> ((2 : Int32) &&& 31).toUInt32).toInt32) &&& (255 : Int32)).toUInt32.toUInt16.toUInt32.toInt32), ((((i2.toUInt32 >>> ((10 : Int32) &&& 31).toUInt32).toInt32) &&& (255 : Int32)).toUInt32.toUInt16.toUInt32.toInt32), ((((i2.toUInt32 >>> ((18 : Int32) &&& 31).toUInt32).toInt32) &&& (255 : Int32)).toUInt32.toUInt16.toUInt32.toInt32), ⟨len4 _, chr255 _, chr255 _, chr255 _⟩, R553⟩
      · have R554 : Go p e below P s₁ (mkF m 56 #[.val (.int i0), .val (.int i1), .val (.int i2), .val (.int i3), .val (.int vl), .val (.int v0), .val (.int v1), .val (.int v2), .val (.int (1 : Int32)), .unset, .unset, .unset, .unset, .unset, .unset, .unset, .unset, .unset, .unset] []) := fun t_ k_ => R522 t_ (XS.ifNo X0.here hx rfl (hb hby at_53) rfl ((if0 _ _).trans (feq hc523).1) k_)
        have R555 : Go p e below P s₁ (mkF m 57 #[.val (.int i0), .val (.int i1), .val (.int i2), .val (.int i3), .val (.int vl), .val (.int v0), .val (.int v1), .val (.int v2), .val (.int (1 : Int32)), .unset, .unset, .unset, .unset, .unset, .unset, .unset, .unset, .unset, .unset] [(.int (1 : Int32))]) := fun t_ k_ => R554 t_ (XS.iconst X0.here hx rfl (hb hby at_56) k_)
        have R556 : Go p e below P s₁ (mkF m 61 #[.val (.int i0), .val (.int i1), .val (.int i2), .val (.int i3), .val (.int vl), .val (.int v0), .val (.int v1), .val (.int v2), .val (.int (1 : Int32)), .unset, .unset, .unset, .unset, .unset, .unset, .unset, .unset, .unset, .unset] [(.int (1 : Int32))]) := fun t_ k_ => R555 t_ (XS.goto X0.here hx rfl (pc0 := 57) (pc' := 61) rfl (hb hby at_57) (by decide) (by decide) k_)
        have R557 : Go p e below P s₁ (mkF m 63 #[.val (.int i0), .val (.int i1), .val (.int i2), .val (.int i3), .val (.int vl), .val (.int v0), .val (.int v1), .val (.int v2), .val (.int (1 : Int32)), .val (.int (1 : Int32)), .unset, .unset, .unset, .unset, .unset, .unset, .unset, .unset, .unset] []) := fun t_ k_ => R556 t_ (XS.istore X0.here hx rfl (hb hby at_61) rfl (l' := #[.val (.int i0), .val (.int i1), .val (.int i2), .val (.int i3), .val (.int vl), .val (.int v0), .val (.int v1), .val (.int v2), .val (.int (1 : Int32)), .val (.int (1 : Int32)), .unset, .unset, .unset, .unset, .unset, .unset, .unset, .unset, .unset]) rfl k_)
        have R558 : Go p e below P s₁ (mkF m 65 #[.val (.int i0), .val (.int i1), .val (.int i2), .val (.int i3), .val (.int vl), .val (.int v0), .val (.int v1), .val (.int v2), .val (.int (1 : Int32)), .val (.int (1 : Int32)), .unset, .unset, .unset, .unset, .unset, .unset, .unset, .unset, .unset] [(.int (1 : Int32))]) := fun t_ k_ => R557 t_ (XS.iload X0.here hx rfl (hb hby at_63) rfl k_)
        have R559 : Go p e below P s₁ (mkF m 68 #[.val (.int i0), .val (.int i1), .val (.int i2), .val (.int i3), .val (.int vl), .val (.int v0), .val (.int v1), .val (.int v2), .val (.int (1 : Int32)), .val (.int (1 : Int32)), .unset, .unset, .unset, .unset, .unset, .unset, .unset, .unset, .unset] []) := fun t_ k_ => R558 t_ (XS.ifNo X0.here hx rfl (hb hby at_65) rfl ((if0 _ _).trans (feq (by decide : ¬ ((1 : Int32) = (0 : Int32)))).1) k_)
        have R560 : Go p e below P s₁ (mkF m 70 #[.val (.int i0), .val (.int i1), .val (.int i2), .val (.int i3), .val (.int vl), .val (.int v0), .val (.int v1), .val (.int v2), .val (.int (1 : Int32)), .val (.int (1 : Int32)), .unset, .unset, .unset, .unset, .unset, .unset, .unset, .unset, .unset] [(.int vl)]) := fun t_ k_ => R559 t_ (XS.iload X0.here hx rfl (hb hby at_68) rfl k_)
        have R561 : Go p e below P s₁ (mkF m 72 #[.val (.int i0), .val (.int i1), .val (.int i2), .val (.int i3), .val (.int vl), .val (.int v0), .val (.int v1), .val (.int v2), .val (.int (1 : Int32)), .val (.int (1 : Int32)), .val (.int vl), .unset, .unset, .unset, .unset, .unset, .unset, .unset, .unset] []) := fun t_ k_ => R560 t_ (XS.istore X0.here hx rfl (hb hby at_70) rfl (l' := #[.val (.int i0), .val (.int i1), .val (.int i2), .val (.int i3), .val (.int vl), .val (.int v0), .val (.int v1), .val (.int v2), .val (.int (1 : Int32)), .val (.int (1 : Int32)), .val (.int vl), .unset, .unset, .unset, .unset, .unset, .unset, .unset, .unset]) rfl k_)
        have R562 : Go p e below P s₁ (mkF m 74 #[.val (.int i0), .val (.int i1), .val (.int i2), .val (.int i3), .val (.int vl), .val (.int v0), .val (.int v1), .val (.int v2), .val (.int (1 : Int32)), .val (.int (1 : Int32)), .val (.int vl), .unset, .unset, .unset, .unset, .unset, .unset, .unset, .unset] [(.int v0)]) := fun t_ k_ => R561 t_ (XS.iload X0.here hx rfl (hb hby at_72) rfl k_)
        have R563 : Go p e below P s₁ (mkF m 76 #[.val (.int i0), .val (.int i1), .val (.int i2), .val (.int i3), .val (.int vl), .val (.int v0), .val (.int v1), .val (.int v2), .val (.int (1 : Int32)), .val (.int (1 : Int32)), .val (.int vl), .val (.int v0), .unset, .unset, .unset, .unset, .unset, .unset, .unset] []) := fun t_ k_ => R562 t_ (XS.istore X0.here hx rfl (hb hby at_74) rfl (l' := #[.val (.int i0), .val (.int i1), .val (.int i2), .val (.int i3), .val (.int vl), .val (.int v0), .val (.int v1), .val (.int v2), .val (.int (1 : Int32)), .val (.int (1 : Int32)), .val (.int vl), .val (.int v0), .unset, .unset, .unset, .unset, .unset, .unset, .unset]) rfl k_)
        have R564 : Go p e below P s₁ (mkF m 78 #[.val (.int i0), .val (.int i1), .val (.int i2), .val (.int i3), .val (.int vl), .val (.int v0), .val (.int v1), .val (.int v2), .val (.int (1 : Int32)), .val (.int (1 : Int32)), .val (.int vl), .val (.int v0), .unset, .unset, .unset, .unset, .unset, .unset, .unset] [(.int v1)]) := fun t_ k_ => R563 t_ (XS.iload X0.here hx rfl (hb hby at_76) rfl k_)
        have R565 : Go p e below P s₁ (mkF m 80 #[.val (.int i0), .val (.int i1), .val (.int i2), .val (.int i3), .val (.int vl), .val (.int v0), .val (.int v1), .val (.int v2), .val (.int (1 : Int32)), .val (.int (1 : Int32)), .val (.int vl), .val (.int v0), .val (.int v1), .unset, .unset, .unset, .unset, .unset, .unset] []) := fun t_ k_ => R564 t_ (XS.istore X0.here hx rfl (hb hby at_78) rfl (l' := #[.val (.int i0), .val (.int i1), .val (.int i2), .val (.int i3), .val (.int vl), .val (.int v0), .val (.int v1), .val (.int v2), .val (.int (1 : Int32)), .val (.int (1 : Int32)), .val (.int vl), .val (.int v0), .val (.int v1), .unset, .unset, .unset, .unset, .unset, .unset]) rfl k_)
        have R566 : Go p e below P s₁ (mkF m 82 #[.val (.int i0), .val (.int i1), .val (.int i2), .val (.int i3), .val (.int vl), .val (.int v0), .val (.int v1), .val (.int v2), .val (.int (1 : Int32)), .val (.int (1 : Int32)), .val (.int vl), .val (.int v0), .val (.int v1), .unset, .unset, .unset, .unset, .unset, .unset] [(.int v2)]) := fun t_ k_ => R565 t_ (XS.iload X0.here hx rfl (hb hby at_80) rfl k_)
        have R567 : Go p e below P s₁ (mkF m 84 #[.val (.int i0), .val (.int i1), .val (.int i2), .val (.int i3), .val (.int vl), .val (.int v0), .val (.int v1), .val (.int v2), .val (.int (1 : Int32)), .val (.int (1 : Int32)), .val (.int vl), .val (.int v0), .val (.int v1), .val (.int v2), .unset, .unset, .unset, .unset, .unset] []) := fun t_ k_ => R566 t_ (XS.istore X0.here hx rfl (hb hby at_82) rfl (l' := #[.val (.int i0), .val (.int i1), .val (.int i2), .val (.int i3), .val (.int vl), .val (.int v0), .val (.int v1), .val (.int v2), .val (.int (1 : Int32)), .val (.int (1 : Int32)), .val (.int vl), .val (.int v0), .val (.int v1), .val (.int v2), .unset, .unset, .unset, .unset, .unset]) rfl k_)
        have R568 : Go p e below P s₁ (mkF m 124 #[.val (.int i0), .val (.int i1), .val (.int i2), .val (.int i3), .val (.int vl), .val (.int v0), .val (.int v1), .val (.int v2), .val (.int (1 : Int32)), .val (.int (1 : Int32)), .val (.int vl), .val (.int v0), .val (.int v1), .val (.int v2), .unset, .unset, .unset, .unset, .unset] []) := fun t_ k_ => R567 t_ (XS.goto X0.here hx rfl (pc0 := 84) (pc' := 124) rfl (hb hby at_84) (by decide) (by decide) k_)
        exact ⟨(1 : Int32), vl, v0, v1, v2, ⟨rvl, cv0, cv1, cv2⟩, R568⟩
    obtain ⟨rel, ce0, ce1, ce2⟩ := hj519
    have R569 : Go p e below P s₁ (mkF m 126 #[.val (.int i0), .val (.int i1), .val (.int i2), .val (.int i3), .val (.int vl), .val (.int v0), .val (.int v1), .val (.int v2), .val (.int (1 : Int32)), .val (.int cpf), .val (.int el), .val (.int e0_), .val (.int e1_), .val (.int e2_), .unset, .unset, .unset, .unset, .unset] [(.int vl)]) := fun t_ k_ => R518 t_ (XS.iload X0.here hx rfl (hb hby at_124) rfl k_)
    have R570 : Go p e below P s₁ (mkF m 128 #[.val (.int i0), .val (.int i1), .val (.int i2), .val (.int i3), .val (.int vl), .val (.int v0), .val (.int v1), .val (.int v2), .val (.int (1 : Int32)), .val (.int cpf), .val (.int el), .val (.int e0_), .val (.int e1_), .val (.int e2_), .unset, .unset, .unset, .unset, .unset] [(.int v0), (.int vl)]) := fun t_ k_ => R569 t_ (XS.iload X0.here hx rfl (hb hby at_126) rfl k_)
    have R571 : Go p e below P s₁ (mkF m 130 #[.val (.int i0), .val (.int i1), .val (.int i2), .val (.int i3), .val (.int vl), .val (.int v0), .val (.int v1), .val (.int v2), .val (.int (1 : Int32)), .val (.int cpf), .val (.int el), .val (.int e0_), .val (.int e1_), .val (.int e2_), .unset, .unset, .unset, .unset, .unset] [(.int v1), (.int v0), (.int vl)]) := fun t_ k_ => R570 t_ (XS.iload X0.here hx rfl (hb hby at_128) rfl k_)
    have R572 : Go p e below P s₁ (mkF m 132 #[.val (.int i0), .val (.int i1), .val (.int i2), .val (.int i3), .val (.int vl), .val (.int v0), .val (.int v1), .val (.int v2), .val (.int (1 : Int32)), .val (.int cpf), .val (.int el), .val (.int e0_), .val (.int e1_), .val (.int e2_), .unset, .unset, .unset, .unset, .unset] [(.int v2), (.int v1), (.int v0), (.int vl)]) := fun t_ k_ => R571 t_ (XS.iload X0.here hx rfl (hb hby at_130) rfl k_)
    obtain ⟨rv573, _, ⟨T573, L573, k573, n573⟩, -, X573, hT573, hG573, ⟨Lc573, hQ573, l573, y573, z573, hC573⟩, st573⟩ := callSS X0 hx (y := (⟨"com/example/interleave/interleave/engine/CheckValueHeldPinLaw", "mk", "(ICCC)Ljava/lang/String;"⟩ : MethodName)) hown (mvT hZ (hw _ (List.mem_of_getElem? (i := 0) rfl))) (mvT hZ (hw _ (List.mem_of_getElem? (i := 1) rfl))) (mvT hZ (hw _ (List.mem_of_getElem? (i := 2) rfl))) (mvT hZ (hw _ (List.mem_of_getElem? (i := 3) rfl))) (by decide) (backOfSH (W := 0) (mk_ l Z a0 hw [] vl v0 v1 v2 zc h0 n0 O0 hEL P0 hzc cv0 cv1 cv2) hZ (hw _ (List.mem_of_getElem? (i := 3) rfl)) (hw _ (List.mem_of_getElem? (i := 2) rfl)) (by decide) (by decide) hEL C0.1) (g := (mkF m 132 #[.val (.int i0), .val (.int i1), .val (.int i2), .val (.int i3), .val (.int vl), .val (.int v0), .val (.int v1), .val (.int v2), .val (.int (1 : Int32)), .val (.int cpf), .val (.int el), .val (.int e0_), .val (.int e1_), .val (.int e2_), .unset, .unset, .unset, .unset, .unset] [(.int v2), (.int v1), (.int v0), (.int vl)])) rfl (by rw [hml]; rfl) (argsL := [(.int vl), (.int v0), (.int v1), (.int v2)]) (rest := []) (lenOf pd_13925964 rfl) rfl (by show 2 * 0 + _ ≤ _; exact Nat.le_of_eq rfl) (hb hby at_132) (fun _ _ => ⟨rfl, e0, (by decide : 0 + 6 ≤ _), (by decide : 0 + 12 ≤ _)⟩)
    dsimp only [Pt.U, Pt.locs, Pt.cells, Pt.slots] at X573 hT573 hG573 l573 y573 z573 hC573 st573 hQ573
    subst l573 y573 z573
    obtain ⟨X573, hS573, hZ, hown⟩ := rebS hS0 (by rw [e0]; exact hk0) X573 hT573 hG573 hZ hown
    have hk573 : T573.heap.size ≤ T573.heap.size := Nat.le_refl _
    obtain ⟨x_573, t_573, kb_573, rfl, N573q, K573, p573_0, p573_1, p573_2, p573_3, p573_4⟩ := hQ573
    have N573 := Fr.app N0 N573q
    have O573 := O0.keep K573 all0
    have C574 := C0.trans hC573
    have R575 : Go p e below P T573 (mkF m 135 #[.val (.int i0), .val (.int i1), .val (.int i2), .val (.int i3), .val (.int vl), .val (.int v0), .val (.int v1), .val (.int v2), .val (.int (1 : Int32)), .val (.int cpf), .val (.int el), .val (.int e0_), .val (.int e1_), .val (.int e2_), .unset, .unset, .unset, .unset, .unset] [(.ref x_573)]) := fun t_ k_ => R572 t_ (st573.trans k_)
    have R576 : Go p e below P T573 (mkF m 137 #[.val (.int i0), .val (.int i1), .val (.int i2), .val (.int i3), .val (.int vl), .val (.int v0), .val (.int v1), .val (.int v2), .val (.int (1 : Int32)), .val (.int cpf), .val (.int el), .val (.int e0_), .val (.int e1_), .val (.int e2_), .val (.ref x_573), .unset, .unset, .unset, .unset] []) := fun t_ k_ => R575 t_ (XS.astore X573.here hx rfl (hb hby at_135) rfl rfl (l' := #[.val (.int i0), .val (.int i1), .val (.int i2), .val (.int i3), .val (.int vl), .val (.int v0), .val (.int v1), .val (.int v2), .val (.int (1 : Int32)), .val (.int cpf), .val (.int el), .val (.int e0_), .val (.int e1_), .val (.int e2_), .val (.ref x_573), .unset, .unset, .unset, .unset]) rfl k_)
    have R577 : Go p e below P T573 (mkF m 139 #[.val (.int i0), .val (.int i1), .val (.int i2), .val (.int i3), .val (.int vl), .val (.int v0), .val (.int v1), .val (.int v2), .val (.int (1 : Int32)), .val (.int cpf), .val (.int el), .val (.int e0_), .val (.int e1_), .val (.int e2_), .val (.ref x_573), .unset, .unset, .unset, .unset] [(.int el)]) := fun t_ k_ => R576 t_ (XS.iload X573.here hx rfl (hb hby at_137) rfl k_)
    have R578 : Go p e below P T573 (mkF m 141 #[.val (.int i0), .val (.int i1), .val (.int i2), .val (.int i3), .val (.int vl), .val (.int v0), .val (.int v1), .val (.int v2), .val (.int (1 : Int32)), .val (.int cpf), .val (.int el), .val (.int e0_), .val (.int e1_), .val (.int e2_), .val (.ref x_573), .unset, .unset, .unset, .unset] [(.int e0_), (.int el)]) := fun t_ k_ => R577 t_ (XS.iload X573.here hx rfl (hb hby at_139) rfl k_)
    have R579 : Go p e below P T573 (mkF m 143 #[.val (.int i0), .val (.int i1), .val (.int i2), .val (.int i3), .val (.int vl), .val (.int v0), .val (.int v1), .val (.int v2), .val (.int (1 : Int32)), .val (.int cpf), .val (.int el), .val (.int e0_), .val (.int e1_), .val (.int e2_), .val (.ref x_573), .unset, .unset, .unset, .unset] [(.int e1_), (.int e0_), (.int el)]) := fun t_ k_ => R578 t_ (XS.iload X573.here hx rfl (hb hby at_141) rfl k_)
    have R580 : Go p e below P T573 (mkF m 145 #[.val (.int i0), .val (.int i1), .val (.int i2), .val (.int i3), .val (.int vl), .val (.int v0), .val (.int v1), .val (.int v2), .val (.int (1 : Int32)), .val (.int cpf), .val (.int el), .val (.int e0_), .val (.int e1_), .val (.int e2_), .val (.ref x_573), .unset, .unset, .unset, .unset] [(.int e2_), (.int e1_), (.int e0_), (.int el)]) := fun t_ k_ => R579 t_ (XS.iload X573.here hx rfl (hb hby at_143) rfl k_)
    obtain ⟨rv581, _, ⟨T581, L581, k581, n581⟩, -, X581, hT581, hG581, ⟨Lc581, hQ581, l581, y581, z581, hC581⟩, st581⟩ := callSS X573 hx (y := (⟨"com/example/interleave/interleave/engine/CheckValueHeldPinLaw", "mk", "(ICCC)Ljava/lang/String;"⟩ : MethodName)) hown (mvT hZ (hw _ (List.mem_of_getElem? (i := 0) rfl))) (mvT hZ (hw _ (List.mem_of_getElem? (i := 1) rfl))) (mvT hZ (hw _ (List.mem_of_getElem? (i := 2) rfl))) (mvT hZ (hw _ (List.mem_of_getElem? (i := 3) rfl))) (by decide) (backOfSH (W := 0) (mk_ l Z a0 hw [] el e0_ e1_ e2_ zc T573.heap n0 O573 hEL P0 hzc ce0 ce1 ce2) hZ (hw _ (List.mem_of_getElem? (i := 3) rfl)) (hw _ (List.mem_of_getElem? (i := 2) rfl)) (by decide) (by decide) hEL C574.1) (g := (mkF m 145 #[.val (.int i0), .val (.int i1), .val (.int i2), .val (.int i3), .val (.int vl), .val (.int v0), .val (.int v1), .val (.int v2), .val (.int (1 : Int32)), .val (.int cpf), .val (.int el), .val (.int e0_), .val (.int e1_), .val (.int e2_), .val (.ref x_573), .unset, .unset, .unset, .unset] [(.int e2_), (.int e1_), (.int e0_), (.int el)])) rfl (by rw [hml]; rfl) (argsL := [(.int el), (.int e0_), (.int e1_), (.int e2_)]) (rest := []) (lenOf pd_13925964 rfl) rfl (by show 2 * 0 + _ ≤ _; exact Nat.le_of_eq rfl) (hb hby at_145) (fun _ _ => ⟨rfl, (rfl : T573.heap = T573.heap), (by decide : 6 + 6 ≤ _), (by decide : 12 + 12 ≤ _)⟩)
    dsimp only [Pt.U, Pt.locs, Pt.cells, Pt.slots] at X581 hT581 hG581 l581 y581 z581 hC581 st581 hQ581
    subst l581 y581 z581
    obtain ⟨X581, hS581, hZ, hown⟩ := rebS hS573 (by rw [(rfl : T573.heap = T573.heap)]; exact hk573) X581 hT581 hG581 hZ hown
    have hk581 : T581.heap.size ≤ T581.heap.size := Nat.le_refl _
    obtain ⟨x_581, t_581, kb_581, rfl, N581q, K581, p581_0, p581_1, p581_2, p581_3, p581_4⟩ := hQ581
    have N581 := Fr.app N573 N581q
    have O581 := O573.keep K581 all0
    have C582 := C574.trans hC581
    have R583 : Go p e below P T581 (mkF m 148 #[.val (.int i0), .val (.int i1), .val (.int i2), .val (.int i3), .val (.int vl), .val (.int v0), .val (.int v1), .val (.int v2), .val (.int (1 : Int32)), .val (.int cpf), .val (.int el), .val (.int e0_), .val (.int e1_), .val (.int e2_), .val (.ref x_573), .unset, .unset, .unset, .unset] [(.ref x_581)]) := fun t_ k_ => R580 t_ (st581.trans k_)
    have R584 : Go p e below P T581 (mkF m 150 #[.val (.int i0), .val (.int i1), .val (.int i2), .val (.int i3), .val (.int vl), .val (.int v0), .val (.int v1), .val (.int v2), .val (.int (1 : Int32)), .val (.int cpf), .val (.int el), .val (.int e0_), .val (.int e1_), .val (.int e2_), .val (.ref x_573), .val (.ref x_581), .unset, .unset, .unset] []) := fun t_ k_ => R583 t_ (XS.astore X581.here hx rfl (hb hby at_148) rfl rfl (l' := #[.val (.int i0), .val (.int i1), .val (.int i2), .val (.int i3), .val (.int vl), .val (.int v0), .val (.int v1), .val (.int v2), .val (.int (1 : Int32)), .val (.int cpf), .val (.int el), .val (.int e0_), .val (.int e1_), .val (.int e2_), .val (.ref x_573), .val (.ref x_581), .unset, .unset, .unset]) rfl k_)
    have R585 : Go p e below P T581 (mkF m 152 #[.val (.int i0), .val (.int i1), .val (.int i2), .val (.int i3), .val (.int vl), .val (.int v0), .val (.int v1), .val (.int v2), .val (.int (1 : Int32)), .val (.int cpf), .val (.int el), .val (.int e0_), .val (.int e1_), .val (.int e2_), .val (.ref x_573), .val (.ref x_581), .unset, .unset, .unset] [(.int (1 : Int32))]) := fun t_ k_ => R584 t_ (XS.iload X581.here hx rfl (hb hby at_150) rfl k_)
    have R586 : Go p e below P T581 (mkF m 155 #[.val (.int i0), .val (.int i1), .val (.int i2), .val (.int i3), .val (.int vl), .val (.int v0), .val (.int v1), .val (.int v2), .val (.int (1 : Int32)), .val (.int cpf), .val (.int el), .val (.int e0_), .val (.int e1_), .val (.int e2_), .val (.ref x_573), .val (.ref x_581), .unset, .unset, .unset] []) := fun t_ k_ => R585 t_ (XS.ifNo X581.here hx rfl (hb hby at_152) rfl ((if0 _ _).trans (feq (by decide : ¬ ((1 : Int32) = (0 : Int32)))).1) k_)
    have R587 : Go p e below P T581 (mkF m 157 #[.val (.int i0), .val (.int i1), .val (.int i2), .val (.int i3), .val (.int vl), .val (.int v0), .val (.int v1), .val (.int v2), .val (.int (1 : Int32)), .val (.int cpf), .val (.int el), .val (.int e0_), .val (.int e1_), .val (.int e2_), .val (.ref x_573), .val (.ref x_581), .unset, .unset, .unset] [(.ref x_581)]) := fun t_ k_ => R586 t_ (XS.aload X581.here hx rfl (hb hby at_155) rfl rfl k_)
    obtain ⟨rv588, _, ⟨T588, L588, k588, n588⟩, -, X588, ⟨Lc588, hQ588, l588, y588, z588⟩, st588⟩ := Jvm.LawKit.callS X581 hx (y := (⟨"java/util/Optional", "of", "(Ljava/lang/Object;)Ljava/util/Optional;"⟩ : MethodName)) hown (mvT hZ (hw _ (List.mem_of_getElem? (i := 34) rfl))) (mvT hZ (hw _ (List.mem_of_getElem? (i := 35) rfl))) (mvT hZ (hw _ (List.mem_of_getElem? (i := 36) rfl))) (mvT hZ (hw _ (List.mem_of_getElem? (i := 37) rfl))) (by decide) (backOf (W := 0) (oof_ l Z a0 hw [] x_581 T581.heap n0 O581) hZ (hw _ (List.mem_of_getElem? (i := 37) rfl)) (hw _ (List.mem_of_getElem? (i := 36) rfl)) (by decide) (by decide)) (g := (mkF m 157 #[.val (.int i0), .val (.int i1), .val (.int i2), .val (.int i3), .val (.int vl), .val (.int v0), .val (.int v1), .val (.int v2), .val (.int (1 : Int32)), .val (.int cpf), .val (.int el), .val (.int e0_), .val (.int e1_), .val (.int e2_), .val (.ref x_573), .val (.ref x_581), .unset, .unset, .unset] [(.ref x_581)])) rfl (by rw [hml]; rfl) (argsL := [(.ref x_581)]) (rest := []) (lenOf pd_61619995 rfl) rfl (by show 2 * 0 + _ ≤ _; exact Nat.le_of_eq rfl) (hb hby at_157) (fun _ _ => ⟨rfl, (rfl : T581.heap = T581.heap), (by decide : 12 + 1 ≤ _), (by decide : 24 + 1 ≤ _)⟩)
    dsimp only [Pt.U, Pt.locs, Pt.cells, Pt.slots] at X588 l588 y588 z588 st588 hQ588
    subst l588 y588 z588
    obtain ⟨r_588, rfl, N588q, K588, p588_0, p588_1, p588_2⟩ := hQ588
    have N588 := Fr.app N581 N588q
    have O588 := O581.keep K588 all0
    have C589 := C582.trans (CHr.keep K588 sf0 C582.1)
    have hk589 := Nat.le_trans hk581 K588.1
    have R590 : Go p e below P T588 (mkF m 160 #[.val (.int i0), .val (.int i1), .val (.int i2), .val (.int i3), .val (.int vl), .val (.int v0), .val (.int v1), .val (.int v2), .val (.int (1 : Int32)), .val (.int cpf), .val (.int el), .val (.int e0_), .val (.int e1_), .val (.int e2_), .val (.ref x_573), .val (.ref x_581), .unset, .unset, .unset] [(.ref r_588)]) := fun t_ k_ => R587 t_ (st588 t_ k_)
    have R591 : Go p e below P T588 (mkF m 166 #[.val (.int i0), .val (.int i1), .val (.int i2), .val (.int i3), .val (.int vl), .val (.int v0), .val (.int v1), .val (.int v2), .val (.int (1 : Int32)), .val (.int cpf), .val (.int el), .val (.int e0_), .val (.int e1_), .val (.int e2_), .val (.ref x_573), .val (.ref x_581), .unset, .unset, .unset] [(.ref r_588)]) := fun t_ k_ => R590 t_ (XS.goto X588.here hx rfl (pc0 := 160) (pc' := 166) rfl (hb hby at_160) (by decide) (by decide) k_)
    have R592 : Go p e below P T588 (mkF m 168 #[.val (.int i0), .val (.int i1), .val (.int i2), .val (.int i3), .val (.int vl), .val (.int v0), .val (.int v1), .val (.int v2), .val (.int (1 : Int32)), .val (.int cpf), .val (.int el), .val (.int e0_), .val (.int e1_), .val (.int e2_), .val (.ref x_573), .val (.ref x_581), .val (.ref r_588), .unset, .unset] []) := fun t_ k_ => R591 t_ (XS.astore X588.here hx rfl (hb hby at_166) rfl rfl (l' := #[.val (.int i0), .val (.int i1), .val (.int i2), .val (.int i3), .val (.int vl), .val (.int v0), .val (.int v1), .val (.int v2), .val (.int (1 : Int32)), .val (.int cpf), .val (.int el), .val (.int e0_), .val (.int e1_), .val (.int e2_), .val (.ref x_573), .val (.ref x_581), .val (.ref r_588), .unset, .unset]) rfl k_)
    obtain ⟨T593, h593, X593, e593, E593, A593, D593, -, st593⟩ := newO X588 hx hZ hown (hw _ (List.mem_of_getElem? (i := 51) rfl)) (hw _ (List.mem_of_getElem? (i := 52) rfl)) (hw _ (List.mem_of_getElem? (i := 53) rfl)) (rfl : T588.heap = T588.heap) (g := (mkF m 168 #[.val (.int i0), .val (.int i1), .val (.int i2), .val (.int i3), .val (.int vl), .val (.int v0), .val (.int v1), .val (.int v2), .val (.int (1 : Int32)), .val (.int cpf), .val (.int el), .val (.int e0_), .val (.int e1_), .val (.int e2_), .val (.ref x_573), .val (.ref x_581), .val (.ref r_588), .unset, .unset] [])) rfl (hb hby at_168) (by decide) (by decide)
    obtain ⟨b593, g593⟩ : ∃ z, z = T588.heap.size := ⟨_, rfl⟩
    rw [← g593] at A593 D593 st593
    have O593 := O588.ext E593
    have C594 := C589.trans (CHr.ext E593 C589.1)
    have hk594 := Nat.le_trans hk589 E593.1
    have Sb593 : Safe Z EL0 _ _ _ := Safe.ext E593 C589.1 (Safe.new (Nat.le_of_eq g593.symm))
    have F593_59 : Fld Z h593 b593 "com/example/interleave/interleave/engine/CheckValue" "number" "I" (.int (0 : Int32)) := D593 (Or.inr (hw _ (List.mem_of_getElem? (i := 59) rfl))) (ty := .int) (by decide)
    have F593_61 : Fld Z h593 b593 "com/example/interleave/interleave/engine/CheckValue" "value" "Ljava/lang/String;" .null := D593 (Or.inr (hw _ (List.mem_of_getElem? (i := 61) rfl))) (ty := (.object "java/lang/String")) (by decide)
    have F593_69 : Fld Z h593 b593 "com/example/interleave/interleave/engine/CheckValue" "expected" "Ljava/lang/String;" .null := D593 (Or.inr (hw _ (List.mem_of_getElem? (i := 69) rfl))) (ty := (.object "java/lang/String")) (by decide)
    have R595 : Go p e below P T593 (mkF m 171 #[.val (.int i0), .val (.int i1), .val (.int i2), .val (.int i3), .val (.int vl), .val (.int v0), .val (.int v1), .val (.int v2), .val (.int (1 : Int32)), .val (.int cpf), .val (.int el), .val (.int e0_), .val (.int e1_), .val (.int e2_), .val (.ref x_573), .val (.ref x_581), .val (.ref r_588), .unset, .unset] [(.ref b593)]) := fun t_ k_ => R592 t_ (st593 t_ k_)
    have R596 : Go p e below P T593 (mkF m 172 #[.val (.int i0), .val (.int i1), .val (.int i2), .val (.int i3), .val (.int vl), .val (.int v0), .val (.int v1), .val (.int v2), .val (.int (1 : Int32)), .val (.int cpf), .val (.int el), .val (.int e0_), .val (.int e1_), .val (.int e2_), .val (.ref x_573), .val (.ref x_581), .val (.ref r_588), .unset, .unset] [(.ref b593), (.ref b593)]) := fun t_ k_ => R595 t_ (XS.dup X593.here hx rfl (hb hby at_171) rfl rfl k_)
    have R597 : Go p e below P T593 (mkF m 173 #[.val (.int i0), .val (.int i1), .val (.int i2), .val (.int i3), .val (.int vl), .val (.int v0), .val (.int v1), .val (.int v2), .val (.int (1 : Int32)), .val (.int cpf), .val (.int el), .val (.int e0_), .val (.int e1_), .val (.int e2_), .val (.ref x_573), .val (.ref x_581), .val (.ref r_588), .unset, .unset] [(.int i0), (.ref b593), (.ref b593)]) := fun t_ k_ => R596 t_ (XS.iloadN X593.here hx rfl (hb hby at_172) rfl k_)
    have R598 : Go p e below P T593 (mkF m 175 #[.val (.int i0), .val (.int i1), .val (.int i2), .val (.int i3), .val (.int vl), .val (.int v0), .val (.int v1), .val (.int v2), .val (.int (1 : Int32)), .val (.int cpf), .val (.int el), .val (.int e0_), .val (.int e1_), .val (.int e2_), .val (.ref x_573), .val (.ref x_581), .val (.ref r_588), .unset, .unset] [(.ref x_573), (.int i0), (.ref b593), (.ref b593)]) := fun t_ k_ => R597 t_ (XS.aload X593.here hx rfl (hb hby at_173) rfl rfl k_)
    have R599 : Go p e below P T593 (mkF m 177 #[.val (.int i0), .val (.int i1), .val (.int i2), .val (.int i3), .val (.int vl), .val (.int v0), .val (.int v1), .val (.int v2), .val (.int (1 : Int32)), .val (.int cpf), .val (.int el), .val (.int e0_), .val (.int e1_), .val (.int e2_), .val (.ref x_573), .val (.ref x_581), .val (.ref r_588), .unset, .unset] [(.ref r_588), (.ref x_573), (.int i0), (.ref b593), (.ref b593)]) := fun t_ k_ => R598 t_ (XS.aload X593.here hx rfl (hb hby at_175) rfl rfl k_)
    have f600 := (p588_1.ext E593)
    have f601 := (p588_2.ext E593)
    have f602 := ((p581_1.keep K588).ext E593)
    have Sw603 : Safe Z EL0 _ _ b593 := Sb593
    obtain ⟨rv604, _, ⟨T604, L604, k604, n604⟩, -, X604, ⟨Lc604, hQ604, l604, y604, z604⟩, st604⟩ := X593.specialBack hx (y := (⟨"com/example/interleave/interleave/engine/CheckValue", "<init>", "(ILjava/lang/String;Ljava/util/Optional;)V"⟩ : MethodName)) rfl hown (mvT hZ (hw _ (List.mem_of_getElem? (i := 54) rfl))) (mvT hZ (hw _ (List.mem_of_getElem? (i := 55) rfl))) (mvT hZ (hw _ (List.mem_of_getElem? (i := 56) rfl))) (by decide) (backOf (W := 1) (cvP_ l Z a0 hw [] b593 i0 x_573 r_588 x_581 h593 n0 O593 A593 F593_59 F593_61 F593_69 (Nat.le_trans (oldLe O588) (Nat.le_of_eq g593.symm)) f600 f601 f602 (Nat.ne_of_lt (Nat.lt_of_lt_of_le p588_1.lt (Nat.le_of_eq g593.symm)))) hZ (hw _ (List.mem_of_getElem? (i := 56) rfl)) (hw _ (List.mem_of_getElem? (i := 53) rfl)) (by decide) (by decide)) (g := (mkF m 177 #[.val (.int i0), .val (.int i1), .val (.int i2), .val (.int i3), .val (.int vl), .val (.int v0), .val (.int v1), .val (.int v2), .val (.int (1 : Int32)), .val (.int cpf), .val (.int el), .val (.int e0_), .val (.int e1_), .val (.int e2_), .val (.ref x_573), .val (.ref x_581), .val (.ref r_588), .unset, .unset] [(.ref r_588), (.ref x_573), (.int i0), (.ref b593), (.ref b593)])) rfl (by rw [hml]; rfl) (Steps.refl _) (a := b593) (argsL := [(.int i0), (.ref x_573), (.ref r_588)]) (rest := [(.ref b593)]) (lenOf pd_32923742 rfl) rfl (by show 2 * 0 + _ ≤ _; exact Nat.le_of_eq rfl) (hb hby at_177) (fun _ _ => ⟨rfl, e593, (by decide : 14 + 0 ≤ _), (by decide : 28 + 0 ≤ _)⟩)
    dsimp only [Pt.U, Pt.locs, Pt.cells, Pt.slots] at X604 l604 y604 z604 st604 hQ604
    subst l604 y604 z604
    obtain ⟨rfl, N604q, K604, p604_0, p604_1, p604_2, p604_3⟩ := hQ604
    have N604 := Fr.app N588 N604q
    have O604 := O593.keep K604 (allS (Nat.le_trans (oldLe O588) (Nat.le_of_eq g593.symm)) all0)
    have C605 := C594.trans (CHr.keep K604 (sfS Sw603 sf0) C594.1)
    have hk605 := Nat.le_trans hk594 K604.1
    have R606 : Go p e below P T604 (mkF m 180 #[.val (.int i0), .val (.int i1), .val (.int i2), .val (.int i3), .val (.int vl), .val (.int v0), .val (.int v1), .val (.int v2), .val (.int (1 : Int32)), .val (.int cpf), .val (.int el), .val (.int e0_), .val (.int e1_), .val (.int e2_), .val (.ref x_573), .val (.ref x_581), .val (.ref r_588), .unset, .unset] [(.ref b593)]) := fun t_ k_ => R599 t_ (st604.trans k_)
    have R607 : Go p e below P T604 (mkF m 182 #[.val (.int i0), .val (.int i1), .val (.int i2), .val (.int i3), .val (.int vl), .val (.int v0), .val (.int v1), .val (.int v2), .val (.int (1 : Int32)), .val (.int cpf), .val (.int el), .val (.int e0_), .val (.int e1_), .val (.int e2_), .val (.ref x_573), .val (.ref x_581), .val (.ref r_588), .val (.ref b593), .unset] []) := fun t_ k_ => R606 t_ (XS.astore X604.here hx rfl (hb hby at_180) rfl rfl (l' := #[.val (.int i0), .val (.int i1), .val (.int i2), .val (.int i3), .val (.int vl), .val (.int v0), .val (.int v1), .val (.int v2), .val (.int (1 : Int32)), .val (.int cpf), .val (.int el), .val (.int e0_), .val (.int e1_), .val (.int e2_), .val (.ref x_573), .val (.ref x_581), .val (.ref r_588), .val (.ref b593), .unset]) rfl k_)
    have R608 : Go p e below P T604 (mkF m 184 #[.val (.int i0), .val (.int i1), .val (.int i2), .val (.int i3), .val (.int vl), .val (.int v0), .val (.int v1), .val (.int v2), .val (.int (1 : Int32)), .val (.int cpf), .val (.int el), .val (.int e0_), .val (.int e1_), .val (.int e2_), .val (.ref x_573), .val (.ref x_581), .val (.ref r_588), .val (.ref b593), .unset] [(.int (1 : Int32))]) := fun t_ k_ => R607 t_ (XS.iload X604.here hx rfl (hb hby at_182) rfl k_)
    have R609 : Go p e below P T604 (mkF m 187 #[.val (.int i0), .val (.int i1), .val (.int i2), .val (.int i3), .val (.int vl), .val (.int v0), .val (.int v1), .val (.int v2), .val (.int (1 : Int32)), .val (.int cpf), .val (.int el), .val (.int e0_), .val (.int e1_), .val (.int e2_), .val (.ref x_573), .val (.ref x_581), .val (.ref r_588), .val (.ref b593), .unset] []) := fun t_ k_ => R608 t_ (XS.ifNo X604.here hx rfl (hb hby at_184) rfl ((if0 _ _).trans (feq (by decide : ¬ ((1 : Int32) = (0 : Int32)))).1) k_)
    have R610 : Go p e below P T604 (mkF m 189 #[.val (.int i0), .val (.int i1), .val (.int i2), .val (.int i3), .val (.int vl), .val (.int v0), .val (.int v1), .val (.int v2), .val (.int (1 : Int32)), .val (.int cpf), .val (.int el), .val (.int e0_), .val (.int e1_), .val (.int e2_), .val (.ref x_573), .val (.ref x_581), .val (.ref r_588), .val (.ref b593), .unset] [(.int el)]) := fun t_ k_ => R609 t_ (XS.iload X604.here hx rfl (hb hby at_187) rfl k_)
    have R611 : Go p e below P T604 (mkF m 191 #[.val (.int i0), .val (.int i1), .val (.int i2), .val (.int i3), .val (.int vl), .val (.int v0), .val (.int v1), .val (.int v2), .val (.int (1 : Int32)), .val (.int cpf), .val (.int el), .val (.int e0_), .val (.int e1_), .val (.int e2_), .val (.ref x_573), .val (.ref x_581), .val (.ref r_588), .val (.ref b593), .unset] [(.int e0_), (.int el)]) := fun t_ k_ => R610 t_ (XS.iload X604.here hx rfl (hb hby at_189) rfl k_)
    have R612 : Go p e below P T604 (mkF m 193 #[.val (.int i0), .val (.int i1), .val (.int i2), .val (.int i3), .val (.int vl), .val (.int v0), .val (.int v1), .val (.int v2), .val (.int (1 : Int32)), .val (.int cpf), .val (.int el), .val (.int e0_), .val (.int e1_), .val (.int e2_), .val (.ref x_573), .val (.ref x_581), .val (.ref r_588), .val (.ref b593), .unset] [(.int e1_), (.int e0_), (.int el)]) := fun t_ k_ => R611 t_ (XS.iload X604.here hx rfl (hb hby at_191) rfl k_)
    have R613 : Go p e below P T604 (mkF m 195 #[.val (.int i0), .val (.int i1), .val (.int i2), .val (.int i3), .val (.int vl), .val (.int v0), .val (.int v1), .val (.int v2), .val (.int (1 : Int32)), .val (.int cpf), .val (.int el), .val (.int e0_), .val (.int e1_), .val (.int e2_), .val (.ref x_573), .val (.ref x_581), .val (.ref r_588), .val (.ref b593), .unset] [(.int e2_), (.int e1_), (.int e0_), (.int el)]) := fun t_ k_ => R612 t_ (XS.iload X604.here hx rfl (hb hby at_193) rfl k_)
    have R614 : Go p e below P T604 (mkF m 197 #[.val (.int i0), .val (.int i1), .val (.int i2), .val (.int i3), .val (.int vl), .val (.int v0), .val (.int v1), .val (.int v2), .val (.int (1 : Int32)), .val (.int cpf), .val (.int el), .val (.int e0_), .val (.int e1_), .val (.int e2_), .val (.ref x_573), .val (.ref x_581), .val (.ref r_588), .val (.ref b593), .unset] [(.int vl), (.int e2_), (.int e1_), (.int e0_), (.int el)]) := fun t_ k_ => R613 t_ (XS.iload X604.here hx rfl (hb hby at_195) rfl k_)
    have R615 : Go p e below P T604 (mkF m 199 #[.val (.int i0), .val (.int i1), .val (.int i2), .val (.int i3), .val (.int vl), .val (.int v0), .val (.int v1), .val (.int v2), .val (.int (1 : Int32)), .val (.int cpf), .val (.int el), .val (.int e0_), .val (.int e1_), .val (.int e2_), .val (.ref x_573), .val (.ref x_581), .val (.ref r_588), .val (.ref b593), .unset] [(.int v0), (.int vl), (.int e2_), (.int e1_), (.int e0_), (.int el)]) := fun t_ k_ => R614 t_ (XS.iload X604.here hx rfl (hb hby at_197) rfl k_)
    have R616 : Go p e below P T604 (mkF m 201 #[.val (.int i0), .val (.int i1), .val (.int i2), .val (.int i3), .val (.int vl), .val (.int v0), .val (.int v1), .val (.int v2), .val (.int (1 : Int32)), .val (.int cpf), .val (.int el), .val (.int e0_), .val (.int e1_), .val (.int e2_), .val (.ref x_573), .val (.ref x_581), .val (.ref r_588), .val (.ref b593), .unset] [(.int v1), (.int v0), (.int vl), (.int e2_), (.int e1_), (.int e0_), (.int el)]) := fun t_ k_ => R615 t_ (XS.iload X604.here hx rfl (hb hby at_199) rfl k_)
    have R617 : Go p e below P T604 (mkF m 203 #[.val (.int i0), .val (.int i1), .val (.int i2), .val (.int i3), .val (.int vl), .val (.int v0), .val (.int v1), .val (.int v2), .val (.int (1 : Int32)), .val (.int cpf), .val (.int el), .val (.int e0_), .val (.int e1_), .val (.int e2_), .val (.ref x_573), .val (.ref x_581), .val (.ref r_588), .val (.ref b593), .unset] [(.int v2), (.int v1), (.int v0), (.int vl), (.int e2_), (.int e1_), (.int e0_), (.int el)]) := fun t_ k_ => R616 t_ (XS.iload X604.here hx rfl (hb hby at_201) rfl k_)
    obtain ⟨rv618, _, ⟨T618, L618, k618, n618⟩, -, X618, ⟨Lc618, hQ618, l618, y618, z618⟩, st618⟩ := Jvm.LawKit.callS X604 hx (y := (⟨"com/example/interleave/interleave/engine/CheckValueHeldPinLaw", "same", "(ICCCICCC)Z"⟩ : MethodName)) hown (mvT hZ (hw _ (List.mem_of_getElem? (i := 70) rfl))) (mvT hZ (hw _ (List.mem_of_getElem? (i := 71) rfl))) (mvT hZ (hw _ (List.mem_of_getElem? (i := 2) rfl))) (mvT hZ (hw _ (List.mem_of_getElem? (i := 72) rfl))) (by decide) (backOf (W := 0) (same_ l Z a0 hw [] el e0_ e1_ e2_ vl v0 v1 v2 T604.heap n0 O604) hZ (hw _ (List.mem_of_getElem? (i := 72) rfl)) (hw _ (List.mem_of_getElem? (i := 2) rfl)) (by decide) (by decide)) (g := (mkF m 203 #[.val (.int i0), .val (.int i1), .val (.int i2), .val (.int i3), .val (.int vl), .val (.int v0), .val (.int v1), .val (.int v2), .val (.int (1 : Int32)), .val (.int cpf), .val (.int el), .val (.int e0_), .val (.int e1_), .val (.int e2_), .val (.ref x_573), .val (.ref x_581), .val (.ref r_588), .val (.ref b593), .unset] [(.int v2), (.int v1), (.int v0), (.int vl), (.int e2_), (.int e1_), (.int e0_), (.int el)])) rfl (by rw [hml]; rfl) (argsL := [(.int el), (.int e0_), (.int e1_), (.int e2_), (.int vl), (.int v0), (.int v1), (.int v2)]) (rest := []) (lenOf pd_19852302 rfl) rfl (by show 2 * 0 + _ ≤ _; exact Nat.le_of_eq rfl) (hb hby at_203) (fun _ _ => ⟨rfl, (rfl : T604.heap = T604.heap), (by decide : 14 + 0 ≤ _), (by decide : 28 + 0 ≤ _)⟩)
    dsimp only [Pt.U, Pt.locs, Pt.cells, Pt.slots] at X618 l618 y618 z618 st618 hQ618
    subst l618 y618 z618
    obtain ⟨rfl, N618q, K618⟩ := hQ618
    have N618 := Fr.app N604 N618q
    have R619 : Go p e below P T618 (mkF m 206 #[.val (.int i0), .val (.int i1), .val (.int i2), .val (.int i3), .val (.int vl), .val (.int v0), .val (.int v1), .val (.int v2), .val (.int (1 : Int32)), .val (.int cpf), .val (.int el), .val (.int e0_), .val (.int e1_), .val (.int e2_), .val (.ref x_573), .val (.ref x_581), .val (.ref r_588), .val (.ref b593), .unset] [(.int (sameI el vl e0_ e1_ e2_ v0 v1 v2))]) := fun t_ k_ => R617 t_ (st618 t_ k_)
    by_cases hc620 : (sameI el vl e0_ e1_ e2_ v0 v1 v2) = (0 : Int32)
    · have R621 : Go p e below P T618 (mkF m 213 #[.val (.int i0), .val (.int i1), .val (.int i2), .val (.int i3), .val (.int vl), .val (.int v0), .val (.int v1), .val (.int v2), .val (.int (1 : Int32)), .val (.int cpf), .val (.int el), .val (.int e0_), .val (.int e1_), .val (.int e2_), .val (.ref x_573), .val (.ref x_581), .val (.ref r_588), .val (.ref b593), .unset] []) := fun t_ k_ => R619 t_ (XS.ifYes X618.here hx rfl (pc0 := 206) (pc' := 213) rfl (hb hby at_206) rfl ((if0 _ _).trans (teq hc620).1) (by decide) (by decide) k_)
      have R622 : Go p e below P T618 (mkF m 214 #[.val (.int i0), .val (.int i1), .val (.int i2), .val (.int i3), .val (.int vl), .val (.int v0), .val (.int v1), .val (.int v2), .val (.int (1 : Int32)), .val (.int cpf), .val (.int el), .val (.int e0_), .val (.int e1_), .val (.int e2_), .val (.ref x_573), .val (.ref x_581), .val (.ref r_588), .val (.ref b593), .unset] [(.int (0 : Int32))]) := fun t_ k_ => R621 t_ (XS.iconst X618.here hx rfl (hb hby at_213) k_)
      have R623 : Go p e below P T618 (mkF m 216 #[.val (.int i0), .val (.int i1), .val (.int i2), .val (.int i3), .val (.int vl), .val (.int v0), .val (.int v1), .val (.int v2), .val (.int (1 : Int32)), .val (.int cpf), .val (.int el), .val (.int e0_), .val (.int e1_), .val (.int e2_), .val (.ref x_573), .val (.ref x_581), .val (.ref r_588), .val (.ref b593), .val (.int (0 : Int32))] []) := fun t_ k_ => R622 t_ (XS.istore X618.here hx rfl (hb hby at_214) rfl (l' := #[.val (.int i0), .val (.int i1), .val (.int i2), .val (.int i3), .val (.int vl), .val (.int v0), .val (.int v1), .val (.int v2), .val (.int (1 : Int32)), .val (.int cpf), .val (.int el), .val (.int e0_), .val (.int e1_), .val (.int e2_), .val (.ref x_573), .val (.ref x_581), .val (.ref r_588), .val (.ref b593), .val (.int (0 : Int32))]) rfl k_)
      have R624 : Go p e below P T618 (mkF m 218 #[.val (.int i0), .val (.int i1), .val (.int i2), .val (.int i3), .val (.int vl), .val (.int v0), .val (.int v1), .val (.int v2), .val (.int (1 : Int32)), .val (.int cpf), .val (.int el), .val (.int e0_), .val (.int e1_), .val (.int e2_), .val (.ref x_573), .val (.ref x_581), .val (.ref r_588), .val (.ref b593), .val (.int (0 : Int32))] [(.ref b593)]) := fun t_ k_ => R623 t_ (XS.aload X618.here hx rfl (hb hby at_216) rfl rfl k_)
      have f625 := ((((p573_1.keep K581).keep K588).ext E593).keep K604)
      have f626 := ((((p573_2.keep K581 nin0).keep K588 nin0).ext E593).keep K604 (ninS (Nat.ne_of_lt (Nat.lt_of_lt_of_le ((p573_1.keep K581).keep K588).lt (Nat.le_of_eq g593.symm))) nin0))
      have f627 := ((((p573_3.keep K581 nin0).keep K588 nin0).ext E593).keep K604 (ninS (Nat.ne_of_lt (Nat.lt_of_lt_of_le ((p573_1.keep K581).keep K588).lt (Nat.le_of_eq g593.symm))) nin0))
      have f628 := ((((p573_4.keep K581 nin0).keep K588 nin0).ext E593).keep K604 (ninS (Nat.ne_of_lt (Nat.lt_of_lt_of_le ((p573_4.keep K581 nin0).keep K588 nin0).lt (Nat.le_of_eq g593.symm))) nin0))
      have f629 := (f602.keep K604)
      have f630 := (((p581_2.keep K588 nin0).ext E593).keep K604 (ninS (Nat.ne_of_lt (Nat.lt_of_lt_of_le (p581_1.keep K588).lt (Nat.le_of_eq g593.symm))) nin0))
      have f631 := (((p581_3.keep K588 nin0).ext E593).keep K604 (ninS (Nat.ne_of_lt (Nat.lt_of_lt_of_le (p581_1.keep K588).lt (Nat.le_of_eq g593.symm))) nin0))
      have f632 := (((p581_4.keep K588 nin0).ext E593).keep K604 (ninS (Nat.ne_of_lt (Nat.lt_of_lt_of_le (p581_4.keep K588 nin0).lt (Nat.le_of_eq g593.symm))) nin0))
      obtain ⟨cq633, kq633, q633a, q633b, q633c⟩ := isOf hZ K618 p604_0
      obtain ⟨rv633, _, ⟨T633, L633, k633, n633⟩, -, X633, ⟨Lc633, hQ633, l633, y633, z633⟩, st633⟩ := X618.virtualBack hx (y := (⟨"com/example/interleave/interleave/engine/CheckValue", "held", "()Z"⟩ : MethodName)) (z := (⟨"com/example/interleave/interleave/engine/CheckValue", "held", "()Z"⟩ : MethodName)) hown (mvT hZ (hw _ (List.mem_of_getElem? (i := 73) rfl))) (mvT hZ (hw _ (List.mem_of_getElem? (i := 74) rfl))) (notFace_of_selects (args := #[]) (mvT hZ (hw _ (List.mem_of_getElem? (i := 76) rfl)))) (mvT hZ (hw _ (List.mem_of_getElem? (i := 76) rfl))) (mvT hZ (hw _ (List.mem_of_getElem? (i := 75) rfl))) (by decide) (backOf (W := 0) (heldP_ l Z a0 hw [] b593 x_573 t_573 kb_573 (strL vl v0 v1 v2) x_581 t_581 kb_581 (strL el e0_ e1_ e2_) zc T604.heap n0 O604 p604_2 p604_3 f625 f626 f627 f628 f629 f630 f631 f632 P0 hzc (strL_ok cv0 cv1 cv2) (strL_ok ce0 ce1 ce2) strL_len strL_len) hZ (hw _ (List.mem_of_getElem? (i := 77) rfl)) (hw _ (List.mem_of_getElem? (i := 53) rfl)) (by decide) (by decide)) q633a q633c (g := (mkF m 218 #[.val (.int i0), .val (.int i1), .val (.int i2), .val (.int i3), .val (.int vl), .val (.int v0), .val (.int v1), .val (.int v2), .val (.int (1 : Int32)), .val (.int cpf), .val (.int el), .val (.int e0_), .val (.int e1_), .val (.int e2_), .val (.ref x_573), .val (.ref x_581), .val (.ref r_588), .val (.ref b593), .val (.int (0 : Int32))] [(.ref b593)])) rfl (by rw [hml]; rfl) (Steps.refl _) (argsL := []) (rest := []) (lenOf pd_16428538 rfl) rfl (by show 2 * 0 + _ ≤ _; exact Nat.le_of_eq rfl) (hb hby at_218) (fun _ _ => ⟨rfl, K618, (by decide : 14 + 0 ≤ _), (by decide : 28 + 0 ≤ _)⟩)
      dsimp only [Pt.U, Pt.locs, Pt.cells, Pt.slots] at X633 l633 y633 z633 st633 hQ633
      subst l633 y633 z633
      obtain ⟨rfl, N633q, K633⟩ := hQ633
      have N633 := Fr.app N618 N633q
      have R634 : Go p e below P T633 (mkF m 221 #[.val (.int i0), .val (.int i1), .val (.int i2), .val (.int i3), .val (.int vl), .val (.int v0), .val (.int v1), .val (.int v2), .val (.int (1 : Int32)), .val (.int cpf), .val (.int el), .val (.int e0_), .val (.int e1_), .val (.int e2_), .val (.ref x_573), .val (.ref x_581), .val (.ref r_588), .val (.ref b593), .val (.int (0 : Int32))] [(.int (eqI (strL el e0_ e1_ e2_) (strL vl v0 v1 v2)))]) := fun t_ k_ => R624 t_ (st633.trans k_)
      have R635 : Go p e below P T633 (mkF m 223 #[.val (.int i0), .val (.int i1), .val (.int i2), .val (.int i3), .val (.int vl), .val (.int v0), .val (.int v1), .val (.int v2), .val (.int (1 : Int32)), .val (.int cpf), .val (.int el), .val (.int e0_), .val (.int e1_), .val (.int e2_), .val (.ref x_573), .val (.ref x_581), .val (.ref r_588), .val (.ref b593), .val (.int (0 : Int32))] [(.int (0 : Int32)), (.int (eqI (strL el e0_ e1_ e2_) (strL vl v0 v1 v2)))]) := fun t_ k_ => R634 t_ (XS.iload X633.here hx rfl (hb hby at_221) rfl k_)
      have R636 : Go p e below P T633 (mkF m 226 #[.val (.int i0), .val (.int i1), .val (.int i2), .val (.int i3), .val (.int vl), .val (.int v0), .val (.int v1), .val (.int v2), .val (.int (1 : Int32)), .val (.int cpf), .val (.int el), .val (.int e0_), .val (.int e1_), .val (.int e2_), .val (.ref x_573), .val (.ref x_581), .val (.ref r_588), .val (.ref b593), .val (.int (0 : Int32))] []) := fun t_ k_ => R635 t_ (XS.icmpNo X633.here hx rfl (hb hby at_223) rfl (teq (by have h := hc620; rw [own_same rel rvl] at h; exact h)).2 k_)
      have R637 : Go p e below P T633 (mkF m 227 #[.val (.int i0), .val (.int i1), .val (.int i2), .val (.int i3), .val (.int vl), .val (.int v0), .val (.int v1), .val (.int v2), .val (.int (1 : Int32)), .val (.int cpf), .val (.int el), .val (.int e0_), .val (.int e1_), .val (.int e2_), .val (.ref x_573), .val (.ref x_581), .val (.ref r_588), .val (.ref b593), .val (.int (0 : Int32))] [(.int (1 : Int32))]) := fun t_ k_ => R636 t_ (XS.iconst X633.here hx rfl (hb hby at_226) k_)
      have R638 : Go p e below P T633 (mkF m 231 #[.val (.int i0), .val (.int i1), .val (.int i2), .val (.int i3), .val (.int vl), .val (.int v0), .val (.int v1), .val (.int v2), .val (.int (1 : Int32)), .val (.int cpf), .val (.int el), .val (.int e0_), .val (.int e1_), .val (.int e2_), .val (.ref x_573), .val (.ref x_581), .val (.ref r_588), .val (.ref b593), .val (.int (0 : Int32))] [(.int (1 : Int32))]) := fun t_ k_ => R637 t_ (XS.goto X633.here hx rfl (pc0 := 227) (pc' := 231) rfl (hb hby at_227) (by decide) (by decide) k_)
      obtain ⟨fs, hr, hrun, hended, hend⟩ := X633.leaveW hS581 (by rw [K633]; exact hk605 : _ ≤ T633.heap.size) (v := some (.int (nar .boolean (1 : Int32)))) (fun h => by rw [Bd.returns] at h; cases h)
      have hCe := C605.trans (CHv.at X633 hZ hEL C605.1)
      exact ⟨_, _, hP _ (R638 _ (retN X633 hx (t := .boolean) Bd.returns (by simp) (hb hby at_231) hr)), hrun, hended, _, _, rfl, ⟨rfl, N633, (K633.symm ▸ ((((((Keep.refl h0 []).trans K573 all0).trans K581 all0).trans K588 all0).ext E593).trans K604 (allS (Or.inr (Nat.le_trans ((((Keep.refl h0 []).trans K573 all0).trans K581 all0).trans K588 all0).1 (Nat.le_of_eq g593.symm))) all0)))⟩, (by show CHr Z EL0 s.vm s.heap T633.vm T633.heap; rw [hh, K633]; exact hCe), ⟨hend.1, hend.2.1, hend.2.2.1, hend.2.2.2.mono (by decide) (by decide)⟩⟩
    · have R639 : Go p e below P T618 (mkF m 209 #[.val (.int i0), .val (.int i1), .val (.int i2), .val (.int i3), .val (.int vl), .val (.int v0), .val (.int v1), .val (.int v2), .val (.int (1 : Int32)), .val (.int cpf), .val (.int el), .val (.int e0_), .val (.int e1_), .val (.int e2_), .val (.ref x_573), .val (.ref x_581), .val (.ref r_588), .val (.ref b593), .unset] []) := fun t_ k_ => R619 t_ (XS.ifNo X618.here hx rfl (hb hby at_206) rfl ((if0 _ _).trans (feq hc620).1) k_)
      have R640 : Go p e below P T618 (mkF m 210 #[.val (.int i0), .val (.int i1), .val (.int i2), .val (.int i3), .val (.int vl), .val (.int v0), .val (.int v1), .val (.int v2), .val (.int (1 : Int32)), .val (.int cpf), .val (.int el), .val (.int e0_), .val (.int e1_), .val (.int e2_), .val (.ref x_573), .val (.ref x_581), .val (.ref r_588), .val (.ref b593), .unset] [(.int (1 : Int32))]) := fun t_ k_ => R639 t_ (XS.iconst X618.here hx rfl (hb hby at_209) k_)
      have R641 : Go p e below P T618 (mkF m 214 #[.val (.int i0), .val (.int i1), .val (.int i2), .val (.int i3), .val (.int vl), .val (.int v0), .val (.int v1), .val (.int v2), .val (.int (1 : Int32)), .val (.int cpf), .val (.int el), .val (.int e0_), .val (.int e1_), .val (.int e2_), .val (.ref x_573), .val (.ref x_581), .val (.ref r_588), .val (.ref b593), .unset] [(.int (1 : Int32))]) := fun t_ k_ => R640 t_ (XS.goto X618.here hx rfl (pc0 := 210) (pc' := 214) rfl (hb hby at_210) (by decide) (by decide) k_)
      have R642 : Go p e below P T618 (mkF m 216 #[.val (.int i0), .val (.int i1), .val (.int i2), .val (.int i3), .val (.int vl), .val (.int v0), .val (.int v1), .val (.int v2), .val (.int (1 : Int32)), .val (.int cpf), .val (.int el), .val (.int e0_), .val (.int e1_), .val (.int e2_), .val (.ref x_573), .val (.ref x_581), .val (.ref r_588), .val (.ref b593), .val (.int (1 : Int32))] []) := fun t_ k_ => R641 t_ (XS.istore X618.here hx rfl (hb hby at_214) rfl (l' := #[.val (.int i0), .val (.int i1), .val (.int i2), .val (.int i3), .val (.int vl), .val (.int v0), .val (.int v1), .val (.int v2), .val (.int (1 : Int32)), .val (.int cpf), .val (.int el), .val (.int e0_), .val (.int e1_), .val (.int e2_), .val (.ref x_573), .val (.ref x_581), .val (.ref r_588), .val (.ref b593), .val (.int (1 : Int32))]) rfl k_)
      have R643 : Go p e below P T618 (mkF m 218 #[.val (.int i0), .val (.int i1), .val (.int i2), .val (.int i3), .val (.int vl), .val (.int v0), .val (.int v1), .val (.int v2), .val (.int (1 : Int32)), .val (.int cpf), .val (.int el), .val (.int e0_), .val (.int e1_), .val (.int e2_), .val (.ref x_573), .val (.ref x_581), .val (.ref r_588), .val (.ref b593), .val (.int (1 : Int32))] [(.ref b593)]) := fun t_ k_ => R642 t_ (XS.aload X618.here hx rfl (hb hby at_216) rfl rfl k_)
      have f644 := ((((p573_1.keep K581).keep K588).ext E593).keep K604)
      have f645 := ((((p573_2.keep K581 nin0).keep K588 nin0).ext E593).keep K604 (ninS (Nat.ne_of_lt (Nat.lt_of_lt_of_le ((p573_1.keep K581).keep K588).lt (Nat.le_of_eq g593.symm))) nin0))
      have f646 := ((((p573_3.keep K581 nin0).keep K588 nin0).ext E593).keep K604 (ninS (Nat.ne_of_lt (Nat.lt_of_lt_of_le ((p573_1.keep K581).keep K588).lt (Nat.le_of_eq g593.symm))) nin0))
      have f647 := ((((p573_4.keep K581 nin0).keep K588 nin0).ext E593).keep K604 (ninS (Nat.ne_of_lt (Nat.lt_of_lt_of_le ((p573_4.keep K581 nin0).keep K588 nin0).lt (Nat.le_of_eq g593.symm))) nin0))
      have f648 := (f602.keep K604)
      have f649 := (((p581_2.keep K588 nin0).ext E593).keep K604 (ninS (Nat.ne_of_lt (Nat.lt_of_lt_of_le (p581_1.keep K588).lt (Nat.le_of_eq g593.symm))) nin0))
      have f650 := (((p581_3.keep K588 nin0).ext E593).keep K604 (ninS (Nat.ne_of_lt (Nat.lt_of_lt_of_le (p581_1.keep K588).lt (Nat.le_of_eq g593.symm))) nin0))
      have f651 := (((p581_4.keep K588 nin0).ext E593).keep K604 (ninS (Nat.ne_of_lt (Nat.lt_of_lt_of_le (p581_4.keep K588 nin0).lt (Nat.le_of_eq g593.symm))) nin0))
      obtain ⟨cq652, kq652, q652a, q652b, q652c⟩ := isOf hZ K618 p604_0
      obtain ⟨rv652, _, ⟨T652, L652, k652, n652⟩, -, X652, ⟨Lc652, hQ652, l652, y652, z652⟩, st652⟩ := X618.virtualBack hx (y := (⟨"com/example/interleave/interleave/engine/CheckValue", "held", "()Z"⟩ : MethodName)) (z := (⟨"com/example/interleave/interleave/engine/CheckValue", "held", "()Z"⟩ : MethodName)) hown (mvT hZ (hw _ (List.mem_of_getElem? (i := 73) rfl))) (mvT hZ (hw _ (List.mem_of_getElem? (i := 74) rfl))) (notFace_of_selects (args := #[]) (mvT hZ (hw _ (List.mem_of_getElem? (i := 76) rfl)))) (mvT hZ (hw _ (List.mem_of_getElem? (i := 76) rfl))) (mvT hZ (hw _ (List.mem_of_getElem? (i := 75) rfl))) (by decide) (backOf (W := 0) (heldP_ l Z a0 hw [] b593 x_573 t_573 kb_573 (strL vl v0 v1 v2) x_581 t_581 kb_581 (strL el e0_ e1_ e2_) zc T604.heap n0 O604 p604_2 p604_3 f644 f645 f646 f647 f648 f649 f650 f651 P0 hzc (strL_ok cv0 cv1 cv2) (strL_ok ce0 ce1 ce2) strL_len strL_len) hZ (hw _ (List.mem_of_getElem? (i := 77) rfl)) (hw _ (List.mem_of_getElem? (i := 53) rfl)) (by decide) (by decide)) q652a q652c (g := (mkF m 218 #[.val (.int i0), .val (.int i1), .val (.int i2), .val (.int i3), .val (.int vl), .val (.int v0), .val (.int v1), .val (.int v2), .val (.int (1 : Int32)), .val (.int cpf), .val (.int el), .val (.int e0_), .val (.int e1_), .val (.int e2_), .val (.ref x_573), .val (.ref x_581), .val (.ref r_588), .val (.ref b593), .val (.int (1 : Int32))] [(.ref b593)])) rfl (by rw [hml]; rfl) (Steps.refl _) (argsL := []) (rest := []) (lenOf pd_16428538 rfl) rfl (by show 2 * 0 + _ ≤ _; exact Nat.le_of_eq rfl) (hb hby at_218) (fun _ _ => ⟨rfl, K618, (by decide : 14 + 0 ≤ _), (by decide : 28 + 0 ≤ _)⟩)
      dsimp only [Pt.U, Pt.locs, Pt.cells, Pt.slots] at X652 l652 y652 z652 st652 hQ652
      subst l652 y652 z652
      obtain ⟨rfl, N652q, K652⟩ := hQ652
      have N652 := Fr.app N618 N652q
      have R653 : Go p e below P T652 (mkF m 221 #[.val (.int i0), .val (.int i1), .val (.int i2), .val (.int i3), .val (.int vl), .val (.int v0), .val (.int v1), .val (.int v2), .val (.int (1 : Int32)), .val (.int cpf), .val (.int el), .val (.int e0_), .val (.int e1_), .val (.int e2_), .val (.ref x_573), .val (.ref x_581), .val (.ref r_588), .val (.ref b593), .val (.int (1 : Int32))] [(.int (eqI (strL el e0_ e1_ e2_) (strL vl v0 v1 v2)))]) := fun t_ k_ => R643 t_ (st652.trans k_)
      have R654 : Go p e below P T652 (mkF m 223 #[.val (.int i0), .val (.int i1), .val (.int i2), .val (.int i3), .val (.int vl), .val (.int v0), .val (.int v1), .val (.int v2), .val (.int (1 : Int32)), .val (.int cpf), .val (.int el), .val (.int e0_), .val (.int e1_), .val (.int e2_), .val (.ref x_573), .val (.ref x_581), .val (.ref r_588), .val (.ref b593), .val (.int (1 : Int32))] [(.int (1 : Int32)), (.int (eqI (strL el e0_ e1_ e2_) (strL vl v0 v1 v2)))]) := fun t_ k_ => R653 t_ (XS.iload X652.here hx rfl (hb hby at_221) rfl k_)
      have R655 : Go p e below P T652 (mkF m 226 #[.val (.int i0), .val (.int i1), .val (.int i2), .val (.int i3), .val (.int vl), .val (.int v0), .val (.int v1), .val (.int v2), .val (.int (1 : Int32)), .val (.int cpf), .val (.int el), .val (.int e0_), .val (.int e1_), .val (.int e2_), .val (.ref x_573), .val (.ref x_581), .val (.ref r_588), .val (.ref b593), .val (.int (1 : Int32))] []) := fun t_ k_ => R654 t_ (XS.icmpNo X652.here hx rfl (hb hby at_223) rfl (teq (by have h := hc620; rw [own_same rel rvl] at h; exact (eqI01 _ _).resolve_left h)).2 k_)
      have R656 : Go p e below P T652 (mkF m 227 #[.val (.int i0), .val (.int i1), .val (.int i2), .val (.int i3), .val (.int vl), .val (.int v0), .val (.int v1), .val (.int v2), .val (.int (1 : Int32)), .val (.int cpf), .val (.int el), .val (.int e0_), .val (.int e1_), .val (.int e2_), .val (.ref x_573), .val (.ref x_581), .val (.ref r_588), .val (.ref b593), .val (.int (1 : Int32))] [(.int (1 : Int32))]) := fun t_ k_ => R655 t_ (XS.iconst X652.here hx rfl (hb hby at_226) k_)
      have R657 : Go p e below P T652 (mkF m 231 #[.val (.int i0), .val (.int i1), .val (.int i2), .val (.int i3), .val (.int vl), .val (.int v0), .val (.int v1), .val (.int v2), .val (.int (1 : Int32)), .val (.int cpf), .val (.int el), .val (.int e0_), .val (.int e1_), .val (.int e2_), .val (.ref x_573), .val (.ref x_581), .val (.ref r_588), .val (.ref b593), .val (.int (1 : Int32))] [(.int (1 : Int32))]) := fun t_ k_ => R656 t_ (XS.goto X652.here hx rfl (pc0 := 227) (pc' := 231) rfl (hb hby at_227) (by decide) (by decide) k_)
      obtain ⟨fs, hr, hrun, hended, hend⟩ := X652.leaveW hS581 (by rw [K652]; exact hk605 : _ ≤ T652.heap.size) (v := some (.int (nar .boolean (1 : Int32)))) (fun h => by rw [Bd.returns] at h; cases h)
      have hCe := C605.trans (CHv.at X652 hZ hEL C605.1)
      exact ⟨_, _, hP _ (R657 _ (retN X652 hx (t := .boolean) Bd.returns (by simp) (hb hby at_231) hr)), hrun, hended, _, _, rfl, ⟨rfl, N652, (K652.symm ▸ ((((((Keep.refl h0 []).trans K573 all0).trans K581 all0).trans K588 all0).ext E593).trans K604 (allS (Or.inr (Nat.le_trans ((((Keep.refl h0 []).trans K573 all0).trans K581 all0).trans K588 all0).1 (Nat.le_of_eq g593.symm))) all0)))⟩, (by show CHr Z EL0 s.vm s.heap T652.vm T652.heap; rw [hh, K652]; exact hCe), ⟨hend.1, hend.2.1, hend.2.2.1, hend.2.2.2.mono (by decide) (by decide)⟩⟩
set_option maxRecDepth 65536 in
set_option maxHeartbeats 40000000 in
theorem comes_1 {Post : Tables → Env → Array Value → State → Outcome → State → Prop} (hpost : ∀ tb e args s v u, (limb_1_1.after args s (.returned v) u = true ∧ limb_1_2.after args s (.returned v) u = true ∧ True) → ReturnedEndW s (.returned v) u (Jvm.fieldLocs frame_1_writes args s ++ Jvm.arrayLocs frame_1_arrays args s ++ Jvm.staticLocs frame_1_statics s) 32 1152 → Post tb e args s (.returned v) u) :
    ArmFor flags0 classFile x code maxLocals ret World_1 tables_1 room_1 Calls_1 rest_1 Pre_1 Post := by
  intro l hfl _ _ p e ha hc hk s m args below hf hA hF happ hP
  obtain ⟨hcalls, hrest, hpre⟩ := hP
  obtain ⟨-, -, -, hnamed, -, -, -, hat⟩ := (Spec.applies_iff hf).mp happ
  obtain ⟨hg, hn⟩ := and_e (Cond.before_iff.mp (show (Jvm.Cond.and given_1 narrow_1).before args s = true from hpre))
  obtain ⟨g1, g2⟩ := and_e hg
  obtain ⟨g3, g4⟩ := and_e g2
  obtain ⟨g5, g6⟩ := and_e g4
  obtain ⟨g7, g8⟩ := and_e g6
  obtain ⟨w0, w1, w2, w3, rfl⟩ : ∃ w0 w1 w2 w3 : Value, args = #[w0, w1, w2, w3] := by
    have hs : args.size = 4 := by simpa [Cond.value, given_1] using g1
    obtain ⟨L⟩ := args
    match L, hs with
    | [w0, w1, w2, w3], _ => exact ⟨w0, w1, w2, w3, rfl⟩
  have hw := fun d (hd : d ∈ tables_1) => atoms_spec (ws := Jvm.Cond.code x code maxLocals ret :: tables_1) hat d (List.mem_cons_of_mem _ hd)
  have hfit : Fit s := fun {y c} hc i hi => by
    obtain ⟨ha, rfl⟩ := Array.getElem?_eq_some_iff.mp hc
    have q := List.all_eq_true.mp ((Array.all_eq_true_iff_forall_mem.mp hF) _ (Array.getElem_mem ha)) i (List.mem_range.mpr hi)
    simpa [Array.getElem?_eq_getElem hi] using q
  obtain ⟨hsets, hown0⟩ := atoms_of _ (rest_1_c_eq ▸ (show rest_1_c.before _ s = true from hrest))
  obtain ⟨i0, ei0⟩ := is_v g3
  obtain rfl : w0 = (.int i0) := Option.some.inj ei0
  obtain ⟨i1, ei1⟩ := is_v g5
  obtain rfl : w1 = (.int i1) := Option.some.inj ei1
  obtain ⟨i2, ei2⟩ := is_v g7
  obtain rfl : w2 = (.int i2) := Option.some.inj ei2
  obtain ⟨i3, ei3⟩ := is_v g8
  obtain rfl : w3 = (.int i3) := Option.some.inj ei3
  have hEL : EW s (#[.int i0, .int i1, .int i2, .int i3] : Array Value) EL0 := (EW.cons (hw _ (List.mem_of_getElem? (i := 92) rfl)) (by decide) EW.nil)
  have hCH : CHv s EL0 s.vm s.heap := CHv.start hEL (fun p hp => hcalls.1 p hp) (hsets _ (List.mem_of_getElem? (i := 2) rfl)) (hw _ (List.mem_of_getElem? (i := 23) rfl)) (hw _ (List.mem_of_getElem? (i := 5) rfl))
  obtain ⟨z_cs, ev_cs⟩ := is_v (Cond.before_iff.mp (hsets _ (List.mem_of_getElem? (i := 1) rfl)))
  have S_cs := Sta.start ev_cs (Or.inl (hsets _ (List.mem_of_getElem? (i := 0) rfl)))
  have hz_cs : ¬ z_cs = 0 := fun q => by
    have h := not_v (Cond.before_iff.mp (hsets _ (List.mem_of_getElem? (i := 2) rfl)))
    have h' := gotF (eq_I ev_cs (Term.int_eval (0))) h
    exact h' q
  have hexE := Cond.before_iff.mp (hsets _ (List.mem_of_getElem? (i := 11) rfl))
  obtain ⟨wE, evE⟩ := exa_v hexE
  have S_E := Sta.start evE (Or.inl (hsets _ (List.mem_of_getElem? (i := 10) rfl)))
  have E_E := Exa.start evE hexE
  have F_E : Fld s s.heap wE "java/util/Optional" "value" "Ljava/lang/Object;" .null := Fld.start ((fld_at evE).symm.trans (null_v (Cond.before_iff.mp (hsets _ (List.mem_of_getElem? (i := 12) rfl)))))
  obtain ⟨n, o, h1, h2, h3, _, L, rfl, ⟨rfl, N, _⟩, -, hq⟩ := law_ l s _ hw tables_1 i0 i1 i2 i3 wE z_cs s.heap s.heap.size (Old.start s) hEL S_cs S_E E_E F_E hz_cs p e ha hc hk s m _ below hf ((Spec.applies_iff_loose hf).mp happ).1 ⟨rfl, State.Warmed39.refl s, rfl, hCH⟩ trivial
  refine ⟨n, _, h1, h2, h3, hpost _ _ _ _ _ _ ⟨Cond.after_iff.mpr rfl, Cond.after_iff.mpr (eq_i res_at (Term.int_eval (1)) rfl), trivial⟩ ⟨hq.1, hq.2.1, hq.2.2.1, (hq.2.2.2.sift fun y hy => Or.inr (N y hy)).mono (by decide) (by decide)⟩⟩
theorem main_1_1 : Claimed_1_1 := comes_1 fun _ _ _ _ _ _ h hF => ⟨h.1, hF⟩
theorem main_1_2 : Claimed_1_2 := comes_1 fun _ _ _ _ _ _ h hF => ⟨h.2.1, hF⟩
end Jvm.Pilot.@@N@@
namespace Jvm.Pilot.@@N@@
open Jvm Jvm.ClassFile Sem Op Lib Jvm.Free Jvm.Stand Jvm.Pilot.@@N@@.Jvm.D
/-! MADE BY PROGRAM (witnessworld.py) out of the Statement's table words and the real class files: 22 classes; the members and pool entries that the words name. The judged class is class 1, her method 3. -/
namespace start1
open Jvm.ClassFile
def u (s : String) : CpInfo := .utf8 (stringToUtf16 s)
/-- a pool by its gaps: so many unusable entries, then the entry; so many at the end -/
def gap : Nat → List CpInfo → List CpInfo
  | 0, r => r
  | n + 1, r => .unusable :: gap n r
def poolList (es : List (Nat × CpInfo)) (last : Nat) : List CpInfo := es.foldr (fun e r => gap e.1 (e.2 :: r)) (gap last [])
def pool (es : List (Nat × CpInfo)) (last : Nat) : Array CpInfo := ⟨poolList es last⟩
def fileOf (pool : Array CpInfo) (this : Nat) (attrs : Array Attribute := #[]) (ms : Array MethodInfo := #[]) (fl : Nat := 33) (sup : Nat := 0) (ifs : Array Nat := #[]) (fds : Array FieldInfo := #[]) : ClassFile where
  minorVersion := 0
  majorVersion := 65
  constantPool := pool
  accessFlags := fl
  thisClass := this
  superClass := sup
  interfaces := ifs
  fields := fds
  methods := ms
  attributes := attrs
def plain (name : String) (sup : Option ClassId) : Class where
  name := name
  kind := .ordinary
  loader := none
  accessFlags := 33
  super := sup
  interfaces := #[]
  cf := none
  fields := #[]
  methods := #[]
  instanceTypes := #[]
  staticTypes := #[]
  resolved := #[]
  callSites := []
  init := .initialized
  statics := none
  mirror := none

def pool0 : Array CpInfo := pool [(5, u "<init>"), (0, u "()V"), (1, .class_ 10), (1, u "java/lang/Object")] 113

def k0c0 : Code := { maxStack := 0, maxLocals := 1, code := object_method_1_code, exceptionTable := #[], attributes := #[] }
def k0m0 : Method := { name := "<init>", desc := "()V", sig := { parameters := [], returnType := none }, accessFlags := 1, code := some k0c0 }
/-- java/lang/Object -/
def k0 : Class := { plain "java/lang/Object" none with
  accessFlags := 33
  interfaces := #[]
  cf := some (fileOf pool0 8 #[] #[{ accessFlags := 1, nameIndex := 5, descriptorIndex := 6, attributes := #[] }] 33 0 #[] #[])
  fields := #[]
  methods := #[k0m0]
  instanceTypes := #[]
  staticTypes := #[]
  resolved := Array.replicate 124 none
  statics := none }

def pool1 : Array CpInfo := pool [(2, .class_ 4), (1, u "java/lang/Object"), (0, u "<init>"), (0, u "()V"), (0, .class_ 8), (0, u "java/lang/String"), (0, .methodref 7 10), (0, .nameAndType 5 11), (0, u "([C)V"), (0, .methodref 13 14), (0, .class_ 15), (0, .nameAndType 16 17), (0, u "com/example/interleave/interleave/engine/CheckValueHeldPinLaw"), (0, u "mk"), (0, u "(ICCC)Ljava/lang/String;"), (0, .methodref 19 20), (0, .class_ 21), (0, .nameAndType 22 23), (0, u "java/util/Optional"), (0, u "of"), (0, u "(Ljava/lang/Object;)Ljava/util/Optional;"), (0, .methodref 19 25), (0, .nameAndType 26 27), (0, u "empty"), (0, u "()Ljava/util/Optional;"), (0, .class_ 29), (0, u "com/example/interleave/interleave/engine/CheckValue"), (0, .methodref 28 31), (0, .nameAndType 5 32), (0, u "(ILjava/lang/String;Ljava/util/Optional;)V"), (0, .methodref 13 34), (0, .nameAndType 35 36), (0, u "same"), (0, u "(ICCCICCC)Z"), (0, .methodref 28 38), (0, .nameAndType 39 40), (0, u "held"), (0, u "()Z"), (3, u "law"), (0, u "(IIII)Z")] 2

def k1m0 : Method := { name := "<init>", desc := "()V", sig := { parameters := [], returnType := none }, accessFlags := 1, code := none }
def k1c1 : Code := { maxStack := 6, maxLocals := 4, code := method_2_code, exceptionTable := #[], attributes := #[] }
def k1m1 : Method := { name := "mk", desc := "(ICCC)Ljava/lang/String;", sig := { parameters := [.int, .char, .char, .char], returnType := some (.object "java/lang/String") }, accessFlags := 10, code := some k1c1 }
def k1c2 : Code := { maxStack := 2, maxLocals := 8, code := method_3_code, exceptionTable := #[], attributes := #[] }
def k1m2 : Method := { name := "same", desc := "(ICCCICCC)Z", sig := { parameters := [.int, .char, .char, .char, .int, .char, .char, .char], returnType := some .boolean }, accessFlags := 10, code := some k1c2 }
def k1c3 : Code := { maxStack := 8, maxLocals := 19, code := code, exceptionTable := #[], attributes := #[] }
def k1m3 : Method := { name := "law", desc := "(IIII)Z", sig := { parameters := [.int, .int, .int, .int], returnType := some .boolean }, accessFlags := 9, code := some k1c3 }
/-- com/example/interleave/interleave/engine/CheckValueHeldPinLaw -/
def k1 : Class := { plain "com/example/interleave/interleave/engine/CheckValueHeldPinLaw" (some 0) with
  accessFlags := 49
  interfaces := #[]
  cf := some (fileOf pool1 13 #[] #[{ accessFlags := 1, nameIndex := 5, descriptorIndex := 6, attributes := #[] }, { accessFlags := 10, nameIndex := 16, descriptorIndex := 17, attributes := #[] }, { accessFlags := 10, nameIndex := 35, descriptorIndex := 36, attributes := #[] }, { accessFlags := 9, nameIndex := 44, descriptorIndex := 45, attributes := #[] }] 49 2 #[] #[])
  fields := #[]
  methods := #[k1m0, k1m1, k1m2, k1m3]
  instanceTypes := #[]
  staticTypes := #[]
  resolved := Array.replicate 48 none
  statics := none }

def pool2 : Array CpInfo := pool [(1, .class_ 2), (0, u "java/io/Serializable"), (0, .class_ 4), (0, u "java/lang/Object")] 2

/-- java/io/Serializable -/
def k2 : Class := { plain "java/io/Serializable" (some 0) with
  accessFlags := 1537
  interfaces := #[]
  cf := some (fileOf pool2 1 #[] #[] 1537 3 #[] #[])
  fields := #[]
  methods := #[]
  instanceTypes := #[]
  staticTypes := #[]
  resolved := Array.replicate 7 none
  statics := none }

def pool3 : Array CpInfo := pool [(1, .class_ 2), (0, u "java/lang/Comparable"), (0, .class_ 4), (0, u "java/lang/Object")] 7

/-- java/lang/Comparable -/
def k3 : Class := { plain "java/lang/Comparable" (some 0) with
  accessFlags := 1537
  interfaces := #[]
  cf := some (fileOf pool3 1 #[] #[] 1537 3 #[] #[])
  fields := #[]
  methods := #[]
  instanceTypes := #[]
  staticTypes := #[]
  resolved := Array.replicate 12 none
  statics := none }

def pool4 : Array CpInfo := pool [(2, .class_ 4), (1, u "java/lang/CharSequence"), (42, .class_ 48), (0, u "java/lang/CharSequence$1CodePointIterator"), (10, .class_ 60), (0, u "java/lang/CharSequence$1CharIterator"), (5, .class_ 67), (0, u "java/lang/Object")] 63

/-- java/lang/CharSequence -/
def k4 : Class := { plain "java/lang/CharSequence" (some 0) with
  accessFlags := 1537
  interfaces := #[]
  cf := some (fileOf pool4 2 #[.nestMembers #[47, 59]] #[] 1537 66 #[] #[])
  fields := #[]
  methods := #[]
  instanceTypes := #[]
  staticTypes := #[]
  resolved := Array.replicate 131 none
  statics := none }

def pool5 : Array CpInfo := pool [(1, .class_ 2), (0, u "java/lang/constant/Constable"), (0, .class_ 4), (0, u "java/lang/Object")] 6

/-- java/lang/constant/Constable -/
def k5 : Class := { plain "java/lang/constant/Constable" (some 0) with
  accessFlags := 1537
  interfaces := #[]
  cf := some (fileOf pool5 1 #[] #[] 1537 3 #[] #[])
  fields := #[]
  methods := #[]
  instanceTypes := #[]
  staticTypes := #[]
  resolved := Array.replicate 11 none
  statics := none }

def pool6 : Array CpInfo := pool [(1, .class_ 2), (0, u "java/lang/constant/ConstantDesc"), (0, .class_ 4), (0, u "java/lang/Object")] 32

/-- java/lang/constant/ConstantDesc -/
def k6 : Class := { plain "java/lang/constant/ConstantDesc" (some 0) with
  accessFlags := 1537
  interfaces := #[]
  cf := some (fileOf pool6 1 #[] #[] 1537 3 #[] #[])
  fields := #[]
  methods := #[]
  instanceTypes := #[]
  staticTypes := #[]
  resolved := Array.replicate 37 none
  statics := none }

def pool7 : Array CpInfo := pool [(1, .methodref 2 3), (0, .class_ 4), (0, .nameAndType 5 6), (0, u "java/lang/Object"), (0, u "<init>"), (0, u "()V"), (0, .string 8), (0, u ""), (0, .fieldref 10 11), (0, .class_ 12), (0, .nameAndType 13 14), (0, u "java/lang/String"), (0, u "value"), (0, u "[B"), (0, .fieldref 10 16), (0, .nameAndType 17 18), (0, u "coder"), (0, u "B"), (2, u "hash"), (0, u "I"), (2, u "hashIsZero"), (0, u "Z"), (0, .methodref 10 28), (0, .nameAndType 5 29), (0, u "([CIILjava/lang/Void;)V"), (8, .fieldref 10 39), (0, .nameAndType 40 26), (0, u "COMPACT_STRINGS"), (1, .class_ 44), (1, u "java/lang/StringUTF16"), (0, u "compress"), (1, .methodref 42 48), (0, .nameAndType 49 50), (0, u "coderFromArrayLen"), (0, u "([BI)B"), (56, .class_ 109), (1, u "java/lang/StringLatin1"), (67, .methodref 42 178), (0, .nameAndType 45 179), (0, u "([CII)[B"), (361, .methodref 107 542), (0, .nameAndType 543 544), (0, u "equals"), (0, u "([B[B)Z"), (28, u "(Ljava/lang/Object;)Z"), (1, .class_ 576), (0, u "java/lang/CharSequence"), (22, u "CASE_INSENSITIVE_ORDER"), (0, u "Ljava/util/Comparator;"), (409, u "([C)V"), (90, u "serialPersistentFields"), (0, u "[Ljava/io/ObjectStreamField;"), (0, .class_ 1104), (0, u "java/lang/String$CaseInsensitiveComparator"), (1, .class_ 1107), (0, u "java/io/Serializable"), (0, .class_ 1109), (0, u "java/lang/Comparable"), (0, .class_ 1111), (0, u "java/lang/constant/Constable"), (0, .class_ 1113), (0, u "java/lang/constant/ConstantDesc"), (2, u "serialVersionUID"), (0, u "J"), (3, u "REPL"), (0, u "C"), (2, u "LATIN1"), (1, u "UTF16")] 323

def k7m0 : Method := { name := "<init>", desc := "()V", sig := { parameters := [], returnType := none }, accessFlags := 1, code := none }
def k7c1 : Code := { maxStack := 5, maxLocals := 2, code := jdk_42_method_3_code, exceptionTable := #[], attributes := #[] }
def k7m1 : Method := { name := "<init>", desc := "([C)V", sig := { parameters := [(.array .char)], returnType := none }, accessFlags := 1, code := some k7c1 }
def k7c2 : Code := { maxStack := 2, maxLocals := 3, code := jdk_42_method_66_code, exceptionTable := #[], attributes := #[] }
def k7m2 : Method := { name := "equals", desc := "(Ljava/lang/Object;)Z", sig := { parameters := [(.object "java/lang/Object")], returnType := some .boolean }, accessFlags := 1, code := some k7c2 }
def k7c3 : Code := { maxStack := 4, maxLocals := 6, code := jdk_42_method_149_code, exceptionTable := #[], attributes := #[] }
def k7m3 : Method := { name := "<init>", desc := "([CIILjava/lang/Void;)V", sig := { parameters := [(.array .char), .int, .int, (.object "java/lang/Void")], returnType := none }, accessFlags := 2, code := some k7c3 }
/-- java/lang/String -/
def k7 : Class := { plain "java/lang/String" (some 0) with
  accessFlags := 49
  interfaces := #[2, 3, 4, 5, 6]
  cf := some (fileOf pool7 10 #[.nestMembers #[1103]] #[{ accessFlags := 1, nameIndex := 5, descriptorIndex := 6, attributes := #[] }, { accessFlags := 1, nameIndex := 5, descriptorIndex := 1010, attributes := #[] }, { accessFlags := 1, nameIndex := 543, descriptorIndex := 573, attributes := #[] }, { accessFlags := 2, nameIndex := 5, descriptorIndex := 29, attributes := #[] }] 49 2 #[1106, 1108, 575, 1110, 1112] #[{ accessFlags := 18, nameIndex := 13, descriptorIndex := 14, attributes := #[] }, { accessFlags := 18, nameIndex := 17, descriptorIndex := 18, attributes := #[] }, { accessFlags := 2, nameIndex := 21, descriptorIndex := 22, attributes := #[] }, { accessFlags := 2, nameIndex := 25, descriptorIndex := 26, attributes := #[] }, { accessFlags := 26, nameIndex := 1116, descriptorIndex := 1117, attributes := #[] }, { accessFlags := 24, nameIndex := 40, descriptorIndex := 26, attributes := #[] }, { accessFlags := 26, nameIndex := 1101, descriptorIndex := 1102, attributes := #[] }, { accessFlags := 26, nameIndex := 1121, descriptorIndex := 1122, attributes := #[] }, { accessFlags := 25, nameIndex := 599, descriptorIndex := 600, attributes := #[] }, { accessFlags := 24, nameIndex := 1125, descriptorIndex := 18, attributes := #[] }, { accessFlags := 24, nameIndex := 1127, descriptorIndex := 18, attributes := #[] }])
  fields := #[{ name := "value", type := (.array .byte), accessFlags := 18, slot := 0, constantValue := 0 }, { name := "coder", type := .byte, accessFlags := 18, slot := 1, constantValue := 0 }, { name := "hash", type := .int, accessFlags := 2, slot := 2, constantValue := 0 }, { name := "hashIsZero", type := .boolean, accessFlags := 2, slot := 3, constantValue := 0 }, { name := "serialVersionUID", type := .long, accessFlags := 26, slot := 0, constantValue := 0 }, { name := "COMPACT_STRINGS", type := .boolean, accessFlags := 24, slot := 1, constantValue := 0 }, { name := "serialPersistentFields", type := (.array (.object "java/io/ObjectStreamField")), accessFlags := 26, slot := 2, constantValue := 0 }, { name := "REPL", type := .char, accessFlags := 26, slot := 3, constantValue := 0 }, { name := "CASE_INSENSITIVE_ORDER", type := (.object "java/util/Comparator"), accessFlags := 25, slot := 4, constantValue := 0 }, { name := "LATIN1", type := .byte, accessFlags := 24, slot := 5, constantValue := 0 }, { name := "UTF16", type := .byte, accessFlags := 24, slot := 6, constantValue := 0 }]
  methods := #[k7m0, k7m1, k7m2, k7m3]
  instanceTypes := #[(.array .byte), .byte, .int, .boolean]
  staticTypes := #[.long, .boolean, (.array (.object "java/io/ObjectStreamField")), .char, (.object "java/util/Comparator"), .byte, .byte]
  resolved := Array.replicate 1451 none
  statics := some 0 }

def pool8 : Array CpInfo := pool [(6, .class_ 8), (1, u "java/lang/Object"), (0, u "<init>"), (0, u "()V"), (1, .class_ 14), (1, u "java/lang/StringUTF16"), (31, u "$assertionsDisabled"), (0, u "Z"), (13, u "HI_BYTE_SHIFT"), (0, u "I"), (2, u "LO_BYTE_SHIFT"), (49, .methodref 12 116), (0, .nameAndType 117 118), (0, u "compress"), (0, u "([CI[BII)I"), (3, u "([CII)[B"), (138, u "coderFromArrayLen"), (0, u "([BI)B"), (106, .class_ 371), (1, u "java/lang/StringUTF16$LinesSpliterator"), (58, u "MAX_LENGTH"), (196, .class_ 628), (0, u "java/lang/StringUTF16$CodePointsSpliterator"), (0, .class_ 630), (0, u "java/lang/StringUTF16$CharsSpliterator")] 4

def k8m0 : Method := { name := "<init>", desc := "()V", sig := { parameters := [], returnType := none }, accessFlags := 0, code := none }
def k8c1 : Code := { maxStack := 2, maxLocals := 2, code := jdk_52_method_15_code, exceptionTable := #[], attributes := #[] }
def k8m1 : Method := { name := "coderFromArrayLen", desc := "([BI)B", sig := { parameters := [(.array .byte), .int], returnType := some .byte }, accessFlags := 8, code := some k8c1 }
def k8c2 : Code := { maxStack := 5, maxLocals := 6, code := jdk_52_method_16_code, exceptionTable := #[], attributes := #[] }
def k8m2 : Method := { name := "compress", desc := "([CII)[B", sig := { parameters := [(.array .char), .int, .int], returnType := some (.array .byte) }, accessFlags := 9, code := some k8c2 }
def k8c3 : Code := { maxStack := 3, maxLocals := 7, code := jdk_52_method_21_code, exceptionTable := #[], attributes := #[] }
def k8m3 : Method := { name := "compress", desc := "([CI[BII)I", sig := { parameters := [(.array .char), .int, (.array .byte), .int, .int], returnType := some .int }, accessFlags := 9, code := some k8c3 }
/-- java/lang/StringUTF16 -/
def k8 : Class := { plain "java/lang/StringUTF16" (some 0) with
  accessFlags := 48
  interfaces := #[]
  cf := some (fileOf pool8 12 #[.nestMembers #[627, 629, 369]] #[{ accessFlags := 0, nameIndex := 9, descriptorIndex := 10, attributes := #[] }, { accessFlags := 8, nameIndex := 261, descriptorIndex := 262, attributes := #[] }, { accessFlags := 9, nameIndex := 117, descriptorIndex := 122, attributes := #[] }, { accessFlags := 9, nameIndex := 117, descriptorIndex := 118, attributes := #[] }] 48 6 #[] #[{ accessFlags := 26, nameIndex := 61, descriptorIndex := 62, attributes := #[] }, { accessFlags := 26, nameIndex := 65, descriptorIndex := 62, attributes := #[] }, { accessFlags := 24, nameIndex := 430, descriptorIndex := 62, attributes := #[] }, { accessFlags := 4120, nameIndex := 46, descriptorIndex := 47, attributes := #[] }])
  fields := #[{ name := "HI_BYTE_SHIFT", type := .int, accessFlags := 26, slot := 0, constantValue := 0 }, { name := "LO_BYTE_SHIFT", type := .int, accessFlags := 26, slot := 1, constantValue := 0 }, { name := "MAX_LENGTH", type := .int, accessFlags := 24, slot := 2, constantValue := 0 }, { name := "$assertionsDisabled", type := .boolean, accessFlags := 4120, slot := 3, constantValue := 0 }]
  methods := #[k8m0, k8m1, k8m2, k8m3]
  instanceTypes := #[]
  staticTypes := #[.int, .int, .int, .boolean]
  resolved := Array.replicate 635 none
  statics := none }

def pool9 : Array CpInfo := pool [(1, .fieldref 2 3), (0, .class_ 4), (0, .nameAndType 5 6), (0, u "java/util/Optional"), (0, u "EMPTY"), (0, u "Ljava/util/Optional;"), (0, .methodref 8 9), (0, .class_ 10), (0, .nameAndType 11 12), (0, u "java/lang/Object"), (0, u "<init>"), (0, u "()V"), (0, .fieldref 2 14), (0, .nameAndType 15 16), (0, u "value"), (0, u "Ljava/lang/Object;"), (0, .methodref 18 19), (0, .class_ 20), (0, .nameAndType 21 22), (0, u "java/util/Objects"), (0, u "requireNonNull"), (0, u "(Ljava/lang/Object;)Ljava/lang/Object;"), (0, .methodref 2 24), (0, .nameAndType 11 25), (0, u "(Ljava/lang/Object;)V"), (29, u "empty"), (0, u "()Ljava/util/Optional;"), (8, u "(Ljava/lang/Object;)Ljava/util/Optional;"), (16, u "of"), (82, u "orElse")] 21

def k9c0 : Code := { maxStack := 1, maxLocals := 1, code := jdk_32_method_1_code, exceptionTable := #[], attributes := #[] }
def k9m0 : Method := { name := "empty", desc := "()Ljava/util/Optional;", sig := { parameters := [], returnType := some (.object "java/util/Optional") }, accessFlags := 9, code := some k9c0 }
def k9c1 : Code := { maxStack := 2, maxLocals := 2, code := jdk_32_method_2_code, exceptionTable := #[], attributes := #[] }
def k9m1 : Method := { name := "<init>", desc := "(Ljava/lang/Object;)V", sig := { parameters := [(.object "java/lang/Object")], returnType := none }, accessFlags := 2, code := some k9c1 }
def k9c2 : Code := { maxStack := 3, maxLocals := 1, code := jdk_32_method_3_code, exceptionTable := #[], attributes := #[] }
def k9m2 : Method := { name := "of", desc := "(Ljava/lang/Object;)Ljava/util/Optional;", sig := { parameters := [(.object "java/lang/Object")], returnType := some (.object "java/util/Optional") }, accessFlags := 9, code := some k9c2 }
def k9c3 : Code := { maxStack := 1, maxLocals := 2, code := jdk_32_method_15_code, exceptionTable := #[], attributes := #[] }
def k9m3 : Method := { name := "orElse", desc := "(Ljava/lang/Object;)Ljava/lang/Object;", sig := { parameters := [(.object "java/lang/Object")], returnType := some (.object "java/lang/Object") }, accessFlags := 1, code := some k9c3 }
/-- java/util/Optional -/
def k9 : Class := { plain "java/util/Optional" (some 0) with
  accessFlags := 49
  interfaces := #[]
  cf := some (fileOf pool9 2 #[] #[{ accessFlags := 9, nameIndex := 55, descriptorIndex := 56, attributes := #[] }, { accessFlags := 2, nameIndex := 11, descriptorIndex := 25, attributes := #[] }, { accessFlags := 9, nameIndex := 82, descriptorIndex := 65, attributes := #[] }, { accessFlags := 1, nameIndex := 165, descriptorIndex := 22, attributes := #[] }] 49 8 #[] #[{ accessFlags := 26, nameIndex := 5, descriptorIndex := 6, attributes := #[] }, { accessFlags := 18, nameIndex := 15, descriptorIndex := 16, attributes := #[] }])
  fields := #[{ name := "EMPTY", type := (.object "java/util/Optional"), accessFlags := 26, slot := 0, constantValue := 0 }, { name := "value", type := (.object "java/lang/Object"), accessFlags := 18, slot := 0, constantValue := 0 }]
  methods := #[k9m0, k9m1, k9m2, k9m3]
  instanceTypes := #[(.object "java/lang/Object")]
  staticTypes := #[(.object "java/util/Optional")]
  resolved := Array.replicate 187 none
  statics := some 1 }

def pool10 : Array CpInfo := pool [(2, .class_ 4), (1, u "java/lang/Object"), (0, u "<init>"), (0, u "()V"), (35, .class_ 44), (1, u "java/util/Objects"), (0, u "requireNonNull"), (0, u "(Ljava/lang/Object;)Ljava/lang/Object;")] 137

def k10m0 : Method := { name := "<init>", desc := "()V", sig := { parameters := [], returnType := none }, accessFlags := 2, code := none }
def k10c1 : Code := { maxStack := 2, maxLocals := 1, code := jdk_31_method_10_code, exceptionTable := #[], attributes := #[] }
def k10m1 : Method := { name := "requireNonNull", desc := "(Ljava/lang/Object;)Ljava/lang/Object;", sig := { parameters := [(.object "java/lang/Object")], returnType := some (.object "java/lang/Object") }, accessFlags := 9, code := some k10c1 }
/-- java/util/Objects -/
def k10 : Class := { plain "java/util/Objects" (some 0) with
  accessFlags := 49
  interfaces := #[]
  cf := some (fileOf pool10 42 #[] #[{ accessFlags := 2, nameIndex := 5, descriptorIndex := 6, attributes := #[] }, { accessFlags := 9, nameIndex := 45, descriptorIndex := 46, attributes := #[] }] 49 2 #[] #[])
  fields := #[]
  methods := #[k10m0, k10m1]
  instanceTypes := #[]
  staticTypes := #[]
  resolved := Array.replicate 184 none
  statics := none }

def pool11 : Array CpInfo := pool [(1, .methodref 2 3), (0, .class_ 4), (0, .nameAndType 5 6), (0, u "java/lang/Object"), (0, u "<init>"), (0, u "()V"), (0, .fieldref 8 9), (0, .class_ 10), (0, .nameAndType 11 12), (0, u "com/example/interleave/interleave/engine/CheckValue"), (0, u "number"), (0, u "I"), (0, .fieldref 8 14), (0, .nameAndType 15 16), (0, u "value"), (0, u "Ljava/lang/String;"), (0, .methodref 18 19), (0, .class_ 20), (0, .nameAndType 21 22), (0, u "java/util/Optional"), (0, u "orElse"), (0, u "(Ljava/lang/Object;)Ljava/lang/Object;"), (0, .class_ 24), (0, u "java/lang/String"), (0, .fieldref 8 26), (0, .nameAndType 27 16), (0, u "expected"), (0, .methodref 23 29), (0, .nameAndType 30 31), (0, u "equals"), (0, u "(Ljava/lang/Object;)Z"), (11, u "()Z"), (6, u "held"), (22, u "(ILjava/lang/String;Ljava/util/Optional;)V")] 31

def k11c0 : Code := { maxStack := 3, maxLocals := 4, code := prog_2_method_1_code, exceptionTable := #[], attributes := #[] }
def k11m0 : Method := { name := "<init>", desc := "(ILjava/lang/String;Ljava/util/Optional;)V", sig := { parameters := [.int, (.object "java/lang/String"), (.object "java/util/Optional")], returnType := none }, accessFlags := 0, code := some k11c0 }
def k11c1 : Code := { maxStack := 2, maxLocals := 1, code := prog_2_method_2_code, exceptionTable := #[], attributes := #[] }
def k11m1 : Method := { name := "held", desc := "()Z", sig := { parameters := [], returnType := some .boolean }, accessFlags := 1, code := some k11c1 }
/-- com/example/interleave/interleave/engine/CheckValue -/
def k11 : Class := { plain "com/example/interleave/interleave/engine/CheckValue" (some 0) with
  accessFlags := 33
  interfaces := #[]
  cf := some (fileOf pool11 8 #[] #[{ accessFlags := 0, nameIndex := 5, descriptorIndex := 73, attributes := #[] }, { accessFlags := 1, nameIndex := 50, descriptorIndex := 43, attributes := #[] }] 33 2 #[] #[{ accessFlags := 18, nameIndex := 11, descriptorIndex := 12, attributes := #[] }, { accessFlags := 18, nameIndex := 15, descriptorIndex := 16, attributes := #[] }, { accessFlags := 18, nameIndex := 27, descriptorIndex := 16, attributes := #[] }])
  fields := #[{ name := "number", type := .int, accessFlags := 18, slot := 0, constantValue := 0 }, { name := "value", type := (.object "java/lang/String"), accessFlags := 18, slot := 1, constantValue := 0 }, { name := "expected", type := (.object "java/lang/String"), accessFlags := 18, slot := 2, constantValue := 0 }]
  methods := #[k11m0, k11m1]
  instanceTypes := #[.int, (.object "java/lang/String"), (.object "java/lang/String")]
  staticTypes := #[]
  resolved := Array.replicate 105 none
  statics := none }

def pool12 : Array CpInfo := pool [(4, .class_ 6), (1, u "java/lang/Object"), (0, u "<init>"), (0, u "()V"), (5, .class_ 16), (1, u "java/lang/StringLatin1"), (104, u "$assertionsDisabled"), (0, u "Z"), (98, .class_ 223), (1, u "java/lang/StringLatin1$LinesSpliterator"), (57, u "equals"), (0, u "([B[B)Z"), (107, .class_ 391), (0, u "java/lang/StringLatin1$CharsSpliterator")] 3

def k12m0 : Method := { name := "<init>", desc := "()V", sig := { parameters := [], returnType := none }, accessFlags := 0, code := none }
def k12c1 : Code := { maxStack := 3, maxLocals := 3, code := jdk_43_method_13_code, exceptionTable := #[], attributes := #[] }
def k12m1 : Method := { name := "equals", desc := "([B[B)Z", sig := { parameters := [(.array .byte), (.array .byte)], returnType := some .boolean }, accessFlags := 9, code := some k12c1 }
/-- java/lang/StringLatin1 -/
def k12 : Class := { plain "java/lang/StringLatin1" (some 0) with
  accessFlags := 48
  interfaces := #[]
  cf := some (fileOf pool12 14 #[.nestMembers #[390, 221]] #[{ accessFlags := 0, nameIndex := 7, descriptorIndex := 8, attributes := #[] }, { accessFlags := 9, nameIndex := 281, descriptorIndex := 282, attributes := #[] }] 48 4 #[] #[{ accessFlags := 4120, nameIndex := 121, descriptorIndex := 122, attributes := #[] }])
  fields := #[{ name := "$assertionsDisabled", type := .boolean, accessFlags := 4120, slot := 0, constantValue := 0 }]
  methods := #[k12m0, k12m1]
  instanceTypes := #[]
  staticTypes := #[.boolean]
  resolved := Array.replicate 395 none
  statics := none }

def pool13 : Array CpInfo := pool [(2, .class_ 4), (1, u "java/lang/Object"), (0, u "<init>"), (0, u "()V"), (17, .class_ 26), (1, u "jdk/internal/util/Preconditions"), (28, .class_ 56), (0, u "jdk/internal/util/Preconditions$4"), (57, .class_ 115), (0, u "jdk/internal/util/Preconditions$1"), (7, u "SIOOBE_FORMATTER"), (0, u "Ljava/util/function/BiFunction;"), (0, .class_ 126), (0, u "jdk/internal/util/Preconditions$2"), (3, u "AIOOBE_FORMATTER"), (0, .class_ 132), (0, u "jdk/internal/util/Preconditions$3"), (3, u "IOOBE_FORMATTER")] 57

def k13m0 : Method := { name := "<init>", desc := "()V", sig := { parameters := [], returnType := none }, accessFlags := 1, code := none }
/-- jdk/internal/util/Preconditions -/
def k13 : Class := { plain "jdk/internal/util/Preconditions" (some 0) with
  accessFlags := 33
  interfaces := #[]
  cf := some (fileOf pool13 24 #[.nestMembers #[55, 131, 125, 114]] #[{ accessFlags := 1, nameIndex := 5, descriptorIndex := 6, attributes := #[] }] 33 2 #[] #[{ accessFlags := 25, nameIndex := 123, descriptorIndex := 124, attributes := #[] }, { accessFlags := 25, nameIndex := 130, descriptorIndex := 124, attributes := #[] }, { accessFlags := 25, nameIndex := 136, descriptorIndex := 124, attributes := #[] }])
  fields := #[{ name := "SIOOBE_FORMATTER", type := (.object "java/util/function/BiFunction"), accessFlags := 25, slot := 0, constantValue := 0 }, { name := "AIOOBE_FORMATTER", type := (.object "java/util/function/BiFunction"), accessFlags := 25, slot := 1, constantValue := 0 }, { name := "IOOBE_FORMATTER", type := (.object "java/util/function/BiFunction"), accessFlags := 25, slot := 2, constantValue := 0 }]
  methods := #[k13m0]
  instanceTypes := #[]
  staticTypes := #[(.object "java/util/function/BiFunction"), (.object "java/util/function/BiFunction"), (.object "java/util/function/BiFunction")]
  resolved := Array.replicate 194 none
  statics := some 2 }

def pool14 : Array CpInfo := pool [(9, u "<init>"), (6, .class_ 18), (1, u "java/lang/Object"), (0, u "()V"), (1, .class_ 23), (1, u "jdk/internal/util/ArraysSupport"), (0, u "LOG2_ARRAY_LONG_INDEX_SCALE"), (0, u "I"), (2, u "U"), (0, u "Ljdk/internal/misc/Unsafe;"), (8, u "BIG_ENDIAN"), (0, u "Z"), (8, u "LOG2_BYTE_BIT_SIZE"), (4, u "LOG2_ARRAY_INT_INDEX_SCALE"), (54, u "JLA"), (0, u "Ljdk/internal/access/JavaLangAccess;"), (11, u "LOG2_ARRAY_BOOLEAN_INDEX_SCALE"), (9, u "LOG2_ARRAY_BYTE_INDEX_SCALE"), (5, u "LOG2_ARRAY_CHAR_INDEX_SCALE"), (5, u "LOG2_ARRAY_SHORT_INDEX_SCALE"), (18, u "LOG2_ARRAY_FLOAT_INDEX_SCALE"), (24, u "LOG2_ARRAY_DOUBLE_INDEX_SCALE"), (89, u "T_BOOLEAN"), (2, u "T_CHAR"), (1, u "T_FLOAT"), (1, u "T_DOUBLE"), (1, u "T_BYTE"), (1, u "T_SHORT"), (1, u "T_INT"), (1, u "T_LONG"), (1, u "SOFT_MAX_ARRAY_LENGTH")] 83

def k14m0 : Method := { name := "<init>", desc := "()V", sig := { parameters := [], returnType := none }, accessFlags := 2, code := none }
/-- jdk/internal/util/ArraysSupport -/
def k14 : Class := { plain "jdk/internal/util/ArraysSupport" (some 0) with
  accessFlags := 33
  interfaces := #[]
  cf := some (fileOf pool14 21 #[] #[{ accessFlags := 2, nameIndex := 9, descriptorIndex := 19, attributes := #[] }] 33 16 #[] #[{ accessFlags := 24, nameIndex := 28, descriptorIndex := 29, attributes := #[] }, { accessFlags := 26, nameIndex := 38, descriptorIndex := 39, attributes := #[] }, { accessFlags := 25, nameIndex := 121, descriptorIndex := 25, attributes := #[] }, { accessFlags := 25, nameIndex := 131, descriptorIndex := 25, attributes := #[] }, { accessFlags := 25, nameIndex := 137, descriptorIndex := 25, attributes := #[] }, { accessFlags := 25, nameIndex := 143, descriptorIndex := 25, attributes := #[] }, { accessFlags := 25, nameIndex := 53, descriptorIndex := 25, attributes := #[] }, { accessFlags := 25, nameIndex := 24, descriptorIndex := 25, attributes := #[] }, { accessFlags := 25, nameIndex := 162, descriptorIndex := 25, attributes := #[] }, { accessFlags := 25, nameIndex := 187, descriptorIndex := 25, attributes := #[] }, { accessFlags := 26, nameIndex := 48, descriptorIndex := 25, attributes := #[] }, { accessFlags := 25, nameIndex := 277, descriptorIndex := 25, attributes := #[] }, { accessFlags := 25, nameIndex := 280, descriptorIndex := 25, attributes := #[] }, { accessFlags := 25, nameIndex := 282, descriptorIndex := 25, attributes := #[] }, { accessFlags := 25, nameIndex := 284, descriptorIndex := 25, attributes := #[] }, { accessFlags := 25, nameIndex := 286, descriptorIndex := 25, attributes := #[] }, { accessFlags := 25, nameIndex := 288, descriptorIndex := 25, attributes := #[] }, { accessFlags := 25, nameIndex := 290, descriptorIndex := 25, attributes := #[] }, { accessFlags := 25, nameIndex := 292, descriptorIndex := 25, attributes := #[] }, { accessFlags := 26, nameIndex := 108, descriptorIndex := 109, attributes := #[] }, { accessFlags := 25, nameIndex := 294, descriptorIndex := 25, attributes := #[] }])
  fields := #[{ name := "U", type := (.object "jdk/internal/misc/Unsafe"), accessFlags := 24, slot := 0, constantValue := 0 }, { name := "BIG_ENDIAN", type := .boolean, accessFlags := 26, slot := 1, constantValue := 0 }, { name := "LOG2_ARRAY_BOOLEAN_INDEX_SCALE", type := .int, accessFlags := 25, slot := 2, constantValue := 0 }, { name := "LOG2_ARRAY_BYTE_INDEX_SCALE", type := .int, accessFlags := 25, slot := 3, constantValue := 0 }, { name := "LOG2_ARRAY_CHAR_INDEX_SCALE", type := .int, accessFlags := 25, slot := 4, constantValue := 0 }, { name := "LOG2_ARRAY_SHORT_INDEX_SCALE", type := .int, accessFlags := 25, slot := 5, constantValue := 0 }, { name := "LOG2_ARRAY_INT_INDEX_SCALE", type := .int, accessFlags := 25, slot := 6, constantValue := 0 }, { name := "LOG2_ARRAY_LONG_INDEX_SCALE", type := .int, accessFlags := 25, slot := 7, constantValue := 0 }, { name := "LOG2_ARRAY_FLOAT_INDEX_SCALE", type := .int, accessFlags := 25, slot := 8, constantValue := 0 }, { name := "LOG2_ARRAY_DOUBLE_INDEX_SCALE", type := .int, accessFlags := 25, slot := 9, constantValue := 0 }, { name := "LOG2_BYTE_BIT_SIZE", type := .int, accessFlags := 26, slot := 10, constantValue := 0 }, { name := "T_BOOLEAN", type := .int, accessFlags := 25, slot := 11, constantValue := 0 }, { name := "T_CHAR", type := .int, accessFlags := 25, slot := 12, constantValue := 0 }, { name := "T_FLOAT", type := .int, accessFlags := 25, slot := 13, constantValue := 0 }, { name := "T_DOUBLE", type := .int, accessFlags := 25, slot := 14, constantValue := 0 }, { name := "T_BYTE", type := .int, accessFlags := 25, slot := 15, constantValue := 0 }, { name := "T_SHORT", type := .int, accessFlags := 25, slot := 16, constantValue := 0 }, { name := "T_INT", type := .int, accessFlags := 25, slot := 17, constantValue := 0 }, { name := "T_LONG", type := .int, accessFlags := 25, slot := 18, constantValue := 0 }, { name := "JLA", type := (.object "jdk/internal/access/JavaLangAccess"), accessFlags := 26, slot := 19, constantValue := 0 }, { name := "SOFT_MAX_ARRAY_LENGTH", type := .int, accessFlags := 25, slot := 20, constantValue := 0 }]
  methods := #[k14m0]
  instanceTypes := #[]
  staticTypes := #[(.object "jdk/internal/misc/Unsafe"), .boolean, .int, .int, .int, .int, .int, .int, .int, .int, .int, .int, .int, .int, .int, .int, .int, .int, .int, (.object "jdk/internal/access/JavaLangAccess"), .int]
  resolved := Array.replicate 378 none
  statics := none }

def pool15 : Array CpInfo := pool [(1, u "java/lang/Cloneable"), (0, .class_ 1), (0, u "java/lang/Object"), (0, .class_ 3)] 3

/-- java/lang/Cloneable -/
def k15 : Class := { plain "java/lang/Cloneable" (some 0) with
  accessFlags := 1537
  interfaces := #[]
  cf := some (fileOf pool15 2 #[] #[] 1537 4 #[] #[])
  fields := #[]
  methods := #[]
  instanceTypes := #[]
  staticTypes := #[]
  resolved := Array.replicate 8 none
  statics := none }

/-- the primitive byte -/
def k16 : Class := { plain "byte" none with kind := .primitive 'B', accessFlags := 0x411 }
/-- [B -/
def k17 : Class := { plain "[B" (some 0) with kind := .array 16 .byte, interfaces := #[15, 2], accessFlags := 1041 }

/-- the primitive char -/
def k18 : Class := { plain "char" none with kind := .primitive 'C', accessFlags := 0x411 }
/-- [C -/
def k19 : Class := { plain "[C" (some 0) with kind := .array 18 .char, interfaces := #[15, 2], accessFlags := 1041 }

/-- the primitive int -/
def k20 : Class := { plain "int" none with kind := .primitive 'I', accessFlags := 0x411 }
/-- [I -/
def k21 : Class := { plain "[I" (some 0) with kind := .array 20 .int, interfaces := #[15, 2], accessFlags := 1041 }

def heap : Heap := #[{ cls := 7, slots := #[.long 0, .int 1, .null, .int 0, .null, .int 0, .int 0], vm := .statics 7 },
  { cls := 9, slots := #[.ref 3], vm := .statics 9 },
  { cls := 13, slots := #[.null, .null, .null], vm := .statics 13 },
  { cls := 9, slots := #[.null], vm := .none }]
def classes : Array Class := #[k0, k1, k2, k3, k4, k5, k6, k7, k8, k9, k10, k11, k12, k13, k14, k15, k16, k17, k18, k19, k20, k21]
def interned : List (Array UInt16 × Addr) := []
def slotsUsed : Nat := 12
def theMethod : MethodId := ⟨1, 3⟩
def args0 : Array Value := #[.int 5, .int 5, .int 5, .int 5]
def aboutOver (below : List Frame) : State where
  vm := { classes := classes, interned := interned.toArray }
  heap := heap
  slotsUsed := slotsUsed
  threads := #[{ frames := .invoking theMethod args0 :: below }]
def below0 : List Frame := [.native { method := ⟨0, 0⟩, args := #[] }]
def about1 : State := aboutOver below0
def p0 : Program := .bare "" "" ""
def e0 : Env := launch0.env 0 0 0
theorem w_frames : about1.frames = Frame.invoking theMethod args0 :: below0 := rfl
set_option maxRecDepth 65536 in
theorem w_args : argsFit about1.vm theMethod args0 = true := by decide +kernel
set_option maxRecDepth 65536 in
theorem w_heap : heapFits about1 = true := by decide +kernel
set_option maxRecDepth 65536 in
theorem w_runnable : about1.curStatus? = some .runnable := by decide +kernel
set_option maxRecDepth 65536 in
theorem w_alone : about1.alone = true := by decide +kernel
set_option maxRecDepth 65536 in
theorem w_named : about1.methodNamed? x = some theMethod := by decide +kernel
set_option maxRecDepth 65536 in
theorem w_hears : about1.hears theMethod below0 = true := by decide +kernel
set_option maxRecDepth 65536 in
theorem w_ripe : about1.ripe theMethod args0 below0 = true := by decide +kernel
theorem w_running : about1.status = .running := rfl
set_option maxRecDepth 65536 in
theorem w_room : about1.hasRoom e0.platform room_1 = true :=
  launch0.hasRoom_least _ room_1 (by decide +kernel) (by decide +kernel) (by decide +kernel) (by decide +kernel) (by decide +kernel) (by decide +kernel)
theorem allAtoms_all (ts : List Jvm.Cond) (a : Array Jvm.Value) (st : Jvm.State) : (allAtoms ts).before a st = ts.all (fun c => c.before a st) := by
  induction ts with
  | nil => rfl
  | cons c t ih =>
    show (Jvm.Cond.and c (allAtoms t)).before a st = _
    rw [Jvm.Cond.before_and, ih, List.all_cons]
def words1 : List Jvm.Cond := Jvm.Cond.code x code maxLocals ret :: tables_1
/-- a 'code' word, met by the world's own term for the bytes: nothing is compared byte by byte -/
theorem code_word {y : MethodName} {bytes : ByteArray} {mx : Nat} {rt : Option FieldType} {a : Array Value} {s : State} {m : MethodId} {meth : Method} {c : Code} (h1 : s.methodNamed? y = some m) (h2 : s.vm.method? m = some meth) (h3 : meth.code = some c) (h4 : c.code = bytes)
    (h5 : (c.maxLocals == mx && c.exceptionTable.isEmpty && decide (c.maxStack ≤ mostOperands) && decide (meth.sig.returnType = rt) && !meth.locks && decide (parseMethodDescriptor y.desc = some meth.sig)) = true) : (Jvm.Cond.code y bytes mx rt).before a s = true := by
  simp only [Bool.and_eq_true, beq_iff_eq, Bool.not_eq_true', decide_eq_true_eq] at h5
  obtain ⟨⟨⟨⟨⟨g1, g2⟩, g3⟩, g4⟩, g5⟩, g6⟩ := h5
  simp [Cond.before, Cond.holds, Cond.value, h1, h2, h3, h4, g1, g2, g3, g4, g5, g6]
def isCode : Jvm.Cond → Bool
  | .code _ _ _ _ => true
  | _ => false
theorem all_split {L : List Jvm.Cond} {P : Jvm.Cond → Bool} (h1 : L.all (fun c => isCode c || P c) = true) (h2 : ∀ c ∈ L.filter isCode, P c = true) : L.all P = true := by
  refine List.all_eq_true.mpr fun c hc => ?_
  have h := List.all_eq_true.mp h1 c hc
  rcases Bool.eq_false_or_eq_true (isCode c) with hi | hi
  · exact h2 c (List.mem_filter.mpr ⟨hc, hi⟩)
  · simpa [hi] using h
set_option maxRecDepth 65536 in
theorem w_c0 : (Jvm.Cond.code x code maxLocals ret).before args0 about1 = true := code_word (m := ⟨1, 3⟩) (meth := k1m3) (c := k1c3) (by decide +kernel) rfl rfl rfl (by decide +kernel)
set_option maxRecDepth 65536 in
theorem w_c1 : (Jvm.Cond.code ({ cls := "com/example/interleave/interleave/engine/CheckValueHeldPinLaw", name := "mk", desc := "(ICCC)Ljava/lang/String;" } : Jvm.MethodName) method_2_code (4 : Nat) (Option.some (Jvm.ClassFile.FieldType.object "java/lang/String"))).before args0 about1 = true := code_word (m := ⟨1, 1⟩) (meth := k1m1) (c := k1c1) (by decide +kernel) rfl rfl rfl (by decide +kernel)
set_option maxRecDepth 65536 in
theorem w_c2 : (Jvm.Cond.code ({ cls := "java/lang/String", name := "<init>", desc := "([C)V" } : Jvm.MethodName) jdk_42_method_3_code (2 : Nat) (Option.none : Option Jvm.ClassFile.FieldType)).before args0 about1 = true := code_word (m := ⟨7, 1⟩) (meth := k7m1) (c := k7c1) (by decide +kernel) rfl rfl rfl (by decide +kernel)
set_option maxRecDepth 65536 in
theorem w_c3 : (Jvm.Cond.code ({ cls := "java/lang/String", name := "<init>", desc := "([CIILjava/lang/Void;)V" } : Jvm.MethodName) jdk_42_method_149_code (6 : Nat) (Option.none : Option Jvm.ClassFile.FieldType)).before args0 about1 = true := code_word (m := ⟨7, 3⟩) (meth := k7m3) (c := k7c3) (by decide +kernel) rfl rfl rfl (by decide +kernel)
set_option maxRecDepth 65536 in
theorem w_c4 : (Jvm.Cond.code ({ cls := "java/lang/Object", name := "<init>", desc := "()V" } : Jvm.MethodName) object_method_1_code (1 : Nat) (Option.none : Option Jvm.ClassFile.FieldType)).before args0 about1 = true := code_word (m := ⟨0, 0⟩) (meth := k0m0) (c := k0c0) (by decide +kernel) rfl rfl rfl (by decide +kernel)
set_option maxRecDepth 65536 in
theorem w_c5 : (Jvm.Cond.code ({ cls := "java/lang/StringUTF16", name := "compress", desc := "([CII)[B" } : Jvm.MethodName) jdk_52_method_16_code (6 : Nat) (Option.some (Jvm.ClassFile.FieldType.array Jvm.ClassFile.FieldType.byte))).before args0 about1 = true := code_word (m := ⟨8, 2⟩) (meth := k8m2) (c := k8c2) (by decide +kernel) rfl rfl rfl (by decide +kernel)
set_option maxRecDepth 65536 in
theorem w_c6 : (Jvm.Cond.code ({ cls := "java/lang/StringUTF16", name := "compress", desc := "([CI[BII)I" } : Jvm.MethodName) jdk_52_method_21_code (7 : Nat) (Option.some Jvm.ClassFile.FieldType.int)).before args0 about1 = true := code_word (m := ⟨8, 3⟩) (meth := k8m3) (c := k8c3) (by decide +kernel) rfl rfl rfl (by decide +kernel)
set_option maxRecDepth 65536 in
theorem w_c7 : (Jvm.Cond.code ({ cls := "java/lang/StringUTF16", name := "coderFromArrayLen", desc := "([BI)B" } : Jvm.MethodName) jdk_52_method_15_code (2 : Nat) (Option.some Jvm.ClassFile.FieldType.byte)).before args0 about1 = true := code_word (m := ⟨8, 1⟩) (meth := k8m1) (c := k8c1) (by decide +kernel) rfl rfl rfl (by decide +kernel)
set_option maxRecDepth 65536 in
theorem w_c8 : (Jvm.Cond.code ({ cls := "java/util/Optional", name := "of", desc := "(Ljava/lang/Object;)Ljava/util/Optional;" } : Jvm.MethodName) jdk_32_method_3_code (1 : Nat) (Option.some (Jvm.ClassFile.FieldType.object "java/util/Optional"))).before args0 about1 = true := code_word (m := ⟨9, 2⟩) (meth := k9m2) (c := k9c2) (by decide +kernel) rfl rfl rfl (by decide +kernel)
set_option maxRecDepth 65536 in
theorem w_c9 : (Jvm.Cond.code ({ cls := "java/util/Objects", name := "requireNonNull", desc := "(Ljava/lang/Object;)Ljava/lang/Object;" } : Jvm.MethodName) jdk_31_method_10_code (1 : Nat) (Option.some (Jvm.ClassFile.FieldType.object "java/lang/Object"))).before args0 about1 = true := code_word (m := ⟨10, 1⟩) (meth := k10m1) (c := k10c1) (by decide +kernel) rfl rfl rfl (by decide +kernel)
set_option maxRecDepth 65536 in
theorem w_c10 : (Jvm.Cond.code ({ cls := "java/util/Optional", name := "<init>", desc := "(Ljava/lang/Object;)V" } : Jvm.MethodName) jdk_32_method_2_code (2 : Nat) (Option.none : Option Jvm.ClassFile.FieldType)).before args0 about1 = true := code_word (m := ⟨9, 1⟩) (meth := k9m1) (c := k9c1) (by decide +kernel) rfl rfl rfl (by decide +kernel)
set_option maxRecDepth 65536 in
theorem w_c11 : (Jvm.Cond.code ({ cls := "com/example/interleave/interleave/engine/CheckValue", name := "<init>", desc := "(ILjava/lang/String;Ljava/util/Optional;)V" } : Jvm.MethodName) prog_2_method_1_code (4 : Nat) (Option.none : Option Jvm.ClassFile.FieldType)).before args0 about1 = true := code_word (m := ⟨11, 0⟩) (meth := k11m0) (c := k11c0) (by decide +kernel) rfl rfl rfl (by decide +kernel)
set_option maxRecDepth 65536 in
theorem w_c12 : (Jvm.Cond.code ({ cls := "java/util/Optional", name := "orElse", desc := "(Ljava/lang/Object;)Ljava/lang/Object;" } : Jvm.MethodName) jdk_32_method_15_code (2 : Nat) (Option.some (Jvm.ClassFile.FieldType.object "java/lang/Object"))).before args0 about1 = true := code_word (m := ⟨9, 3⟩) (meth := k9m3) (c := k9c3) (by decide +kernel) rfl rfl rfl (by decide +kernel)
set_option maxRecDepth 65536 in
theorem w_c13 : (Jvm.Cond.code ({ cls := "com/example/interleave/interleave/engine/CheckValueHeldPinLaw", name := "same", desc := "(ICCCICCC)Z" } : Jvm.MethodName) method_3_code (8 : Nat) (Option.some Jvm.ClassFile.FieldType.boolean)).before args0 about1 = true := code_word (m := ⟨1, 2⟩) (meth := k1m2) (c := k1c2) (by decide +kernel) rfl rfl rfl (by decide +kernel)
set_option maxRecDepth 65536 in
theorem w_c14 : (Jvm.Cond.code ({ cls := "com/example/interleave/interleave/engine/CheckValue", name := "held", desc := "()Z" } : Jvm.MethodName) prog_2_method_2_code (1 : Nat) (Option.some Jvm.ClassFile.FieldType.boolean)).before args0 about1 = true := code_word (m := ⟨11, 1⟩) (meth := k11m1) (c := k11c1) (by decide +kernel) rfl rfl rfl (by decide +kernel)
set_option maxRecDepth 65536 in
theorem w_c15 : (Jvm.Cond.code ({ cls := "java/lang/String", name := "equals", desc := "(Ljava/lang/Object;)Z" } : Jvm.MethodName) jdk_42_method_66_code (3 : Nat) (Option.some Jvm.ClassFile.FieldType.boolean)).before args0 about1 = true := code_word (m := ⟨7, 2⟩) (meth := k7m2) (c := k7c2) (by decide +kernel) rfl rfl rfl (by decide +kernel)
set_option maxRecDepth 65536 in
theorem w_c16 : (Jvm.Cond.code ({ cls := "java/lang/StringLatin1", name := "equals", desc := "([B[B)Z" } : Jvm.MethodName) jdk_43_method_13_code (3 : Nat) (Option.some Jvm.ClassFile.FieldType.boolean)).before args0 about1 = true := code_word (m := ⟨12, 1⟩) (meth := k12m1) (c := k12c1) (by decide +kernel) rfl rfl rfl (by decide +kernel)
set_option maxRecDepth 65536 in
theorem w_c17 : (Jvm.Cond.code ({ cls := "java/util/Optional", name := "empty", desc := "()Ljava/util/Optional;" } : Jvm.MethodName) jdk_32_method_1_code (1 : Nat) (Option.some (Jvm.ClassFile.FieldType.object "java/util/Optional"))).before args0 about1 = true := code_word (m := ⟨9, 0⟩) (meth := k9m0) (c := k9c0) (by decide +kernel) rfl rfl rfl (by decide +kernel)
def codes1 : List Jvm.Cond := [Jvm.Cond.code x code maxLocals ret, Jvm.Cond.code ({ cls := "com/example/interleave/interleave/engine/CheckValueHeldPinLaw", name := "mk", desc := "(ICCC)Ljava/lang/String;" } : Jvm.MethodName) method_2_code (4 : Nat) (Option.some (Jvm.ClassFile.FieldType.object "java/lang/String")), Jvm.Cond.code ({ cls := "java/lang/String", name := "<init>", desc := "([C)V" } : Jvm.MethodName) jdk_42_method_3_code (2 : Nat) (Option.none : Option Jvm.ClassFile.FieldType), Jvm.Cond.code ({ cls := "java/lang/String", name := "<init>", desc := "([CIILjava/lang/Void;)V" } : Jvm.MethodName) jdk_42_method_149_code (6 : Nat) (Option.none : Option Jvm.ClassFile.FieldType), Jvm.Cond.code ({ cls := "java/lang/Object", name := "<init>", desc := "()V" } : Jvm.MethodName) object_method_1_code (1 : Nat) (Option.none : Option Jvm.ClassFile.FieldType), Jvm.Cond.code ({ cls := "java/lang/StringUTF16", name := "compress", desc := "([CII)[B" } : Jvm.MethodName) jdk_52_method_16_code (6 : Nat) (Option.some (Jvm.ClassFile.FieldType.array Jvm.ClassFile.FieldType.byte)), Jvm.Cond.code ({ cls := "java/lang/StringUTF16", name := "compress", desc := "([CI[BII)I" } : Jvm.MethodName) jdk_52_method_21_code (7 : Nat) (Option.some Jvm.ClassFile.FieldType.int), Jvm.Cond.code ({ cls := "java/lang/StringUTF16", name := "coderFromArrayLen", desc := "([BI)B" } : Jvm.MethodName) jdk_52_method_15_code (2 : Nat) (Option.some Jvm.ClassFile.FieldType.byte), Jvm.Cond.code ({ cls := "java/util/Optional", name := "of", desc := "(Ljava/lang/Object;)Ljava/util/Optional;" } : Jvm.MethodName) jdk_32_method_3_code (1 : Nat) (Option.some (Jvm.ClassFile.FieldType.object "java/util/Optional")), Jvm.Cond.code ({ cls := "java/util/Objects", name := "requireNonNull", desc := "(Ljava/lang/Object;)Ljava/lang/Object;" } : Jvm.MethodName) jdk_31_method_10_code (1 : Nat) (Option.some (Jvm.ClassFile.FieldType.object "java/lang/Object")), Jvm.Cond.code ({ cls := "java/util/Optional", name := "<init>", desc := "(Ljava/lang/Object;)V" } : Jvm.MethodName) jdk_32_method_2_code (2 : Nat) (Option.none : Option Jvm.ClassFile.FieldType), Jvm.Cond.code ({ cls := "com/example/interleave/interleave/engine/CheckValue", name := "<init>", desc := "(ILjava/lang/String;Ljava/util/Optional;)V" } : Jvm.MethodName) prog_2_method_1_code (4 : Nat) (Option.none : Option Jvm.ClassFile.FieldType), Jvm.Cond.code ({ cls := "java/util/Optional", name := "orElse", desc := "(Ljava/lang/Object;)Ljava/lang/Object;" } : Jvm.MethodName) jdk_32_method_15_code (2 : Nat) (Option.some (Jvm.ClassFile.FieldType.object "java/lang/Object")), Jvm.Cond.code ({ cls := "com/example/interleave/interleave/engine/CheckValueHeldPinLaw", name := "same", desc := "(ICCCICCC)Z" } : Jvm.MethodName) method_3_code (8 : Nat) (Option.some Jvm.ClassFile.FieldType.boolean), Jvm.Cond.code ({ cls := "com/example/interleave/interleave/engine/CheckValue", name := "held", desc := "()Z" } : Jvm.MethodName) prog_2_method_2_code (1 : Nat) (Option.some Jvm.ClassFile.FieldType.boolean), Jvm.Cond.code ({ cls := "java/lang/String", name := "equals", desc := "(Ljava/lang/Object;)Z" } : Jvm.MethodName) jdk_42_method_66_code (3 : Nat) (Option.some Jvm.ClassFile.FieldType.boolean), Jvm.Cond.code ({ cls := "java/lang/StringLatin1", name := "equals", desc := "([B[B)Z" } : Jvm.MethodName) jdk_43_method_13_code (3 : Nat) (Option.some Jvm.ClassFile.FieldType.boolean), Jvm.Cond.code ({ cls := "java/util/Optional", name := "empty", desc := "()Ljava/util/Optional;" } : Jvm.MethodName) jdk_32_method_1_code (1 : Nat) (Option.some (Jvm.ClassFile.FieldType.object "java/util/Optional"))]
set_option maxRecDepth 65536 in
theorem codes_eq : words1.filter isCode = codes1 := rfl
theorem w_codes : ∀ c ∈ words1.filter isCode, c.before args0 about1 = true := by
  rw [codes_eq]
  intro c hc
  simp only [codes1, List.mem_cons, List.not_mem_nil, or_false] at hc
  rcases hc with rfl | rfl | rfl | rfl | rfl | rfl | rfl | rfl | rfl | rfl | rfl | rfl | rfl | rfl | rfl | rfl | rfl | rfl
  · exact w_c0
  · exact w_c1
  · exact w_c2
  · exact w_c3
  · exact w_c4
  · exact w_c5
  · exact w_c6
  · exact w_c7
  · exact w_c8
  · exact w_c9
  · exact w_c10
  · exact w_c11
  · exact w_c12
  · exact w_c13
  · exact w_c14
  · exact w_c15
  · exact w_c16
  · exact w_c17
set_option maxRecDepth 65536 in
theorem w_t1 : (words1.take 24).all (fun c => isCode c || c.before args0 about1) = true := by decide +kernel
set_option maxRecDepth 65536 in
theorem w_t2 : ((words1.drop 24).take 24).all (fun c => isCode c || c.before args0 about1) = true := by decide +kernel
set_option maxRecDepth 65536 in
theorem w_t3 : (((words1.drop 24).drop 24).take 24).all (fun c => isCode c || c.before args0 about1) = true := by decide +kernel
set_option maxRecDepth 65536 in
theorem w_t4 : (((words1.drop 24).drop 24).drop 24).all (fun c => isCode c || c.before args0 about1) = true := by decide +kernel
theorem w_tables : (allAtoms (Jvm.Cond.code x code maxLocals ret :: tables_1)).before args0 about1 = true := by
  rw [allAtoms_all]
  show words1.all (fun c => c.before args0 about1) = true
  refine all_split ?_ w_codes
  rw [← List.take_append_drop 24 words1, List.all_append, w_t1, ← List.take_append_drop 24 (words1.drop 24), List.all_append, w_t2, ← List.take_append_drop 24 ((words1.drop 24).drop 24), List.all_append, w_t3, w_t4]
  rfl
set_option maxRecDepth 65536 in
theorem w_rest : rest_1_c.before args0 about1 = true := by decide +kernel
set_option maxRecDepth 65536 in
theorem w_case : (Jvm.Cond.and given_1 narrow_1).before args0 about1 = true := by decide +kernel
set_option maxRecDepth 65536 in
theorem w_consts : constsHeld consts_1 about1 := Jvm.Lit.constsHeldB_iff.mp (by decide +kernel)
theorem w_applies : (headSpec (Jvm.Cond.code x code maxLocals ret :: tables_1) room_1).applies x e0.platform about1 = true :=
  (Spec.applies_iff w_frames).mpr ⟨w_running, w_runnable, w_alone, w_named, w_hears, w_ripe, w_room, w_tables⟩
theorem atStart : AtStart classFile x code maxLocals ret World_1 tables_1 room_1 Calls_1 rest_1 Pre_1 launch0 p0 e0 about1 theMethod args0 below0 :=
  ⟨lists_1, trivial, launch0.admits_env _ _ _, launch0.least_env, fairChoices_fair.cas, fairChoices_fair.clock, w_frames, w_args, w_heap, w_applies, ⟨w_consts, trivial⟩, w_rest, w_case⟩
end start1
theorem witness_1 : WitnessClaimed_1 := ⟨start1.p0, start1.e0, start1.about1, start1.theMethod, start1.args0, start1.below0, start1.atStart⟩
end Jvm.Pilot.@@N@@
