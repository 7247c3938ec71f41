import JvmDerived
import JvmDerived.Pilot.@@N@@Statement
import JvmDerived.Pilot.@@N@@Code
set_option linter.unusedVariables false
set_option linter.unusedSimpArgs false
@@BLOCK:NumsL.lean.txt@@
/- laws to paste: Road.backV, Road.eqW, Road.codOf (cut by pick.py; bodies as the Statement names them) -/
namespace Jvm.Pilot.@@N@@
namespace StrChars
open Jvm Sem ClassFile Op Lib Jvm.Stand Jvm.Free.XT Jvm.Free.ALB Jvm.Free.JM Jvm.Free
open Jvm.Lib.Cold (StaticIs)
/-- a char array whose places are chars -/
def Ch (a : Addr) (A : Cell) (U : State) : Prop := Arr .char a A U ∧ Typed .char A
theorem Ch.mv {a : Addr} {A : Cell} {U U' : State} (h : Ch a A U) (hal : U.vm.Alike U'.vm) (hh : U'.heap = U.heap) : Ch a A U' := ⟨h.1.mv hal hh, h.2⟩
theorem Ch.keep {a : Addr} {A : Cell} {U U' : State} (h : Ch a A U) (hal : U.vm.Alike U'.vm) (hk : U'.heap[a]? = some A) : Ch a A U' := ⟨h.1.keep hal hk, h.2⟩
/-- what place i of a char[]'s cell holds -/
def cv (A : Cell) (i : Nat) : Int32 := match A.slots[i]? with | some (.int x) => x | _ => 0
theorem Ch.get {a : Addr} {A : Cell} {U : State} (h : Ch a A U) {i : Nat} (hi : i < A.slots.size) : A.slots[i]? = some (.int (cv A i)) := by
  have e := Array.getElem?_eq_getElem hi
  have f := h.2 i _ e
  unfold cv; rw [e]
  generalize A.slots[i] = v at f
  cases v <;> simp [fits] at f ⊢
/-- the byte that i2b leaves of a char -/
def lo8 (x : Int32) : Int32 := x.toInt8.toInt32
theorem fits_lo8 (y : Int32) : fits .byte (.int (lo8 y)) = true := by
  have h1 := y.toInt8.le_toInt
  have h2 := y.toInt8.toInt_lt
  simp only [lo8, fits, Bool.and_eq_true, decide_eq_true_eq, Int32.le_iff_toInt_le, Int8.toInt_toInt32, show (-128 : Int32).toInt = -128 from by decide, show (127 : Int32).toInt = 127 from by decide]
  omega
/-- A' is A but that each place j of lo .. hi - 1 holds f j -/
def Laid (A A' : Cell) (lo hi : Nat) (f : Nat → Value) : Prop := A'.cls = A.cls ∧ A'.vm = A.vm ∧ A'.slots.size = A.slots.size ∧ ∀ i, A'.slots[i]? = if lo ≤ i ∧ i < hi then some (f i) else A.slots[i]?
theorem Laid.zero (A : Cell) (lo : Nat) (f : Nat → Value) : Laid A A lo (lo + 0) f := ⟨rfl, rfl, rfl, fun i => by rw [if_neg (by omega)]⟩
theorem Laid.step {A Ak : Cell} {lo k : Nat} {f : Nat → Value} {v : Value} (h : Laid A Ak lo k f) (hlo : lo ≤ k) (hk : k < Ak.slots.size) (hv : v = f k) : Laid A (Ak.setSlot k v) lo (k + 1) f := by
  refine ⟨h.1, h.2.1, by simpa [Cell.setSlot] using h.2.2.1, fun i => ?_⟩
  by_cases e : k = i
  · subst e; rw [Cell.slots_setSlot_self v hk, if_pos (by omega), hv]
  · rw [Cell.slots_setSlot_ne v e, h.2.2.2 i]
    by_cases q : lo ≤ i ∧ i < k
    · rw [if_pos q, if_pos (by omega)]
    · rw [if_neg q, if_neg (by omega)]
def U16 : String := "java/lang/StringUTF16"
namespace Cmp5
def yN : MethodName := ⟨"java/lang/StringUTF16", "compress", "([CI[BII)I"⟩
abbrev yB : ByteArray := jdk_52_method_21_code
theorem d0 : decode yB 0 = .ok (.iconst 0, 1) := by decide +kernel
theorem d1 : decode yB 1 = .ok (.istore 5, 2) := by decide +kernel
theorem d3 : decode yB 3 = .ok (.iload 5, 2) := by decide +kernel
theorem d5 : decode yB 5 = .ok (.iload 4, 2) := by decide +kernel
theorem d7 : decode yB 7 = .ok (.if_icmp (.ge) 37, 3) := by decide +kernel
theorem d10 : decode yB 10 = .ok (.aload_n 0, 1) := by decide +kernel
theorem d11 : decode yB 11 = .ok (.iload_n 1, 1) := by decide +kernel
theorem d12 : decode yB 12 = .ok (.caload, 1) := by decide +kernel
theorem d13 : decode yB 13 = .ok (.istore 6, 2) := by decide +kernel
theorem d15 : decode yB 15 = .ok (.iload 6, 2) := by decide +kernel
theorem d17 : decode yB 17 = .ok (.sipush 255, 3) := by decide +kernel
theorem d20 : decode yB 20 = .ok (.if_icmp (.le) 6, 3) := by decide +kernel
theorem d26 : decode yB 26 = .ok (.aload_n 2, 1) := by decide +kernel
theorem d27 : decode yB 27 = .ok (.iload_n 3, 1) := by decide +kernel
theorem d28 : decode yB 28 = .ok (.iload 6, 2) := by decide +kernel
theorem d30 : decode yB 30 = .ok (.i2b, 1) := by decide +kernel
theorem d31 : decode yB 31 = .ok (.bastore, 1) := by decide +kernel
theorem d32 : decode yB 32 = .ok (.iinc 1 1, 3) := by decide +kernel
theorem d35 : decode yB 35 = .ok (.iinc 3 1, 3) := by decide +kernel
theorem d38 : decode yB 38 = .ok (.iinc 5 1, 3) := by decide +kernel
theorem d41 : decode yB 41 = .ok (.goto (-38), 3) := by decide +kernel
theorem d44 : decode yB 44 = .ok (.iload 4, 2) := by decide +kernel
theorem d46 : decode yB 46 = .ok (.ireturn, 1) := by decide +kernel
def site : List Cond := []
def tab : Cond := tabOf yN yB 7 (some .int) site
def P (b : Addr) (A : Cell) (d : Addr) (B : Cell) (o q len : Nat) (args : Array Value) (s : State) : Prop := args = #[.ref b, .int (Int32.ofNat o), .ref d, .int (Int32.ofNat q), .int (Int32.ofNat len)] ∧ Ch b A s ∧ Arr .byte d B s ∧ b ≠ d ∧ o + len ≤ A.slots.size ∧ q + len ≤ B.slots.size ∧ ∀ i, i < len → ¬ 255 < cv A (o + i)
def E (b : Addr) (A : Cell) (d : Addr) (B : Cell) (o q len : Nat) (r : Option Value) (s u : State) : Prop := r = some (.int (Int32.ofNat len)) ∧ ∃ B', Put d B' s u ∧ Laid B B' q (q + len) (fun j => Value.int (lo8 (cv A (o + (j - q)))))
/-- no char of the range above 255: len; the places written hold each char's low byte -/
theorem law (l : Launch) (b : Addr) (A : Cell) (d : Addr) (B : Cell) (o q len : Nat) : Law l yN 5 5 0 0 yB 7 (some .int) site (P b A d B o q len) (E b A d B o q len) (copyLocs d q len) 0 0 := by
  refine Law.of_walk (plainFor_of_name (by decide +kernel)) (by decide +kernel) (by decide +kernel) (by decide) (fun _ _ h => by rw [h.1]; rfl) (fun _ U U' hal hh h => ⟨h.1, h.2.1.mv hal hh, h.2.2.1.mv hal hh, h.2.2.2⟩) (fun r U U' V V' h1 hal h2 h => ⟨h.1, h.2.elim fun B' q => ⟨B', q.1.mv h1 h2, q.2⟩⟩) ?_
  intro p e s m args below meth c s₁ X0 hexec hbytes hml hret hlk hnm hown hh0 W hP
  obtain ⟨rfl, hA, hB, hne, l1, l2, hp⟩ := hP
  have c1 : Steps p.tables e below (s₁.setTop (entryFrame m #[.ref b, .int (Int32.ofNat o), .ref d, .int (Int32.ofNat q), .int (Int32.ofNat len)] 7)) (s₁.setTop (mkF m 0 #[.val (.ref b), .val (.int (Int32.ofNat o)), .val (.ref d), .val (.int (Int32.ofNat q)), .val (.int (Int32.ofNat len)), .unset, .unset] [])) := entry rfl
  have hA0 := hA.1.mv X0.warmed.alike hh0
  have hB0 := hB.mv X0.warmed.alike hh0
  have a31 := hA.1.2.2.2
  have c2 : Steps p.tables e below (s₁.setTop (entryFrame m #[.ref b, .int (Int32.ofNat o), .ref d, .int (Int32.ofNat q), .int (Int32.ofNat len)] 7)) (s₁.setTop (mkF m 3 #[.val (.ref b), .val (.int (Int32.ofNat o)), .val (.ref d), .val (.int (Int32.ofNat q)), .val (.int (Int32.ofNat len)), .val (.int 0), .unset] [])) := c1.trans (by
    refine iconstV X0.here hexec rfl 0 (hb hbytes d0) (by decide) ?_
    refine XS.istore X0.here hexec rfl (hb hbytes d1) rfl rfl ?_
    exact Steps.refl _)
  have loop : ∀ (r i : Nat), i + r = len → ∀ (z : Slot), (z = .unset ∨ ∃ w, z = .val w ∧ w.category = 1) → ∀ (Tl : State) (Bk : Cell), Stand p l e { frames := 0, locals := 0, cells := 0, slots := 0 } s m #[.ref b, .int (Int32.ofNat o), .ref d, .int (Int32.ofNat q), .int (Int32.ofNat len)] below meth c Tl ([] ++ copyLocs d q i) 0 0 → Put d Bk s₁ Tl → Laid B Bk q (q + i) (fun j => Value.int (lo8 (cv A (o + (j - q))))) →
      Steps p.tables e below (s₁.setTop (entryFrame m #[.ref b, .int (Int32.ofNat o), .ref d, .int (Int32.ofNat q), .int (Int32.ofNat len)] 7)) (Tl.setTop (mkF m 3 #[.val (.ref b), .val (.int (Int32.ofNat (o + i))), .val (.ref d), .val (.int (Int32.ofNat (q + i))), .val (.int (Int32.ofNat len)), .val (.int (Int32.ofNat i)), z] [])) → ∃ (T' : State) (B' : Cell) (z' : Slot), Stand p l e { frames := 0, locals := 0, cells := 0, slots := 0 } s m #[.ref b, .int (Int32.ofNat o), .ref d, .int (Int32.ofNat q), .int (Int32.ofNat len)] below meth c T' ([] ++ copyLocs d q len) 0 0 ∧ Put d B' s₁ T' ∧ Laid B B' q (q + len) (fun j => Value.int (lo8 (cv A (o + (j - q))))) ∧
      Steps p.tables e below (s₁.setTop (entryFrame m #[.ref b, .int (Int32.ofNat o), .ref d, .int (Int32.ofNat q), .int (Int32.ofNat len)] 7)) (T'.setTop (mkF m 3 #[.val (.ref b), .val (.int (Int32.ofNat (o + len))), .val (.ref d), .val (.int (Int32.ofNat (q + len))), .val (.int (Int32.ofNat len)), .val (.int (Int32.ofNat len)), z'] [])) := by
    intro r
    induction r with
    | zero =>
      intro i hi z hz Tl Bk Xl pl fl cl
      have hil : i = len := by omega
      rw [hil] at Xl fl cl
      exact ⟨Tl, Bk, z, Xl, pl, fl, cl⟩
    | succ r ih =>
      intro i hi z hz Tl Bk Xl pl fl cl
      have all := X0.warmed.alike.symm.trans Xl.warmed.alike
      have hAl := hA0.keep all (pl.other hne hA0.1)
      have hBk := hB0.like all pl.1 fl.1 fl.2.1 fl.2.2.1
      have hlt : q + i < Bk.slots.size := by rw [fl.2.2.1]; omega
      have c3 : Steps p.tables e below (s₁.setTop (entryFrame m #[.ref b, .int (Int32.ofNat o), .ref d, .int (Int32.ofNat q), .int (Int32.ofNat len)] 7)) (Tl.setTop (mkF m 12 #[.val (.ref b), .val (.int (Int32.ofNat (o + i))), .val (.ref d), .val (.int (Int32.ofNat (q + i))), .val (.int (Int32.ofNat len)), .val (.int (Int32.ofNat i)), z] [.int (Int32.ofNat (o + i)), .ref b])) := cl.trans (by
        refine XS.iload Xl.here hexec rfl (hb hbytes d3) rfl ?_
        refine XS.iload Xl.here hexec rfl (hb hbytes d5) rfl ?_
        refine XS.icmpNo Xl.here hexec rfl (hb hbytes d7) rfl (ii_ge_f (lt32 (by omega) (by omega))) ?_
        refine XS.aloadN Xl.here hexec rfl (hb hbytes d10) rfl rfl ?_
        refine XS.iloadN Xl.here hexec rfl (hb hbytes d11) rfl ?_
        exact Steps.refl _)
      have c4 : Steps p.tables e below (s₁.setTop (entryFrame m #[.ref b, .int (Int32.ofNat o), .ref d, .int (Int32.ofNat q), .int (Int32.ofNat len)] 7)) (Tl.setTop (mkF m 13 #[.val (.ref b), .val (.int (Int32.ofNat (o + i))), .val (.ref d), .val (.int (Int32.ofNat (q + i))), .val (.int (Int32.ofNat len)), .val (.int (Int32.ofNat i)), z] [.int (cv A (o + i))])) := c3.trans (by
        refine Xl.aget hexec hAl rfl (hA.get (i := o + i) (by omega)) rfl rfl (hb hbytes d12) ?_
        exact Steps.refl _)
      have c5 : Steps p.tables e below (s₁.setTop (entryFrame m #[.ref b, .int (Int32.ofNat o), .ref d, .int (Int32.ofNat q), .int (Int32.ofNat len)] 7)) (Tl.setTop (mkF m 15 #[.val (.ref b), .val (.int (Int32.ofNat (o + i))), .val (.ref d), .val (.int (Int32.ofNat (q + i))), .val (.int (Int32.ofNat len)), .val (.int (Int32.ofNat i)), .val (.int (cv A (o + i)))] [])) := c4.trans (by
        refine XS.istoreS Xl.here hexec rfl (hb hbytes d13) rfl rfl hz ?_
        exact Steps.refl _)
      have c6 : Steps p.tables e below (s₁.setTop (entryFrame m #[.ref b, .int (Int32.ofNat o), .ref d, .int (Int32.ofNat q), .int (Int32.ofNat len)] 7)) (Tl.setTop (mkF m 31 #[.val (.ref b), .val (.int (Int32.ofNat (o + i))), .val (.ref d), .val (.int (Int32.ofNat (q + i))), .val (.int (Int32.ofNat len)), .val (.int (Int32.ofNat i)), .val (.int (cv A (o + i)))] [.int (lo8 (cv A (o + i))), .int (Int32.ofNat (q + i)), .ref d])) := c5.trans (by
        refine XS.iload Xl.here hexec rfl (hb hbytes d15) rfl ?_
        refine sipushV Xl.here hexec rfl 255 (hb hbytes d17) (by decide) ?_
        refine XS.icmpYes Xl.here hexec rfl (pc0 := 20) rfl (hb hbytes d20) rfl (ii_le_t (hp i (by omega))) (by decide) rfl ?_
        refine XS.aloadN Xl.here hexec rfl (hb hbytes d26) rfl rfl ?_
        refine XS.iloadN Xl.here hexec rfl (hb hbytes d27) rfl ?_
        refine XS.iload Xl.here hexec rfl (hb hbytes d28) rfl ?_
        refine i2b Xl.here hexec rfl (hb hbytes d30) rfl ?_
        exact Steps.refl _)
      obtain ⟨T7, X7, p7, st7⟩ := Xl.aput hexec hBk rfl hlt rfl (fits_lo8 (cv A (o + i))) (g := (mkF m 31 #[.val (.ref b), .val (.int (Int32.ofNat (o + i))), .val (.ref d), .val (.int (Int32.ofNat (q + i))), .val (.int (Int32.ofNat len)), .val (.int (Int32.ofNat i)), .val (.int (cv A (o + i)))] [.int (lo8 (cv A (o + i))), .int (Int32.ofNat (q + i)), .ref d])) rfl (rest := []) rfl (hb hbytes d31)
      have c8 : Steps p.tables e below (s₁.setTop (entryFrame m #[.ref b, .int (Int32.ofNat o), .ref d, .int (Int32.ofNat q), .int (Int32.ofNat len)] 7)) (T7.setTop (mkF m 32 #[.val (.ref b), .val (.int (Int32.ofNat (o + i))), .val (.ref d), .val (.int (Int32.ofNat (q + i))), .val (.int (Int32.ofNat len)), .val (.int (Int32.ofNat i)), .val (.int (cv A (o + i)))] [])) := c6.trans (st7 _ (Steps.refl _))
      have c9 : Steps p.tables e below (s₁.setTop (entryFrame m #[.ref b, .int (Int32.ofNat o), .ref d, .int (Int32.ofNat q), .int (Int32.ofNat len)] 7)) (T7.setTop (mkF m 3 #[.val (.ref b), .val (.int (Int32.ofNat (o + i) + 1)), .val (.ref d), .val (.int (Int32.ofNat (q + i) + 1)), .val (.int (Int32.ofNat len)), .val (.int (Int32.ofNat i + 1)), .val (.int (cv A (o + i)))] [])) := c8.trans (by
        refine iincV X7.here hexec rfl 1 (hb hbytes d32) (by decide) rfl rfl ?_
        refine iincV X7.here hexec rfl 1 (hb hbytes d35) (by decide) rfl rfl ?_
        refine iincV X7.here hexec rfl 1 (hb hbytes d38) (by decide) rfl rfl ?_
        refine XS.goto X7.here hexec rfl (pc0 := 41) rfl (hb hbytes d41) (by decide) rfl ?_
        exact Steps.refl _)
      have c10 : Steps p.tables e below (s₁.setTop (entryFrame m #[.ref b, .int (Int32.ofNat o), .ref d, .int (Int32.ofNat q), .int (Int32.ofNat len)] 7)) (T7.setTop (mkF m 3 #[.val (.ref b), .val (.int (Int32.ofNat (o + (i + 1)))), .val (.ref d), .val (.int (Int32.ofNat (q + (i + 1)))), .val (.int (Int32.ofNat len)), .val (.int (Int32.ofNat (i + 1))), .val (.int (cv A (o + i)))] [])) := by
        have := c9
        rw [succ32, succ32, succ32] at this
        exact this
      exact ih (i + 1) (by omega) _ (Or.inr ⟨_, rfl, rfl⟩) T7 _ (by rw [copyLocs_step, ← List.append_assoc]; exact X7) (pl.trans p7) (fl.step (by omega) hlt (by simp)) c10
  obtain ⟨T9, B9, z9, X9, p9, f9, g9⟩ := loop len 0 (by omega) .unset (Or.inl rfl) s₁ B (by simpa [copyLocs] using X0) ⟨hB0.1, fun _ _ => rfl, rfl⟩ (Laid.zero _ _ _) c2
  have c11 : Steps p.tables e below (s₁.setTop (entryFrame m #[.ref b, .int (Int32.ofNat o), .ref d, .int (Int32.ofNat q), .int (Int32.ofNat len)] 7)) (T9.setTop (mkF m 46 #[.val (.ref b), .val (.int (Int32.ofNat (o + len))), .val (.ref d), .val (.int (Int32.ofNat (q + len))), .val (.int (Int32.ofNat len)), .val (.int (Int32.ofNat len)), z9] [.int (Int32.ofNat len)])) := g9.trans (by
    refine XS.iload X9.here hexec rfl (hb hbytes d3) rfl ?_
    refine XS.iload X9.here hexec rfl (hb hbytes d5) rfl ?_
    refine XS.icmpYes X9.here hexec rfl (pc0 := 7) rfl (hb hbytes d7) rfl (ii_ge_t (nlt32 (by omega) (Nat.le_refl _))) (by decide) rfl ?_
    refine XS.iload X9.here hexec rfl (hb hbytes d44) rfl ?_
    exact Steps.refl _)
  exact ⟨T9, some (.int (Int32.ofNat len)), _, _, _, X9, by simp, rfl, rfl, (fun h => by cases h), ⟨rfl, B9, p9.from hh0, f9⟩, fun fs hl => c11.trans (X9.ireturnOut hexec hret rfl (Or.inl rfl) (hb hbytes d46) hl)⟩
end Cmp5
namespace Cmp3
def yN : MethodName := ⟨"java/lang/StringUTF16", "compress", "([CII)[B"⟩
abbrev yB : ByteArray := jdk_52_method_16_code
theorem d0 : decode yB 0 = .ok (.iload_n 2, 1) := by decide +kernel
theorem d1 : decode yB 1 = .ok (.newarray .byte, 2) := by decide +kernel
theorem d3 : decode yB 3 = .ok (.astore_n 3, 1) := by decide +kernel
theorem d4 : decode yB 4 = .ok (.aload_n 0, 1) := by decide +kernel
theorem d5 : decode yB 5 = .ok (.iload_n 1, 1) := by decide +kernel
theorem d6 : decode yB 6 = .ok (.aload_n 3, 1) := by decide +kernel
theorem d7 : decode yB 7 = .ok (.iconst 0, 1) := by decide +kernel
theorem d8 : decode yB 8 = .ok (.iload_n 2, 1) := by decide +kernel
theorem d9 : decode yB 9 = .ok (.invokestatic 115, 3) := by decide +kernel
theorem d12 : decode yB 12 = .ok (.istore 4, 2) := by decide +kernel
theorem d14 : decode yB 14 = .ok (.iload 4, 2) := by decide +kernel
theorem d16 : decode yB 16 = .ok (.iload_n 2, 1) := by decide +kernel
theorem d17 : decode yB 17 = .ok (.if_icmp (.eq) 40, 3) := by decide +kernel
theorem d57 : decode yB 57 = .ok (.aload_n 3, 1) := by decide +kernel
theorem d58 : decode yB 58 = .ok (.areturn, 1) := by decide +kernel
def site : List Cond := [.arrayClass .byte, Cmp5.tab] ++ staticW U16 115 Cmp5.yN
def tab : Cond := tabOf yN yB 6 (some (.array .byte)) site
def P (b : Addr) (A : Cell) (o len : Nat) (args : Array Value) (s : State) : Prop := args = #[.ref b, .int (Int32.ofNat o), .int (Int32.ofNat len)] ∧ Ch b A s ∧ o + len ≤ A.slots.size ∧ len ≤ 536870912 ∧ ∀ i, i < len → ¬ 255 < cv A (o + i)
def E (b : Addr) (A : Cell) (o len : Nat) (r : Option Value) (s u : State) : Prop := NewArr .byte "[B" len (fun j => .int (lo8 (cv A (o + j)))) r s u ∧ u.heap.size = s.heap.size + 1
/-- no char of the range above 255: a new byte[] of their low bytes -/
theorem law (l : Launch) (b : Addr) (A : Cell) (o len : Nat) : Law l yN 3 3 1 18 yB 6 (some (.array .byte)) site (P b A o len) (E b A o len) [] 1 len := by
  refine Law.of_walk (plainFor_of_name (by decide +kernel)) (by decide +kernel) (by decide +kernel) (by decide) (fun _ _ h => by rw [h.1]; rfl) (fun _ U U' hal hh h => ⟨h.1, h.2.1.mv hal hh, h.2.2⟩) (fun r U U' V V' h1 hal h2 h => ⟨NewArr.mv r U U' V V' h1 hal h2 h.1, by rw [h1, h2]; exact h.2⟩) ?_
  intro p e s m args below meth c s₁ X0 hexec hbytes hml hret hlk hnm hown hh0 W hP
  obtain ⟨rfl, hA, l1, l2, hp⟩ := hP
  have a31 := hA.1.2.2.2
  have c1 : Steps p.tables e below (s₁.setTop (entryFrame m #[.ref b, .int (Int32.ofNat o), .int (Int32.ofNat len)] 6)) (s₁.setTop (mkF m 0 #[.val (.ref b), .val (.int (Int32.ofNat o)), .val (.int (Int32.ofNat len)), .unset, .unset, .unset] [])) := entry rfl
  have c2 : Steps p.tables e below (s₁.setTop (entryFrame m #[.ref b, .int (Int32.ofNat o), .int (Int32.ofNat len)] 6)) (s₁.setTop (mkF m 1 #[.val (.ref b), .val (.int (Int32.ofNat o)), .val (.int (Int32.ofNat len)), .unset, .unset, .unset] [.int (Int32.ofNat len)])) := c1.trans (by
    refine XS.iloadN X0.here hexec rfl (hb hbytes d0) rfl ?_
    exact Steps.refl _)
  obtain ⟨T3, B3, X3, ba3, bs3, bv3, bh3, bf3, st3⟩ := X0.anew hexec (atype := .byte) (wk W (.arrayClass .byte)) rfl (by show len * 1 ≤ _; omega) (by omega) (g := (mkF m 1 #[.val (.ref b), .val (.int (Int32.ofNat o)), .val (.int (Int32.ofNat len)), .unset, .unset, .unset] [.int (Int32.ofNat len)])) rfl (hb hbytes d1) (rest := []) rfl (Nat.le_refl _) (by show 0 + len ≤ len; omega)
  rw [hh0] at ba3 st3
  have kp3 : XT.Kept s T3 := (XT.Kept.of_eq hh0).push bh3
  have hA3 := hA.keep X3.warmed.alike (kp3 _ _ hA.1.1)
  have hne : b ≠ s.heap.size := hA.1.ne
  have c4 : Steps p.tables e below (s₁.setTop (entryFrame m #[.ref b, .int (Int32.ofNat o), .int (Int32.ofNat len)] 6)) (T3.setTop (mkF m 3 #[.val (.ref b), .val (.int (Int32.ofNat o)), .val (.int (Int32.ofNat len)), .unset, .unset, .unset] [.ref s.heap.size])) := c2.trans (st3 _ (Steps.refl _))
  have c5 : Steps p.tables e below (s₁.setTop (entryFrame m #[.ref b, .int (Int32.ofNat o), .int (Int32.ofNat len)] 6)) (T3.setTop (mkF m 9 #[.val (.ref b), .val (.int (Int32.ofNat o)), .val (.int (Int32.ofNat len)), .val (.ref s.heap.size), .unset, .unset] [.int (Int32.ofNat len), .int 0, .ref s.heap.size, .int (Int32.ofNat o), .ref b])) := c4.trans (by
    refine XS.astoreN X3.here hexec rfl (hb hbytes d3) rfl rfl rfl ?_
    refine XS.aloadN X3.here hexec rfl (hb hbytes d4) rfl rfl ?_
    refine XS.iloadN X3.here hexec rfl (hb hbytes d5) rfl ?_
    refine XS.aloadN X3.here hexec rfl (hb hbytes d6) rfl rfl ?_
    refine iconstV X3.here hexec rfl 0 (hb hbytes d7) (by decide) ?_
    refine XS.iloadN X3.here hexec rfl (hb hbytes d8) rfl ?_
    exact Steps.refl _)
  obtain ⟨v6, T6, X6, E6, g6⟩ := X3.callS hexec (Cmp5.law l b A s.heap.size B3 o 0 len) hown (wks W (staticW U16 115 Cmp5.yN)) (wk W Cmp5.tab) (W := 0) (Nat.le_of_ble_eq_true rfl) (Nat.le_of_ble_eq_true rfl) (Nat.le_refl _) (by show 0 + len + 0 ≤ len; omega) (g := (mkF m 9 #[.val (.ref b), .val (.int (Int32.ofNat o)), .val (.int (Int32.ofNat len)), .val (.ref s.heap.size), .unset, .unset] [.int (Int32.ofNat len), .int (Int32.ofNat 0), .ref s.heap.size, .int (Int32.ofNat o), .ref b])) rfl (by rw [hml]; rfl) c5 (argsL := [.ref b, .int (Int32.ofNat o), .ref s.heap.size, .int (Int32.ofNat 0), .int (Int32.ofNat len)]) (rest := []) rfl rfl (by show 2 * 0 + 0 ≤ _; decide) (hb hbytes d9) (⟨rfl, hA3, ba3, hne, l1, by rw [bs3]; simp, hp⟩)
  obtain ⟨rfl, B6, p6, f6⟩ := E6
  have c7 : Steps p.tables e below (s₁.setTop (entryFrame m #[.ref b, .int (Int32.ofNat o), .int (Int32.ofNat len)] 6)) (T6.setTop (mkF m 12 #[.val (.ref b), .val (.int (Int32.ofNat o)), .val (.int (Int32.ofNat len)), .val (.ref s.heap.size), .unset, .unset] [.int (Int32.ofNat len)])) := g6
  have c8 : Steps p.tables e below (s₁.setTop (entryFrame m #[.ref b, .int (Int32.ofNat o), .int (Int32.ofNat len)] 6)) (T6.setTop (mkF m 58 #[.val (.ref b), .val (.int (Int32.ofNat o)), .val (.int (Int32.ofNat len)), .val (.ref s.heap.size), .val (.int (Int32.ofNat len)), .unset] [.ref s.heap.size])) := c7.trans (by
    refine XS.istore X6.here hexec rfl (hb hbytes d12) rfl rfl ?_
    refine XS.iload X6.here hexec rfl (hb hbytes d14) rfl ?_
    refine XS.iloadN X6.here hexec rfl (hb hbytes d16) rfl ?_
    refine XS.icmpYes X6.here hexec rfl (pc0 := 17) rfl (hb hbytes d17) rfl (ii_eq_t rfl) (by decide) rfl ?_
    refine XS.aloadN X6.here hexec rfl (hb hbytes d57) rfl rfl ?_
    exact Steps.refl _)
  have X8 := X6.wide (L' := []) (cells' := 1) (slots' := len) (fun x hx hlt => by
    simp only [List.nil_append, copyLocs, List.mem_map, List.mem_range] at hx
    obtain ⟨i, -, rfl⟩ := hx
    exact absurd hlt (Nat.lt_irrefl _)) (Nat.le_refl _) (by omega)
  exact ⟨T6, some (.ref s.heap.size), _, _, _, X8, rfl, rfl, rfl, (fun h => by cases h), ⟨⟨rfl, B6, ba3.like (X3.warmed.alike.symm.trans X6.warmed.alike) p6.1 f6.1 f6.2.1 f6.2.2.1, f6.2.1.trans bv3, by rw [X6.warmed.alike.findClass, f6.1]; exact bf3, by rw [f6.2.2.1, bs3]; simp, fun j hj => by rw [f6.2.2.2 j, if_pos (by omega)]; rfl, kp3.put p6 (Nat.le_refl _)⟩, by rw [p6.2.2, bh3, hh0]; simp⟩, fun fs hl => c8.trans (X8.areturnOut hexec rfl hret rfl (hb hbytes d58) hl)⟩
end Cmp3
namespace CodL
def yN : MethodName := ⟨"java/lang/StringUTF16", "coderFromArrayLen", "([BI)B"⟩
abbrev yB : ByteArray := jdk_52_method_15_code
theorem d0 : decode yB 0 = .ok (.iload_n 1, 1) := by decide +kernel
theorem d1 : decode yB 1 = .ok (.aload_n 0, 1) := by decide +kernel
theorem d2 : decode yB 2 = .ok (.arraylength, 1) := by decide +kernel
theorem d3 : decode yB 3 = .ok (.isub, 1) := by decide +kernel
theorem d4 : decode yB 4 = .ok (.bipush 31, 2) := by decide +kernel
theorem d6 : decode yB 6 = .ok (.iushr, 1) := by decide +kernel
theorem d7 : decode yB 7 = .ok (.i2b, 1) := by decide +kernel
theorem d8 : decode yB 8 = .ok (.ireturn, 1) := by decide +kernel
def site : List Cond := []
def tab : Cond := tabOf yN yB 2 (some .byte) site
def P (d : Addr) (B : Cell) (args : Array Value) (s : State) : Prop := args = #[.ref d, .int (Int32.ofNat B.slots.size)] ∧ Arr .byte d B s
def E (r : Option Value) (s u : State) : Prop := XT.PureE (some (.int 0)) r s u
/-- an array as long as the number of chars: LATIN1 -/
theorem law (l : Launch) (d : Addr) (B : Cell) : Law l yN 2 2 0 0 yB 2 (some .byte) site (P d B) E [] 0 0 := by
  refine Law.of_walk (plainFor_of_name (by decide +kernel)) (by decide +kernel) (by decide +kernel) (by decide) (fun _ _ h => by rw [h.1]; rfl) (fun _ U U' hal hh h => ⟨h.1, h.2.mv hal hh⟩) (fun r U U' V V' h1 hal h2 h => XT.PureE.mv r U U' V V' h1 hal h2 h) ?_
  intro p e s m args below meth c s₁ X0 hexec hbytes hml hret hlk hnm hown hh0 W hP
  obtain ⟨rfl, hB⟩ := hP
  have hB0 := hB.mv X0.warmed.alike hh0
  have c1 : Steps p.tables e below (s₁.setTop (entryFrame m #[.ref d, .int (Int32.ofNat B.slots.size)] 2)) (s₁.setTop (mkF m 0 #[.val (.ref d), .val (.int (Int32.ofNat B.slots.size))] [])) := entry rfl
  have c2 : Steps p.tables e below (s₁.setTop (entryFrame m #[.ref d, .int (Int32.ofNat B.slots.size)] 2)) (s₁.setTop (mkF m 2 #[.val (.ref d), .val (.int (Int32.ofNat B.slots.size))] [.ref d, .int (Int32.ofNat B.slots.size)])) := c1.trans (by
    refine XS.iloadN X0.here hexec rfl (hb hbytes d0) rfl ?_
    refine XS.aloadN X0.here hexec rfl (hb hbytes d1) rfl rfl ?_
    exact Steps.refl _)
  have c3 : Steps p.tables e below (s₁.setTop (entryFrame m #[.ref d, .int (Int32.ofNat B.slots.size)] 2)) (s₁.setTop (mkF m 8 #[.val (.ref d), .val (.int (Int32.ofNat B.slots.size))] [.int (lo8 (ushr (Int32.ofNat B.slots.size - Int32.ofNat B.slots.size) 31))])) := c2.trans (by
    refine X0.alen hexec hB0 rfl rfl (hb hbytes d2) ?_
    refine XS.isub X0.here hexec rfl (hb hbytes d3) rfl ?_
    refine bipushV X0.here hexec rfl 31 (hb hbytes d4) (by decide) ?_
    refine iushr X0.here hexec rfl (hb hbytes d6) rfl ?_
    refine i2b X0.here hexec rfl (hb hbytes d7) rfl ?_
    exact Steps.refl _)
  have e0 : lo8 (ushr (Int32.ofNat B.slots.size - Int32.ofNat B.slots.size) 31) = 0 := by rw [Int32.sub_self]; decide
  rw [e0] at c3
  exact ⟨s₁, some (.int 0), _, _, _, X0, rfl, rfl, rfl, (fun h => by cases h), ⟨rfl, hh0⟩, fun fs hl => c3.trans (X0.ireturnOut hexec hret rfl (Or.inr (Or.inr (Or.inl rfl))) (hb hbytes d8) hl)⟩
end CodL
/-- the String at a is Latin-1 over a new byte[] (the heap's one new cell): the low bytes of the len chars of A from o on; every cell but a is kept -/
def Got (a : Addr) (D : Cell) (fV fC : Field) (A : Cell) (o len : Nat) (r : Option Value) (s u : State) : Prop := r = none ∧ ∃ D' V : Cell, Blank "java/lang/String" a D' u ∧ Same D D' [fV.slot, fC.slot] ∧ D'.slots[fV.slot]? = some (.ref s.heap.size) ∧ D'.slots[fC.slot]? = some (.int 0) ∧ Arr .byte s.heap.size V u ∧ V.vm = .none ∧ u.vm.findClass "[B" = some V.cls ∧ V.slots.size = len ∧ (∀ j, j < len → V.slots[j]? = some (.int (lo8 (cv A (o + j))))) ∧ (∀ (y : Addr) (c : Cell), y ≠ a → s.heap[y]? = some c → u.heap[y]? = some c) ∧ u.heap.size = s.heap.size + 1
theorem Got.mv {a : Addr} {D A : Cell} {fV fC : Field} {o len : Nat} : ∀ r (U U' V V' : State), U'.heap = U.heap → V.vm.Alike V'.vm → V'.heap = V.heap → Got a D fV fC A o len r U V → Got a D fV fC A o len r U' V' :=
  fun r U U' V V' h1 hal h2 ⟨e0, D', X, a1, a2, a3, a4, a5, a6, a7, a8, a9, a10, a11⟩ => ⟨e0, D', X, a1.mv hal h2, a2, by rw [h1]; exact a3, a4, by rw [h1]; exact a5.mv hal h2, a6, by rw [hal.findClass]; exact a7, a8, a9, by rw [h1, h2]; exact a10, by rw [h1, h2]; exact a11⟩
namespace New4
def yN : MethodName := ⟨"java/lang/String", "<init>", "([CIILjava/lang/Void;)V"⟩
abbrev yB : ByteArray := jdk_42_method_149_code
theorem d0 : decode yB 0 = .ok (.aload_n 0, 1) := by decide +kernel
theorem d1 : decode yB 1 = .ok (.invokespecial 1, 3) := by decide +kernel
theorem d4 : decode yB 4 = .ok (.iload_n 3, 1) := by decide +kernel
theorem d5 : decode yB 5 = .ok (.ifCond (.ne) 22, 3) := by decide +kernel
theorem d27 : decode yB 27 = .ok (.getstatic 38, 3) := by decide +kernel
theorem d30 : decode yB 30 = .ok (.ifCond (.eq) 28, 3) := by decide +kernel
theorem d33 : decode yB 33 = .ok (.aload_n 1, 1) := by decide +kernel
theorem d34 : decode yB 34 = .ok (.iload_n 2, 1) := by decide +kernel
theorem d35 : decode yB 35 = .ok (.iload_n 3, 1) := by decide +kernel
theorem d36 : decode yB 36 = .ok (.invokestatic 177, 3) := by decide +kernel
theorem d39 : decode yB 39 = .ok (.astore 5, 2) := by decide +kernel
theorem d41 : decode yB 41 = .ok (.aload_n 0, 1) := by decide +kernel
theorem d42 : decode yB 42 = .ok (.aload 5, 2) := by decide +kernel
theorem d44 : decode yB 44 = .ok (.iload_n 3, 1) := by decide +kernel
theorem d45 : decode yB 45 = .ok (.invokestatic 47, 3) := by decide +kernel
theorem d48 : decode yB 48 = .ok (.putfield 15, 3) := by decide +kernel
theorem d51 : decode yB 51 = .ok (.aload_n 0, 1) := by decide +kernel
theorem d52 : decode yB 52 = .ok (.aload 5, 2) := by decide +kernel
theorem d54 : decode yB 54 = .ok (.putfield 9, 3) := by decide +kernel
theorem d57 : decode yB 57 = .ok (.return_, 1) := by decide +kernel
def site : List Cond := [.fieldLink "java/lang/String" 38 "java/lang/String" "COMPACT_STRINGS" "Z", Cmp3.tab, CodL.tab, .laysFinal "java/lang/String" "java/lang/String" "value" "[B", .fieldLink "java/lang/String" 9 "java/lang/String" "value" "[B", .laysFinal "java/lang/String" "java/lang/String" "coder" "B", .fieldLink "java/lang/String" 15 "java/lang/String" "coder" "B"] ++ objW "java/lang/String" 1 ++ staticW "java/lang/String" 177 Cmp3.yN ++ staticW "java/lang/String" 47 CodL.yN
def tab : Cond := tabOf yN yB 6 none site
def P (a : Addr) (D : Cell) (fV fC : Field) (b : Addr) (A : Cell) (z : Int32) (o len : Nat) (args : Array Value) (s : State) : Prop := args = #[.ref a, .ref b, .int (Int32.ofNat o), .int (Int32.ofNat len), .null] ∧ Blank "java/lang/String" a D s ∧ Found "java/lang/String" "value" "[B" fV s ∧ Found "java/lang/String" "coder" "B" fC s ∧ Ch b A s ∧ StaticIs s "java/lang/String" "COMPACT_STRINGS" "Z" (.int z) ∧ ¬ z = 0 ∧ 0 < len ∧ o + len ≤ A.slots.size ∧ len ≤ 536870912 ∧ ∀ i, i < len → ¬ 255 < cv A (o + i)
def E (a : Addr) (D : Cell) (fV fC : Field) (A : Cell) (o len : Nat) (r : Option Value) (s u : State) : Prop := Got a D fV fC A o len r s u
/-- len > 0, no char of the range above 255: a Latin-1 String of their low bytes -/
theorem law (l : Launch) (a : Addr) (D : Cell) (fV fC : Field) (b : Addr) (A : Cell) (z : Int32) (o len : Nat) : Law l yN 5 4 2 35 yB 6 none site (P a D fV fC b A z o len) (E a D fV fC A o len) [⟨a, fC.slot⟩, ⟨a, fV.slot⟩] 1 len := by
  refine Law.of_walk (plainFor_of_name (by decide +kernel)) (by decide +kernel) (by decide +kernel) (by decide) (fun _ _ h => by rw [h.1]; rfl) (fun _ U U' hal hh h => ⟨h.1, h.2.1.mv hal hh, h.2.2.1.al hal, h.2.2.2.1.al hal, h.2.2.2.2.1.mv hal hh, h.2.2.2.2.2.1.there hal hh, h.2.2.2.2.2.2⟩) (fun r U U' V V' h1 hal h2 h => Got.mv r U U' V V' h1 hal h2 h) ?_
  intro p e s m args below meth c s₁ X0 hexec hbytes hml hret hlk hnm hown hh0 W hP
  obtain ⟨rfl, hB, f1, f2, hA, s1, hz, l0, l1, l2, hp⟩ := hP
  have a31 := hA.1.2.2.2
  have c1 : Steps p.tables e below (s₁.setTop (entryFrame m #[.ref a, .ref b, .int (Int32.ofNat o), .int (Int32.ofNat len), .null] 6)) (s₁.setTop (mkF m 0 #[.val (.ref a), .val (.ref b), .val (.int (Int32.ofNat o)), .val (.int (Int32.ofNat len)), .val .null, .unset] [])) := entry rfl
  have c2 : Steps p.tables e below (s₁.setTop (entryFrame m #[.ref a, .ref b, .int (Int32.ofNat o), .int (Int32.ofNat len), .null] 6)) (s₁.setTop (mkF m 1 #[.val (.ref a), .val (.ref b), .val (.int (Int32.ofNat o)), .val (.int (Int32.ofNat len)), .val .null, .unset] [.ref a])) := c1.trans (by
    refine XS.aloadN X0.here hexec rfl (hb hbytes d0) rfl rfl ?_
    exact Steps.refl _)
  obtain ⟨T3, X3, q3, st3⟩ := X0.oinit hexec hown (wks W (objW "java/lang/String" 1)) (g := (mkF m 1 #[.val (.ref a), .val (.ref b), .val (.int (Int32.ofNat o)), .val (.int (Int32.ofNat len)), .val .null, .unset] [.ref a])) rfl (by rw [hml]; rfl) (rest := []) rfl (hb hbytes d1) (W := 0) (by show 2 * 0 + 0 ≤ _; decide) (Nat.le_of_ble_eq_true rfl) (Nat.le_of_ble_eq_true rfl)
  have hh3 := q3.trans hh0
  have c4 : Steps p.tables e below (s₁.setTop (entryFrame m #[.ref a, .ref b, .int (Int32.ofNat o), .int (Int32.ofNat len), .null] 6)) (T3.setTop (mkF m 27 #[.val (.ref a), .val (.ref b), .val (.int (Int32.ofNat o)), .val (.int (Int32.ofNat len)), .val .null, .unset] [])) := (c2.trans (st3 _ (Steps.refl _))).trans (by
    refine XS.iloadN X3.here hexec rfl (hb hbytes d4) rfl ?_
    refine XS.ifYes X3.here hexec rfl (pc0 := 5) rfl (hb hbytes d5) rfl (i0_ne_t (nz32 (by omega) l0)) (by decide) rfl ?_
    exact Steps.refl _)
  obtain ⟨T5, X5, q5, st5⟩ := X3.sget hexec hown (wk W (.fieldLink "java/lang/String" 38 "java/lang/String" "COMPACT_STRINGS" "Z")) s1 (fun _ _ h => by rw [hh3]; exact h) (g := (mkF m 27 #[.val (.ref a), .val (.ref b), .val (.int (Int32.ofNat o)), .val (.int (Int32.ofNat len)), .val .null, .unset] [])) rfl (hb hbytes d27)
  have hh5 := q5.trans hh3
  have c6 : Steps p.tables e below (s₁.setTop (entryFrame m #[.ref a, .ref b, .int (Int32.ofNat o), .int (Int32.ofNat len), .null] 6)) (T5.setTop (mkF m 30 #[.val (.ref a), .val (.ref b), .val (.int (Int32.ofNat o)), .val (.int (Int32.ofNat len)), .val .null, .unset] [.int z])) := c4.trans (st5 _ (Steps.refl _))
  have c7 : Steps p.tables e below (s₁.setTop (entryFrame m #[.ref a, .ref b, .int (Int32.ofNat o), .int (Int32.ofNat len), .null] 6)) (T5.setTop (mkF m 36 #[.val (.ref a), .val (.ref b), .val (.int (Int32.ofNat o)), .val (.int (Int32.ofNat len)), .val .null, .unset] [.int (Int32.ofNat len), .int (Int32.ofNat o), .ref b])) := c6.trans (by
    refine XS.ifNo X5.here hexec rfl (hb hbytes d30) rfl (i0_eq_f hz) ?_
    refine XS.aloadN X5.here hexec rfl (hb hbytes d33) rfl rfl ?_
    refine XS.iloadN X5.here hexec rfl (hb hbytes d34) rfl ?_
    refine XS.iloadN X5.here hexec rfl (hb hbytes d35) rfl ?_
    exact Steps.refl _)
  obtain ⟨v8, T8, X8, E8, g8⟩ := X5.callS hexec (Cmp3.law l b A o len) hown (wks W (staticW "java/lang/String" 177 Cmp3.yN)) (wk W Cmp3.tab) (W := 0) (Nat.le_of_ble_eq_true rfl) (Nat.le_of_ble_eq_true rfl) (Nat.le_refl _) (by show 0 + len ≤ len; omega) (g := (mkF m 36 #[.val (.ref a), .val (.ref b), .val (.int (Int32.ofNat o)), .val (.int (Int32.ofNat len)), .val .null, .unset] [.int (Int32.ofNat len), .int (Int32.ofNat o), .ref b])) rfl (by rw [hml]; rfl) c7 (argsL := [.ref b, .int (Int32.ofNat o), .int (Int32.ofNat len)]) (rest := []) rfl rfl (by show 2 * 0 + 0 ≤ _; decide) (hb hbytes d36) (⟨rfl, hA.mv X5.warmed.alike hh5, l1, l2, hp⟩)
  obtain ⟨e8, z8⟩ := E8
  obtain ⟨rfl, N, n1, n2, n3, n4, n5, n6⟩ := NewArr.mv _ T5 s _ _ hh5.symm (Vm.Alike.refl _) rfl e8
  rw [hh5] at z8
  have hB1 := hB.keep X8.warmed.alike (n6 _ _ hB.1)
  have hne : s.heap.size ≠ a := (Nat.ne_of_lt (Array.getElem?_eq_some_iff.mp hB.1).1).symm
  have c9 : Steps p.tables e below (s₁.setTop (entryFrame m #[.ref a, .ref b, .int (Int32.ofNat o), .int (Int32.ofNat len), .null] 6)) (T8.setTop (mkF m 39 #[.val (.ref a), .val (.ref b), .val (.int (Int32.ofNat o)), .val (.int (Int32.ofNat len)), .val .null, .unset] [.ref s.heap.size])) := g8
  have c10 : Steps p.tables e below (s₁.setTop (entryFrame m #[.ref a, .ref b, .int (Int32.ofNat o), .int (Int32.ofNat len), .null] 6)) (T8.setTop (mkF m 45 #[.val (.ref a), .val (.ref b), .val (.int (Int32.ofNat o)), .val (.int (Int32.ofNat len)), .val .null, .val (.ref s.heap.size)] [.int (Int32.ofNat N.slots.size), .ref s.heap.size, .ref a])) := by
    have hc : Steps p.tables e below (s₁.setTop (entryFrame m #[.ref a, .ref b, .int (Int32.ofNat o), .int (Int32.ofNat len), .null] 6)) (T8.setTop (mkF m 45 #[.val (.ref a), .val (.ref b), .val (.int (Int32.ofNat o)), .val (.int (Int32.ofNat len)), .val .null, .val (.ref s.heap.size)] [.int (Int32.ofNat len), .ref s.heap.size, .ref a])) := c9.trans (by
      refine XS.astore X8.here hexec rfl (hb hbytes d39) rfl rfl rfl ?_
      refine XS.aloadN X8.here hexec rfl (hb hbytes d41) rfl rfl ?_
      refine XS.aload X8.here hexec rfl (hb hbytes d42) rfl rfl ?_
      refine XS.iloadN X8.here hexec rfl (hb hbytes d44) rfl ?_
      exact Steps.refl _)
    rw [n4]; exact hc
  obtain ⟨v11, T11, X11, E11, g11⟩ := X8.callS hexec (CodL.law l s.heap.size N) hown (wks W (staticW "java/lang/String" 47 CodL.yN)) (wk W CodL.tab) (W := 1) (Nat.le_of_ble_eq_true rfl) (Nat.le_of_ble_eq_true rfl) (Nat.le_refl _) (by show 0 + len + 0 ≤ len; omega) (g := (mkF m 45 #[.val (.ref a), .val (.ref b), .val (.int (Int32.ofNat o)), .val (.int (Int32.ofNat len)), .val .null, .val (.ref s.heap.size)] [.int (Int32.ofNat N.slots.size), .ref s.heap.size, .ref a])) rfl (by rw [hml]; rfl) c10 (argsL := [.ref s.heap.size, .int (Int32.ofNat N.slots.size)]) (rest := [.ref a]) rfl rfl (by show 2 * 0 + (1 + 0) ≤ _; decide) (hb hbytes d45) (⟨rfl, n1⟩)
  obtain ⟨rfl, q11⟩ := E11
  have hB11 := hB1.mv (X8.warmed.alike.symm.trans X11.warmed.alike) q11
  have c12 : Steps p.tables e below (s₁.setTop (entryFrame m #[.ref a, .ref b, .int (Int32.ofNat o), .int (Int32.ofNat len), .null] 6)) (T11.setTop (mkF m 48 #[.val (.ref a), .val (.ref b), .val (.int (Int32.ofNat o)), .val (.int (Int32.ofNat len)), .val .null, .val (.ref s.heap.size)] [.int 0, .ref a])) := g11
  obtain ⟨T13, X13, p13, bl13, sl13, st13⟩ := X11.finit hexec hown (wk W (.fieldLink "java/lang/String" 15 "java/lang/String" "coder" "B")) (Or.inr ⟨_, (wk W (.laysFinal "java/lang/String" "java/lang/String" "coder" "B"))⟩) (Or.inl ⟨rfl, hnm⟩) f2 (Or.inl rfl) hB11 (t := .byte) (by decide +kernel) rfl (g := (mkF m 48 #[.val (.ref a), .val (.ref b), .val (.int (Int32.ofNat o)), .val (.int (Int32.ofNat len)), .val .null, .val (.ref s.heap.size)] [.int 0, .ref a])) rfl (rest := []) rfl (hb hbytes d48)
  have c14 : Steps p.tables e below (s₁.setTop (entryFrame m #[.ref a, .ref b, .int (Int32.ofNat o), .int (Int32.ofNat len), .null] 6)) (T13.setTop (mkF m 54 #[.val (.ref a), .val (.ref b), .val (.int (Int32.ofNat o)), .val (.int (Int32.ofNat len)), .val .null, .val (.ref s.heap.size)] [.ref s.heap.size, .ref a])) := (c12.trans (st13 _ (Steps.refl _))).trans (by
    refine XS.aloadN X13.here hexec rfl (hb hbytes d51) rfl rfl ?_
    refine XS.aload X13.here hexec rfl (hb hbytes d52) rfl rfl ?_
    exact Steps.refl _)
  obtain ⟨T15, X15, p15, bl15, sl15, st15⟩ := X13.finit hexec hown (wk W (.fieldLink "java/lang/String" 9 "java/lang/String" "value" "[B")) (Or.inr ⟨_, (wk W (.laysFinal "java/lang/String" "java/lang/String" "value" "[B"))⟩) (Or.inl ⟨rfl, hnm⟩) f1 (Or.inl rfl) bl13 (t := (.array .byte)) (by decide +kernel) rfl (g := (mkF m 54 #[.val (.ref a), .val (.ref b), .val (.int (Int32.ofNat o)), .val (.int (Int32.ofNat len)), .val .null, .val (.ref s.heap.size)] [.ref s.heap.size, .ref a])) rfl (rest := []) rfl (hb hbytes d54)
  have c16 : Steps p.tables e below (s₁.setTop (entryFrame m #[.ref a, .ref b, .int (Int32.ofNat o), .int (Int32.ofNat len), .null] 6)) (T15.setTop (mkF m 57 #[.val (.ref a), .val (.ref b), .val (.int (Int32.ofNat o)), .val (.int (Int32.ofNat len)), .val .null, .val (.ref s.heap.size)] [])) := c14.trans (st15 _ (Steps.refl _))
  have ap := apart (Or.inr ⟨_, (wk W (.laysFinal "java/lang/String" "java/lang/String" "value" "[B"))⟩) (Or.inr ⟨_, (wk W (.laysFinal "java/lang/String" "java/lang/String" "coder" "B"))⟩) f1 f2 (t₁ := .array .byte) (t₂ := .byte) (by decide +kernel) (by decide +kernel) (by decide)
  have al := X8.warmed.alike.symm.trans X15.warmed.alike
  have n7 : T11.heap[s.heap.size]? = some N := by rw [q11]; exact n1.1
  exact ⟨T15, none, _, _, _, X15, by simp, rfl, by omega, (fun _ => rfl), ⟨rfl, _, N, bl15, ((Same.refl D _).set _ (by simp)).set _ (by simp), sl15, (Cell.slots_setSlot_ne _ ap).trans sl13, n1.keep al (p15.other hne (p13.other hne n7)), n2, by rw [al.findClass]; exact n3, n4, n5, fun y c h1 h2 => p15.other h1 (p13.other h1 (by rw [q11]; exact n6 y c h2)), by rw [p15.2.2, p13.2.2, q11]; exact z8⟩, fun fs hl => c16.trans (X15.returnOut hexec hret (hb hbytes d57) hl)⟩
end New4
namespace New1
def yN : MethodName := ⟨"java/lang/String", "<init>", "([C)V"⟩
abbrev yB : ByteArray := jdk_42_method_3_code
theorem d0 : decode yB 0 = .ok (.aload_n 0, 1) := by decide +kernel
theorem d1 : decode yB 1 = .ok (.aload_n 1, 1) := by decide +kernel
theorem d2 : decode yB 2 = .ok (.iconst 0, 1) := by decide +kernel
theorem d3 : decode yB 3 = .ok (.aload_n 1, 1) := by decide +kernel
theorem d4 : decode yB 4 = .ok (.arraylength, 1) := by decide +kernel
theorem d5 : decode yB 5 = .ok (.aconst_null, 1) := by decide +kernel
theorem d6 : decode yB 6 = .ok (.invokespecial 27, 3) := by decide +kernel
theorem d9 : decode yB 9 = .ok (.return_, 1) := by decide +kernel
def site : List Cond := [New4.tab] ++ initW "java/lang/String" 27 New4.yN
def tab : Cond := tabOf yN yB 2 none site
def P (a : Addr) (D : Cell) (fV fC : Field) (b : Addr) (A : Cell) (z : Int32) (args : Array Value) (s : State) : Prop := args = #[.ref a, .ref b] ∧ Blank "java/lang/String" a D s ∧ Found "java/lang/String" "value" "[B" fV s ∧ Found "java/lang/String" "coder" "B" fC s ∧ Ch b A s ∧ StaticIs s "java/lang/String" "COMPACT_STRINGS" "Z" (.int z) ∧ ¬ z = 0 ∧ 0 < A.slots.size ∧ A.slots.size ≤ 536870912 ∧ ∀ i, i < A.slots.size → ¬ 255 < cv A i
def E (a : Addr) (D : Cell) (fV fC : Field) (A : Cell) (r : Option Value) (s u : State) : Prop := Got a D fV fC A 0 A.slots.size r s u
/-- new String(chars), not empty, no char above 255: a Latin-1 String of their low bytes -/
theorem law (l : Launch) (a : Addr) (D : Cell) (fV fC : Field) (b : Addr) (A : Cell) (z : Int32) : Law l yN 2 1 3 52 yB 2 none site (P a D fV fC b A z) (E a D fV fC A) [⟨a, fC.slot⟩, ⟨a, fV.slot⟩] 1 A.slots.size := by
  refine Law.of_walk (plainFor_of_name (by decide +kernel)) (by decide +kernel) (by decide +kernel) (by decide) (fun _ _ h => by rw [h.1]; rfl) (fun _ U U' hal hh h => ⟨h.1, h.2.1.mv hal hh, h.2.2.1.al hal, h.2.2.2.1.al hal, h.2.2.2.2.1.mv hal hh, h.2.2.2.2.2.1.there hal hh, h.2.2.2.2.2.2⟩) (fun r U U' V V' h1 hal h2 h => Got.mv r U U' V V' h1 hal h2 h) ?_
  intro p e s m args below meth c s₁ X0 hexec hbytes hml hret hlk hnm hown hh0 W hP
  obtain ⟨rfl, hB, f1, f2, hA, s1, hz, l0, l2, hp⟩ := hP
  have c1 : Steps p.tables e below (s₁.setTop (entryFrame m #[.ref a, .ref b] 2)) (s₁.setTop (mkF m 0 #[.val (.ref a), .val (.ref b)] [])) := entry rfl
  have c2 : Steps p.tables e below (s₁.setTop (entryFrame m #[.ref a, .ref b] 2)) (s₁.setTop (mkF m 6 #[.val (.ref a), .val (.ref b)] [.null, .int (Int32.ofNat A.slots.size), .int 0, .ref b, .ref a])) := c1.trans (by
    refine XS.aloadN X0.here hexec rfl (hb hbytes d0) rfl rfl ?_
    refine XS.aloadN X0.here hexec rfl (hb hbytes d1) rfl rfl ?_
    refine iconstV X0.here hexec rfl 0 (hb hbytes d2) (by decide) ?_
    refine XS.aloadN X0.here hexec rfl (hb hbytes d3) rfl rfl ?_
    refine X0.alen hexec (hA.1.mv X0.warmed.alike hh0) rfl rfl (hb hbytes d4) ?_
    refine XS.aconstNull X0.here hexec rfl (hb hbytes d5) ?_
    exact Steps.refl _)
  obtain ⟨v3, T3, X3, E3, g3⟩ := X0.callN hexec (New4.law l a D fV fC b A z 0 A.slots.size) rfl hown (wks W (initW "java/lang/String" 27 New4.yN)) (W New4.tab (by simp only [site, List.mem_cons, List.mem_append, true_or, or_true])) (W := 0) (Nat.le_of_ble_eq_true rfl) (Nat.le_of_ble_eq_true rfl) (Nat.le_refl _) (by show 0 + A.slots.size ≤ A.slots.size; omega) (g := (mkF m 6 #[.val (.ref a), .val (.ref b)] [.null, .int (Int32.ofNat A.slots.size), .int (Int32.ofNat 0), .ref b, .ref a])) rfl (by rw [hml]; rfl) c2 (argsL := [.ref b, .int (Int32.ofNat 0), .int (Int32.ofNat A.slots.size), .null]) (rest := []) rfl rfl (by show 2 * 0 + 0 ≤ _; decide) (hb hbytes d6) (⟨rfl, hB.mv X0.warmed.alike hh0, f1.al X0.warmed.alike, f2.al X0.warmed.alike, hA.mv X0.warmed.alike hh0, s1.there X0.warmed.alike hh0, hz, l0, by omega, l2, fun i hi => by rw [Nat.zero_add]; exact hp i hi⟩)
  have e0 := Got.mv _ s₁ s _ _ hh0.symm (Vm.Alike.refl _) rfl E3
  obtain rfl := e0.1
  have c4 : Steps p.tables e below (s₁.setTop (entryFrame m #[.ref a, .ref b] 2)) (T3.setTop (mkF m 9 #[.val (.ref a), .val (.ref b)] [])) := g3
  exact ⟨T3, none, _, _, _, X3, by simp, rfl, by omega, (fun _ => rfl), e0, fun fs hl => c4.trans (X3.returnOut hexec hret (hb hbytes d9) hl)⟩
theorem pays {l : Launch} {R : Room} {p : Program} {e : Env} {below : List Frame} {s : State} {sargs : Array Value} {len W : Nat} (a : Addr) (D : Cell) (fV fC : Field) (b : Addr) (A : Cell) (z : Int32) (htab : tab.before sargs s = true) (hfr : 4 ≤ R.frames) (hlo : W + 65 ≤ R.locals) :
    Back l R p e below s sargs yN len W (fun A₁ a₁ => A₁.cells + 1 ≤ R.cells ∧ A₁.slots + A.slots.size ≤ R.slots ∧ P a D fV fC b A z a₁ A₁.U) (fun A₁ _ v₁ B₁ => E a D fV fC A v₁ A₁.U B₁.U ∧ B₁.locs = A₁.locs ++ [⟨a, fC.slot⟩, ⟨a, fV.slot⟩] ∧ B₁.cells = A₁.cells + 1 ∧ B₁.slots = A₁.slots + A.slots.size) :=
  (law l a D fV fC b A z).pays htab hfr (by omega)
end New1
/-- the byte, read back as charAt reads it, is the char -/
theorem lo8_mask {x : Int32} (h0 : ¬ x < 0) (h1 : ¬ 255 < x) : lo8 x &&& 255 = x := by
  have t : ∀ k : Fin 256, lo8 (Int32.ofNat k.val) &&& 255 = Int32.ofNat k.val := by decide +kernel
  rw [Int32.lt_iff_toInt_lt] at h0 h1
  have e0 : (0 : Int32).toInt = 0 := rfl
  have e1 : (255 : Int32).toInt = 255 := rfl
  obtain ⟨k, hk⟩ : ∃ k : Nat, x.toInt = k := ⟨x.toInt.toNat, by omega⟩
  have hx : x = Int32.ofNat k := Int32.toInt_inj.mp (by rw [hk, Int32.toInt_ofNat_small (by omega)])
  rw [hx]
  exact t ⟨k, by omega⟩
end StrChars
namespace StrChars.Road
open Jvm Sem ClassFile Op Lib Jvm.Stand Jvm.Free Jvm.Free.XT
open Jvm.Lib.Cold (StaticIs)
abbrev ST : String := "java/lang/String"
/-- every table word that New1's law asks, flat -/
abbrev words : List Jvm.Cond := [.code New1.yN New1.yB 2 none, .initialized ST, .methodLink ST 27 New4.yN, .instanceMethod New4.yN,
  .code New4.yN New4.yB 6 none, .fieldLink ST 38 ST "COMPACT_STRINGS" "Z", .laysFinal ST ST "value" "[B", .fieldLink ST 9 ST "value" "[B", .laysFinal ST ST "coder" "B", .fieldLink ST 15 ST "coder" "B",
  .methodLink ST 1 Lib.objectInit, .instanceMethod Lib.objectInit, .code Lib.objectInit ⟨#[0xb1]⟩ 1 none, .methodLink ST 177 Cmp3.yN, .static Cmp3.yN, .methodLink ST 47 CodL.yN, .static CodL.yN,
  .code Cmp3.yN Cmp3.yB 6 (some (.array .byte)), .initialized U16, .arrayClass .byte, .methodLink U16 115 Cmp5.yN, .static Cmp5.yN, .code Cmp5.yN Cmp5.yB 7 (some .int), .code CodL.yN CodL.yB 2 (some .byte)]
theorem tab_of {a : Array Value} {s : State} (h : ∀ w ∈ words, w.before a s = true) : New1.tab.before a s = true := by
  have h5 : Cmp5.tab.before a s = true := unparts (wk h (.code Cmp5.yN Cmp5.yB 7 (some .int))) (wks h (.initialized Cmp5.yN.cls :: Cmp5.site))
  have hc : CodL.tab.before a s = true := unparts (wk h (.code CodL.yN CodL.yB 2 (some .byte))) (wks h (.initialized CodL.yN.cls :: CodL.site))
  have q5 : ∀ w ∈ Cmp5.tab :: words, w.before a s = true := fun w hw => (List.mem_cons.mp hw).elim (fun e => e ▸ h5) (h w)
  have h3 : Cmp3.tab.before a s = true := unparts (wk q5 (.code Cmp3.yN Cmp3.yB 6 (some (.array .byte)))) (wks q5 (.initialized Cmp3.yN.cls :: Cmp3.site))
  have q3 : ∀ w ∈ Cmp3.tab :: CodL.tab :: words, w.before a s = true := fun w hw => (List.mem_cons.mp hw).elim (fun e => e ▸ h3) fun hw => (List.mem_cons.mp hw).elim (fun e => e ▸ hc) (h w)
  have h4 : New4.tab.before a s = true := unparts (wk q3 (.code New4.yN New4.yB 6 none)) (wks q3 (.initialized New4.yN.cls :: New4.site))
  have q4 : ∀ w ∈ New4.tab :: words, w.before a s = true := fun w hw => (List.mem_cons.mp hw).elim (fun e => e ▸ h4) (h w)
  exact unparts (wk q4 (.code New1.yN New1.yB 2 none)) (wks q4 (.initialized New1.yN.cls :: New1.site))
/-- the words ride from the start Z to the walk's own state -/
theorem moved {Z s : State} {a0 args : Array Value} (hZ : Z.Warmed39 s.vm) (hw : ∀ d ∈ words, d.before a0 Z = true) : ∀ d ∈ words, d.before args s = true := fun d hd => by
  have q := hw d hd
  have t : ∀ d ∈ words, d = .arrayClass .byte ∨ (d.onTables && d.keepsFace) = true := by decide +kernel
  rcases t d hd with rfl | t
  · exact RoadKit.mvA hZ q
  · exact RoadKit.mv hZ q t
/-- WHAT COMES BACK, over the tables of the start Z: h the heap at the call, h' behind it -/
def Q (Z : State) (x : Addr) (A : Cell) (h : Heap) (v : Option Value) (h' : Heap) (L : List Loc) : Prop := v = none ∧ (∀ y ∈ L, y.base = x) ∧ RoadKit.Keep h h' [x] ∧ h'.size = h.size + 1 ∧ RoadKit.Exa Z h' x ST ∧ RoadKit.Fld Z h' x ST "value" "[B" (.ref h.size) ∧ RoadKit.Fld Z h' x ST "coder" "B" (.int 0) ∧
  (∃ V : Cell, RoadKit.Arr Z h' h.size V .byte ∧ V.vm = .none ∧ Z.vm.findClass "[B" = some V.cls ∧ V.slots.size = A.slots.size ∧ ∀ j, j < A.slots.size → V.slots[j]? = some (.int (lo8 (cv A j)))) ∧
  ∀ (O n d : String) (w : Value), RoadKit.Fld Z h x O n d w → RoadKit.slotOf Z O n d ≠ RoadKit.slotOf Z ST "value" "[B" → RoadKit.slotOf Z O n d ≠ RoadKit.slotOf Z ST "coder" "B" → RoadKit.Fld Z h' x O n d w
/-- **new String(chars) AT A CALL, IN THE ROAD'S FORM**: for specialBack behind newO: x the fresh String, b the char[] with the cell A -/
theorem back {p : Program} {l : Launch} {e : Env} {R : Room} {s : State} {args : Array Value} {below : List Frame} {len W : Nat} {Z : State} {a0 : Array Value} {h : Heap} (hZ : Z.Warmed39 s.vm) (hw : ∀ d ∈ words, d.before a0 Z = true) {kI : Nat} (wi : (Jvm.Cond.instantiable ST kI).before a0 Z = true)
    {x b : Addr} {A : Cell} {z : Int32} {v0 c0 : Value} (E : RoadKit.Exa Z h x ST) (V : RoadKit.Fld Z h x ST "value" "[B" v0) (C : RoadKit.Fld Z h x ST "coder" "B" c0) (K : RoadKit.Arr Z h b A .char) (hty : Typed .char A) (S : RoadKit.Sta Z h ST "COMPACT_STRINGS" "Z" (.int z)) (hz : ¬ z = 0)
    (l0 : 0 < A.slots.size) (l2 : A.slots.size ≤ 536870912) (hp : ∀ i, i < A.slots.size → ¬ 255 < cv A i) (hfr : 4 ≤ R.frames) (hlo : W + 65 ≤ R.locals) :
    Back l R p e below s args New1.yN len W (fun P a => a = #[.ref x, .ref b] ∧ P.U.heap = h ∧ P.cells + 1 ≤ R.cells ∧ P.slots + A.slots.size ≤ R.slots)
      (fun P _ v B => ∃ L, Q Z x A h v B.U.heap L ∧ B.locs = P.locs ++ L ∧ B.cells = P.cells + 1 ∧ B.slots = P.slots + A.slots.size) := by
  intro m meth c P g ig mk a X hg hsize hdg hW hn hp'
  obtain ⟨rfl, rfl, r1, r2⟩ := hp'
  have al : Z.vm.Alike P.U.vm := hZ.alike.trans X.warmed.alike
  obtain ⟨D, cfV, kV, iV, fV, hD, gV, stV, knV, obV, asV, slV⟩ := id V
  obtain ⟨D', cfC, kC, iC, fC, hD', gC, stC, -, -, asC, slC⟩ := id C
  cases hD.symm.trans hD'
  obtain ⟨D2, kD, e1, e2, e3, e4, e5⟩ := id E
  cases hD.symm.trans e1
  obtain ⟨c2, k2, i1, i2, i3, -⟩ := Cond.instantiable_spec wi
  cases e2.symm.trans i1
  cases e3.symm.trans i2
  obtain ⟨kU, u1, u2⟩ := al.2.2 _ _ e3
  have hB : Blank ST x D P.U := ⟨hD, ⟨knV, fun q hq => by rw [hq] at obV; cases obV⟩, by rw [al.findClass]; exact e2, kU, u1, by rw [u2]; exact i3, by rw [u2]; exact e5 i3⟩
  have F1 : Found ST "value" "[B" fV P.U := ⟨SBG.found_only al ⟨cfV, kV, iV, gV⟩, stV⟩
  have F2 : Found ST "coder" "B" fC P.U := ⟨SBG.found_only al ⟨cfC, kC, iC, gC⟩, stC⟩
  have hA : Ch b A P.U := ⟨⟨K.1, State.isArrayOf_alike al K.2.1, K.2.2, by omega⟩, hty⟩
  have hS : StaticIs P.U ST "COMPACT_STRINGS" "Z" (.int z) := by
    obtain ⟨cfS, iS, kS, fS, st, cS, t1, t2, t3, t4, t5, t6, t7⟩ := S
    exact StaticIs.there (s := { Z with heap := P.U.heap }) ⟨cfS, iS, kS, fS, st, cS, t1, t2, t3, t4, t5, (fun q => by rw [q] at t6; cases t6), t7⟩ al rfl
  obtain ⟨v, B, X', ⟨⟨hv, E', V', q1, q2, q3, q4, q5, q6, q7, q8, q9, q10, q11⟩, hl, hc, hs⟩, st⟩ := New1.pays x D fV fC b A z (tab_of (moved hZ hw)) hfr hlo m meth c P g ig mk _ X hg hsize hdg hW hn ⟨r1, r2, rfl, hB, F1, F2, hA, hS, hz, l0, l2, hp⟩
  have al' : Z.vm.Alike B.U.vm := hZ.alike.trans X'.warmed.alike
  have hsz : E'.slots.size = D.slots.size := by
    obtain ⟨-, -, -, kB, w1, w2, w3⟩ := q1
    obtain ⟨kB', y1, y2⟩ := al'.2.2 _ _ e3
    rw [q2.2.1] at w1
    cases w1.symm.trans y1
    rw [w3, e5 i3, y2]
  refine ⟨v, B, X', ⟨_, ⟨hv, ?_, ⟨by omega, fun y cy hy hn' => q10 y cy (by simpa using hn') hy, fun y cy hy => ?_⟩, q11, ⟨E', _, q1.1, by rw [q2.2.1]; exact e2, by rw [q2.2.1]; exact e3, by rw [q2.1]; exact obV, fun _ => by rw [hsz]; exact e5 i3⟩,
    ⟨E', cfV, kV, iV, fV, q1.1, gV, stV, by rw [q2.1]; exact knV, by rw [q2.1]; exact obV, by rw [q2.2.1]; exact asV, q3⟩, ⟨E', cfC, kC, iC, fC, q1.1, gC, stC, by rw [q2.1]; exact knV, by rw [q2.1]; exact obV, by rw [q2.2.1]; exact asC, q4⟩,
    ⟨V', ⟨q5.1, State.isArrayOf_alike al'.symm q5.2.1, q5.2.2.1⟩, q6, by rw [← al'.findClass]; exact q7, q8, fun j hj => by have := q9 j hj; rwa [Nat.zero_add] at this⟩, fun O n d w F n1 n2 => ?_⟩, hl, hc, hs⟩, st⟩
  · intro y hy
    simp only [List.mem_cons, List.not_mem_nil, or_false] at hy
    rcases hy with rfl | rfl <;> rfl
  · by_cases q : y = x
    · subst q
      cases hD.symm.trans hy
      exact ⟨E', q1.1, q2.2.1, q2.1, hsz⟩
    · exact ⟨cy, q10 y cy q hy, rfl, rfl, rfl⟩
  · obtain ⟨D3, cf, k, i, f, g1, g2, g3, g4, g5, g6, g7⟩ := F
    cases hD.symm.trans g1
    simp only [RoadKit.slotOf, g2, gV, gC, Option.map_some, Option.getD_some] at n1 n2
    exact ⟨E', cf, k, i, f, q1.1, g2, g3, by rw [q2.1]; exact g4, by rw [q2.1]; exact g5, by rw [q2.2.1]; exact g6, by rw [q2.2.2 f.slot (by simp [n1, n2])]; exact g7⟩
end StrChars.Road
namespace StrChars.Road
open Jvm Sem ClassFile Op Lib Jvm.Stand Jvm.Free Jvm.Free.XT
/-- WHAT COMES BACK, the byte[] as a list of values -/
def QA (Z : State) (x : Addr) (zn : Int32) (cs : List Int32) (h : Heap) (v : Option Value) (h' : Heap) (L : List Loc) : Prop := v = none ∧ (∀ y ∈ L, y.base = x) ∧ RoadKit.Keep h h' [x] ∧ h'.size = h.size + 1 ∧ RoadKit.Exa Z h' x ST ∧ RoadKit.Fld Z h' x ST "value" "[B" (.ref h.size) ∧ RoadKit.Fld Z h' x ST "coder" "B" (.int 0) ∧
  (∃ kb, Z.vm.findClass "[B" = some kb ∧ RoadKit.Arv Z h' h.size kb .byte zn (cs.map fun c => .int (lo8 c)) (.int 0)) ∧
  ∀ (O n d : String) (w : Value), RoadKit.Fld Z h x O n d w → RoadKit.slotOf Z O n d ≠ RoadKit.slotOf Z ST "value" "[B" → RoadKit.slotOf Z O n d ≠ RoadKit.slotOf Z ST "coder" "B" → RoadKit.Fld Z h' x O n d w
/-- **new String(chars) AT A CALL, THE ARRAYS AS LISTS**: the char[] at b holds cs, not empty, no char above 255 -/
theorem backArv {p : Program} {l : Launch} {e : Env} {R : Room} {s : State} {args : Array Value} {below : List Frame} {len W : Nat} {Z : State} {a0 : Array Value} {h : Heap} (hZ : Z.Warmed39 s.vm) (hw : ∀ d ∈ words, d.before a0 Z = true) {kI : Nat} (wi : (Jvm.Cond.instantiable ST kI).before a0 Z = true)
    {x b : Addr} {k : ClassId} {zn z : Int32} {cs : List Int32} {dv v0 c0 : Value} (E : RoadKit.Exa Z h x ST) (V : RoadKit.Fld Z h x ST "value" "[B" v0) (C : RoadKit.Fld Z h x ST "coder" "B" c0) (K : RoadKit.Arv Z h b k .char zn (cs.map Value.int) dv) (S : RoadKit.Sta Z h ST "COMPACT_STRINGS" "Z" (.int z)) (hz : ¬ z = 0)
    (hlen : zn.toNatClampNeg = cs.length) (h0 : 0 < cs.length) (hbig : cs.length ≤ 536870912) (hall : ∀ c ∈ cs, ¬ 255 < c) (hfr : 4 ≤ R.frames) (hlo : W + 65 ≤ R.locals) :
    Back l R p e below s args New1.yN len W (fun P a => a = #[.ref x, .ref b] ∧ P.U.heap = h ∧ P.cells + 1 ≤ R.cells ∧ P.slots + cs.length ≤ R.slots)
      (fun P _ v B => ∃ L, QA Z x zn cs h v B.U.heap L ∧ B.locs = P.locs ++ L ∧ B.cells = P.cells + 1 ∧ B.slots = P.slots + cs.length) := by
  obtain ⟨A, K1, K2, K3, K4, K5, K6⟩ := K
  have e : A.slots.size = cs.length := K3.trans hlen
  have hat : ∀ (i : Nat) (hi : i < cs.length), A.slots[i]? = some (.int cs[i]) := fun i hi => by rw [K5 i (by omega)]; simp [List.getD_eq_getElem?_getD, hi]
  have hcv : ∀ (i : Nat) (hi : i < cs.length), cv A i = cs[i] := fun i hi => by unfold cv; rw [hat i hi]
  have hty : Typed .char A := fun i v hv => by
    have hi : i < A.slots.size := (Array.getElem?_eq_some_iff.mp hv).1
    have q := K5 i hi
    rw [hv] at q
    rw [Option.some.inj q]
    exact K6 i hi
  refine Back.mono (back hZ hw wi E V C K1 hty S hz (by omega) (by omega) (fun i hi => by rw [hcv i (by omega)]; exact hall _ (List.getElem_mem _)) hfr hlo) (fun P a hp => ⟨hp.1, hp.2.1, hp.2.2.1, by rw [e]; exact hp.2.2.2⟩) (fun P a v B hp hq => ?_)
  obtain ⟨L, ⟨q1, q2, q3, q4, q5, q6, q7, ⟨V', v1, v2, v3, v4, v5⟩, q9⟩, hl, hc, hs⟩ := hq
  refine ⟨L, ⟨q1, q2, q3, q4, q5, q6, q7, ⟨V'.cls, v3, V', v1, rfl, by rw [v4, e, hlen], K4, fun i hi => ?_, fun i hi => ?_⟩, q9⟩, hl, hc, by rw [hs, e]⟩
  · have hi' : i < cs.length := by omega
    rw [v5 i (by omega), hcv i hi']; simp [List.getD_eq_getElem?_getD, hi']
  · have hi' : i < cs.length := by omega
    simp only [List.getD_eq_getElem?_getD, List.getElem?_map, List.getElem?_eq_getElem hi', Option.map_some, Option.getD_some]
    exact fits_lo8 _
end StrChars.Road
namespace StrChars.Road
open Jvm Sem ClassFile Op Lib Jvm.Stand Jvm.Free Jvm.Free.XT
/-- WHAT COMES BACK, in the writer's own shape -/
def QV (Z : State) (x : Addr) (N : Int32) (bs : List Int32) (h : Heap) (n0 : Nat) (v : Option Value) (h' : Heap) (L : List Loc) : Prop := v = none ∧ RoadKit.Fr n0 L ∧ RoadKit.Keep h h' [x] ∧ RoadKit.Exa Z h' x ST ∧ RoadKit.Fld Z h' x ST "coder" "B" (.int 0) ∧
  ∃ (t : Addr) (kb : ClassId), n0 ≤ t ∧ h.size ≤ t ∧ ¬ t = x ∧ RoadKit.Fld Z h' x ST "value" "[B" (.ref t) ∧ RoadKit.Arv Z h' t kb .byte N (bs.map Value.int) (.int 0)
/-- **new String(chars) AT A CALL, FOR THE WRITER**: a char[] of n known ints, each 0 to 255 -/
theorem backV {p : Program} {l : Launch} {e : Env} {R : Room} {s : State} {args : Array Value} {below : List Frame} {len W : Nat} {Z : State} {a0 : Array Value} {h : Heap} (hZ : Z.Warmed39 s.vm) (hw : ∀ d ∈ words, d.before a0 Z = true) {kI : Nat} (wi : (Jvm.Cond.instantiable ST kI).before a0 Z = true)
    {x b : Addr} {kC : ClassId} {cs bs : List Int32} {d v0 c0 : Value} {z N : Int32} {n n0 : Nat} (hx0 : n0 ≤ x) (hh0 : n0 ≤ h.size) (E : RoadKit.Exa Z h x ST) (V : RoadKit.Fld Z h x ST "value" "[B" v0) (C : RoadKit.Fld Z h x ST "coder" "B" c0) (K : RoadKit.Arv Z h b kC .char N (cs.map Value.int) d) (S : RoadKit.Sta Z h ST "COMPACT_STRINGS" "Z" (.int z)) (hz : ¬ z = 0)
    (hn : cs.length = n) (hN : N = Int32.ofNat n) (l0 : 0 < n) (l2 : n ≤ 4000) (hp : ∀ c ∈ cs, ¬ c < 0 ∧ ¬ (255 : Int32) < c) (hb : bs = cs.map (fun c => c.toInt8.toInt32)) (hfr : 4 ≤ R.frames) (hlo : W + 65 ≤ R.locals) :
    Back l R p e below s args (⟨"java/lang/String", "<init>", "([C)V"⟩ : MethodName) len W (fun P a => a = #[.ref x, .ref b] ∧ P.U.heap = h ∧ P.cells + 1 ≤ R.cells ∧ P.slots + n ≤ R.slots)
      (fun P _ v B => ∃ L, QV Z x N bs h n0 v B.U.heap L ∧ B.locs = P.locs ++ L ∧ B.cells = P.cells + 1 ∧ B.slots = P.slots + n) := by
  subst hn hN hb
  refine Back.mono (backArv hZ hw wi E V C K S hz (n32 (by omega)) l0 (by omega) (fun c hc => (hp c hc).2) hfr hlo) (fun P a hp => hp) (fun P a v B hp hq => ?_)
  obtain ⟨L, ⟨q1, q2, q3, q4, q5, q6, q7, ⟨kb, v1, v2⟩, q9⟩, hl, hc, hs⟩ := hq
  exact ⟨L, ⟨q1, fun y hy => by rw [q2 y hy]; exact hx0, q3, q5, q7, h.size, kb, hh0, Nat.le_refl _, Nat.ne_of_gt E.lt, q6, by rw [List.map_map]; exact v2⟩, hl, hc, hs⟩
end StrChars.Road
namespace StrChars
open Jvm Sem ClassFile Op Lib Jvm.Stand Jvm.Free.XT Jvm.Free.ALB Jvm.Free.JM Jvm.Free
open Jvm.Lib.Cold (StaticIs)
def hi8 (x : Int32) : Int32 := lo8 (x >>> ((8 : Int32) &&& 31))
/-- what StringUTF16.getChar makes of two bytes -/
def pairCh (u v : Int32) : Int32 := (((u &&& 255) <<< ((0 : Int32) &&& 31)) ||| ((v &&& 255) <<< ((8 : Int32) &&& 31))).toUInt32.toUInt16.toUInt32.toInt32
theorem lo8_and (x : Int32) : (lo8 x &&& 255).toBitVec.toNat = x.toBitVec.toNat % 256 := by
  have h : (lo8 x).toBitVec = (x.toBitVec.signExtend 8).signExtend 32 := by rw [lo8, Int8.toBitVec_toInt32, Int32.toBitVec_toInt8]
  rw [Int32.toBitVec_and, BitVec.toNat_and, h]
  have e : ((x.toBitVec.signExtend 8).signExtend 32).toNat % 256 = x.toBitVec.toNat % 256 := by
    rw [BitVec.toNat_signExtend]
    have hlt := x.toBitVec.isLt
    simp only [BitVec.toNat_setWidth, BitVec.toNat_signExtend]
    split <;> split <;> omega
  rw [← e]
  exact Nat.and_two_pow_sub_one_eq_mod _ 8
theorem pair_says {c : Int32} (h0 : ¬ c < 0) (h1 : ¬ 65535 < c) : pairCh (lo8 c) (hi8 c) = c := by
  rw [Int32.lt_iff_toInt_lt] at h0 h1
  have e0 : (0 : Int32).toInt = 0 := rfl
  have e1 : (65535 : Int32).toInt = 65535 := rfl
  have hc : c.toInt = c.toBitVec.toNat := by
    have := c.toBitVec.isLt
    have e : c.toInt = c.toBitVec.toInt := rfl
    rw [e] at h0 h1
    rw [e]
    rw [BitVec.toInt_eq_toNat_cond] at h0 h1 ⊢
    split at h0 <;> split <;> omega
  have hn : c.toBitVec.toNat < 65536 := by omega
  have a1 := lo8_and c
  have a2 : (hi8 c &&& 255).toBitVec.toNat = c.toBitVec.toNat / 256 := by
    rw [hi8, lo8_and]
    have e : ((8 : Int32) &&& 31) = 8 := by decide
    rw [e, Int32.toBitVec_shiftRight]
    have e2 : ((8 : Int32).toBitVec.smod 32) = 8#32 := by decide
    rw [e2, BitVec.sshiftRight_eq', BitVec.toNat_sshiftRight_of_msb_false (by rw [BitVec.msb_eq_false_iff_two_mul_lt]; omega)]
    show c.toBitVec.toNat >>> 8 % 256 = _
    rw [Nat.shiftRight_eq_div_pow]
    omega
  unfold pairCh
  apply Int32.toBitVec_inj.mp
  apply BitVec.eq_of_toNat_eq
  have f0 : ((0 : Int32) &&& 31) = 0 := by decide
  have f8 : ((8 : Int32) &&& 31) = 8 := by decide
  rw [f0, f8]
  have g : (((lo8 c &&& 255) <<< (0 : Int32)) ||| ((hi8 c &&& 255) <<< (8 : Int32))).toBitVec.toNat = c.toBitVec.toNat := by
    rw [Int32.toBitVec_or, Int32.toBitVec_shiftLeft, Int32.toBitVec_shiftLeft]
    have s0 : ((0 : Int32).toBitVec.smod 32) = 0#32 := by decide
    have s8 : ((8 : Int32).toBitVec.smod 32) = 8#32 := by decide
    rw [s0, s8, BitVec.toNat_or]
    simp only [BitVec.shiftLeft_eq', BitVec.toNat_shiftLeft, a1, a2]
    show (c.toBitVec.toNat % 256) <<< 0 % 2 ^ 32 ||| (c.toBitVec.toNat / 256) <<< 8 % 2 ^ 32 = _
    rw [Nat.shiftLeft_zero, Nat.mod_eq_of_lt (show c.toBitVec.toNat % 256 < 2 ^ 32 by omega), Nat.mod_eq_of_lt (show (c.toBitVec.toNat / 256) <<< 8 < 2 ^ 32 by rw [Nat.shiftLeft_eq]; omega), Nat.or_comm, ← Nat.shiftLeft_add_eq_or_of_lt (by omega), Nat.shiftLeft_eq]
    omega
  show BitVec.toNat (((((lo8 c &&& 255) <<< (0 : Int32)) ||| ((hi8 c &&& 255) <<< (8 : Int32))).toBitVec.setWidth 16).setWidth 32) = _
  rw [BitVec.toNat_setWidth, BitVec.toNat_setWidth, g]
  omega
end StrChars
namespace StrChars
open Jvm Sem ClassFile Op Lib Jvm.Stand Jvm.Free.XT Jvm.Free.ALB Jvm.Free.JM Jvm.Free
open Jvm.Lib.Cold (StaticIs)
/-- the array's cell V codes the n chars f 0 .. f (n - 1) by the coder cd, as the JDK does: coder 1 just where some char is above 255 -/
def Cod (cd : Int32) (n : Nat) (f : Nat → Int32) (V : Cell) : Prop := (cd = 0 ∧ V.slots.size = n ∧ ∀ j, j < n → V.slots[j]? = some (.int (lo8 (f j))) ∧ ¬ 255 < f j) ∨ (cd = 1 ∧ V.slots.size = 2 * n ∧ (∀ j, j < n → V.slots[2 * j]? = some (.int (lo8 (f j))) ∧ V.slots[2 * j + 1]? = some (.int (hi8 (f j)))) ∧ ∃ j, j < n ∧ 255 < f j)
/-- **x is a String of the n chars f 0 .. f (n - 1)**, Latin-1 or UTF-16; its array at t has the cell V -/
def Txt (x t : Addr) (V : Cell) (cd : Int32) (n : Nat) (f : Nat → Int32) (U : State) : Prop := Exact "java/lang/String" x U ∧ Has x "java/lang/String" "value" "[B" (.ref t) U ∧ Has x "java/lang/String" "coder" "B" (.int cd) U ∧ XT.Arr .byte t V U ∧ Cod cd n f V ∧ ∀ j, j < n → ¬ f j < 0 ∧ ¬ 65535 < f j
theorem Txt.mv {x t : Addr} {V : Cell} {cd : Int32} {n : Nat} {f : Nat → Int32} {U U' : State} (h : Txt x t V cd n f U) (hal : U.vm.Alike U'.vm) (hh : U'.heap = U.heap) : Txt x t V cd n f U' := ⟨h.1.mv hal hh, h.2.1.mv hal hh, h.2.2.1.mv hal hh, h.2.2.2.1.mv hal hh, h.2.2.2.2⟩
end StrChars
namespace StrChars.Road
open Jvm Sem ClassFile Op Lib Jvm.Stand Jvm.Free Jvm.Free.XT
open Jvm.Lib.Cold (StaticIs)
theorem consq {a : Array Value} {s : State} {c : Jvm.Cond} {L : List Jvm.Cond} (h0 : c.before a s = true) (h : ∀ w ∈ L, w.before a s = true) : ∀ w ∈ c :: L, w.before a s = true := fun w hw => (List.mem_cons.mp hw).elim (fun e => e ▸ h0) (h w)
/-- the bytes of the chars cs, low before high -/
def wideBytes : List Int32 → List Value
  | [] => []
  | c :: cs => .int (lo8 c) :: .int (hi8 c) :: wideBytes cs
theorem wide_lo (d : Value) : ∀ (cs : List Int32) (j : Nat), j < cs.length → (wideBytes cs).getD (2 * j) d = .int (lo8 (cs.getD j 0))
  | [], j, h => absurd h (Nat.not_lt_zero j)
  | c :: cs, 0, _ => rfl
  | c :: cs, j + 1, h => by
    have q := wide_lo d cs j (by simpa using h)
    rw [show 2 * (j + 1) = 2 * j + 1 + 1 from by omega]
    simpa [wideBytes] using q
theorem wide_hi (d : Value) : ∀ (cs : List Int32) (j : Nat), j < cs.length → (wideBytes cs).getD (2 * j + 1) d = .int (hi8 (cs.getD j 0))
  | [], j, h => absurd h (Nat.not_lt_zero j)
  | c :: cs, 0, _ => rfl
  | c :: cs, j + 1, h => by
    have q := wide_hi d cs j (by simpa using h)
    rw [show 2 * (j + 1) + 1 = 2 * j + 1 + 1 + 1 from by omega]
    simpa [wideBytes] using q
theorem low_at (d : Value) (cs : List Int32) (j : Nat) (h : j < cs.length) : (cs.map fun c => Value.int (lo8 c)).getD j d = .int (lo8 (cs.getD j 0)) := by
  simp [List.getD_eq_getElem?_getD, h]
/-- an array of N2 bytes vs codes the chars cs by the coder cd -/
def CodA (cs : List Int32) (cd N2 : Int32) (vs : List Value) : Prop := (cd = 0 ∧ N2 = Int32.ofNat cs.length ∧ vs = (cs.map fun c => Value.int (lo8 c)) ∧ ∀ c ∈ cs, ¬ 255 < c) ∨ (cd = 1 ∧ N2 = Int32.ofNat (2 * cs.length) ∧ vs = wideBytes cs ∧ ∃ c ∈ cs, 255 < c)
theorem CodA.cod {cs : List Int32} {cd N2 : Int32} {vs : List Value} {V : Cell} (h : CodA cs cd N2 vs) (hn : 2 * cs.length < 2 ^ 31) (hs : V.slots.size = N2.toNatClampNeg) (hv : RoadKit.Has V vs (.int 0)) : Cod cd cs.length (fun j => cs.getD j 0) V := by
  rcases h with ⟨rfl, rfl, rfl, h⟩ | ⟨rfl, rfl, rfl, c, hc, hw⟩
  · rw [n32 (by omega)] at hs
    exact Or.inl ⟨rfl, hs, fun j hj => ⟨by rw [hv j (by omega), low_at _ _ _ hj], by
      have e : cs.getD j 0 = cs[j] := by simp [List.getD_eq_getElem?_getD, hj]
      show ¬ 255 < cs.getD j 0
      rw [e]; exact h _ (List.getElem_mem _)⟩⟩
  · rw [n32 (by omega)] at hs
    obtain ⟨j, hj, rfl⟩ := List.getElem_of_mem hc
    exact Or.inr ⟨rfl, hs, fun j hj => ⟨by rw [hv _ (by omega), wide_lo _ _ _ hj], by rw [hv _ (by omega), wide_hi _ _ _ hj]⟩, j, hj, by
      have e : cs.getD j 0 = cs[j] := by simp [List.getD_eq_getElem?_getD, hj]
      show 255 < cs.getD j 0
      rw [e]; exact hw⟩
/-- an object of exactly java/lang/String, its two fields found: as the laws ask it -/
theorem strObj {Z U : State} {a0 : Array Value} {kI : Nat} (wi : (Jvm.Cond.instantiable ST kI).before a0 Z = true) (al : Z.vm.Alike U.vm) {x : Addr} {v0 c0 : Value} (E : RoadKit.Exa Z U.heap x ST) (V : RoadKit.Fld Z U.heap x ST "value" "[B" v0) (C : RoadKit.Fld Z U.heap x ST "coder" "B" c0) :
    ∃ (D : Cell) (fV fC : Field), Blank ST x D U ∧ Found ST "value" "[B" fV U ∧ Found ST "coder" "B" fC U ∧ D.slots[fV.slot]? = some v0 ∧ D.slots[fC.slot]? = some c0 ∧ RoadKit.slotOf Z ST "value" "[B" = fV.slot ∧ RoadKit.slotOf Z ST "coder" "B" = fC.slot := by
  obtain ⟨D, cfV, kV, iV, fV, hD, gV, stV, knV, obV, asV, slV⟩ := V
  obtain ⟨D', cfC, kC, iC, fC, hD', gC, stC, -, -, asC, slC⟩ := C
  cases hD.symm.trans hD'
  obtain ⟨D2, kD, e1, e2, e3, e4, e5⟩ := E
  cases hD.symm.trans e1
  obtain ⟨c2, k2, i1, i2, i3, -⟩ := Cond.instantiable_spec wi
  cases e2.symm.trans i1
  cases e3.symm.trans i2
  obtain ⟨kU, u1, u2⟩ := al.2.2 _ _ e3
  exact ⟨D, fV, fC, ⟨hD, ⟨knV, fun q hq => by rw [hq] at obV; cases obV⟩, by rw [al.findClass]; exact e2, kU, u1, by rw [u2]; exact i3, by rw [u2]; exact e5 i3⟩, ⟨SBG.found_only al ⟨cfV, kV, iV, gV⟩, stV⟩, ⟨SBG.found_only al ⟨cfC, kC, iC, gC⟩, stC⟩, slV, slC, by simp [RoadKit.slotOf, gV], by simp [RoadKit.slotOf, gC]⟩
theorem sta_is {Z U : State} (al : Z.vm.Alike U.vm) {C n d : String} {v : Value} (S : RoadKit.Sta Z U.heap C n d v) : StaticIs U C n d v := by
  obtain ⟨cfS, iS, kS, fS, st, cS, t1, t2, t3, t4, t5, t6, t7⟩ := S
  exact StaticIs.there (s := { Z with heap := U.heap }) ⟨cfS, iS, kS, fS, st, cS, t1, t2, t3, t4, t5, (fun q => by rw [q] at t6; cases t6), t7⟩ al rfl
end StrChars.Road
namespace StrChars
open Jvm Sem ClassFile Op Lib Jvm.Stand Jvm.Free.XT Jvm.Free.ALB Jvm.Free.JM Jvm.Free
open Jvm.Lib.Cold (StaticIs)
/-- what place i of a byte[]'s cell holds -/
def yv (A : Cell) (i : Nat) : Int32 := match A.slots[i]? with | some (.int x) => x | _ => 0
theorem yv_get {a : Addr} {A : Cell} {U : State} (h : XT.Arr .byte a A U) (ht : Typed .byte A) {i : Nat} (hi : i < A.slots.size) : A.slots[i]? = some (.int (yv A i)) := by
  have e := Array.getElem?_eq_getElem hi
  have f := ht i _ e
  unfold yv; rw [e]
  generalize A.slots[i] = v at f
  cases v <;> simp [fits] at f ⊢
/-- the two arrays are equal, place for place -/
def EqC (A B : Cell) : Prop := A.slots.size = B.slots.size ∧ ∀ i, i < A.slots.size → yv A i = yv B i
/-- a boolean that says whether p -/
def Says01 (q : Prop) (r : Option Value) (s u : State) : Prop := ∃ v : Int32, r = some (.int v) ∧ u.heap = s.heap ∧ ((v = 1 ∧ q) ∨ (v = 0 ∧ ¬ q))
theorem Says01.mv {q : Prop} : ∀ r (U U' V V' : State), U'.heap = U.heap → V.vm.Alike V'.vm → V'.heap = V.heap → Says01 q r U V → Says01 q r U' V' :=
  fun r U U' V V' h1 _ h2 ⟨v, a, b, c⟩ => ⟨v, a, by rw [h1, h2]; exact b, c⟩
namespace LEq
def yN : MethodName := ⟨"java/lang/StringLatin1", "equals", "([B[B)Z"⟩
abbrev yB : ByteArray := jdk_43_method_13_code
theorem d0 : decode yB 0 = .ok (.aload_n 0, 1) := by decide +kernel
theorem d1 : decode yB 1 = .ok (.arraylength, 1) := by decide +kernel
theorem d2 : decode yB 2 = .ok (.aload_n 1, 1) := by decide +kernel
theorem d3 : decode yB 3 = .ok (.arraylength, 1) := by decide +kernel
theorem d4 : decode yB 4 = .ok (.if_icmp (.ne) 30, 3) := by decide +kernel
theorem d7 : decode yB 7 = .ok (.iconst 0, 1) := by decide +kernel
theorem d8 : decode yB 8 = .ok (.istore_n 2, 1) := by decide +kernel
theorem d9 : decode yB 9 = .ok (.iload_n 2, 1) := by decide +kernel
theorem d10 : decode yB 10 = .ok (.aload_n 0, 1) := by decide +kernel
theorem d11 : decode yB 11 = .ok (.arraylength, 1) := by decide +kernel
theorem d12 : decode yB 12 = .ok (.if_icmp (.ge) 20, 3) := by decide +kernel
theorem d15 : decode yB 15 = .ok (.aload_n 0, 1) := by decide +kernel
theorem d16 : decode yB 16 = .ok (.iload_n 2, 1) := by decide +kernel
theorem d17 : decode yB 17 = .ok (.baload, 1) := by decide +kernel
theorem d18 : decode yB 18 = .ok (.aload_n 1, 1) := by decide +kernel
theorem d19 : decode yB 19 = .ok (.iload_n 2, 1) := by decide +kernel
theorem d20 : decode yB 20 = .ok (.baload, 1) := by decide +kernel
theorem d21 : decode yB 21 = .ok (.if_icmp (.eq) 5, 3) := by decide +kernel
theorem d24 : decode yB 24 = .ok (.iconst 0, 1) := by decide +kernel
theorem d25 : decode yB 25 = .ok (.ireturn, 1) := by decide +kernel
theorem d26 : decode yB 26 = .ok (.iinc 2 1, 3) := by decide +kernel
theorem d29 : decode yB 29 = .ok (.goto (-20), 3) := by decide +kernel
theorem d32 : decode yB 32 = .ok (.iconst 1, 1) := by decide +kernel
theorem d33 : decode yB 33 = .ok (.ireturn, 1) := by decide +kernel
theorem d34 : decode yB 34 = .ok (.iconst 0, 1) := by decide +kernel
theorem d35 : decode yB 35 = .ok (.ireturn, 1) := by decide +kernel
def site : List Cond := []
def tab : Cond := tabOf yN yB 3 (some .boolean) site
def P (a : Addr) (A : Cell) (b : Addr) (B : Cell) (args : Array Value) (s : State) : Prop := args = #[.ref a, .ref b] ∧ XT.Arr .byte a A s ∧ Typed .byte A ∧ XT.Arr .byte b B s ∧ Typed .byte B
/-- whether two byte[] are equal, place for place -/
theorem law (l : Launch) (a : Addr) (A : Cell) (b : Addr) (B : Cell) : Law l yN 2 2 0 0 yB 3 (some .boolean) site (P a A b B) (Says01 (EqC A B)) [] 0 0 := by
  refine Law.of_walk (plainFor_of_name (by decide +kernel)) (by decide +kernel) (by decide +kernel) (by decide) (fun _ _ h => by rw [h.1]; rfl) (fun _ U U' hal hh h => ⟨h.1, h.2.1.mv hal hh, h.2.2.1, h.2.2.2.1.mv hal hh, h.2.2.2.2⟩) (fun r U U' V V' h1 hal h2 h => Says01.mv r U U' V V' h1 hal h2 h) ?_
  intro p e s m args below meth c s₁ X0 hexec hbytes hml hret hlk hnm hown hh0 W hP
  obtain ⟨rfl, hA, tA, hB, tB⟩ := hP
  have a31 := hA.2.2.2
  have b31 := hB.2.2.2
  have hA0 := hA.mv X0.warmed.alike hh0
  have hB0 := hB.mv X0.warmed.alike hh0
  have c1 : Steps p.tables e below (s₁.setTop (entryFrame m #[.ref a, .ref b] 3)) (s₁.setTop (mkF m 0 #[.val (.ref a), .val (.ref b), .unset] [])) := entry rfl
  have c2 : Steps p.tables e below (s₁.setTop (entryFrame m #[.ref a, .ref b] 3)) (s₁.setTop (mkF m 4 #[.val (.ref a), .val (.ref b), .unset] [.int (Int32.ofNat B.slots.size), .int (Int32.ofNat A.slots.size)])) := c1.trans (by
    refine XS.aloadN X0.here hexec rfl (hb hbytes d0) rfl rfl ?_
    refine X0.alen hexec hA0 rfl rfl (hb hbytes d1) ?_
    refine XS.aloadN X0.here hexec rfl (hb hbytes d2) rfl rfl ?_
    refine X0.alen hexec hB0 rfl rfl (hb hbytes d3) ?_
    exact Steps.refl _)
  by_cases hs : A.slots.size = B.slots.size
  · have c3 : Steps p.tables e below (s₁.setTop (entryFrame m #[.ref a, .ref b] 3)) (s₁.setTop (mkF m 9 #[.val (.ref a), .val (.ref b), .val (.int 0)] [])) := c2.trans (by
      refine XS.icmpNo X0.here hexec rfl (hb hbytes d4) rfl (ii_ne_f (by rw [hs])) ?_
      refine iconstV X0.here hexec rfl 0 (hb hbytes d7) (by decide) ?_
      refine XS.istoreN X0.here hexec rfl (hb hbytes d8) rfl rfl ?_
      exact Steps.refl _)
    have loop : ∀ (r i : Nat), i + r = A.slots.size → (∀ j, j < i → yv A j = yv B j) → Steps p.tables e below (s₁.setTop (entryFrame m #[.ref a, .ref b] 3)) (s₁.setTop (mkF m 9 #[.val (.ref a), .val (.ref b), .val (.int (Int32.ofNat i))] [])) → ∃ (pc : Nat) (Ls : Array Slot) (v : Int32), (pc = 25 ∨ pc = 33) ∧ ((v = 1 ∧ EqC A B) ∨ (v = 0 ∧ ¬ EqC A B)) ∧ Steps p.tables e below (s₁.setTop (entryFrame m #[.ref a, .ref b] 3)) (s₁.setTop (mkF m pc Ls [.int v])) := by
      intro r
      induction r with
      | zero =>
        intro i hi he cl
        exact ⟨33, _, 1, Or.inr rfl, Or.inl ⟨rfl, hs, fun j hj => he j (by omega)⟩, cl.trans (by
          refine XS.iloadN X0.here hexec rfl (hb hbytes d9) rfl ?_
          refine XS.aloadN X0.here hexec rfl (hb hbytes d10) rfl rfl ?_
          refine X0.alen hexec hA0 rfl rfl (hb hbytes d11) ?_
          refine XS.icmpYes X0.here hexec rfl (pc0 := 12) rfl (hb hbytes d12) rfl (ii_ge_t (nlt32 (by omega) (by omega))) (by decide) rfl ?_
          refine iconstV X0.here hexec rfl 1 (hb hbytes d32) (by decide) ?_
          exact Steps.refl _)⟩
      | succ r ih =>
        intro i hi he cl
        have c4 : Steps p.tables e below (s₁.setTop (entryFrame m #[.ref a, .ref b] 3)) (s₁.setTop (mkF m 21 #[.val (.ref a), .val (.ref b), .val (.int (Int32.ofNat i))] [.int (yv B i), .int (yv A i)])) := cl.trans (by
          refine XS.iloadN X0.here hexec rfl (hb hbytes d9) rfl ?_
          refine XS.aloadN X0.here hexec rfl (hb hbytes d10) rfl rfl ?_
          refine X0.alen hexec hA0 rfl rfl (hb hbytes d11) ?_
          refine XS.icmpNo X0.here hexec rfl (hb hbytes d12) rfl (ii_ge_f (lt32 (by omega) (by omega))) ?_
          refine XS.aloadN X0.here hexec rfl (hb hbytes d15) rfl rfl ?_
          refine XS.iloadN X0.here hexec rfl (hb hbytes d16) rfl ?_
          refine X0.aget hexec hA0 rfl (yv_get hA tA (i := i) (by omega)) rfl rfl (hb hbytes d17) ?_
          refine XS.aloadN X0.here hexec rfl (hb hbytes d18) rfl rfl ?_
          refine XS.iloadN X0.here hexec rfl (hb hbytes d19) rfl ?_
          refine X0.aget hexec hB0 rfl (yv_get hB tB (i := i) (by omega)) rfl rfl (hb hbytes d20) ?_
          exact Steps.refl _)
        by_cases hv : yv A i = yv B i
        · have c5 : Steps p.tables e below (s₁.setTop (entryFrame m #[.ref a, .ref b] 3)) (s₁.setTop (mkF m 9 #[.val (.ref a), .val (.ref b), .val (.int (Int32.ofNat i + 1))] [])) := c4.trans (by
            refine XS.icmpYes X0.here hexec rfl (pc0 := 21) rfl (hb hbytes d21) rfl (ii_eq_t hv) (by decide) rfl ?_
            refine iincV X0.here hexec rfl 1 (hb hbytes d26) (by decide) rfl rfl ?_
            refine XS.goto X0.here hexec rfl (pc0 := 29) rfl (hb hbytes d29) (by decide) rfl ?_
            exact Steps.refl _)
          rw [succ32] at c5
          exact ih (i + 1) (by omega) (fun j hj => by
            by_cases e : j = i
            · rw [e]; exact hv
            · exact he j (by omega)) c5
        · exact ⟨25, _, 0, Or.inl rfl, Or.inr ⟨rfl, fun q => hv (q.2 i (by omega))⟩, c4.trans (by
            refine XS.icmpNo X0.here hexec rfl (hb hbytes d21) rfl (ii_eq_f hv) ?_
            refine iconstV X0.here hexec rfl 0 (hb hbytes d24) (by decide) ?_
            exact Steps.refl _)⟩
    obtain ⟨pc, Ls, v, hpc, hv, cz⟩ := loop A.slots.size 0 (by omega) (fun j hj => absurd hj (Nat.not_lt_zero j)) c3
    have nv : narrow .boolean (.int v) = .int v := by rcases hv with ⟨rfl, -⟩ | ⟨rfl, -⟩ <;> rfl
    rcases hpc with rfl | rfl
    · exact ⟨s₁, some (.int v), _, _, _, X0, rfl, rfl, rfl, (fun h => by cases h), ⟨v, rfl, hh0, hv⟩, fun fs hl => cz.trans (X0.ireturnOut hexec hret nv (Or.inr (Or.inl rfl)) (hb hbytes d25) hl)⟩
    · exact ⟨s₁, some (.int v), _, _, _, X0, rfl, rfl, rfl, (fun h => by cases h), ⟨v, rfl, hh0, hv⟩, fun fs hl => cz.trans (X0.ireturnOut hexec hret nv (Or.inr (Or.inl rfl)) (hb hbytes d33) hl)⟩
  · have c3 : Steps p.tables e below (s₁.setTop (entryFrame m #[.ref a, .ref b] 3)) (s₁.setTop (mkF m 35 #[.val (.ref a), .val (.ref b), .unset] [.int 0])) := c2.trans (by
      refine XS.icmpYes X0.here hexec rfl (pc0 := 4) rfl (hb hbytes d4) rfl (ii_ne_t (ne32 a31 b31 hs)) (by decide) rfl ?_
      refine iconstV X0.here hexec rfl 0 (hb hbytes d34) (by decide) ?_
      exact Steps.refl _)
    exact ⟨s₁, some (.int 0), _, _, _, X0, rfl, rfl, rfl, (fun h => by cases h), ⟨0, rfl, hh0, Or.inr ⟨rfl, fun q => hs q.1⟩⟩, fun fs hl => c3.trans (X0.ireturnOut hexec hret rfl (Or.inr (Or.inl rfl)) (hb hbytes d35) hl)⟩
end LEq
theorem Cod.ty {cd : Int32} {n : Nat} {f : Nat → Int32} {V : Cell} (h : Cod cd n f V) : Typed .byte V := fun i v hv => by
  have hi : i < V.slots.size := (Array.getElem?_eq_some_iff.mp hv).1
  rcases h with ⟨-, k1, k2⟩ | ⟨-, k1, k2, -⟩
  · rw [(k2 i (by omega)).1] at hv; cases hv; exact fits_lo8 _
  · rcases Nat.mod_two_eq_zero_or_one i with e | e
    · obtain ⟨j, rfl⟩ : ∃ j, i = 2 * j := ⟨i / 2, by omega⟩
      rw [(k2 j (by omega)).1] at hv; cases hv; exact fits_lo8 _
    · obtain ⟨j, rfl⟩ : ∃ j, i = 2 * j + 1 := ⟨i / 2, by omega⟩
      rw [(k2 j (by omega)).2] at hv; cases hv; exact fits_lo8 _
/-- the same text -/
def SameT (n : Nat) (f : Nat → Int32) (k : Nat) (g : Nat → Int32) : Prop := n = k ∧ ∀ j, j < n → f j = g j
theorem lo8_inj {x y : Int32} (h0 : ¬ x < 0) (h1 : ¬ 255 < x) (k0 : ¬ y < 0) (k1 : ¬ 255 < y) (h : lo8 x = lo8 y) : x = y := by
  rw [← lo8_mask h0 h1, ← lo8_mask k0 k1, h]
/-- arrays coded by one coder are equal just where the texts are -/
theorem Cod.eqv {cd : Int32} {n k : Nat} {f g : Nat → Int32} {V V' : Cell} (h : Cod cd n f V) (h' : Cod cd k g V') (hf : ∀ j, j < n → ¬ f j < 0 ∧ ¬ 65535 < f j) (hg : ∀ j, j < k → ¬ g j < 0 ∧ ¬ 65535 < g j) : EqC V V' ↔ SameT n f k g := by
  have yvv : ∀ {W : Cell} {i : Nat} {x : Int32}, W.slots[i]? = some (.int x) → yv W i = x := fun q => by unfold yv; rw [q]
  rcases h with ⟨rfl, k1, k2⟩ | ⟨rfl, k1, k2, -⟩
  · rcases h' with ⟨-, m1, m2⟩ | ⟨e, -⟩
    · constructor
      · rintro ⟨e1, e2⟩
        refine ⟨by omega, fun j hj => ?_⟩
        have q := e2 j (by omega)
        rw [yvv (k2 j hj).1, yvv (m2 j (by omega)).1] at q
        exact lo8_inj (hf j hj).1 (k2 j hj).2 (hg j (by omega)).1 (m2 j (by omega)).2 q
      · rintro ⟨rfl, e2⟩
        refine ⟨by omega, fun j hj => ?_⟩
        rw [yvv (k2 j (by omega)).1, yvv (m2 j (by omega)).1, e2 j (by omega)]
    · exact absurd e (by decide)
  · rcases h' with ⟨e, -⟩ | ⟨-, m1, m2, -⟩
    · exact absurd e (by decide)
    · constructor
      · rintro ⟨e1, e2⟩
        refine ⟨by omega, fun j hj => ?_⟩
        have q1 := e2 (2 * j) (by omega)
        have q2 := e2 (2 * j + 1) (by omega)
        rw [yvv (k2 j hj).1, yvv (m2 j (by omega)).1] at q1
        rw [yvv (k2 j hj).2, yvv (m2 j (by omega)).2] at q2
        rw [← pair_says (hf j hj).1 (hf j hj).2, ← pair_says (hg j (by omega)).1 (hg j (by omega)).2, q1, q2]
      · rintro ⟨rfl, e2⟩
        refine ⟨by omega, fun i hi => ?_⟩
        rcases Nat.mod_two_eq_zero_or_one i with e | e
        · obtain ⟨j, rfl⟩ : ∃ j, i = 2 * j := ⟨i / 2, by omega⟩
          rw [yvv (k2 j (by omega)).1, yvv (m2 j (by omega)).1, e2 j (by omega)]
        · obtain ⟨j, rfl⟩ : ∃ j, i = 2 * j + 1 := ⟨i / 2, by omega⟩
          rw [yvv (k2 j (by omega)).2, yvv (m2 j (by omega)).2, e2 j (by omega)]
/-- two codings differ: so do the texts -/
theorem Cod.dif {cd cd' : Int32} {n k : Nat} {f g : Nat → Int32} {V V' : Cell} (h : Cod cd n f V) (h' : Cod cd' k g V') (hne : ¬ cd = cd') : ¬ SameT n f k g := by
  rintro ⟨rfl, e⟩
  rcases h with ⟨rfl, -, k2⟩ | ⟨rfl, -, -, j, hj, hw⟩
  · rcases h' with ⟨rfl, -⟩ | ⟨-, -, -, j, hj, hw⟩
    · exact hne rfl
    · exact (k2 j hj).2 (by rw [e j hj]; exact hw)
  · rcases h' with ⟨-, -, m2⟩ | ⟨rfl, -⟩
    · exact (m2 j hj).2 (by rw [← e j hj]; exact hw)
    · exact hne rfl
/-- an object of exactly C is an instance of C -/
theorem cinst {p : Program} {l : Launch} {e : Env} {R : Room} {s : State} {m : MethodId} {args : Array Value} {below : List Frame} {meth : Method} {c : Code} {T : State} {locs : List Loc} {cells slots : Nat} (X : Stand p l e R s m args below meth c T locs cells slots) (hexec : p.tables.exec = Jvm.exec) {own C : String} {index : Nat} (hown : s.vm.findClass own = some m.cls) (hlink : (Cond.classLink own index C).before args s = true) {a : Addr} (hE : Exact C a T)
    {g : JFrame} (hg : g.method = m) {rest : List Value} (hstack : g.stack = .ref a :: rest) (hdg : decode c.code g.pc = .ok (.instanceof index, 3)) :
    ∃ T', Stand p l e R s m args below meth c T' locs cells slots ∧ T'.heap = T.heap ∧ ∀ target, Steps p.tables e below (T'.setTop { g with pc := g.pc + 3, stack := .int 1 :: rest }) target → Steps p.tables e below (T.setTop g) target := by
  obtain ⟨cB, h1, D, h2, h3, h4⟩ := hE
  have h1' : s.vm.findClass C = some cB := by rw [← X.warmed.alike.findClass]; exact h1
  obtain ⟨vm', X', st⟩ := X.instanceofYes hexec hown hlink h2 h4 h1' (by rw [h3]; exact Jvm.Free.SB.assignable_self _ _) hg hstack hdg
  exact ⟨_, X', rfl, st⟩
theorem cself {p : Program} {l : Launch} {e : Env} {R : Room} {s : State} {m : MethodId} {args : Array Value} {below : List Frame} {meth : Method} {c : Code} {T : State} {locs : List Loc} {cells slots : Nat} (X : Stand p l e R s m args below meth c T locs cells slots) (hexec : p.tables.exec = Jvm.exec) {own C : String} {index : Nat} (hown : s.vm.findClass own = some m.cls) (hlink : (Cond.classLink own index C).before args s = true) {a : Addr} (hE : Exact C a T)
    {g : JFrame} (hg : g.method = m) {rest : List Value} (hstack : g.stack = .ref a :: rest) (hdg : decode c.code g.pc = .ok (.checkcast index, 3)) :
    ∃ T', Stand p l e R s m args below meth c T' locs cells slots ∧ T'.heap = T.heap ∧ ∀ target, Steps p.tables e below (T'.setTop { g with pc := g.pc + 3, stack := .ref a :: rest }) target → Steps p.tables e below (T.setTop g) target := by
  obtain ⟨cB, h1, D, h2, h3, h4⟩ := hE
  have h1' : s.vm.findClass C = some cB := by rw [← X.warmed.alike.findClass]; exact h1
  obtain ⟨vm', X', st⟩ := X.checkcastYes hexec hown hlink h2 h4 h1' (by rw [h3]; exact Jvm.Free.SB.assignable_self _ _) hg hstack hdg
  exact ⟨_, X', rfl, fun t h => st t (by rw [← hstack] at h; exact h)⟩
namespace SEq
def yN : MethodName := ⟨"java/lang/String", "equals", "(Ljava/lang/Object;)Z"⟩
abbrev yB : ByteArray := jdk_42_method_66_code
theorem d0 : decode yB 0 = .ok (.aload_n 0, 1) := by decide +kernel
theorem d1 : decode yB 1 = .ok (.aload_n 1, 1) := by decide +kernel
theorem d2 : decode yB 2 = .ok (.if_acmp (.ne) 5, 3) := by decide +kernel
theorem d5 : decode yB 5 = .ok (.iconst 1, 1) := by decide +kernel
theorem d6 : decode yB 6 = .ok (.ireturn, 1) := by decide +kernel
theorem d7 : decode yB 7 = .ok (.aload_n 1, 1) := by decide +kernel
theorem d8 : decode yB 8 = .ok (.instanceof 10, 3) := by decide +kernel
theorem d11 : decode yB 11 = .ok (.ifCond (.eq) 43, 3) := by decide +kernel
theorem d14 : decode yB 14 = .ok (.aload_n 1, 1) := by decide +kernel
theorem d15 : decode yB 15 = .ok (.checkcast 10, 3) := by decide +kernel
theorem d18 : decode yB 18 = .ok (.astore_n 2, 1) := by decide +kernel
theorem d19 : decode yB 19 = .ok (.getstatic 38, 3) := by decide +kernel
theorem d22 : decode yB 22 = .ok (.ifCond (.eq) 14, 3) := by decide +kernel
theorem d25 : decode yB 25 = .ok (.aload_n 0, 1) := by decide +kernel
theorem d26 : decode yB 26 = .ok (.getfield 15, 3) := by decide +kernel
theorem d29 : decode yB 29 = .ok (.aload_n 2, 1) := by decide +kernel
theorem d30 : decode yB 30 = .ok (.getfield 15, 3) := by decide +kernel
theorem d33 : decode yB 33 = .ok (.if_icmp (.ne) 21, 3) := by decide +kernel
theorem d36 : decode yB 36 = .ok (.aload_n 0, 1) := by decide +kernel
theorem d37 : decode yB 37 = .ok (.getfield 9, 3) := by decide +kernel
theorem d40 : decode yB 40 = .ok (.aload_n 2, 1) := by decide +kernel
theorem d41 : decode yB 41 = .ok (.getfield 9, 3) := by decide +kernel
theorem d44 : decode yB 44 = .ok (.invokestatic 541, 3) := by decide +kernel
theorem d47 : decode yB 47 = .ok (.ifCond (.eq) 7, 3) := by decide +kernel
theorem d50 : decode yB 50 = .ok (.iconst 1, 1) := by decide +kernel
theorem d51 : decode yB 51 = .ok (.goto 4, 3) := by decide +kernel
theorem d54 : decode yB 54 = .ok (.iconst 0, 1) := by decide +kernel
theorem d55 : decode yB 55 = .ok (.ireturn, 1) := by decide +kernel
def site : List Cond := [.classLink "java/lang/String" 10 "java/lang/String", .fieldLink "java/lang/String" 38 "java/lang/String" "COMPACT_STRINGS" "Z", .fieldLink "java/lang/String" 15 "java/lang/String" "coder" "B", .fieldLink "java/lang/String" 9 "java/lang/String" "value" "[B", LEq.tab] ++ staticW "java/lang/String" 541 LEq.yN
def tab : Cond := tabOf yN yB 3 (some .boolean) site
def P (x t : Addr) (V : Cell) (cd : Int32) (n : Nat) (f : Nat → Int32) (y t' : Addr) (V' : Cell) (cd' : Int32) (k : Nat) (g : Nat → Int32) (z : Int32) (args : Array Value) (s : State) : Prop := args = #[.ref x, .ref y] ∧ Txt x t V cd n f s ∧ Txt y t' V' cd' k g s ∧ StaticIs s "java/lang/String" "COMPACT_STRINGS" "Z" (.int z) ∧ ¬ z = 0
/-- equals(Object) of two Strings: whether the texts are the same -/
theorem law (l : Launch) (x t : Addr) (V : Cell) (cd : Int32) (n : Nat) (f : Nat → Int32) (y t' : Addr) (V' : Cell) (cd' : Int32) (k : Nat) (g : Nat → Int32) (z : Int32) : Law l yN 2 1 1 14 yB 3 (some .boolean) site (P x t V cd n f y t' V' cd' k g z) (Says01 (SameT n f k g)) [] 0 0 := by
  refine Law.of_walk (plainFor_of_name (by decide +kernel)) (by decide +kernel) (by decide +kernel) (by decide) (fun _ _ h => by rw [h.1]; rfl) (fun _ U U' hal hh h => ⟨h.1, h.2.1.mv hal hh, h.2.2.1.mv hal hh, h.2.2.2.1.there hal hh, h.2.2.2.2⟩) (fun r U U' V V' h1 hal h2 h => Says01.mv r U U' V V' h1 hal h2 h) ?_
  intro p e s m args below meth c s₁ X0 hexec hbytes hml hret hlk hnm hown hh0 W hP
  obtain ⟨rfl, hx, hy, s1, hz⟩ := hP
  have c1 : Steps p.tables e below (s₁.setTop (entryFrame m #[.ref x, .ref y] 3)) (s₁.setTop (mkF m 2 #[.val (.ref x), .val (.ref y), .unset] [.ref y, .ref x])) := Steps.trans (entry rfl) (by
    show Steps p.tables e below (s₁.setTop (mkF m 0 #[.val (.ref x), .val (.ref y), .unset] [])) _
    refine XS.aloadN X0.here hexec rfl (hb hbytes d0) rfl rfl ?_
    refine XS.aloadN X0.here hexec rfl (hb hbytes d1) rfl rfl ?_
    exact Steps.refl _)
  by_cases hxy : x = y
  · have c2 : Steps p.tables e below (s₁.setTop (entryFrame m #[.ref x, .ref y] 3)) (s₁.setTop (mkF m 6 #[.val (.ref x), .val (.ref y), .unset] [.int 1])) := c1.trans (by
      refine acmpNo X0.here hexec rfl (hb hbytes d2) rfl rfl rfl (by simp [acmp, hxy]) ?_
      refine iconstV X0.here hexec rfl 1 (hb hbytes d5) (by decide) ?_
      exact Steps.refl _)
    subst hxy
    have ec : cd = cd' := by
      obtain ⟨D, fd, a1, a2, a3⟩ := hx.2.2.1
      obtain ⟨D', fd', b1, b2, b3⟩ := hy.2.2.1
      cases a1.symm.trans b1
      obtain ⟨q1, q2, q3, q4⟩ := a2.1
      obtain ⟨r1, r2, r3, r4⟩ := b2.1
      cases q4.symm.trans r4
      cases a3.symm.trans b3; rfl
    have et : t = t' := by
      obtain ⟨D, fd, a1, a2, a3⟩ := hx.2.1
      obtain ⟨D', fd', b1, b2, b3⟩ := hy.2.1
      cases a1.symm.trans b1
      obtain ⟨q1, q2, q3, q4⟩ := a2.1
      obtain ⟨r1, r2, r3, r4⟩ := b2.1
      cases q4.symm.trans r4
      cases a3.symm.trans b3; rfl
    subst ec et
    have ev : V = V' := by cases hx.2.2.2.1.1.symm.trans hy.2.2.2.1.1; rfl
    subst ev
    have hs : SameT n f k g := (Cod.eqv hx.2.2.2.2.1 hy.2.2.2.2.1 hx.2.2.2.2.2 hy.2.2.2.2.2).mp ⟨rfl, fun _ _ => rfl⟩
    exact ⟨s₁, some (.int 1), _, _, _, X0, rfl, rfl, rfl, (fun h => by cases h), ⟨1, rfl, hh0, Or.inl ⟨rfl, hs⟩⟩, fun fs hl => c2.trans (X0.ireturnOut hexec hret rfl (Or.inr (Or.inl rfl)) (hb hbytes d6) hl)⟩
  · have c2 : Steps p.tables e below (s₁.setTop (entryFrame m #[.ref x, .ref y] 3)) (s₁.setTop (mkF m 8 #[.val (.ref x), .val (.ref y), .unset] [.ref y])) := c1.trans (by
      refine acmpYes X0.here hexec rfl (pc0 := 2) rfl (hb hbytes d2) rfl rfl rfl (by simp [acmp, hxy]) (by decide) rfl ?_
      refine XS.aloadN X0.here hexec rfl (hb hbytes d7) rfl rfl ?_
      exact Steps.refl _)
    obtain ⟨T3, X3, q3, st3⟩ := cinst X0 hexec hown (wk W (.classLink "java/lang/String" 10 "java/lang/String")) (hy.mv X0.warmed.alike hh0).1 (g := (mkF m 8 #[.val (.ref x), .val (.ref y), .unset] [.ref y])) rfl (rest := []) rfl (hb hbytes d8)
    have hh3 := q3.trans hh0
    have c4 : Steps p.tables e below (s₁.setTop (entryFrame m #[.ref x, .ref y] 3)) (T3.setTop (mkF m 15 #[.val (.ref x), .val (.ref y), .unset] [.ref y])) := (c2.trans (st3 _ (Steps.refl _))).trans (by
      refine XS.ifNo X3.here hexec rfl (hb hbytes d11) rfl (i0_eq_f (by decide)) ?_
      refine XS.aloadN X3.here hexec rfl (hb hbytes d14) rfl rfl ?_
      exact Steps.refl _)
    obtain ⟨T5, X5, q5, st5⟩ := cself X3 hexec hown (wk W (.classLink "java/lang/String" 10 "java/lang/String")) (hy.mv X3.warmed.alike hh3).1 (g := (mkF m 15 #[.val (.ref x), .val (.ref y), .unset] [.ref y])) rfl (rest := []) rfl (hb hbytes d15)
    have hh5 := q5.trans hh3
    have c6 : Steps p.tables e below (s₁.setTop (entryFrame m #[.ref x, .ref y] 3)) (T5.setTop (mkF m 19 #[.val (.ref x), .val (.ref y), .val (.ref y)] [])) := (c4.trans (st5 _ (Steps.refl _))).trans (by
      refine XS.astoreN X5.here hexec rfl (hb hbytes d18) rfl rfl rfl ?_
      exact Steps.refl _)
    obtain ⟨T7, X7, q7, st7⟩ := X5.sget hexec hown (wk W (.fieldLink "java/lang/String" 38 "java/lang/String" "COMPACT_STRINGS" "Z")) s1 (fun _ _ h => by rw [hh5]; exact h) (g := (mkF m 19 #[.val (.ref x), .val (.ref y), .val (.ref y)] [])) rfl (hb hbytes d19)
    have hh7 := q7.trans hh5
    have c8 : Steps p.tables e below (s₁.setTop (entryFrame m #[.ref x, .ref y] 3)) (T7.setTop (mkF m 26 #[.val (.ref x), .val (.ref y), .val (.ref y)] [.ref x])) := (c6.trans (st7 _ (Steps.refl _))).trans (by
      refine XS.ifNo X7.here hexec rfl (hb hbytes d22) rfl (i0_eq_f hz) ?_
      refine XS.aloadN X7.here hexec rfl (hb hbytes d25) rfl rfl ?_
      exact Steps.refl _)
    obtain ⟨T9, X9, q9, st9⟩ := X7.hget hexec hown (wk W (.fieldLink "java/lang/String" 15 "java/lang/String" "coder" "B")) (hx.mv X7.warmed.alike hh7).2.2.1 (g := (mkF m 26 #[.val (.ref x), .val (.ref y), .val (.ref y)] [.ref x])) rfl (rest := []) rfl (hb hbytes d26)
    have hh9 := q9.trans hh7
    have c10 : Steps p.tables e below (s₁.setTop (entryFrame m #[.ref x, .ref y] 3)) (T9.setTop (mkF m 30 #[.val (.ref x), .val (.ref y), .val (.ref y)] [.ref y, .int cd])) := (c8.trans (st9 _ (Steps.refl _))).trans (by
      refine XS.aloadN X9.here hexec rfl (hb hbytes d29) rfl rfl ?_
      exact Steps.refl _)
    obtain ⟨T11, X11, q11, st11⟩ := X9.hget hexec hown (wk W (.fieldLink "java/lang/String" 15 "java/lang/String" "coder" "B")) (hy.mv X9.warmed.alike hh9).2.2.1 (g := (mkF m 30 #[.val (.ref x), .val (.ref y), .val (.ref y)] [.ref y, .int cd])) rfl (rest := [.int cd]) rfl (hb hbytes d30)
    have hh11 := q11.trans hh9
    have c12 : Steps p.tables e below (s₁.setTop (entryFrame m #[.ref x, .ref y] 3)) (T11.setTop (mkF m 33 #[.val (.ref x), .val (.ref y), .val (.ref y)] [.int cd', .int cd])) := c10.trans (st11 _ (Steps.refl _))
    by_cases hcd : cd = cd'
    · subst hcd
      have c13 : Steps p.tables e below (s₁.setTop (entryFrame m #[.ref x, .ref y] 3)) (T11.setTop (mkF m 37 #[.val (.ref x), .val (.ref y), .val (.ref y)] [.ref x])) := c12.trans (by
        refine XS.icmpNo X11.here hexec rfl (hb hbytes d33) rfl (ii_ne_f rfl) ?_
        refine XS.aloadN X11.here hexec rfl (hb hbytes d36) rfl rfl ?_
        exact Steps.refl _)
      obtain ⟨T14, X14, q14, st14⟩ := X11.hget hexec hown (wk W (.fieldLink "java/lang/String" 9 "java/lang/String" "value" "[B")) (hx.mv X11.warmed.alike hh11).2.1 (g := (mkF m 37 #[.val (.ref x), .val (.ref y), .val (.ref y)] [.ref x])) rfl (rest := []) rfl (hb hbytes d37)
      have hh14 := q14.trans hh11
      have c15 : Steps p.tables e below (s₁.setTop (entryFrame m #[.ref x, .ref y] 3)) (T14.setTop (mkF m 41 #[.val (.ref x), .val (.ref y), .val (.ref y)] [.ref y, .ref t])) := (c13.trans (st14 _ (Steps.refl _))).trans (by
        refine XS.aloadN X14.here hexec rfl (hb hbytes d40) rfl rfl ?_
        exact Steps.refl _)
      obtain ⟨T16, X16, q16, st16⟩ := X14.hget hexec hown (wk W (.fieldLink "java/lang/String" 9 "java/lang/String" "value" "[B")) (hy.mv X14.warmed.alike hh14).2.1 (g := (mkF m 41 #[.val (.ref x), .val (.ref y), .val (.ref y)] [.ref y, .ref t])) rfl (rest := [.ref t]) rfl (hb hbytes d41)
      have hh16 := q16.trans hh14
      have c17 : Steps p.tables e below (s₁.setTop (entryFrame m #[.ref x, .ref y] 3)) (T16.setTop (mkF m 44 #[.val (.ref x), .val (.ref y), .val (.ref y)] [.ref t', .ref t])) := c15.trans (st16 _ (Steps.refl _))
      obtain ⟨v18, T18, X18, E18, g18⟩ := X16.callS hexec (LEq.law l t V t' V') hown (wks W (staticW "java/lang/String" 541 LEq.yN)) (wk W LEq.tab) (W := 0) (Nat.le_of_ble_eq_true rfl) (Nat.le_of_ble_eq_true rfl) (Nat.le_refl _) (Nat.le_refl _) (g := (mkF m 44 #[.val (.ref x), .val (.ref y), .val (.ref y)] [.ref t', .ref t])) rfl (by rw [hml]; rfl) c17 (argsL := [.ref t, .ref t']) (rest := []) rfl rfl (by show 2 * 0 + 0 ≤ _; decide) (hb hbytes d44) (⟨rfl, hx.2.2.2.1.mv X16.warmed.alike hh16, hx.2.2.2.2.1.ty, hy.2.2.2.1.mv X16.warmed.alike hh16, hy.2.2.2.2.1.ty⟩)
      obtain ⟨v, rfl, q18, hv⟩ := E18
      have iff := Cod.eqv hx.2.2.2.2.1 hy.2.2.2.2.1 hx.2.2.2.2.2 hy.2.2.2.2.2
      rcases hv with ⟨rfl, he⟩ | ⟨rfl, he⟩
      · have c19 : Steps p.tables e below (s₁.setTop (entryFrame m #[.ref x, .ref y] 3)) (T18.setTop (mkF m 55 #[.val (.ref x), .val (.ref y), .val (.ref y)] [.int 1])) := Steps.trans g18 (by
          refine XS.ifNo X18.here hexec rfl (hb hbytes d47) rfl (i0_eq_f (by decide)) ?_
          refine iconstV X18.here hexec rfl 1 (hb hbytes d50) (by decide) ?_
          refine XS.goto X18.here hexec rfl (pc0 := 51) rfl (hb hbytes d51) (by decide) rfl ?_
          exact Steps.refl _)
        exact ⟨T18, some (.int 1), _, _, _, X18, rfl, rfl, rfl, (fun h => by cases h), ⟨1, rfl, q18.trans hh16, Or.inl ⟨rfl, iff.mp he⟩⟩, fun fs hl => c19.trans (X18.ireturnOut hexec hret rfl (Or.inr (Or.inl rfl)) (hb hbytes d55) hl)⟩
      · have c19 : Steps p.tables e below (s₁.setTop (entryFrame m #[.ref x, .ref y] 3)) (T18.setTop (mkF m 55 #[.val (.ref x), .val (.ref y), .val (.ref y)] [.int 0])) := Steps.trans g18 (by
          refine XS.ifYes X18.here hexec rfl (pc0 := 47) rfl (hb hbytes d47) rfl (i0_eq_t rfl) (by decide) rfl ?_
          refine iconstV X18.here hexec rfl 0 (hb hbytes d54) (by decide) ?_
          exact Steps.refl _)
        exact ⟨T18, some (.int 0), _, _, _, X18, rfl, rfl, rfl, (fun h => by cases h), ⟨0, rfl, q18.trans hh16, Or.inr ⟨rfl, fun q => he (iff.mpr q)⟩⟩, fun fs hl => c19.trans (X18.ireturnOut hexec hret rfl (Or.inr (Or.inl rfl)) (hb hbytes d55) hl)⟩
    · have c13 : Steps p.tables e below (s₁.setTop (entryFrame m #[.ref x, .ref y] 3)) (T11.setTop (mkF m 55 #[.val (.ref x), .val (.ref y), .val (.ref y)] [.int 0])) := c12.trans (by
        refine XS.icmpYes X11.here hexec rfl (pc0 := 33) rfl (hb hbytes d33) rfl (ii_ne_t hcd) (by decide) rfl ?_
        refine iconstV X11.here hexec rfl 0 (hb hbytes d54) (by decide) ?_
        exact Steps.refl _)
      exact ⟨T11, some (.int 0), _, _, _, X11, rfl, rfl, rfl, (fun h => by cases h), ⟨0, rfl, hh11, Or.inr ⟨rfl, Cod.dif hx.2.2.2.2.1 hy.2.2.2.2.1 hcd⟩⟩, fun fs hl => c13.trans (X11.ireturnOut hexec hret rfl (Or.inr (Or.inl rfl)) (hb hbytes d55) hl)⟩
theorem pays {l : Launch} {R : Room} {p : Program} {e : Env} {below : List Frame} {s : State} {sargs : Array Value} {len W : Nat} (x t : Addr) (V : Cell) (cd : Int32) (n : Nat) (f : Nat → Int32) (y t' : Addr) (V' : Cell) (cd' : Int32) (k : Nat) (g : Nat → Int32) (z : Int32) (htab : tab.before sargs s = true) (hfr : 2 ≤ R.frames) (hlo : W + 28 ≤ R.locals) :
    Back l R p e below s sargs yN len W (fun A₁ a₁ => A₁.cells + 0 ≤ R.cells ∧ A₁.slots + 0 ≤ R.slots ∧ P x t V cd n f y t' V' cd' k g z a₁ A₁.U) (fun A₁ _ v₁ B₁ => Says01 (SameT n f k g) v₁ A₁.U B₁.U ∧ B₁.locs = A₁.locs ++ [] ∧ B₁.cells = A₁.cells + 0 ∧ B₁.slots = A₁.slots + 0) :=
  (law l x t V cd n f y t' V' cd' k g z).pays htab hfr (by omega)
end SEq
end StrChars
namespace StrChars.Road
open Jvm Sem ClassFile Op Lib Jvm.Stand Jvm.Free Jvm.Free.XT
open Jvm.Lib.Cold (StaticIs)
/-- the words of String.equals(Object) -/
abbrev wordsEq : List Jvm.Cond := [.code SEq.yN SEq.yB 3 (some .boolean), .initialized ST, .classLink ST 10 ST, .fieldLink ST 38 ST "COMPACT_STRINGS" "Z", .fieldLink ST 15 ST "coder" "B", .fieldLink ST 9 ST "value" "[B", .methodLink ST 541 LEq.yN, .static LEq.yN, .code LEq.yN LEq.yB 3 (some .boolean), .initialized "java/lang/StringLatin1"]
theorem tabEq_of {a : Array Value} {s : State} (h : ∀ w ∈ wordsEq, w.before a s = true) : SEq.tab.before a s = true := by
  have hl : LEq.tab.before a s = true := unparts (wk h (.code LEq.yN LEq.yB 3 (some .boolean))) (wks h (.initialized LEq.yN.cls :: LEq.site))
  have q := consq hl h
  exact unparts (wk q (.code SEq.yN SEq.yB 3 (some .boolean))) (wks q (.initialized SEq.yN.cls :: SEq.site))
theorem movedEq {Z s : State} {a0 args : Array Value} (hZ : Z.Warmed39 s.vm) (hw : ∀ d ∈ wordsEq, d.before a0 Z = true) : ∀ d ∈ wordsEq, d.before args s = true := fun d hd => by
  have t : ∀ d ∈ wordsEq, (d.onTables && d.keepsFace) = true := by decide +kernel
  exact RoadKit.mv hZ (hw d hd) (t d hd)
/-- the road's facts of a String, as the laws ask it -/
theorem txt_of {Z U : State} {a0 : Array Value} {kI : Nat} (wi : (Jvm.Cond.instantiable ST kI).before a0 Z = true) (al : Z.vm.Alike U.vm) {x t : Addr} {kb : ClassId} {cs : List Int32} {cd N2 : Int32} {vs : List Value} (E : RoadKit.Exa Z U.heap x ST) (V : RoadKit.Fld Z U.heap x ST "value" "[B" (.ref t)) (C : RoadKit.Fld Z U.heap x ST "coder" "B" (.int cd)) (K : RoadKit.Arv Z U.heap t kb .byte N2 vs (.int 0)) (hc : CodA cs cd N2 vs) (hb : ∀ c ∈ cs, ¬ c < 0 ∧ ¬ (65535 : Int32) < c) (l2 : cs.length ≤ 4000) :
    ∃ A, Txt x t A cd cs.length (fun j => cs.getD j 0) U := by
  obtain ⟨A, K1, K2, K3, K4, K5, K6⟩ := K
  have hcod := hc.cod (by omega) K3 K5
  obtain ⟨D, fV, fC, hB, F1, F2, g1, g2, -, -⟩ := strObj wi al E V C
  exact ⟨A, ⟨_, hB.2.2.1, D, hB.1, rfl, by cases q : D.vm <;> first | rfl | exact absurd q (hB.2.1.2 _)⟩, Has.of hB F1 g1, Has.of hB F2 g2, ⟨K1.1, State.isArrayOf_alike al K1.2.1, K1.2.2, by rcases hcod with ⟨-, q, -⟩ | ⟨-, q, -⟩ <;> omega⟩, hcod, fun j hj => by
    have e : cs.getD j 0 = cs[j] := by simp [List.getD_eq_getElem?_getD, hj]
    show ¬ cs.getD j 0 < 0 ∧ ¬ 65535 < cs.getD j 0
    rw [e]; exact hb _ (List.getElem_mem _)⟩
theorem same_list (cs ds : List Int32) : SameT cs.length (fun j => cs.getD j 0) ds.length (fun j => ds.getD j 0) ↔ cs = ds := by
  constructor
  · rintro ⟨e, q⟩
    refine List.ext_getElem e fun j h1 h2 => ?_
    have := q j h1
    simpa [List.getD_eq_getElem?_getD, h1, h2] using this
  · rintro rfl
    exact ⟨rfl, fun _ _ => rfl⟩
/-- **equals(Object) OF TWO SUCH STRINGS**: 1 just where the chars are the same -/
theorem eqW {p : Program} {l : Launch} {e : Env} {R : Room} {s : State} {args : Array Value} {below : List Frame} {len W : Nat} {Z : State} {a0 : Array Value} {h : Heap} (hZ : Z.Warmed39 s.vm) (hw : ∀ d ∈ wordsEq, d.before a0 Z = true) {kI : Nat} (wi : (Jvm.Cond.instantiable ST kI).before a0 Z = true)
    {x t : Addr} {kb : ClassId} {cs : List Int32} {cd N2 : Int32} {vs : List Value} (E : RoadKit.Exa Z h x ST) (V : RoadKit.Fld Z h x ST "value" "[B" (.ref t)) (C : RoadKit.Fld Z h x ST "coder" "B" (.int cd)) (K : RoadKit.Arv Z h t kb .byte N2 vs (.int 0)) (hc : CodA cs cd N2 vs) (hb : ∀ c ∈ cs, ¬ c < 0 ∧ ¬ (65535 : Int32) < c) (l2 : cs.length ≤ 4000)
    {y t' : Addr} {kb' : ClassId} {ds : List Int32} {cd' N2' : Int32} {vs' : List Value} (E' : RoadKit.Exa Z h y ST) (V' : RoadKit.Fld Z h y ST "value" "[B" (.ref t')) (C' : RoadKit.Fld Z h y ST "coder" "B" (.int cd')) (K' : RoadKit.Arv Z h t' kb' .byte N2' vs' (.int 0)) (hc' : CodA ds cd' N2' vs') (hb' : ∀ c ∈ ds, ¬ c < 0 ∧ ¬ (65535 : Int32) < c) (l2' : ds.length ≤ 4000)
    {z : Int32} (S : RoadKit.Sta Z h ST "COMPACT_STRINGS" "Z" (.int z)) (hz : ¬ z = 0) (hfr : 2 ≤ R.frames) (hlo : W + 28 ≤ R.locals) :
    Back l R p e below s args (⟨"java/lang/String", "equals", "(Ljava/lang/Object;)Z"⟩ : MethodName) len W (fun P a => a = #[.ref x, .ref y] ∧ P.U.heap = h ∧ P.cells + 0 ≤ R.cells ∧ P.slots + 0 ≤ R.slots)
      (fun P _ v B => ∃ L, (((v = some (.int 1) ∧ cs = ds) ∨ (v = some (.int 0) ∧ ¬ cs = ds)) ∧ L = [] ∧ B.U.heap = h) ∧ B.locs = P.locs ++ L ∧ B.cells = P.cells + 0 ∧ B.slots = P.slots + 0) := by
  intro m meth c P g ig mk a X hg hsize hdg hW hn hp'
  obtain ⟨rfl, rfl, r1, r2⟩ := hp'
  have al : Z.vm.Alike P.U.vm := hZ.alike.trans X.warmed.alike
  obtain ⟨A, hx⟩ := txt_of wi al E V C K hc hb l2
  obtain ⟨A', hy⟩ := txt_of wi al E' V' C' K' hc' hb' l2'
  obtain ⟨v, B, X', ⟨⟨w, hv, hh, hq⟩, hl, hk, hs⟩, st⟩ := SEq.pays x t A cd cs.length (fun j => cs.getD j 0) y t' A' cd' ds.length (fun j => ds.getD j 0) z (tabEq_of (movedEq hZ hw)) hfr hlo m meth c P g ig mk _ X hg hsize hdg hW hn ⟨r1, r2, rfl, hx, hy, sta_is al S, hz⟩
  refine ⟨v, B, X', ⟨[], ⟨?_, rfl, hh⟩, hl, hk, hs⟩, st⟩
  rcases hq with ⟨rfl, q⟩ | ⟨rfl, q⟩
  · exact Or.inl ⟨hv, (same_list cs ds).mp q⟩
  · exact Or.inr ⟨hv, fun e => q ((same_list cs ds).mpr e)⟩
end StrChars.Road
namespace StrChars.Road
open Jvm Sem ClassFile Op Lib Jvm.Stand Jvm.Free Jvm.Free.XT
open Jvm.Lib.Cold (StaticIs)
/-- what backV says of its String, as the contracts of this text ask it: cs's low bytes, coder 0 -/
theorem codOf {cs : List Int32} {n : Nat} (hn : cs.length = n) (hb : ∀ c ∈ cs, ¬ 255 < c) : CodA cs 0 (Int32.ofNat n) ((cs.map lo8).map Value.int) := Or.inl ⟨rfl, by rw [hn], by simp [List.map_map, Function.comp_def], hb⟩
end StrChars.Road
end Jvm.Pilot.@@N@@
namespace Jvm.RoadKit
open Sem ClassFile Op Lib Jvm.Stand Jvm.Free Jvm.LawKit
section New
variable {p : Program} {l : Launch} {e : Env} {R : Room} {s : State} {m : MethodId} {args : Array Value} {below : List Frame} {meth : Method} {c : Code} {T : State} {locs : List Loc} {cells slots : Nat}
theorem retI (X : Stand p l e R s m args below meth c T locs cells slots) (hx : p.tables.exec = Jvm.exec) {pc : Nat} {Ls : Array Slot} {z : Int32} {rest : List Value} (hret : meth.sig.returnType = some .int) (hd : decode c.code pc = .ok (.ireturn, 1)) {fs : List Frame}
    (hl : ∀ (f : JFrame) (acts : List Action), f.method = m → f.locked = none → f.entered = [] → (doReturn e (T.setTop f) acts (some (.int z))).1 = T.setFrames fs) : Steps p.tables e below (T.setTop (mkF m pc Ls (.int z :: rest))) (T.setFrames fs) := by
  have hm' : T.vm.method? m = some meth := X.method'
  have hn : narrow .int (.int z) = .int z := rfl
  show Steps p.tables e below (T.setTop { method := m, pc := pc, locals := Ls, stack := _ :: rest, locked := none }) _
  jvm_step X.here [X.here.top, hx, hd, hm', hret, hn]
  first | (intro acts; rw [hl _ acts rfl rfl rfl]) | rw [hl _ _ rfl rfl rfl]
  exact Steps.refl _
end New
/-- the run has come from where P looks on to this frame -/
def Go (p : Program) (e : Env) (below : List Frame) (P : State → Prop) (T : State) (g : JFrame) : Prop := ∀ t, Steps p.tables e below (T.setTop g) t → P t
/-- where roads that move the state meet: one of them has come to this frame (wide: it may have interned) -/
def PosW (p : Program) (l : Launch) (e : Env) (R : Room) (s : State) (m : MethodId) (args : Array Value) (below : List Frame) (meth : Method) (c : Code) (P : State → Prop) (Z : State) (n0 : Nat) (own : String) (EL : List (String × Nat)) (h0 hf : Heap) (ws : List Addr) (cells slots : Nat) (g : JFrame) (K : Heap → Prop) : Prop :=
  ∃ (vm : Vm) (T : State) (locs : List Loc) (k : Nat), Stand p l e R (s.setVm vm) m args below meth c T locs cells slots ∧ Fr n0 locs ∧ Keep hf T.heap ws ∧ s.Since vm k ∧ k ≤ T.heap.size ∧ Z.Warmed39 vm ∧ vm.findClass own = some m.cls ∧ CHr Z EL s.vm h0 vm T.heap ∧ Go p e below P T g ∧ K T.heap
def PosN (p : Program) (l : Launch) (e : Env) (R : Room) (s : State) (m : MethodId) (args : Array Value) (below : List Frame) (meth : Method) (c : Code) (P : State → Prop) (n0 : Nat) (hf : Heap) (ws : List Addr) (cells slots : Nat) (g : JFrame) (K : Heap → Prop) : Prop :=
  ∃ (T : State) (locs : List Loc), Stand p l e R s m args below meth c T locs cells slots ∧ Fr n0 locs ∧ Keep hf T.heap ws ∧ Go p e below P T g ∧ K T.heap
theorem oldLe {Z : State} {n0 : Nat} {h : Heap} (O : Old Z n0 h) : n0 ≤ h.size := O.1 ▸ O.2.1
theorem narrow_refV {t : FieldType} {v : Value} (h : v.isRef = true) : narrow t v = v := by
  rcases ref_cases h with rfl | ⟨_, rfl⟩ <;> cases t <;> rfl
theorem fits_refV {C : String} {v : Value} (h : v.isRef = true) : fits (.object C) v = true := by
  rcases ref_cases h with rfl | ⟨_, rfl⟩ <;> rfl
end Jvm.RoadKit
namespace Jvm.Pilot.@@N@@
open Jvm Jvm.ClassFile Sem Op Lib Jvm.Free Jvm.Stand Jvm.LawKit Jvm.RoadKit Bundle Jvm.Pilot.@@N@@.Jvm.D
theorem eq_int {args : Array Value} {first s : State} {o : Option Outcome} {idx : List Nat} {a b : Term} {x : Value} {z : Int32} (ha : a.eval args first o idx s = some x) (hb : b.eval args first o idx s = some (.int z)) (h : (Jvm.Cond.eq a b).value args first o s idx = some true) : x = .int z := by
  cases x <;> simp [Cond.value, ha, hb] at h ⊢ <;> exact h
theorem nar_b0 : nar .boolean 0 = 0 := by decide
theorem nar_b1 : nar .boolean 1 = 1 := by decide
theorem nar_b8 (x : Int32) : nar .byte (x.toInt8.toInt32) = x.toInt8.toInt32 := by show (x.toInt8.toInt32).toInt8.toInt32 = x.toInt8.toInt32; simp
theorem eq_I {args : Array Value} {first s : State} {o : Option Outcome} {idx : List Nat} {a b : Term} {x y : Int32} (ha : a.eval args first o idx s = some (.int x)) (hb : b.eval args first o idx s = some (.int y)) : (Jvm.Cond.eq a b).value args first o s idx = some (decide (x = y)) := by simp [Cond.value, ha, hb]
theorem chr255 (x : Int32) : nar .char ((x &&& (255 : Int32)).toUInt32.toUInt16.toUInt32.toInt32) = ((x &&& (255 : Int32)).toUInt32.toUInt16.toUInt32.toInt32) ∧ ¬ ((x &&& (255 : Int32)).toUInt32.toUInt16.toUInt32.toInt32) < 0 ∧ ¬ (255 : Int32) < ((x &&& (255 : Int32)).toUInt32.toUInt16.toUInt32.toInt32) := by
  have t : ∀ k : Fin 256, nar .char ((Int32.ofNat k.val).toUInt32.toUInt16.toUInt32.toInt32) = ((Int32.ofNat k.val).toUInt32.toUInt16.toUInt32.toInt32) ∧ ¬ ((Int32.ofNat k.val).toUInt32.toUInt16.toUInt32.toInt32) < 0 ∧ ¬ (255 : Int32) < ((Int32.ofNat k.val).toUInt32.toUInt16.toUInt32.toInt32) := by decide +kernel
  have h : (x &&& 255).toBitVec.toNat < 256 := by
    simp only [Int32.toBitVec_and, BitVec.toNat_and]
    exact Nat.lt_succ_of_le Nat.and_le_right
  have e : (x &&& 255) = Int32.ofNat (x &&& 255).toBitVec.toNat := by
    apply Int32.toBitVec_inj.mp
    show _ = BitVec.ofNat 32 _
    rw [BitVec.ofNat_toNat]; simp
  rw [e]
  exact t ⟨_, h⟩
abbrev EL0 : List (String × Nat) := [("java/lang/String", 7)]
theorem wS_of {Z : State} {a0 : Array Value} (hw : ∀ d ∈ tables_1, d.before a0 Z = true) : ∀ a ∈ Bundle.stringAtoms, a.before a0 Z = true := by
  intro a ha
  simp only [Bundle.stringAtoms, List.mem_cons, List.not_mem_nil, or_false] at ha
  rcases ha with rfl | rfl | rfl | rfl | rfl | rfl | rfl
  · exact (hw _ (List.mem_of_getElem? (i := 13) rfl))
  · exact (hw _ (List.mem_of_getElem? (i := 12) rfl))
  · exact (hw _ (List.mem_of_getElem? (i := 26) rfl))
  · exact (hw _ (List.mem_of_getElem? (i := 27) rfl))
  · exact (hw _ (List.mem_of_getElem? (i := 28) rfl))
  · exact (hw _ (List.mem_of_getElem? (i := 29) rfl))
  · exact (hw _ (List.mem_of_getElem? (i := 30) rfl))
theorem safeNull {Z : State} {EL : List (String × Nat)} {vm : Vm} {h : Heap} {x : Addr} (hal : Z.vm.Alike vm) (E : Exa Z h x "java/lang/String") (F : Fld Z h x "java/lang/String" "value" "[B" .null) : Safe Z EL vm h x := fun B => by
  obtain ⟨p, -, u, a, -, q, -, G, hx⟩ := B
  rcases hx with hx | hx
  · subst hx
    obtain ⟨cell, cf, k, i, f, f1, f2, f3, f4, f5, f6, f7⟩ := F
    obtain ⟨cS, ⟨⟨s1, s2, s3, ⟨cv, kv, iv, s4, s4'⟩, s5, s6, s7, s8, s9⟩, -⟩, -⟩ := G
    obtain ⟨kv', z4⟩ := ff_back (U := Wst Z vm h) hal s4
    cases f2.symm.trans z4
    have s1' : h[q.sa]? = some q.sC := s1
    cases f1.symm.trans s1'
    cases f7.symm.trans s8
  · subst hx
    obtain ⟨cell, k, e1, e2, e3, -, -⟩ := E
    have s10' : h[q.sd]? = some q.SA := G.hd
    cases e1.symm.trans s10'
    obtain ⟨cS, -, -, f, -⟩ := G
    have f' : vm.findClass "[B" = some q.SA.cls := f
    rw [hal.findClass] at f'
    obtain ⟨k1, q1, q2⟩ := Vm.findClass_spec f'
    obtain ⟨k2, q3, q4⟩ := Vm.findClass_spec e2
    cases q1.symm.trans q3
    exact absurd (q2.symm.trans q4) (by decide)
theorem w_backV {Z : State} {a0 : Array Value} (hw : ∀ d ∈ tables_1, d.before a0 Z = true) : ∀ d ∈ StrChars.Road.words, d.before a0 Z = true := fun d hd => hw d ((by decide +kernel : ∀ d ∈ StrChars.Road.words, d ∈ tables_1) d hd)
theorem w_eqW {Z : State} {a0 : Array Value} (hw : ∀ d ∈ tables_1, d.before a0 Z = true) : ∀ d ∈ StrChars.Road.wordsEq, d.before a0 Z = true := fun d hd => hw d ((by decide +kernel : ∀ d ∈ StrChars.Road.wordsEq, d ∈ tables_1) d hd)
theorem upC {cs : List Int32} (h : ∀ c ∈ cs, ¬ c < 0 ∧ ¬ (255 : Int32) < c) : ∀ c ∈ cs, ¬ c < 0 ∧ ¬ (65535 : Int32) < c := fun c hc => ⟨(h c hc).1, fun q => (h c hc).2 (by rw [Int32.lt_iff_toInt_lt] at q ⊢; have e1 : (65535 : Int32).toInt = 65535 := rfl; have e2 : (255 : Int32).toInt = 255 := rfl; omega)⟩
theorem hcod {cs : List Int32} (h : ∀ c ∈ cs, ¬ c < 0 ∧ ¬ (255 : Int32) < c) : StrChars.Road.CodA cs 0 (Int32.ofNat cs.length) ((cs.map StrChars.lo8).map Value.int) := StrChars.Road.codOf rfl fun c hc => (h c hc).2
def eqI (cs ds : List Int32) : Int32 := if cs = ds then 1 else 0
def kindW (w0 w1 w2 w3 w4 : Addr) (i : Int32) : Addr := if i = 0 then w0 else if i = 1 then w1 else if i = 2 then w2 else if i = 3 then w3 else w4
def strL (n a b : Int32) : List Int32 := if n = 0 then [] else if n = 1 then [a] else [a, b]
def isNm (k w : Addr) (cs ds : List Int32) : Int32 := if k = w then eqI cs ds else 0
def sameI (tl nl t0 t1 n0 n1 : Int32) : Int32 := if tl = nl ∧ (tl < 1 ∨ t0 = n0) ∧ (tl < 2 ∨ t1 = n1) then 1 else 0
def expI (k s : Int32) : Int32 := if k = 0 then (if s = 0 then 0 else 1) else 0
theorem strL_ok {n a b : Int32} (ha : nar .char a = a ∧ ¬ a < 0 ∧ ¬ (255 : Int32) < a) (hb : nar .char b = b ∧ ¬ b < 0 ∧ ¬ (255 : Int32) < b) : ∀ c ∈ strL n a b, ¬ c < 0 ∧ ¬ (255 : Int32) < c := by
  intro c hc
  unfold strL at hc
  split at hc
  · cases hc
  · split at hc
    · simp only [List.mem_cons, List.not_mem_nil, or_false] at hc; subst hc; exact ha.2
    · simp only [List.mem_cons, List.not_mem_nil, or_false] at hc; rcases hc with rfl | rfl
      · exact ha.2
      · exact hb.2
theorem strL_len {n a b : Int32} : (strL n a b).length ≤ 4000 := by
  unfold strL
  repeat' split
  all_goals simp
theorem len3 (y : Int32) : 0 ≤ ((y &&& 3) % 3).toInt ∧ ((y &&& 3) % 3).toInt < 3 := by
  have e1 : (y &&& 3).toInt = y.toInt % 2 ^ 2 := Jvm.Kit.i32_mask y 3 (k := 2) (by decide) (by decide)
  have e2 : ((y &&& 3) % 3).toInt = (y &&& 3).toInt % (3 : Int32).toInt := Jvm.Kit.i32_rem_nonneg (by rw [e1]; omega)
  have e3 : (3 : Int32).toInt = 3 := by decide
  rw [e3] at e2
  omega
theorem three {n : Int32} (h : 0 ≤ n.toInt ∧ n.toInt < 3) : n = 0 ∨ n = 1 ∨ n = 2 := by
  have q0 : (0 : Int32).toInt = 0 := by decide
  have q1 : (1 : Int32).toInt = 1 := by decide
  have q2 : (2 : Int32).toInt = 2 := by decide
  rcases (by omega : n.toInt = 0 ∨ n.toInt = 1 ∨ n.toInt = 2) with h | h | h
  · exact Or.inl (Int32.toInt_inj.mp (h.trans q0.symm))
  · exact Or.inr (Or.inl (Int32.toInt_inj.mp (h.trans q1.symm)))
  · exact Or.inr (Or.inr (Int32.toInt_inj.mp (h.trans q2.symm)))
theorem own_same {tl nl t0 t1 n0 n1 : Int32} (h1 : 0 ≤ tl.toInt ∧ tl.toInt < 3) (h2 : 0 ≤ nl.toInt ∧ nl.toInt < 3) : sameI tl nl t0 t1 n0 n1 = eqI (strL tl t0 t1) (strL nl n0 n1) := by
  rcases three h1 with rfl | rfl | rfl <;> rcases three h2 with rfl | rfl | rfl <;> simp [sameI, eqI, strL]
theorem own_final {w0 w1 w2 w3 w4 : Addr} {ks s : Int32} {cs ds : List Int32} (hs : s = eqI cs ds) (n1 : w1 ≠ w0) (n2 : w2 ≠ w0) (n3 : w3 ≠ w0) (n4 : w4 ≠ w0) : isNm (kindW w0 w1 w2 w3 w4 ks) w0 cs ds = expI ks s := by
  subst hs
  have hk : kindW w0 w1 w2 w3 w4 ks = w0 ↔ ks = 0 := by
    unfold kindW
    constructor
    · intro h
      by_cases q : ks = 0
      · exact q
      · rw [if_neg q] at h
        exfalso
        revert h
        repeat' split
        all_goals assumption
    · intro h; rw [if_pos h]
  by_cases q : ks = 0
  · rw [hk.mpr q]; by_cases r : cs = ds <;> simp [isNm, expI, eqI, q, r]
  · have := mt hk.mp q
    simp [isNm, expI, q, this]
theorem pn_95334719 : plainName "com/example/covrage/covrage/model/TokenIsNamePinLaw" = true := by first | (simp [plainName, overriddenIn]; done) | decide +kernel
theorem ef_kindOf_ (m : MethodId) (x0 : Int32) : entryFrame m #[(.int x0)] 1 = mkF m 0 #[.val (.int x0)] [] := by first | (simp [entryFrame, mkF, argsToLocals, Value.category]; done) | rfl
theorem d1_0 : decode method_2_code 0 = .ok (.iload_n 0, 1) := by decide +kernel
theorem d1_1 : decode method_2_code 1 = .ok (.ifCond .ne 7, 3) := by decide +kernel
theorem d1_4 : decode method_2_code 4 = .ok (.getstatic 7, 3) := by decide +kernel
theorem d1_7 : decode method_2_code 7 = .ok (.areturn, 1) := by decide +kernel
theorem d1_8 : decode method_2_code 8 = .ok (.iload_n 0, 1) := by decide +kernel
theorem d1_9 : decode method_2_code 9 = .ok (.iconst 1, 1) := by decide +kernel
theorem d1_10 : decode method_2_code 10 = .ok (.if_icmp .ne 7, 3) := by decide +kernel
theorem d1_13 : decode method_2_code 13 = .ok (.getstatic 13, 3) := by decide +kernel
theorem d1_16 : decode method_2_code 16 = .ok (.areturn, 1) := by decide +kernel
theorem d1_17 : decode method_2_code 17 = .ok (.iload_n 0, 1) := by decide +kernel
theorem d1_18 : decode method_2_code 18 = .ok (.iconst 2, 1) := by decide +kernel
theorem d1_19 : decode method_2_code 19 = .ok (.if_icmp .ne 7, 3) := by decide +kernel
theorem d1_22 : decode method_2_code 22 = .ok (.getstatic 16, 3) := by decide +kernel
theorem d1_25 : decode method_2_code 25 = .ok (.areturn, 1) := by decide +kernel
theorem d1_26 : decode method_2_code 26 = .ok (.iload_n 0, 1) := by decide +kernel
theorem d1_27 : decode method_2_code 27 = .ok (.iconst 3, 1) := by decide +kernel
theorem d1_28 : decode method_2_code 28 = .ok (.if_icmp .ne 7, 3) := by decide +kernel
theorem d1_31 : decode method_2_code 31 = .ok (.getstatic 19, 3) := by decide +kernel
theorem d1_34 : decode method_2_code 34 = .ok (.areturn, 1) := by decide +kernel
theorem d1_35 : decode method_2_code 35 = .ok (.getstatic 22, 3) := by decide +kernel
theorem d1_38 : decode method_2_code 38 = .ok (.areturn, 1) := by decide +kernel
def Q_kindOf_ (Z : State) (i : Int32) (w0 : Addr) (w1 : Addr) (w2 : Addr) (w3 : Addr) (w4 : Addr) (h0 : Heap) (n0 : Nat) (rv_ : Option Value) (rh_ : Heap) (rL_ : List Loc) : Prop := (rv_ = some (.ref (kindW w0 w1 w2 w3 w4 i))) ∧ (Fr n0 rL_) ∧ (rh_ = h0)
set_option maxRecDepth 65536 in
set_option maxHeartbeats 40000000 in
theorem kindOf_ (l : Launch) (Z : State) (a0 : Array Value) (hw : ∀ d ∈ tables_1, d.before a0 Z = true) (ws : List Jvm.Cond) (i : Int32) (w0 : Addr) (w1 : Addr) (w2 : Addr) (w3 : Addr) (w4 : Addr) (h0 : Heap) (n0 : Nat) (O0 : Old Z n0 h0) (P0 : Sta Z Z.heap "com/example/covrage/covrage/model/Lexer$Kind" "NAME" "Lcom/example/covrage/covrage/model/Lexer$Kind;" (.ref w0)) (P1 : Sta Z Z.heap "com/example/covrage/covrage/model/Lexer$Kind" "QUOTED_NAME" "Lcom/example/covrage/covrage/model/Lexer$Kind;" (.ref w1)) (P2 : Sta Z Z.heap "com/example/covrage/covrage/model/Lexer$Kind" "NUMBER" "Lcom/example/covrage/covrage/model/Lexer$Kind;" (.ref w2)) (P3 : Sta Z Z.heap "com/example/covrage/covrage/model/Lexer$Kind" "SYMBOL" "Lcom/example/covrage/covrage/model/Lexer$Kind;" (.ref w3)) (P4 : Sta Z Z.heap "com/example/covrage/covrage/model/Lexer$Kind" "END" "Lcom/example/covrage/covrage/model/Lexer$Kind;" (.ref w4)) :
    MetFree l (⟨"com/example/covrage/covrage/model/TokenIsNamePinLaw", "kindOf", "(I)Lcom/example/covrage/covrage/model/Lexer$Kind;"⟩ : MethodName) (head1 (Jvm.Cond.code (⟨"com/example/covrage/covrage/model/TokenIsNamePinLaw", "kindOf", "(I)Lcom/example/covrage/covrage/model/Lexer$Kind;"⟩ : MethodName) method_2_code 1 (some (.object "com/example/covrage/covrage/model/Lexer$Kind")) :: ws) ({ frames := 0, cells := 0, slots := 0, locals := 0 } : Room)) (fun a_ U_ => a_ = #[(.int i)] ∧ Z.Warmed39 U_.vm ∧ U_.heap = h0) (fun _ _ _ _ _ => True) (fun _ U_ o_ U_' => ∃ v_ L_, o_ = .returned v_ ∧ Q_kindOf_ Z i w0 w1 w2 w3 w4 h0 n0 v_ U_'.heap L_ ∧ FrameEnd U_ o_ U_' L_ ({ frames := 0, cells := 0, slots := 0, locals := 0 } : Room).cells ({ frames := 0, cells := 0, slots := 0, locals := 0 } : Room).slots) := by
  refine MetFree.of_bodySF (plainFor_of_name pn_95334719) hisR ?_
  intro p e s m args below meth c s₁ Bd hml0 hP0 hK
  obtain ⟨rfl, hZ, hh⟩ := hP0
  have hx := Bd.exec
  have hby := Bd.bytes
  have hml : c.maxLocals = 1 := hml0
  have hown : s.vm.findClass "com/example/covrage/covrage/model/TokenIsNamePinLaw" = some m.cls := findClass_of_methodNamed Bd.named
  have hnm := (name_of_methodNamed Bd.named Bd.method).1
  have X0 : Stand p l e ({ frames := 0, cells := 0, slots := 0, locals := 0 } : Room) s m #[(.int i)] below meth c s₁ [] 0 0 := Stand.of_body Bd
  have e0 : s₁.heap = h0 := by rw [← hh, Bd.state]; rfl
  have N0 := Fr.nil n0
  obtain ⟨P, hP, R0⟩ : ∃ P : State → Prop, (∀ t_, P t_ → Steps p.tables e below (s₁.setTop (entryFrame m #[(.int i)] 1)) t_) ∧ Go p e below P s₁ (mkF m 0 #[.val (.int i)] []) := ⟨_, fun _ h => h, fun t_ k_ => castTop (ef_kindOf_ m i) k_⟩
  have R1 : Go p e below P s₁ (mkF m 1 #[.val (.int i)] [(.int i)]) := fun t_ k_ => R0 t_ (XS.iloadN X0.here hx rfl (hb hby d1_0) rfl k_)
  by_cases hc2 : i = (0 : Int32)
  · have R3 : Go p e below P s₁ (mkF m 4 #[.val (.int i)] []) := fun t_ k_ => R1 t_ (XS.ifNo X0.here hx rfl (hb hby d1_1) rfl ((if0 _ _).trans (teq hc2).2) k_)
    obtain ⟨T4, X4, e4, st4⟩ := getS2 X0 hx hZ hown (host := "") (Or.inl (hw _ (List.mem_of_getElem? (i := 5) rfl))) Via.refl e0 (P0.ext O0.2) (g := (mkF m 4 #[.val (.int i)] [])) rfl (hb hby d1_4)
    have R5 : Go p e below P T4 (mkF m 7 #[.val (.int i)] [(.ref w0)]) := fun t_ k_ => R3 t_ (st4 t_ k_)
    obtain ⟨fs, hr, hrun, hended, hW, hsame⟩ := X4.leave (v := some (.ref w0)) (fun h => by rw [Bd.returns] at h; cases h)
    exact ⟨_, _, hP _ (R5 _ (retOut X4 hx Bd.returns rfl (Or.inr (Or.inr (Or.inr (Or.inr ⟨rfl, rfl, rfl⟩)))) (hb hby d1_7) hr)), hrun, hended, _, _, rfl, ⟨(by first | (simp only [kindW, eq_true hc2, true_and, and_true, false_and, and_false, true_or, or_true, false_or, or_false, not_true_eq_false, not_false_eq_true, ↓reduceIte, nar_b0, nar_b1]; done) | simp [kindW, nar_b0, nar_b1, hc2]), N0, e4⟩, ⟨_, rfl⟩, hW, hsame.mono (by decide) (by decide)⟩
  · have R6 : Go p e below P s₁ (mkF m 8 #[.val (.int i)] []) := fun t_ k_ => R1 t_ (XS.ifYes X0.here hx rfl (pc0 := 1) (pc' := 8) rfl (hb hby d1_1) rfl ((if0 _ _).trans (feq hc2).2) (by decide) (by decide) k_)
    have R7 : Go p e below P s₁ (mkF m 9 #[.val (.int i)] [(.int i)]) := fun t_ k_ => R6 t_ (XS.iloadN X0.here hx rfl (hb hby d1_8) rfl k_)
    have R8 : Go p e below P s₁ (mkF m 10 #[.val (.int i)] [(.int (1 : Int32)), (.int i)]) := fun t_ k_ => R7 t_ (XS.iconst X0.here hx rfl (hb hby d1_9) k_)
    by_cases hc9 : i = (1 : Int32)
    · have R10 : Go p e below P s₁ (mkF m 13 #[.val (.int i)] []) := fun t_ k_ => R8 t_ (XS.icmpNo X0.here hx rfl (hb hby d1_10) rfl (teq hc9).2 k_)
      obtain ⟨T11, X11, e11, st11⟩ := getS2 X0 hx hZ hown (host := "") (Or.inl (hw _ (List.mem_of_getElem? (i := 77) rfl))) Via.refl e0 (P1.ext O0.2) (g := (mkF m 13 #[.val (.int i)] [])) rfl (hb hby d1_13)
      have R12 : Go p e below P T11 (mkF m 16 #[.val (.int i)] [(.ref w1)]) := fun t_ k_ => R10 t_ (st11 t_ k_)
      obtain ⟨fs, hr, hrun, hended, hW, hsame⟩ := X11.leave (v := some (.ref w1)) (fun h => by rw [Bd.returns] at h; cases h)
      exact ⟨_, _, hP _ (R12 _ (retOut X11 hx Bd.returns rfl (Or.inr (Or.inr (Or.inr (Or.inr ⟨rfl, rfl, rfl⟩)))) (hb hby d1_16) hr)), hrun, hended, _, _, rfl, ⟨(by first | (simp only [kindW, eq_false hc2, eq_true hc9, true_and, and_true, false_and, and_false, true_or, or_true, false_or, or_false, not_true_eq_false, not_false_eq_true, ↓reduceIte, nar_b0, nar_b1]; done) | simp [kindW, nar_b0, nar_b1, hc2, hc9]), N0, e11⟩, ⟨_, rfl⟩, hW, hsame.mono (by decide) (by decide)⟩
    · have R13 : Go p e below P s₁ (mkF m 17 #[.val (.int i)] []) := fun t_ k_ => R8 t_ (XS.icmpYes X0.here hx rfl (pc0 := 10) (pc' := 17) rfl (hb hby d1_10) rfl (feq hc9).2 (by decide) (by decide) k_)
      have R14 : Go p e below P s₁ (mkF m 18 #[.val (.int i)] [(.int i)]) := fun t_ k_ => R13 t_ (XS.iloadN X0.here hx rfl (hb hby d1_17) rfl k_)
      have R15 : Go p e below P s₁ (mkF m 19 #[.val (.int i)] [(.int (2 : Int32)), (.int i)]) := fun t_ k_ => R14 t_ (XS.iconst X0.here hx rfl (hb hby d1_18) k_)
      by_cases hc16 : i = (2 : Int32)
      · have R17 : Go p e below P s₁ (mkF m 22 #[.val (.int i)] []) := fun t_ k_ => R15 t_ (XS.icmpNo X0.here hx rfl (hb hby d1_19) rfl (teq hc16).2 k_)
        obtain ⟨T18, X18, e18, st18⟩ := getS2 X0 hx hZ hown (host := "") (Or.inl (hw _ (List.mem_of_getElem? (i := 65) rfl))) Via.refl e0 (P2.ext O0.2) (g := (mkF m 22 #[.val (.int i)] [])) rfl (hb hby d1_22)
        have R19 : Go p e below P T18 (mkF m 25 #[.val (.int i)] [(.ref w2)]) := fun t_ k_ => R17 t_ (st18 t_ k_)
        obtain ⟨fs, hr, hrun, hended, hW, hsame⟩ := X18.leave (v := some (.ref w2)) (fun h => by rw [Bd.returns] at h; cases h)
        exact ⟨_, _, hP _ (R19 _ (retOut X18 hx Bd.returns rfl (Or.inr (Or.inr (Or.inr (Or.inr ⟨rfl, rfl, rfl⟩)))) (hb hby d1_25) hr)), hrun, hended, _, _, rfl, ⟨(by first | (simp only [kindW, eq_false hc2, eq_false hc9, eq_true hc16, true_and, and_true, false_and, and_false, true_or, or_true, false_or, or_false, not_true_eq_false, not_false_eq_true, ↓reduceIte, nar_b0, nar_b1]; done) | simp [kindW, nar_b0, nar_b1, hc2, hc9, hc16]), N0, e18⟩, ⟨_, rfl⟩, hW, hsame.mono (by decide) (by decide)⟩
      · have R20 : Go p e below P s₁ (mkF m 26 #[.val (.int i)] []) := fun t_ k_ => R15 t_ (XS.icmpYes X0.here hx rfl (pc0 := 19) (pc' := 26) rfl (hb hby d1_19) rfl (feq hc16).2 (by decide) (by decide) k_)
        have R21 : Go p e below P s₁ (mkF m 27 #[.val (.int i)] [(.int i)]) := fun t_ k_ => R20 t_ (XS.iloadN X0.here hx rfl (hb hby d1_26) rfl k_)
        have R22 : Go p e below P s₁ (mkF m 28 #[.val (.int i)] [(.int (3 : Int32)), (.int i)]) := fun t_ k_ => R21 t_ (XS.iconst X0.here hx rfl (hb hby d1_27) k_)
        by_cases hc23 : i = (3 : Int32)
        · have R24 : Go p e below P s₁ (mkF m 31 #[.val (.int i)] []) := fun t_ k_ => R22 t_ (XS.icmpNo X0.here hx rfl (hb hby d1_28) rfl (teq hc23).2 k_)
          obtain ⟨T25, X25, e25, st25⟩ := getS2 X0 hx hZ hown (host := "") (Or.inl (hw _ (List.mem_of_getElem? (i := 63) rfl))) Via.refl e0 (P3.ext O0.2) (g := (mkF m 31 #[.val (.int i)] [])) rfl (hb hby d1_31)
          have R26 : Go p e below P T25 (mkF m 34 #[.val (.int i)] [(.ref w3)]) := fun t_ k_ => R24 t_ (st25 t_ k_)
          obtain ⟨fs, hr, hrun, hended, hW, hsame⟩ := X25.leave (v := some (.ref w3)) (fun h => by rw [Bd.returns] at h; cases h)
          exact ⟨_, _, hP _ (R26 _ (retOut X25 hx Bd.returns rfl (Or.inr (Or.inr (Or.inr (Or.inr ⟨rfl, rfl, rfl⟩)))) (hb hby d1_34) hr)), hrun, hended, _, _, rfl, ⟨(by first | (simp only [kindW, eq_false hc2, eq_false hc9, eq_false hc16, eq_true hc23, true_and, and_true, false_and, and_false, true_or, or_true, false_or, or_false, not_true_eq_false, not_false_eq_true, ↓reduceIte, nar_b0, nar_b1]; done) | simp [kindW, nar_b0, nar_b1, hc2, hc9, hc16, hc23]), N0, e25⟩, ⟨_, rfl⟩, hW, hsame.mono (by decide) (by decide)⟩
        · have R27 : Go p e below P s₁ (mkF m 35 #[.val (.int i)] []) := fun t_ k_ => R22 t_ (XS.icmpYes X0.here hx rfl (pc0 := 28) (pc' := 35) rfl (hb hby d1_28) rfl (feq hc23).2 (by decide) (by decide) k_)
          obtain ⟨T28, X28, e28, st28⟩ := getS2 X0 hx hZ hown (host := "") (Or.inl (hw _ (List.mem_of_getElem? (i := 79) rfl))) Via.refl e0 (P4.ext O0.2) (g := (mkF m 35 #[.val (.int i)] [])) rfl (hb hby d1_35)
          have R29 : Go p e below P T28 (mkF m 38 #[.val (.int i)] [(.ref w4)]) := fun t_ k_ => R27 t_ (st28 t_ k_)
          obtain ⟨fs, hr, hrun, hended, hW, hsame⟩ := X28.leave (v := some (.ref w4)) (fun h => by rw [Bd.returns] at h; cases h)
          exact ⟨_, _, hP _ (R29 _ (retOut X28 hx Bd.returns rfl (Or.inr (Or.inr (Or.inr (Or.inr ⟨rfl, rfl, rfl⟩)))) (hb hby d1_38) hr)), hrun, hended, _, _, rfl, ⟨(by first | (simp only [kindW, eq_false hc2, eq_false hc9, eq_false hc16, eq_false hc23, true_and, and_true, false_and, and_false, true_or, or_true, false_or, or_false, not_true_eq_false, not_false_eq_true, ↓reduceIte, nar_b0, nar_b1]; done) | simp [kindW, nar_b0, nar_b1, hc2, hc9, hc16, hc23]), N0, e28⟩, ⟨_, rfl⟩, hW, hsame.mono (by decide) (by decide)⟩
theorem pn_47582652 : plainName "java/lang/String" = true := by first | (simp [plainName, overriddenIn]; done) | decide +kernel
theorem ef_strE4 (m : MethodId) (x0 : Addr) (x1 : Addr) (x2 : Int32) (x3 : Int32) : entryFrame m #[(.ref x0), (.ref x1), (.int x2), (.int x3), .null] 6 = mkF m 0 #[.val (.ref x0), .val (.ref x1), .val (.int x2), .val (.int x3), .val .null, .unset] [] := by first | (simp [entryFrame, mkF, argsToLocals, Value.category]; done) | rfl
theorem d4_0 : decode jdk_42_method_149_code 0 = .ok (.aload_n 0, 1) := by decide +kernel
theorem d4_1 : decode jdk_42_method_149_code 1 = .ok (.invokespecial 1, 3) := by decide +kernel
theorem d4_4 : decode jdk_42_method_149_code 4 = .ok (.iload_n 3, 1) := by decide +kernel
theorem d4_5 : decode jdk_42_method_149_code 5 = .ok (.ifCond .ne 22, 3) := by decide +kernel
theorem d4_8 : decode jdk_42_method_149_code 8 = .ok (.aload_n 0, 1) := by decide +kernel
theorem d4_9 : decode jdk_42_method_149_code 9 = .ok (.ldc 7, 2) := by decide +kernel
theorem d4_11 : decode jdk_42_method_149_code 11 = .ok (.getfield 9, 3) := by decide +kernel
theorem d4_14 : decode jdk_42_method_149_code 14 = .ok (.putfield 9, 3) := by decide +kernel
theorem d4_17 : decode jdk_42_method_149_code 17 = .ok (.aload_n 0, 1) := by decide +kernel
theorem d4_18 : decode jdk_42_method_149_code 18 = .ok (.ldc 7, 2) := by decide +kernel
theorem d4_20 : decode jdk_42_method_149_code 20 = .ok (.getfield 15, 3) := by decide +kernel
theorem d4_23 : decode jdk_42_method_149_code 23 = .ok (.putfield 15, 3) := by decide +kernel
theorem d4_26 : decode jdk_42_method_149_code 26 = .ok (.return_, 1) := by decide +kernel
def Q_strE4 (Z : State) (x : Addr) (b : Addr) (h0 : Heap) (n0 : Nat) (rv_ : Option Value) (rh_ : Heap) (rL_ : List Loc) : Prop := ∃ t : Addr, ∃ kb : ClassId, (rv_ = none) ∧ (Fr n0 rL_) ∧ (Keep h0 rh_ [x]) ∧ (Exa Z rh_ x "java/lang/String") ∧ (Fld Z rh_ x "java/lang/String" "coder" "B" (.int (0 : Int32))) ∧ (Fld Z rh_ x "java/lang/String" "value" "[B" (.ref t)) ∧ (Arv Z rh_ t kb .byte (Int32.ofNat ([] : List Int32).length) ((([] : List Int32).map StrChars.lo8).map Value.int) (.int (0 : Int32)))
set_option maxRecDepth 65536 in
set_option maxHeartbeats 40000000 in
theorem strE4 (l : Launch) (Z : State) (a0 : Array Value) (hw : ∀ d ∈ tables_1, d.before a0 Z = true) (ws : List Jvm.Cond) (x : Addr) (b : Addr) (h0 : Heap) (n0 : Nat) (O0 : Old Z n0 h0) (hEL : EW Z a0 EL0) (P0 : Exa Z h0 x "java/lang/String") (P1 : Fld Z h0 x "java/lang/String" "value" "[B" .null) (P2 : Fld Z h0 x "java/lang/String" "coder" "B" (.int (0 : Int32))) (P3 : n0 ≤ x) :
    MetFree l (⟨"java/lang/String", "<init>", "([CIILjava/lang/Void;)V"⟩ : MethodName) (head1 (Jvm.Cond.code (⟨"java/lang/String", "<init>", "([CIILjava/lang/Void;)V"⟩ : MethodName) jdk_42_method_149_code 6 none :: ws) ({ frames := 1, cells := 4, slots := 8, locals := 12 } : Room)) (fun a_ U_ => a_ = #[(.ref x), (.ref b), (.int (0 : Int32)), (.int (0 : Int32)), .null] ∧ Z.Warmed39 U_.vm ∧ U_.heap = h0 ∧ CHv Z EL0 U_.vm h0) (fun _ _ _ _ _ => True) (fun _ U_ o_ U_' => ∃ v_ L_, o_ = .returned v_ ∧ Q_strE4 Z x b h0 n0 v_ U_'.heap L_ ∧ CHr Z EL0 U_.vm U_.heap U_'.vm U_'.heap ∧ ReturnedEndW U_ o_ U_' L_ ({ frames := 1, cells := 4, slots := 8, locals := 12 } : Room).cells ({ frames := 1, cells := 4, slots := 8, locals := 12 } : Room).slots) := by
  refine MetFree.of_bodySF (plainFor_of_name pn_47582652) hisR ?_
  intro p e s m args below meth c s₁ Bd hml0 hP0 hK
  obtain ⟨rfl, hZ, hh, hCH⟩ := hP0
  have hx := Bd.exec
  have hby := Bd.bytes
  have hml : c.maxLocals = 6 := hml0
  have hown : s.vm.findClass "java/lang/String" = some m.cls := findClass_of_methodNamed Bd.named
  have hnm := (name_of_methodNamed Bd.named Bd.method).1
  have hS0 : s.Since s.vm 0 := (State.WarmedH.refl s).since 0
  have hk0 : 0 ≤ h0.size := Nat.zero_le _
  have C0 : CHr Z EL0 s.vm h0 s.vm h0 := CHr.refl hCH
  have X0 : Stand p l e ({ frames := 1, cells := 4, slots := 8, locals := 12 } : Room) (s.setVm s.vm) m #[(.ref x), (.ref b), (.int (0 : Int32)), (.int (0 : Int32)), .null] below meth c s₁ [] 0 0 := Stand.of_body Bd
  have e0 : s₁.heap = h0 := by rw [← hh, Bd.state]; rfl
  have N0 := Fr.nil n0
  obtain ⟨P, hP, R0⟩ : ∃ P : State → Prop, (∀ t_, P t_ → Steps p.tables e below (s₁.setTop (entryFrame m #[(.ref x), (.ref b), (.int (0 : Int32)), (.int (0 : Int32)), .null] 6)) t_) ∧ Go p e below P s₁ (mkF m 0 #[.val (.ref x), .val (.ref b), .val (.int (0 : Int32)), .val (.int (0 : Int32)), .val .null, .unset] []) := ⟨_, fun _ h => h, fun t_ k_ => castTop (ef_strE4 m x b (0 : Int32) (0 : Int32)) k_⟩
  have Sw30 : Safe Z EL0 _ _ x := (safeNull hZ.alike P0 P1)
  have R31 : Go p e below P s₁ (mkF m 1 #[.val (.ref x), .val (.ref b), .val (.int (0 : Int32)), .val (.int (0 : Int32)), .val .null, .unset] [(.ref x)]) := fun t_ k_ => R0 t_ (XS.aloadN X0.here hx rfl (hb hby d4_0) rfl rfl k_)
  obtain ⟨T32, X32, e32, st32⟩ := initO X0 hx hZ hown (hw _ (List.mem_of_getElem? (i := 22) rfl)) (hw _ (List.mem_of_getElem? (i := 23) rfl)) (hw _ (List.mem_of_getElem? (i := 24) rfl)) e0 (g := (mkF m 1 #[.val (.ref x), .val (.ref b), .val (.int (0 : Int32)), .val (.int (0 : Int32)), .val .null, .unset] [(.ref x)])) rfl (by rw [hml]; rfl) rfl (hb hby d4_1) (by decide) (W := 0) (by show 2 * 0 + _ ≤ _; exact Nat.le_of_eq rfl) (by decide)
  have R33 : Go p e below P T32 (mkF m 4 #[.val (.ref x), .val (.ref b), .val (.int (0 : Int32)), .val (.int (0 : Int32)), .val .null, .unset] []) := fun t_ k_ => R31 t_ (st32 t_ k_)
  have R34 : Go p e below P T32 (mkF m 5 #[.val (.ref x), .val (.ref b), .val (.int (0 : Int32)), .val (.int (0 : Int32)), .val .null, .unset] [(.int (0 : Int32))]) := fun t_ k_ => R33 t_ (XS.iloadN X32.here hx rfl (hb hby d4_4) rfl k_)
  have R35 : Go p e below P T32 (mkF m 8 #[.val (.ref x), .val (.ref b), .val (.int (0 : Int32)), .val (.int (0 : Int32)), .val .null, .unset] []) := fun t_ k_ => R34 t_ (XS.ifNo X32.here hx rfl (hb hby d4_5) rfl ((if0 _ _).trans (teq rfl).2) k_)
  have R36 : Go p e below P T32 (mkF m 9 #[.val (.ref x), .val (.ref b), .val (.int (0 : Int32)), .val (.int (0 : Int32)), .val .null, .unset] [(.ref x)]) := fun t_ k_ => R35 t_ (XS.aloadN X32.here hx rfl (hb hby d4_8) rfl rfl k_)
  obtain ⟨a37, T37, h37, k37x, t37, kb37, X37, e37, E37, hS37, hk37, hZ, hown, E137, F137, F237, A137, la37, lb37, hC37, hL37, hne37, st37⟩ := ldcCH X32 hx hZ hown (hw _ (List.mem_of_getElem? (i := 25) rfl)) (wS_of hw) e32 hS0 hk0 hEL (List.mem_of_getElem? (i := 0) rfl) C0.1 (text := "") (vs := ((([] : List Int32).map StrChars.lo8).map Value.int)) (z := (Int32.ofNat ([] : List Int32).length)) ⟨by decide, by first | rfl | decide +kernel⟩ (by decide) (by decide) (g := (mkF m 9 #[.val (.ref x), .val (.ref b), .val (.int (0 : Int32)), .val (.int (0 : Int32)), .val .null, .unset] [(.ref x)])) rfl (hb hby d4_9) (n := 0) (by decide) (by decide) (by decide) (by decide)
  have O37 := O0.ext E37
  have C38 := C0.trans hC37
  have R39 : Go p e below P T37 (mkF m 11 #[.val (.ref x), .val (.ref b), .val (.int (0 : Int32)), .val (.int (0 : Int32)), .val .null, .unset] [(.ref a37), (.ref x)]) := fun t_ k_ => R36 t_ (st37 t_ k_)
  obtain ⟨T40, X40, e40, st40⟩ := getF X37 hx hZ hown (host := "") (Or.inl (hw _ (List.mem_of_getElem? (i := 31) rfl))) Via.refl e37 F237 (g := (mkF m 11 #[.val (.ref x), .val (.ref b), .val (.int (0 : Int32)), .val (.int (0 : Int32)), .val .null, .unset] [(.ref a37), (.ref x)])) rfl rfl (hb hby d4_11)
  have R41 : Go p e below P T40 (mkF m 14 #[.val (.ref x), .val (.ref b), .val (.int (0 : Int32)), .val (.int (0 : Int32)), .val .null, .unset] [(.ref t37), (.ref x)]) := fun t_ k_ => R39 t_ (st40 t_ k_)
  have f42 := (P0.ext E37)
  have f43 := (P1.ext E37)
  obtain ⟨T44, h44, X44, e44, W44, st44⟩ := putF X40 hx hZ hown (host := "") (Or.inl (hw _ (List.mem_of_getElem? (i := 31) rfl))) Via.refl e40 f43 f42 (Or.inr ⟨(hw _ (List.mem_of_getElem? (i := 27) rfl)), rfl, hnm⟩) (hw _ (List.mem_of_getElem? (i := 12) rfl)) (ty := (.array .byte)) (by decide) rfl rfl (g := (mkF m 14 #[.val (.ref x), .val (.ref b), .val (.int (0 : Int32)), .val (.int (0 : Int32)), .val .null, .unset] [(.ref t37), (.ref x)])) rfl rfl (hb hby d4_14)
  have f46 := (hC37.safe P0.lt Sw30)
  have Sw45 : Safe Z EL0 _ _ x := f46
  have N44 := Fr.snoc X44 N0 P3
  have Fw44 := f43.same W44
  have O44 := O37.wr W44 P3
  have C47 := C38.trans (CHr.wr W44 Sw45 C38.1)
  have hk47 := Nat.le_trans hk37 (Keep.of_wr W44).1
  have R48 : Go p e below P T44 (mkF m 17 #[.val (.ref x), .val (.ref b), .val (.int (0 : Int32)), .val (.int (0 : Int32)), .val .null, .unset] []) := fun t_ k_ => R41 t_ (st44 t_ k_)
  have R49 : Go p e below P T44 (mkF m 18 #[.val (.ref x), .val (.ref b), .val (.int (0 : Int32)), .val (.int (0 : Int32)), .val .null, .unset] [(.ref x)]) := fun t_ k_ => R48 t_ (XS.aloadN X44.here hx rfl (hb hby d4_17) rfl rfl k_)
  obtain ⟨a50, T50, h50, k50x, t50, kb50, X50, e50, E50, hS50, hk50, hZ, hown, E150, F150, F250, A150, la50, lb50, hC50, hL50, hne50, st50⟩ := ldcCH X44 hx hZ hown (hw _ (List.mem_of_getElem? (i := 25) rfl)) (wS_of hw) e44 hS37 hk47 hEL (List.mem_of_getElem? (i := 0) rfl) C47.1 (text := "") (vs := ((([] : List Int32).map StrChars.lo8).map Value.int)) (z := (Int32.ofNat ([] : List Int32).length)) ⟨by decide, by first | rfl | decide +kernel⟩ (by decide) (by decide) (g := (mkF m 18 #[.val (.ref x), .val (.ref b), .val (.int (0 : Int32)), .val (.int (0 : Int32)), .val .null, .unset] [(.ref x)])) rfl (hb hby d4_18) (n := 0) (by decide) (by decide) (by decide) (by decide)
  have O50 := O44.ext E50
  have C51 := C47.trans hC50
  have R52 : Go p e below P T50 (mkF m 20 #[.val (.ref x), .val (.ref b), .val (.int (0 : Int32)), .val (.int (0 : Int32)), .val .null, .unset] [(.ref a50), (.ref x)]) := fun t_ k_ => R49 t_ (st50 t_ k_)
  obtain ⟨T53, X53, e53, st53⟩ := getF X50 hx hZ hown (host := "") (Or.inl (hw _ (List.mem_of_getElem? (i := 32) rfl))) Via.refl e50 F150 (g := (mkF m 20 #[.val (.ref x), .val (.ref b), .val (.int (0 : Int32)), .val (.int (0 : Int32)), .val .null, .unset] [(.ref a50), (.ref x)])) rfl rfl (hb hby d4_20)
  have R54 : Go p e below P T53 (mkF m 23 #[.val (.ref x), .val (.ref b), .val (.int (0 : Int32)), .val (.int (0 : Int32)), .val .null, .unset] [(.int (0 : Int32)), (.ref x)]) := fun t_ k_ => R52 t_ (st53 t_ k_)
  have f55 := ((f42.wr W44).ext E50)
  have f56 := (((P2.ext E37).other W44 (Or.inr (slot_ne (Or.inr (hw _ (List.mem_of_getElem? (i := 28) rfl))) (Or.inr (hw _ (List.mem_of_getElem? (i := 27) rfl))) (by decide) (t := .byte) (t' := (.array .byte)) (by decide) (by decide)))).ext E50)
  obtain ⟨T57, h57, X57, e57, W57, st57⟩ := putFN X53 hx hZ hown (hw _ (List.mem_of_getElem? (i := 32) rfl)) Via.refl e53 f56 f55 (Or.inr ⟨(hw _ (List.mem_of_getElem? (i := 28) rfl)), rfl, hnm⟩) (hw _ (List.mem_of_getElem? (i := 12) rfl)) (ty := .byte) (v' := (.int (0 : Int32))) (by decide) rfl rfl (g := (mkF m 23 #[.val (.ref x), .val (.ref b), .val (.int (0 : Int32)), .val (.int (0 : Int32)), .val .null, .unset] [(.int (0 : Int32)), (.ref x)])) rfl rfl (hb hby d4_23)
  have f59 := (hC50.safe (f42.wr W44).lt (Safe.wr W44 Sw45 C38.1 Sw45))
  have Sw58 : Safe Z EL0 _ _ x := f59
  have N57 := Fr.snoc X57 N44 P3
  have Fw57 := f56.same W57
  have O57 := O50.wr W57 P3
  have C60 := C51.trans (CHr.wr W57 Sw58 C51.1)
  have hk60 := Nat.le_trans hk50 (Keep.of_wr W57).1
  have R61 : Go p e below P T57 (mkF m 26 #[.val (.ref x), .val (.ref b), .val (.int (0 : Int32)), .val (.int (0 : Int32)), .val .null, .unset] []) := fun t_ k_ => R54 t_ (st57 t_ k_)
  obtain ⟨fs, hr, hrun, hended, hend⟩ := X57.leaveW hS50 (by rw [e57]; exact hk60 : _ ≤ T57.heap.size) (v := none) (fun _ => rfl)
  have f62 := (f55.wr W57)
  have f63 := ((Fw44.ext E50).other W57 (Or.inr (slot_ne (Or.inr (hw _ (List.mem_of_getElem? (i := 27) rfl))) (Or.inr (hw _ (List.mem_of_getElem? (i := 28) rfl))) (by decide) (t := (.array .byte)) (t' := .byte) (by decide) (by decide))))
  have f64 := (((A137.other W44 (Ne.symm (hne37 _ Sw45).2)).ext E50).other W57 (Ne.symm (hne37 _ Sw45).2))
  have hCe := C60.trans (CHv.at X57 hZ hEL C60.1)
  exact ⟨_, _, hP _ (R61 _ (X57.returnOut hx Bd.returns (hb hby d4_26) hr)), hrun, hended, _, _, rfl, ⟨t37, kb37, rfl, N57, (e57.symm ▸ (((((Keep.refl h0 [x]).ext E37).wr W44 (Or.inl (List.mem_of_getElem? (i := 0) rfl))).ext E50).wr W57 (Or.inl (List.mem_of_getElem? (i := 0) rfl)))), (e57.symm ▸ f62), (e57.symm ▸ Fw57), (e57.symm ▸ f63), (e57.symm ▸ f64)⟩, (by show CHr Z EL0 s.vm s.heap T57.vm T57.heap; rw [hh, e57]; exact hCe), ⟨hend.1, hend.2.1, hend.2.2.1, hend.2.2.2.mono (by decide) (by decide)⟩⟩
theorem ef_strE1 (m : MethodId) (x0 : Addr) (x1 : Addr) : entryFrame m #[(.ref x0), (.ref x1)] 2 = mkF m 0 #[.val (.ref x0), .val (.ref x1)] [] := by first | (simp [entryFrame, mkF, argsToLocals, Value.category]; done) | rfl
theorem d3_0 : decode jdk_42_method_3_code 0 = .ok (.aload_n 0, 1) := by decide +kernel
theorem d3_1 : decode jdk_42_method_3_code 1 = .ok (.aload_n 1, 1) := by decide +kernel
theorem d3_2 : decode jdk_42_method_3_code 2 = .ok (.iconst 0, 1) := by decide +kernel
theorem d3_3 : decode jdk_42_method_3_code 3 = .ok (.aload_n 1, 1) := by decide +kernel
theorem d3_4 : decode jdk_42_method_3_code 4 = .ok (.arraylength, 1) := by decide +kernel
theorem d3_5 : decode jdk_42_method_3_code 5 = .ok (.aconst_null, 1) := by decide +kernel
theorem d3_6 : decode jdk_42_method_3_code 6 = .ok (.invokespecial 27, 3) := by decide +kernel
theorem pd_91162829 : parseMethodDescriptor "([CIILjava/lang/Void;)V" = some ⟨[(.array .char), .int, .int, (.object "java/lang/Void")], none⟩ := by decide +kernel
theorem d3_9 : decode jdk_42_method_3_code 9 = .ok (.return_, 1) := by decide +kernel
def Q_strE1 (Z : State) (x : Addr) (b : Addr) (kc : ClassId) (h0 : Heap) (n0 : Nat) (rv_ : Option Value) (rh_ : Heap) (rL_ : List Loc) : Prop := ∃ t : Addr, ∃ kb : ClassId, (rv_ = none) ∧ (Fr n0 rL_) ∧ (Keep h0 rh_ [x]) ∧ (Exa Z rh_ x "java/lang/String") ∧ (Fld Z rh_ x "java/lang/String" "coder" "B" (.int (0 : Int32))) ∧ (Fld Z rh_ x "java/lang/String" "value" "[B" (.ref t)) ∧ (Arv Z rh_ t kb .byte (Int32.ofNat ([] : List Int32).length) ((([] : List Int32).map StrChars.lo8).map Value.int) (.int (0 : Int32)))
set_option maxRecDepth 65536 in
set_option maxHeartbeats 40000000 in
theorem strE1 (l : Launch) (Z : State) (a0 : Array Value) (hw : ∀ d ∈ tables_1, d.before a0 Z = true) (ws : List Jvm.Cond) (x : Addr) (b : Addr) (kc : ClassId) (h0 : Heap) (n0 : Nat) (O0 : Old Z n0 h0) (hEL : EW Z a0 EL0) (P0 : Exa Z h0 x "java/lang/String") (P1 : Fld Z h0 x "java/lang/String" "value" "[B" .null) (P2 : Fld Z h0 x "java/lang/String" "coder" "B" (.int (0 : Int32))) (P3 : n0 ≤ x) (P4 : Arv Z h0 b kc .char (0 : Int32) [] (.int (0 : Int32))) :
    MetFree l (⟨"java/lang/String", "<init>", "([C)V"⟩ : MethodName) (head1 (Jvm.Cond.code (⟨"java/lang/String", "<init>", "([C)V"⟩ : MethodName) jdk_42_method_3_code 2 none :: ws) ({ frames := 2, cells := 4, slots := 8, locals := 29 } : Room)) (fun a_ U_ => a_ = #[(.ref x), (.ref b)] ∧ Z.Warmed39 U_.vm ∧ U_.heap = h0 ∧ CHv Z EL0 U_.vm h0) (fun _ _ _ _ _ => True) (fun _ U_ o_ U_' => ∃ v_ L_, o_ = .returned v_ ∧ Q_strE1 Z x b kc h0 n0 v_ U_'.heap L_ ∧ CHr Z EL0 U_.vm U_.heap U_'.vm U_'.heap ∧ ReturnedEndW U_ o_ U_' L_ ({ frames := 2, cells := 4, slots := 8, locals := 29 } : Room).cells ({ frames := 2, cells := 4, slots := 8, locals := 29 } : Room).slots) := by
  refine MetFree.of_bodySF (plainFor_of_name pn_47582652) hisR ?_
  intro p e s m args below meth c s₁ Bd hml0 hP0 hK
  obtain ⟨rfl, hZ, hh, hCH⟩ := hP0
  have hx := Bd.exec
  have hby := Bd.bytes
  have hml : c.maxLocals = 2 := hml0
  have hown : s.vm.findClass "java/lang/String" = some m.cls := findClass_of_methodNamed Bd.named
  have hnm := (name_of_methodNamed Bd.named Bd.method).1
  have hS0 : s.Since s.vm 0 := (State.WarmedH.refl s).since 0
  have hk0 : 0 ≤ h0.size := Nat.zero_le _
  have C0 : CHr Z EL0 s.vm h0 s.vm h0 := CHr.refl hCH
  have X0 : Stand p l e ({ frames := 2, cells := 4, slots := 8, locals := 29 } : Room) (s.setVm s.vm) m #[(.ref x), (.ref b)] below meth c s₁ [] 0 0 := Stand.of_body Bd
  have e0 : s₁.heap = h0 := by rw [← hh, Bd.state]; rfl
  have N0 := Fr.nil n0
  obtain ⟨P, hP, R0⟩ : ∃ P : State → Prop, (∀ t_, P t_ → Steps p.tables e below (s₁.setTop (entryFrame m #[(.ref x), (.ref b)] 2)) t_) ∧ Go p e below P s₁ (mkF m 0 #[.val (.ref x), .val (.ref b)] []) := ⟨_, fun _ h => h, fun t_ k_ => castTop (ef_strE1 m x b) k_⟩
  have R65 : Go p e below P s₁ (mkF m 1 #[.val (.ref x), .val (.ref b)] [(.ref x)]) := fun t_ k_ => R0 t_ (XS.aloadN X0.here hx rfl (hb hby d3_0) rfl rfl k_)
  have R66 : Go p e below P s₁ (mkF m 2 #[.val (.ref x), .val (.ref b)] [(.ref b), (.ref x)]) := fun t_ k_ => R65 t_ (XS.aloadN X0.here hx rfl (hb hby d3_1) rfl rfl k_)
  have R67 : Go p e below P s₁ (mkF m 3 #[.val (.ref x), .val (.ref b)] [(.int (0 : Int32)), (.ref b), (.ref x)]) := fun t_ k_ => R66 t_ (XS.iconst X0.here hx rfl (hb hby d3_2) k_)
  have R68 : Go p e below P s₁ (mkF m 4 #[.val (.ref x), .val (.ref b)] [(.ref b), (.int (0 : Int32)), (.ref b), (.ref x)]) := fun t_ k_ => R67 t_ (XS.aloadN X0.here hx rfl (hb hby d3_3) rfl rfl k_)
  obtain ⟨cl69, cl69A, -, cl69S, cl69N, -, -⟩ := id P4
  have R70 : Go p e below P s₁ (mkF m 5 #[.val (.ref x), .val (.ref b)] [(.int (0 : Int32)), (.int (0 : Int32)), (.ref b), (.ref x)]) := fun t_ k_ => R68 t_ (X0.arraylength hx (by rw [e0]; exact cl69A.1) (State.isArrayOf_alike hZ.alike cl69A.2.1) (g := (mkF m 4 #[.val (.ref x), .val (.ref b)] [(.ref b), (.int (0 : Int32)), (.ref b), (.ref x)])) rfl rfl (hb hby d3_4) t_ (by rw [len_of cl69S cl69N]; exact k_))
  have R71 : Go p e below P s₁ (mkF m 6 #[.val (.ref x), .val (.ref b)] [.null, (.int (0 : Int32)), (.int (0 : Int32)), (.ref b), (.ref x)]) := fun t_ k_ => R70 t_ (XS.aconstNull X0.here hx rfl (hb hby d3_5) k_)
  obtain ⟨rv72, _, ⟨T72, L72, k72, n72⟩, -, X72, hT72, hG72, ⟨Lc72, hQ72, l72, y72, z72, hC72⟩, st72⟩ := X0.specialBackS hx (y := (⟨"java/lang/String", "<init>", "([CIILjava/lang/Void;)V"⟩ : MethodName)) rfl hown (mvT hZ (hw _ (List.mem_of_getElem? (i := 18) rfl))) (mvT hZ (hw _ (List.mem_of_getElem? (i := 19) rfl))) (mvT hZ (hw _ (List.mem_of_getElem? (i := 21) rfl))) (by decide) (backOfSH (W := 0) (strE4 l Z a0 hw [] x b h0 n0 O0 hEL P0 P1 P2 P3) hZ (hw _ (List.mem_of_getElem? (i := 21) rfl)) (hw _ (List.mem_of_getElem? (i := 13) rfl)) (by decide) (by decide) hEL C0.1) (g := (mkF m 6 #[.val (.ref x), .val (.ref b)] [.null, (.int (0 : Int32)), (.int (0 : Int32)), (.ref b), (.ref x)])) rfl (by rw [hml]; rfl) (Steps.refl _) (a := x) (argsL := [(.ref b), (.int (0 : Int32)), (.int (0 : Int32)), .null]) (rest := []) (lenOf pd_91162829 rfl) rfl (by show 2 * 0 + _ ≤ _; exact Nat.le_of_eq rfl) (hb hby d3_6) (fun _ _ => ⟨rfl, e0, (by decide : 0 + 4 ≤ _), (by decide : 0 + 8 ≤ _)⟩)
  dsimp only [Pt.U, Pt.locs, Pt.cells, Pt.slots] at X72 hT72 hG72 l72 y72 z72 hC72 st72 hQ72
  subst l72 y72 z72
  obtain ⟨X72, hS72, hZ, hown⟩ := rebS hS0 (by rw [e0]; exact hk0) X72 hT72 hG72 hZ hown
  have hk72 : T72.heap.size ≤ T72.heap.size := Nat.le_refl _
  obtain ⟨t_72, kb_72, rfl, N72q, K72, p72_0, p72_1, p72_2, p72_3⟩ := hQ72
  have N72 := Fr.app N0 N72q
  have O72 := O0.keep K72 (allS P3 all0)
  have C73 := C0.trans hC72
  have R74 : Go p e below P T72 (mkF m 9 #[.val (.ref x), .val (.ref b)] []) := fun t_ k_ => R71 t_ (st72.trans k_)
  obtain ⟨fs, hr, hrun, hended, hend⟩ := X72.leaveW hS72 (by rw [(rfl : T72.heap = T72.heap)]; exact hk72 : _ ≤ T72.heap.size) (v := none) (fun _ => rfl)
  have hCe := C73.trans (CHv.at X72 hZ hEL C73.1)
  exact ⟨_, _, hP _ (R74 _ (X72.returnOut hx Bd.returns (hb hby d3_9) hr)), hrun, hended, _, _, rfl, ⟨t_72, kb_72, rfl, N72, ((Keep.refl h0 [x]).trans K72 (allS (Or.inl (List.mem_of_getElem? (i := 0) rfl)) all0)), p72_0, p72_1, p72_2, p72_3⟩, (by show CHr Z EL0 s.vm s.heap T72.vm T72.heap; rw [hh, (rfl : T72.heap = T72.heap)]; exact hCe), ⟨hend.1, hend.2.1, hend.2.2.1, hend.2.2.2.mono (by decide) (by decide)⟩⟩
theorem ef_str_ (m : MethodId) (x0 : Int32) (x1 : Int32) (x2 : Int32) : entryFrame m #[(.int x0), (.int x1), (.int x2)] 3 = mkF m 0 #[.val (.int x0), .val (.int x1), .val (.int x2)] [] := by first | (simp [entryFrame, mkF, argsToLocals, Value.category]; done) | rfl
theorem d2_0 : decode method_3_code 0 = .ok (.iload_n 0, 1) := by decide +kernel
theorem d2_1 : decode method_3_code 1 = .ok (.ifCond .ne 14, 3) := by decide +kernel
theorem d2_4 : decode method_3_code 4 = .ok (.new 25, 3) := by decide +kernel
theorem d2_7 : decode method_3_code 7 = .ok (.dup, 1) := by decide +kernel
theorem d2_8 : decode method_3_code 8 = .ok (.iconst 0, 1) := by decide +kernel
theorem d2_9 : decode method_3_code 9 = .ok (.newarray .char, 2) := by decide +kernel
theorem d2_11 : decode method_3_code 11 = .ok (.invokespecial 27, 3) := by decide +kernel
theorem pd_42155922 : parseMethodDescriptor "([C)V" = some ⟨[(.array .char)], none⟩ := by decide +kernel
theorem d2_14 : decode method_3_code 14 = .ok (.areturn, 1) := by decide +kernel
theorem d2_15 : decode method_3_code 15 = .ok (.iload_n 0, 1) := by decide +kernel
theorem d2_16 : decode method_3_code 16 = .ok (.iconst 1, 1) := by decide +kernel
theorem d2_17 : decode method_3_code 17 = .ok (.if_icmp .ne 18, 3) := by decide +kernel
theorem d2_20 : decode method_3_code 20 = .ok (.new 25, 3) := by decide +kernel
theorem d2_23 : decode method_3_code 23 = .ok (.dup, 1) := by decide +kernel
theorem d2_24 : decode method_3_code 24 = .ok (.iconst 1, 1) := by decide +kernel
theorem d2_25 : decode method_3_code 25 = .ok (.newarray .char, 2) := by decide +kernel
theorem d2_27 : decode method_3_code 27 = .ok (.dup, 1) := by decide +kernel
theorem d2_28 : decode method_3_code 28 = .ok (.iconst 0, 1) := by decide +kernel
theorem d2_29 : decode method_3_code 29 = .ok (.iload_n 1, 1) := by decide +kernel
theorem d2_30 : decode method_3_code 30 = .ok (.castore, 1) := by decide +kernel
theorem d2_31 : decode method_3_code 31 = .ok (.invokespecial 27, 3) := by decide +kernel
theorem d2_34 : decode method_3_code 34 = .ok (.areturn, 1) := by decide +kernel
theorem d2_35 : decode method_3_code 35 = .ok (.new 25, 3) := by decide +kernel
theorem d2_38 : decode method_3_code 38 = .ok (.dup, 1) := by decide +kernel
theorem d2_39 : decode method_3_code 39 = .ok (.iconst 2, 1) := by decide +kernel
theorem d2_40 : decode method_3_code 40 = .ok (.newarray .char, 2) := by decide +kernel
theorem d2_42 : decode method_3_code 42 = .ok (.dup, 1) := by decide +kernel
theorem d2_43 : decode method_3_code 43 = .ok (.iconst 0, 1) := by decide +kernel
theorem d2_44 : decode method_3_code 44 = .ok (.iload_n 1, 1) := by decide +kernel
theorem d2_45 : decode method_3_code 45 = .ok (.castore, 1) := by decide +kernel
theorem d2_46 : decode method_3_code 46 = .ok (.dup, 1) := by decide +kernel
theorem d2_47 : decode method_3_code 47 = .ok (.iconst 1, 1) := by decide +kernel
theorem d2_48 : decode method_3_code 48 = .ok (.iload_n 2, 1) := by decide +kernel
theorem d2_49 : decode method_3_code 49 = .ok (.castore, 1) := by decide +kernel
theorem d2_50 : decode method_3_code 50 = .ok (.invokespecial 27, 3) := by decide +kernel
theorem d2_53 : decode method_3_code 53 = .ok (.areturn, 1) := by decide +kernel
def Q_str_ (Z : State) (n : Int32) (a : Int32) (b : Int32) (zc : Int32) (h0 : Heap) (n0 : Nat) (rv_ : Option Value) (rh_ : Heap) (rL_ : List Loc) : Prop := ∃ x : Addr, ∃ t : Addr, ∃ kb : ClassId, (rv_ = some (.ref x)) ∧ (Fr n0 rL_) ∧ (Keep h0 rh_ []) ∧ (h0.size ≤ x) ∧ (Exa Z rh_ x "java/lang/String") ∧ (Fld Z rh_ x "java/lang/String" "coder" "B" (.int (0 : Int32))) ∧ (Fld Z rh_ x "java/lang/String" "value" "[B" (.ref t)) ∧ (Arv Z rh_ t kb .byte (Int32.ofNat (strL n a b).length) (((strL n a b).map StrChars.lo8).map Value.int) (.int (0 : Int32)))
set_option maxRecDepth 65536 in
set_option maxHeartbeats 40000000 in
theorem str_ (l : Launch) (Z : State) (a0 : Array Value) (hw : ∀ d ∈ tables_1, d.before a0 Z = true) (ws : List Jvm.Cond) (n : Int32) (a : Int32) (b : Int32) (zc : Int32) (h0 : Heap) (n0 : Nat) (O0 : Old Z n0 h0) (hEL : EW Z a0 EL0) (P0 : Sta Z Z.heap "java/lang/String" "COMPACT_STRINGS" "Z" (.int zc)) (P1 : ¬ zc = 0) (P2 : nar .char a = a ∧ ¬ a < 0 ∧ ¬ (255 : Int32) < a) (P3 : nar .char b = b ∧ ¬ b < 0 ∧ ¬ (255 : Int32) < b) :
    MetFree l (⟨"com/example/covrage/covrage/model/TokenIsNamePinLaw", "str", "(ICC)Ljava/lang/String;"⟩ : MethodName) (head1 (Jvm.Cond.code (⟨"com/example/covrage/covrage/model/TokenIsNamePinLaw", "str", "(ICC)Ljava/lang/String;"⟩ : MethodName) method_3_code 3 (some (.object "java/lang/String")) :: ws) ({ frames := 4, cells := 6, slots := 12, locals := 66 } : Room)) (fun a_ U_ => a_ = #[(.int n), (.int a), (.int b)] ∧ Z.Warmed39 U_.vm ∧ U_.heap = h0 ∧ CHv Z EL0 U_.vm h0) (fun _ _ _ _ _ => True) (fun _ U_ o_ U_' => ∃ v_ L_, o_ = .returned v_ ∧ Q_str_ Z n a b zc h0 n0 v_ U_'.heap L_ ∧ CHr Z EL0 U_.vm U_.heap U_'.vm U_'.heap ∧ ReturnedEndW U_ o_ U_' L_ ({ frames := 4, cells := 6, slots := 12, locals := 66 } : Room).cells ({ frames := 4, cells := 6, slots := 12, locals := 66 } : Room).slots) := by
  have hzc := P1
  have ha := P2
  have hb' := P3
  refine MetFree.of_bodySF (plainFor_of_name pn_95334719) hisR ?_
  intro p e s m args below meth c s₁ Bd hml0 hP0 hK
  obtain ⟨rfl, hZ, hh, hCH⟩ := hP0
  have hx := Bd.exec
  have hby := Bd.bytes
  have hml : c.maxLocals = 3 := hml0
  have hown : s.vm.findClass "com/example/covrage/covrage/model/TokenIsNamePinLaw" = some m.cls := findClass_of_methodNamed Bd.named
  have hnm := (name_of_methodNamed Bd.named Bd.method).1
  have hS0 : s.Since s.vm 0 := (State.WarmedH.refl s).since 0
  have hk0 : 0 ≤ h0.size := Nat.zero_le _
  have C0 : CHr Z EL0 s.vm h0 s.vm h0 := CHr.refl hCH
  have X0 : Stand p l e ({ frames := 4, cells := 6, slots := 12, locals := 66 } : Room) (s.setVm s.vm) m #[(.int n), (.int a), (.int b)] below meth c s₁ [] 0 0 := Stand.of_body Bd
  have e0 : s₁.heap = h0 := by rw [← hh, Bd.state]; rfl
  have N0 := Fr.nil n0
  obtain ⟨P, hP, R0⟩ : ∃ P : State → Prop, (∀ t_, P t_ → Steps p.tables e below (s₁.setTop (entryFrame m #[(.int n), (.int a), (.int b)] 3)) t_) ∧ Go p e below P s₁ (mkF m 0 #[.val (.int n), .val (.int a), .val (.int b)] []) := ⟨_, fun _ h => h, fun t_ k_ => castTop (ef_str_ m n a b) k_⟩
  have R75 : Go p e below P s₁ (mkF m 1 #[.val (.int n), .val (.int a), .val (.int b)] [(.int n)]) := fun t_ k_ => R0 t_ (XS.iloadN X0.here hx rfl (hb hby d2_0) rfl k_)
  by_cases hc76 : n = (0 : Int32)
  · have R77 : Go p e below P s₁ (mkF m 4 #[.val (.int n), .val (.int a), .val (.int b)] []) := fun t_ k_ => R75 t_ (XS.ifNo X0.here hx rfl (hb hby d2_1) rfl ((if0 _ _).trans (teq hc76).2) k_)
    obtain ⟨T78, h78, X78, e78, E78, A78, D78, -, st78⟩ := newO X0 hx hZ hown (hw _ (List.mem_of_getElem? (i := 11) rfl)) (hw _ (List.mem_of_getElem? (i := 12) rfl)) (hw _ (List.mem_of_getElem? (i := 13) rfl)) e0 (g := (mkF m 4 #[.val (.int n), .val (.int a), .val (.int b)] [])) rfl (hb hby d2_4) (by decide) (by decide)
    obtain ⟨b78, g78⟩ : ∃ z, z = h0.size := ⟨_, rfl⟩
    rw [← g78] at A78 D78 st78
    have O78 := O0.ext E78
    have C79 := C0.trans (CHr.ext E78 C0.1)
    have hk79 := Nat.le_trans hk0 E78.1
    have Sb78 : Safe Z EL0 _ _ _ := Safe.ext E78 C0.1 (Safe.new (Nat.le_of_eq g78.symm))
    have F78_27 : Fld Z h78 b78 "java/lang/String" "value" "[B" .null := D78 (Or.inr (hw _ (List.mem_of_getElem? (i := 27) rfl))) (ty := (.array .byte)) (by decide)
    have F78_28 : Fld Z h78 b78 "java/lang/String" "coder" "B" (.int (0 : Int32)) := D78 (Or.inr (hw _ (List.mem_of_getElem? (i := 28) rfl))) (ty := .byte) (by decide)
    have R80 : Go p e below P T78 (mkF m 7 #[.val (.int n), .val (.int a), .val (.int b)] [(.ref b78)]) := fun t_ k_ => R77 t_ (st78 t_ k_)
    have R81 : Go p e below P T78 (mkF m 8 #[.val (.int n), .val (.int a), .val (.int b)] [(.ref b78), (.ref b78)]) := fun t_ k_ => R80 t_ (XS.dup X78.here hx rfl (hb hby d2_7) rfl rfl k_)
    have R82 : Go p e below P T78 (mkF m 9 #[.val (.int n), .val (.int a), .val (.int b)] [(.int (0 : Int32)), (.ref b78), (.ref b78)]) := fun t_ k_ => R81 t_ (XS.iconst X78.here hx rfl (hb hby d2_8) k_)
    obtain ⟨T83, h83, k83, X83, e83, E83, A83, st83⟩ := newP X78 hx hZ (hw _ (List.mem_of_getElem? (i := 14) rfl)) e78 (g := (mkF m 9 #[.val (.int n), .val (.int a), .val (.int b)] [(.int (0 : Int32)), (.ref b78), (.ref b78)])) rfl (hb hby d2_9) rfl (by decide) (cap := 0) (by decide) (by decide) (by decide) (by decide)
    obtain ⟨b83, g83⟩ : ∃ z, z = h78.size := ⟨_, rfl⟩
    rw [← g83] at A83 st83
    have O83 := O78.ext E83
    have V83 : Arv Z h83 b83 k83 .char (0 : Int32) [] (.int (0 : Int32)) := (Arv.new A83 (by decide)).pad (pad_rep [] (.int (0 : Int32)) 0)
    have C84 := C79.trans (CHr.ext E83 C79.1)
    have hk84 := Nat.le_trans hk79 E83.1
    have Sb83 : Safe Z EL0 _ _ _ := Safe.ext E83 C79.1 (Safe.new (Nat.le_of_eq g83.symm))
    have R85 : Go p e below P T83 (mkF m 11 #[.val (.int n), .val (.int a), .val (.int b)] [(.ref b83), (.ref b78), (.ref b78)]) := fun t_ k_ => R82 t_ (st83 t_ k_)
    have f86 := (A78.ext E83)
    have f87 := (F78_27.ext E83)
    have f88 := (F78_28.ext E83)
    obtain ⟨rv89, _, ⟨T89, L89, k89, n89⟩, -, X89, hT89, hG89, ⟨Lc89, hQ89, l89, y89, z89, hC89⟩, st89⟩ := X83.specialBackS hx (y := (⟨"java/lang/String", "<init>", "([C)V"⟩ : MethodName)) rfl hown (mvT hZ (hw _ (List.mem_of_getElem? (i := 15) rfl))) (mvT hZ (hw _ (List.mem_of_getElem? (i := 16) rfl))) (mvT hZ (hw _ (List.mem_of_getElem? (i := 17) rfl))) (by decide) (backOfSH (W := 1) (strE1 l Z a0 hw [] b78 b83 k83 h83 n0 O83 hEL f86 f87 f88 (Nat.le_trans (oldLe O0) (Nat.le_of_eq g78.symm)) V83) hZ (hw _ (List.mem_of_getElem? (i := 17) rfl)) (hw _ (List.mem_of_getElem? (i := 13) rfl)) (by decide) (by decide) hEL C84.1) (g := (mkF m 11 #[.val (.int n), .val (.int a), .val (.int b)] [(.ref b83), (.ref b78), (.ref b78)])) rfl (by rw [hml]; rfl) (Steps.refl _) (a := b78) (argsL := [(.ref b83)]) (rest := [(.ref b78)]) (lenOf pd_42155922 rfl) rfl (by show 2 * 0 + _ ≤ _; exact Nat.le_of_eq rfl) (hb hby d2_11) (fun _ _ => ⟨rfl, e83, (by decide : 2 + 4 ≤ _), (by decide : 4 + 8 ≤ _)⟩)
    dsimp only [Pt.U, Pt.locs, Pt.cells, Pt.slots] at X89 hT89 hG89 l89 y89 z89 hC89 st89 hQ89
    subst l89 y89 z89
    obtain ⟨X89, hS89, hZ, hown⟩ := rebS hS0 (by rw [e83]; exact hk84) X89 hT89 hG89 hZ hown
    have hk89 : T89.heap.size ≤ T89.heap.size := Nat.le_refl _
    obtain ⟨t_89, kb_89, rfl, N89q, K89, p89_0, p89_1, p89_2, p89_3⟩ := hQ89
    have N89 := Fr.app N0 N89q
    have O89 := O83.keep K89 (allS (Nat.le_trans (oldLe O0) (Nat.le_of_eq g78.symm)) all0)
    have C90 := C84.trans hC89
    have R91 : Go p e below P T89 (mkF m 14 #[.val (.int n), .val (.int a), .val (.int b)] [(.ref b78)]) := fun t_ k_ => R85 t_ (st89.trans k_)
    obtain ⟨fs, hr, hrun, hended, hend⟩ := X89.leaveW hS89 (by rw [(rfl : T89.heap = T89.heap)]; exact hk89 : _ ≤ T89.heap.size) (v := some (.ref b78)) (fun h => by rw [Bd.returns] at h; cases h)
    have hCe := C90.trans (CHv.at X89 hZ hEL C90.1)
    exact ⟨_, _, hP _ (R91 _ (retOut X89 hx Bd.returns rfl (Or.inr (Or.inr (Or.inr (Or.inr ⟨rfl, rfl, rfl⟩)))) (hb hby d2_14) hr)), hrun, hended, _, _, rfl, ⟨b78, t_89, kb_89, rfl, N89, ((((Keep.refl h0 []).ext E78).ext E83).trans K89 (allS (Or.inr (Nat.le_of_eq g78.symm)) all0)), (Nat.le_of_eq g78.symm), p89_0, p89_1, p89_2, (by rw [show strL n a b = [] from by simp [strL, hc76]]; exact p89_3)⟩, (by show CHr Z EL0 s.vm s.heap T89.vm T89.heap; rw [hh, (rfl : T89.heap = T89.heap)]; exact hCe), ⟨hend.1, hend.2.1, hend.2.2.1, hend.2.2.2.mono (by decide) (by decide)⟩⟩
  · have R92 : Go p e below P s₁ (mkF m 15 #[.val (.int n), .val (.int a), .val (.int b)] []) := fun t_ k_ => R75 t_ (XS.ifYes X0.here hx rfl (pc0 := 1) (pc' := 15) rfl (hb hby d2_1) rfl ((if0 _ _).trans (feq hc76).2) (by decide) (by decide) k_)
    have R93 : Go p e below P s₁ (mkF m 16 #[.val (.int n), .val (.int a), .val (.int b)] [(.int n)]) := fun t_ k_ => R92 t_ (XS.iloadN X0.here hx rfl (hb hby d2_15) rfl k_)
    have R94 : Go p e below P s₁ (mkF m 17 #[.val (.int n), .val (.int a), .val (.int b)] [(.int (1 : Int32)), (.int n)]) := fun t_ k_ => R93 t_ (XS.iconst X0.here hx rfl (hb hby d2_16) k_)
    by_cases hc95 : n = (1 : Int32)
    · have R96 : Go p e below P s₁ (mkF m 20 #[.val (.int n), .val (.int a), .val (.int b)] []) := fun t_ k_ => R94 t_ (XS.icmpNo X0.here hx rfl (hb hby d2_17) rfl (teq hc95).2 k_)
      obtain ⟨T97, h97, X97, e97, E97, A97, D97, -, st97⟩ := newO X0 hx hZ hown (hw _ (List.mem_of_getElem? (i := 11) rfl)) (hw _ (List.mem_of_getElem? (i := 12) rfl)) (hw _ (List.mem_of_getElem? (i := 13) rfl)) e0 (g := (mkF m 20 #[.val (.int n), .val (.int a), .val (.int b)] [])) rfl (hb hby d2_20) (by decide) (by decide)
      obtain ⟨b97, g97⟩ : ∃ z, z = h0.size := ⟨_, rfl⟩
      rw [← g97] at A97 D97 st97
      have O97 := O0.ext E97
      have C98 := C0.trans (CHr.ext E97 C0.1)
      have hk98 := Nat.le_trans hk0 E97.1
      have Sb97 : Safe Z EL0 _ _ _ := Safe.ext E97 C0.1 (Safe.new (Nat.le_of_eq g97.symm))
      have F97_27 : Fld Z h97 b97 "java/lang/String" "value" "[B" .null := D97 (Or.inr (hw _ (List.mem_of_getElem? (i := 27) rfl))) (ty := (.array .byte)) (by decide)
      have F97_28 : Fld Z h97 b97 "java/lang/String" "coder" "B" (.int (0 : Int32)) := D97 (Or.inr (hw _ (List.mem_of_getElem? (i := 28) rfl))) (ty := .byte) (by decide)
      have R99 : Go p e below P T97 (mkF m 23 #[.val (.int n), .val (.int a), .val (.int b)] [(.ref b97)]) := fun t_ k_ => R96 t_ (st97 t_ k_)
      have R100 : Go p e below P T97 (mkF m 24 #[.val (.int n), .val (.int a), .val (.int b)] [(.ref b97), (.ref b97)]) := fun t_ k_ => R99 t_ (XS.dup X97.here hx rfl (hb hby d2_23) rfl rfl k_)
      have R101 : Go p e below P T97 (mkF m 25 #[.val (.int n), .val (.int a), .val (.int b)] [(.int (1 : Int32)), (.ref b97), (.ref b97)]) := fun t_ k_ => R100 t_ (XS.iconst X97.here hx rfl (hb hby d2_24) k_)
      obtain ⟨T102, h102, k102, X102, e102, E102, A102, st102⟩ := newP X97 hx hZ (hw _ (List.mem_of_getElem? (i := 14) rfl)) e97 (g := (mkF m 25 #[.val (.int n), .val (.int a), .val (.int b)] [(.int (1 : Int32)), (.ref b97), (.ref b97)])) rfl (hb hby d2_25) rfl (by decide) (cap := 1) (by decide) (by decide) (by decide) (by decide)
      obtain ⟨b102, g102⟩ : ∃ z, z = h97.size := ⟨_, rfl⟩
      rw [← g102] at A102 st102
      have O102 := O97.ext E102
      have V102 : Arv Z h102 b102 k102 .char (1 : Int32) [(.int (0 : Int32))] (.int (0 : Int32)) := (Arv.new A102 (by decide)).pad (pad_rep [] (.int (0 : Int32)) 1)
      have C103 := C98.trans (CHr.ext E102 C98.1)
      have hk103 := Nat.le_trans hk98 E102.1
      have Sb102 : Safe Z EL0 _ _ _ := Safe.ext E102 C98.1 (Safe.new (Nat.le_of_eq g102.symm))
      have R104 : Go p e below P T102 (mkF m 27 #[.val (.int n), .val (.int a), .val (.int b)] [(.ref b102), (.ref b97), (.ref b97)]) := fun t_ k_ => R101 t_ (st102 t_ k_)
      have R105 : Go p e below P T102 (mkF m 28 #[.val (.int n), .val (.int a), .val (.int b)] [(.ref b102), (.ref b102), (.ref b97), (.ref b97)]) := fun t_ k_ => R104 t_ (XS.dup X102.here hx rfl (hb hby d2_27) rfl rfl k_)
      have R106 : Go p e below P T102 (mkF m 29 #[.val (.int n), .val (.int a), .val (.int b)] [(.int (0 : Int32)), (.ref b102), (.ref b102), (.ref b97), (.ref b97)]) := fun t_ k_ => R105 t_ (XS.iconst X102.here hx rfl (hb hby d2_28) k_)
      have R107 : Go p e below P T102 (mkF m 30 #[.val (.int n), .val (.int a), .val (.int b)] [(.int a), (.int (0 : Int32)), (.ref b102), (.ref b102), (.ref b97), (.ref b97)]) := fun t_ k_ => R106 t_ (XS.iloadN X102.here hx rfl (hb hby d2_29) rfl k_)
      obtain ⟨cl108, cl108A, cl108q, cl108S, cl108N, cl108H, cl108G⟩ := id V102
      obtain ⟨T109, h109, X109, e109, W109, st109⟩ := stC X102 hx hZ e102 cl108A (j := (0 : Int32)) (inb_of cl108S ⟨by decide, by decide⟩) (g := (mkF m 30 #[.val (.int n), .val (.int a), .val (.int b)] [(.int a), (.int (0 : Int32)), (.ref b102), (.ref b102), (.ref b97), (.ref b97)])) rfl rfl (hb hby d2_30)
      have V109 : Arv Z h109 b102 k102 .char (1 : Int32) [(.int (nar .char a))] (.int (0 : Int32)) := Arv.set cl108A cl108q cl108S cl108N cl108H cl108G (fits_nar_char _) W109 0 rfl (Nat.le_of_ble_eq_true rfl)
      have Sw110 : Safe Z EL0 _ _ b102 := Sb102
      have N109 := Fr.snoc X109 N0 (Nat.le_trans (oldLe O97) (Nat.le_of_eq g102.symm))
      have O109 := O102.wr W109 (Nat.le_trans (oldLe O97) (Nat.le_of_eq g102.symm))
      have V109s : Arv Z h109 b102 k102 .char (1 : Int32) [(.int a)] (.int (0 : Int32)) := by have q := V109; rw [ha.1] at q; exact q
      have C111 := C103.trans (CHr.wr W109 Sw110 C103.1)
      have hk111 := Nat.le_trans hk103 (Keep.of_wr W109).1
      have R112 : Go p e below P T109 (mkF m 31 #[.val (.int n), .val (.int a), .val (.int b)] [(.ref b102), (.ref b97), (.ref b97)]) := fun t_ k_ => R107 t_ (st109 t_ k_)
      have f113 := ((A97.ext E102).wr W109)
      have f114 := ((F97_27.ext E102).other W109 (Or.inl (Nat.ne_of_lt (Nat.lt_of_lt_of_le A97.lt (Nat.le_of_eq g102.symm)))))
      have f115 := ((F97_28.ext E102).other W109 (Or.inl (Nat.ne_of_lt (Nat.lt_of_lt_of_le A97.lt (Nat.le_of_eq g102.symm)))))
      have f117 := (Safe.wr W109 Sw110 C103.1 (Safe.ext E102 C98.1 Sb97))
      have Sw116 : Safe Z EL0 _ _ b97 := f117
      obtain ⟨rv118, _, ⟨T118, L118, k118, n118⟩, -, X118, ⟨Lc118, hQ118, l118, y118, z118⟩, st118⟩ := X109.specialBack hx (y := (⟨"java/lang/String", "<init>", "([C)V"⟩ : MethodName)) rfl hown (mvT hZ (hw _ (List.mem_of_getElem? (i := 15) rfl))) (mvT hZ (hw _ (List.mem_of_getElem? (i := 16) rfl))) (mvT hZ (hw _ (List.mem_of_getElem? (i := 17) rfl))) (by decide) (StrChars.Road.backV (W := 1) hZ (w_backV hw) (kI := 4) (hw _ (List.mem_of_getElem? (i := 12) rfl)) (cs := ([a] : List Int32)) (bs := ([a] : List Int32).map (fun c => c.toInt8.toInt32)) (n := 1) (Nat.le_trans (oldLe O0) (Nat.le_of_eq g97.symm)) (oldLe O109) f113 f114 f115 V109s (P0.ext O109.2) hzc rfl rfl (by decide) (by decide) (by intro c hc; simp only [List.mem_cons, List.not_mem_nil, or_false] at hc; subst hc; exact ha.2) rfl (by decide) (by decide)) (g := (mkF m 31 #[.val (.int n), .val (.int a), .val (.int b)] [(.ref b102), (.ref b97), (.ref b97)])) rfl (by rw [hml]; rfl) (Steps.refl _) (a := b97) (argsL := [(.ref b102)]) (rest := [(.ref b97)]) (lenOf pd_42155922 rfl) rfl (by show 2 * 0 + _ ≤ _; exact Nat.le_of_eq rfl) (hb hby d2_31) (fun _ _ => ⟨rfl, e109, (by decide : 2 + 1 ≤ _), (by decide : 5 + 1 ≤ _)⟩)
      dsimp only [Pt.U, Pt.locs, Pt.cells, Pt.slots] at X118 l118 y118 z118 st118 hQ118
      subst l118 y118 z118
      obtain ⟨rfl, N118q, K118, pE118, pC118, t118, kb118, -, lt118, tn118, pV118, pA118⟩ := hQ118
      have N118 := Fr.app N109 N118q
      have O118 := O109.keep K118 (allS (Nat.le_trans (oldLe O0) (Nat.le_of_eq g97.symm)) all0)
      have C119 := C111.trans (CHr.keep K118 (sfS Sw116 sf0) C111.1)
      have hk119 := Nat.le_trans hk111 K118.1
      have pB118 : Arv Z T118.heap t118 kb118 .byte (Int32.ofNat ([a] : List Int32).length) ((([a] : List Int32).map StrChars.lo8).map Value.int) (.int (0 : Int32)) := pA118
      have R120 : Go p e below P T118 (mkF m 34 #[.val (.int n), .val (.int a), .val (.int b)] [(.ref b97)]) := fun t_ k_ => R112 t_ (st118.trans k_)
      obtain ⟨fs, hr, hrun, hended, hend⟩ := X118.leaveW hS0 (by rw [(rfl : T118.heap = T118.heap)]; exact hk119 : _ ≤ T118.heap.size) (v := some (.ref b97)) (fun h => by rw [Bd.returns] at h; cases h)
      have hCe := C119.trans (CHv.at X118 hZ hEL C119.1)
      exact ⟨_, _, hP _ (R120 _ (retOut X118 hx Bd.returns rfl (Or.inr (Or.inr (Or.inr (Or.inr ⟨rfl, rfl, rfl⟩)))) (hb hby d2_34) hr)), hrun, hended, _, _, rfl, ⟨b97, t118, kb118, rfl, N118, (((((Keep.refl h0 []).ext E97).ext E102).wr W109 (Or.inr (Nat.le_trans ((Keep.refl h0 []).ext E97).1 (Nat.le_of_eq g102.symm)))).trans K118 (allS (Or.inr (Nat.le_of_eq g97.symm)) all0)), (Nat.le_of_eq g97.symm), pE118, pC118, pV118, (by rw [show strL n a b = [a] from by simp [strL, hc76, hc95]]; exact pB118)⟩, (by show CHr Z EL0 s.vm s.heap T118.vm T118.heap; rw [hh, (rfl : T118.heap = T118.heap)]; exact hCe), ⟨hend.1, hend.2.1, hend.2.2.1, hend.2.2.2.mono (by decide) (by decide)⟩⟩
    · have R121 : Go p e below P s₁ (mkF m 35 #[.val (.int n), .val (.int a), .val (.int b)] []) := fun t_ k_ => R94 t_ (XS.icmpYes X0.here hx rfl (pc0 := 17) (pc' := 35) rfl (hb hby d2_17) rfl (feq hc95).2 (by decide) (by decide) k_)
      obtain ⟨T122, h122, X122, e122, E122, A122, D122, -, st122⟩ := newO X0 hx hZ hown (hw _ (List.mem_of_getElem? (i := 11) rfl)) (hw _ (List.mem_of_getElem? (i := 12) rfl)) (hw _ (List.mem_of_getElem? (i := 13) rfl)) e0 (g := (mkF m 35 #[.val (.int n), .val (.int a), .val (.int b)] [])) rfl (hb hby d2_35) (by decide) (by decide)
      obtain ⟨b122, g122⟩ : ∃ z, z = h0.size := ⟨_, rfl⟩
      rw [← g122] at A122 D122 st122
      have O122 := O0.ext E122
      have C123 := C0.trans (CHr.ext E122 C0.1)
      have hk123 := Nat.le_trans hk0 E122.1
      have Sb122 : Safe Z EL0 _ _ _ := Safe.ext E122 C0.1 (Safe.new (Nat.le_of_eq g122.symm))
      have F122_27 : Fld Z h122 b122 "java/lang/String" "value" "[B" .null := D122 (Or.inr (hw _ (List.mem_of_getElem? (i := 27) rfl))) (ty := (.array .byte)) (by decide)
      have F122_28 : Fld Z h122 b122 "java/lang/String" "coder" "B" (.int (0 : Int32)) := D122 (Or.inr (hw _ (List.mem_of_getElem? (i := 28) rfl))) (ty := .byte) (by decide)
      have R124 : Go p e below P T122 (mkF m 38 #[.val (.int n), .val (.int a), .val (.int b)] [(.ref b122)]) := fun t_ k_ => R121 t_ (st122 t_ k_)
      have R125 : Go p e below P T122 (mkF m 39 #[.val (.int n), .val (.int a), .val (.int b)] [(.ref b122), (.ref b122)]) := fun t_ k_ => R124 t_ (XS.dup X122.here hx rfl (hb hby d2_38) rfl rfl k_)
      have R126 : Go p e below P T122 (mkF m 40 #[.val (.int n), .val (.int a), .val (.int b)] [(.int (2 : Int32)), (.ref b122), (.ref b122)]) := fun t_ k_ => R125 t_ (XS.iconst X122.here hx rfl (hb hby d2_39) k_)
      obtain ⟨T127, h127, k127, X127, e127, E127, A127, st127⟩ := newP X122 hx hZ (hw _ (List.mem_of_getElem? (i := 14) rfl)) e122 (g := (mkF m 40 #[.val (.int n), .val (.int a), .val (.int b)] [(.int (2 : Int32)), (.ref b122), (.ref b122)])) rfl (hb hby d2_40) rfl (by decide) (cap := 2) (by decide) (by decide) (by decide) (by decide)
      obtain ⟨b127, g127⟩ : ∃ z, z = h122.size := ⟨_, rfl⟩
      rw [← g127] at A127 st127
      have O127 := O122.ext E127
      have V127 : Arv Z h127 b127 k127 .char (2 : Int32) [(.int (0 : Int32)), (.int (0 : Int32))] (.int (0 : Int32)) := (Arv.new A127 (by decide)).pad (pad_rep [] (.int (0 : Int32)) 2)
      have C128 := C123.trans (CHr.ext E127 C123.1)
      have hk128 := Nat.le_trans hk123 E127.1
      have Sb127 : Safe Z EL0 _ _ _ := Safe.ext E127 C123.1 (Safe.new (Nat.le_of_eq g127.symm))
      have R129 : Go p e below P T127 (mkF m 42 #[.val (.int n), .val (.int a), .val (.int b)] [(.ref b127), (.ref b122), (.ref b122)]) := fun t_ k_ => R126 t_ (st127 t_ k_)
      have R130 : Go p e below P T127 (mkF m 43 #[.val (.int n), .val (.int a), .val (.int b)] [(.ref b127), (.ref b127), (.ref b122), (.ref b122)]) := fun t_ k_ => R129 t_ (XS.dup X127.here hx rfl (hb hby d2_42) rfl rfl k_)
      have R131 : Go p e below P T127 (mkF m 44 #[.val (.int n), .val (.int a), .val (.int b)] [(.int (0 : Int32)), (.ref b127), (.ref b127), (.ref b122), (.ref b122)]) := fun t_ k_ => R130 t_ (XS.iconst X127.here hx rfl (hb hby d2_43) k_)
      have R132 : Go p e below P T127 (mkF m 45 #[.val (.int n), .val (.int a), .val (.int b)] [(.int a), (.int (0 : Int32)), (.ref b127), (.ref b127), (.ref b122), (.ref b122)]) := fun t_ k_ => R131 t_ (XS.iloadN X127.here hx rfl (hb hby d2_44) rfl k_)
      obtain ⟨cl133, cl133A, cl133q, cl133S, cl133N, cl133H, cl133G⟩ := id V127
      obtain ⟨T134, h134, X134, e134, W134, st134⟩ := stC X127 hx hZ e127 cl133A (j := (0 : Int32)) (inb_of cl133S ⟨by decide, by decide⟩) (g := (mkF m 45 #[.val (.int n), .val (.int a), .val (.int b)] [(.int a), (.int (0 : Int32)), (.ref b127), (.ref b127), (.ref b122), (.ref b122)])) rfl rfl (hb hby d2_45)
      have V134 : Arv Z h134 b127 k127 .char (2 : Int32) [(.int (nar .char a)), (.int (0 : Int32))] (.int (0 : Int32)) := Arv.set cl133A cl133q cl133S cl133N cl133H cl133G (fits_nar_char _) W134 0 rfl (Nat.le_of_ble_eq_true rfl)
      have Sw135 : Safe Z EL0 _ _ b127 := Sb127
      have N134 := Fr.snoc X134 N0 (Nat.le_trans (oldLe O122) (Nat.le_of_eq g127.symm))
      have O134 := O127.wr W134 (Nat.le_trans (oldLe O122) (Nat.le_of_eq g127.symm))
      have V134s : Arv Z h134 b127 k127 .char (2 : Int32) [(.int a), (.int (0 : Int32))] (.int (0 : Int32)) := by have q := V134; rw [ha.1] at q; exact q
      have C136 := C128.trans (CHr.wr W134 Sw135 C128.1)
      have hk136 := Nat.le_trans hk128 (Keep.of_wr W134).1
      have R137 : Go p e below P T134 (mkF m 46 #[.val (.int n), .val (.int a), .val (.int b)] [(.ref b127), (.ref b122), (.ref b122)]) := fun t_ k_ => R132 t_ (st134 t_ k_)
      have R138 : Go p e below P T134 (mkF m 47 #[.val (.int n), .val (.int a), .val (.int b)] [(.ref b127), (.ref b127), (.ref b122), (.ref b122)]) := fun t_ k_ => R137 t_ (XS.dup X134.here hx rfl (hb hby d2_46) rfl rfl k_)
      have R139 : Go p e below P T134 (mkF m 48 #[.val (.int n), .val (.int a), .val (.int b)] [(.int (1 : Int32)), (.ref b127), (.ref b127), (.ref b122), (.ref b122)]) := fun t_ k_ => R138 t_ (XS.iconst X134.here hx rfl (hb hby d2_47) k_)
      have R140 : Go p e below P T134 (mkF m 49 #[.val (.int n), .val (.int a), .val (.int b)] [(.int b), (.int (1 : Int32)), (.ref b127), (.ref b127), (.ref b122), (.ref b122)]) := fun t_ k_ => R139 t_ (XS.iloadN X134.here hx rfl (hb hby d2_48) rfl k_)
      obtain ⟨cl141, cl141A, cl141q, cl141S, cl141N, cl141H, cl141G⟩ := id V134s
      obtain ⟨T142, h142, X142, e142, W142, st142⟩ := stC X134 hx hZ e134 cl141A (j := (1 : Int32)) (inb_of cl141S ⟨by decide, by decide⟩) (g := (mkF m 49 #[.val (.int n), .val (.int a), .val (.int b)] [(.int b), (.int (1 : Int32)), (.ref b127), (.ref b127), (.ref b122), (.ref b122)])) rfl rfl (hb hby d2_49)
      have V142 : Arv Z h142 b127 k127 .char (2 : Int32) [(.int a), (.int (nar .char b))] (.int (0 : Int32)) := Arv.set cl141A cl141q cl141S cl141N cl141H cl141G (fits_nar_char _) W142 1 rfl (Nat.le_of_ble_eq_true rfl)
      have f144 := (Safe.wr W134 Sw135 C128.1 Sw135)
      have Sw143 : Safe Z EL0 _ _ b127 := f144
      have N142 := Fr.snoc X142 N134 (Nat.le_trans (oldLe O122) (Nat.le_of_eq g127.symm))
      have O142 := O134.wr W142 (Nat.le_trans (oldLe O122) (Nat.le_of_eq g127.symm))
      have V142s : Arv Z h142 b127 k127 .char (2 : Int32) [(.int a), (.int b)] (.int (0 : Int32)) := by have q := V142; rw [hb'.1] at q; exact q
      have C145 := C136.trans (CHr.wr W142 Sw143 C136.1)
      have hk145 := Nat.le_trans hk136 (Keep.of_wr W142).1
      have R146 : Go p e below P T142 (mkF m 50 #[.val (.int n), .val (.int a), .val (.int b)] [(.ref b127), (.ref b122), (.ref b122)]) := fun t_ k_ => R140 t_ (st142 t_ k_)
      have f147 := (((A122.ext E127).wr W134).wr W142)
      have f148 := (((F122_27.ext E127).other W134 (Or.inl (Nat.ne_of_lt (Nat.lt_of_lt_of_le A122.lt (Nat.le_of_eq g127.symm))))).other W142 (Or.inl (Nat.ne_of_lt (Nat.lt_of_lt_of_le A122.lt (Nat.le_of_eq g127.symm)))))
      have f149 := (((F122_28.ext E127).other W134 (Or.inl (Nat.ne_of_lt (Nat.lt_of_lt_of_le A122.lt (Nat.le_of_eq g127.symm))))).other W142 (Or.inl (Nat.ne_of_lt (Nat.lt_of_lt_of_le A122.lt (Nat.le_of_eq g127.symm)))))
      have f151 := (Safe.wr W142 Sw143 C136.1 (Safe.wr W134 Sw135 C128.1 (Safe.ext E127 C123.1 Sb122)))
      have Sw150 : Safe Z EL0 _ _ b122 := f151
      obtain ⟨rv152, _, ⟨T152, L152, k152, n152⟩, -, X152, ⟨Lc152, hQ152, l152, y152, z152⟩, st152⟩ := X142.specialBack hx (y := (⟨"java/lang/String", "<init>", "([C)V"⟩ : MethodName)) rfl hown (mvT hZ (hw _ (List.mem_of_getElem? (i := 15) rfl))) (mvT hZ (hw _ (List.mem_of_getElem? (i := 16) rfl))) (mvT hZ (hw _ (List.mem_of_getElem? (i := 17) rfl))) (by decide) (StrChars.Road.backV (W := 1) hZ (w_backV hw) (kI := 4) (hw _ (List.mem_of_getElem? (i := 12) rfl)) (cs := ([a, b] : List Int32)) (bs := ([a, b] : List Int32).map (fun c => c.toInt8.toInt32)) (n := 2) (Nat.le_trans (oldLe O0) (Nat.le_of_eq g122.symm)) (oldLe O142) f147 f148 f149 V142s (P0.ext O142.2) hzc rfl rfl (by decide) (by decide) (by intro c hc; simp only [List.mem_cons, List.not_mem_nil, or_false] at hc; rcases hc with rfl | rfl; exact ha.2; exact hb'.2) rfl (by decide) (by decide)) (g := (mkF m 50 #[.val (.int n), .val (.int a), .val (.int b)] [(.ref b127), (.ref b122), (.ref b122)])) rfl (by rw [hml]; rfl) (Steps.refl _) (a := b122) (argsL := [(.ref b127)]) (rest := [(.ref b122)]) (lenOf pd_42155922 rfl) rfl (by show 2 * 0 + _ ≤ _; exact Nat.le_of_eq rfl) (hb hby d2_50) (fun _ _ => ⟨rfl, e142, (by decide : 2 + 1 ≤ _), (by decide : 6 + 2 ≤ _)⟩)
      dsimp only [Pt.U, Pt.locs, Pt.cells, Pt.slots] at X152 l152 y152 z152 st152 hQ152
      subst l152 y152 z152
      obtain ⟨rfl, N152q, K152, pE152, pC152, t152, kb152, -, lt152, tn152, pV152, pA152⟩ := hQ152
      have N152 := Fr.app N142 N152q
      have O152 := O142.keep K152 (allS (Nat.le_trans (oldLe O0) (Nat.le_of_eq g122.symm)) all0)
      have C153 := C145.trans (CHr.keep K152 (sfS Sw150 sf0) C145.1)
      have hk153 := Nat.le_trans hk145 K152.1
      have pB152 : Arv Z T152.heap t152 kb152 .byte (Int32.ofNat ([a, b] : List Int32).length) ((([a, b] : List Int32).map StrChars.lo8).map Value.int) (.int (0 : Int32)) := pA152
      have R154 : Go p e below P T152 (mkF m 53 #[.val (.int n), .val (.int a), .val (.int b)] [(.ref b122)]) := fun t_ k_ => R146 t_ (st152.trans k_)
      obtain ⟨fs, hr, hrun, hended, hend⟩ := X152.leaveW hS0 (by rw [(rfl : T152.heap = T152.heap)]; exact hk153 : _ ≤ T152.heap.size) (v := some (.ref b122)) (fun h => by rw [Bd.returns] at h; cases h)
      have hCe := C153.trans (CHv.at X152 hZ hEL C153.1)
      exact ⟨_, _, hP _ (R154 _ (retOut X152 hx Bd.returns rfl (Or.inr (Or.inr (Or.inr (Or.inr ⟨rfl, rfl, rfl⟩)))) (hb hby d2_53) hr)), hrun, hended, _, _, rfl, ⟨b122, t152, kb152, rfl, N152, ((((((Keep.refl h0 []).ext E122).ext E127).wr W134 (Or.inr (Nat.le_trans ((Keep.refl h0 []).ext E122).1 (Nat.le_of_eq g127.symm)))).wr W142 (Or.inr (Nat.le_trans ((Keep.refl h0 []).ext E122).1 (Nat.le_of_eq g127.symm)))).trans K152 (allS (Or.inr (Nat.le_of_eq g122.symm)) all0)), (Nat.le_of_eq g122.symm), pE152, pC152, pV152, (by rw [show strL n a b = [a, b] from by simp [strL, hc76, hc95]]; exact pB152)⟩, (by show CHr Z EL0 s.vm s.heap T152.vm T152.heap; rw [hh, (rfl : T152.heap = T152.heap)]; exact hCe), ⟨hend.1, hend.2.1, hend.2.2.1, hend.2.2.2.mono (by decide) (by decide)⟩⟩
theorem pn_52442089 : plainName "com/example/covrage/covrage/model/Lexer$Token" = true := by first | (simp [plainName, overriddenIn]; done) | decide +kernel
theorem ef_tokInit_ (m : MethodId) (x0 : Addr) (x1 : Addr) (x2 : Addr) (x3 : Int32) : entryFrame m #[(.ref x0), (.ref x1), (.ref x2), (.int x3)] 4 = mkF m 0 #[.val (.ref x0), .val (.ref x1), .val (.ref x2), .val (.int x3)] [] := by first | (simp [entryFrame, mkF, argsToLocals, Value.category]; done) | rfl
theorem d6_0 : decode prog_30_method_1_code 0 = .ok (.aload_n 0, 1) := by decide +kernel
theorem d6_1 : decode prog_30_method_1_code 1 = .ok (.invokespecial 1, 3) := by decide +kernel
theorem d6_4 : decode prog_30_method_1_code 4 = .ok (.aload_n 0, 1) := by decide +kernel
theorem d6_5 : decode prog_30_method_1_code 5 = .ok (.aload_n 1, 1) := by decide +kernel
theorem d6_6 : decode prog_30_method_1_code 6 = .ok (.putfield 7, 3) := by decide +kernel
theorem d6_9 : decode prog_30_method_1_code 9 = .ok (.aload_n 0, 1) := by decide +kernel
theorem d6_10 : decode prog_30_method_1_code 10 = .ok (.aload_n 2, 1) := by decide +kernel
theorem d6_11 : decode prog_30_method_1_code 11 = .ok (.putfield 13, 3) := by decide +kernel
theorem d6_14 : decode prog_30_method_1_code 14 = .ok (.aload_n 0, 1) := by decide +kernel
theorem d6_15 : decode prog_30_method_1_code 15 = .ok (.iload_n 3, 1) := by decide +kernel
theorem d6_16 : decode prog_30_method_1_code 16 = .ok (.putfield 17, 3) := by decide +kernel
theorem d6_19 : decode prog_30_method_1_code 19 = .ok (.return_, 1) := by decide +kernel
def Q_tokInit_ (Z : State) (a : Addr) (k : Addr) (s_ : Addr) (q : Int32) (h0 : Heap) (n0 : Nat) (rv_ : Option Value) (rh_ : Heap) (rL_ : List Loc) : Prop := (rv_ = none) ∧ (Fr n0 rL_) ∧ (Keep h0 rh_ [a]) ∧ (Exa Z rh_ a "com/example/covrage/covrage/model/Lexer$Token") ∧ (Fld Z rh_ a "com/example/covrage/covrage/model/Lexer$Token" "kind" "Lcom/example/covrage/covrage/model/Lexer$Kind;" (.ref k)) ∧ (Fld Z rh_ a "com/example/covrage/covrage/model/Lexer$Token" "text" "Ljava/lang/String;" (.ref s_)) ∧ (Fld Z rh_ a "com/example/covrage/covrage/model/Lexer$Token" "line" "I" (.int q))
set_option maxRecDepth 65536 in
set_option maxHeartbeats 40000000 in
theorem tokInit_ (l : Launch) (Z : State) (a0 : Array Value) (hw : ∀ d ∈ tables_1, d.before a0 Z = true) (ws : List Jvm.Cond) (a : Addr) (k : Addr) (s_ : Addr) (q : Int32) (h0 : Heap) (n0 : Nat) (O0 : Old Z n0 h0) (P0 : Exa Z h0 a "com/example/covrage/covrage/model/Lexer$Token") (P1 : Fld Z h0 a "com/example/covrage/covrage/model/Lexer$Token" "kind" "Lcom/example/covrage/covrage/model/Lexer$Kind;" .null) (P2 : Fld Z h0 a "com/example/covrage/covrage/model/Lexer$Token" "text" "Ljava/lang/String;" .null) (P3 : Fld Z h0 a "com/example/covrage/covrage/model/Lexer$Token" "line" "I" (.int (0 : Int32))) (P4 : n0 ≤ a) :
    MetFree l (⟨"com/example/covrage/covrage/model/Lexer$Token", "<init>", "(Lcom/example/covrage/covrage/model/Lexer$Kind;Ljava/lang/String;I)V"⟩ : MethodName) (head1 (Jvm.Cond.code (⟨"com/example/covrage/covrage/model/Lexer$Token", "<init>", "(Lcom/example/covrage/covrage/model/Lexer$Kind;Ljava/lang/String;I)V"⟩ : MethodName) prog_30_method_1_code 4 none :: ws) ({ frames := 1, cells := 0, slots := 0, locals := 12 } : Room)) (fun a_ U_ => a_ = #[(.ref a), (.ref k), (.ref s_), (.int q)] ∧ Z.Warmed39 U_.vm ∧ U_.heap = h0) (fun _ _ _ _ _ => True) (fun _ U_ o_ U_' => ∃ v_ L_, o_ = .returned v_ ∧ Q_tokInit_ Z a k s_ q h0 n0 v_ U_'.heap L_ ∧ FrameEnd U_ o_ U_' L_ ({ frames := 1, cells := 0, slots := 0, locals := 12 } : Room).cells ({ frames := 1, cells := 0, slots := 0, locals := 12 } : Room).slots) := by
  refine MetFree.of_bodySF (plainFor_of_name pn_52442089) hisR ?_
  intro p e s m args below meth c s₁ Bd hml0 hP0 hK
  obtain ⟨rfl, hZ, hh⟩ := hP0
  have hx := Bd.exec
  have hby := Bd.bytes
  have hml : c.maxLocals = 4 := hml0
  have hown : s.vm.findClass "com/example/covrage/covrage/model/Lexer$Token" = some m.cls := findClass_of_methodNamed Bd.named
  have hnm := (name_of_methodNamed Bd.named Bd.method).1
  have X0 : Stand p l e ({ frames := 1, cells := 0, slots := 0, locals := 12 } : Room) s m #[(.ref a), (.ref k), (.ref s_), (.int q)] below meth c s₁ [] 0 0 := Stand.of_body Bd
  have e0 : s₁.heap = h0 := by rw [← hh, Bd.state]; rfl
  have N0 := Fr.nil n0
  obtain ⟨P, hP, R0⟩ : ∃ P : State → Prop, (∀ t_, P t_ → Steps p.tables e below (s₁.setTop (entryFrame m #[(.ref a), (.ref k), (.ref s_), (.int q)] 4)) t_) ∧ Go p e below P s₁ (mkF m 0 #[.val (.ref a), .val (.ref k), .val (.ref s_), .val (.int q)] []) := ⟨_, fun _ h => h, fun t_ k_ => castTop (ef_tokInit_ m a k s_ q) k_⟩
  have R155 : Go p e below P s₁ (mkF m 1 #[.val (.ref a), .val (.ref k), .val (.ref s_), .val (.int q)] [(.ref a)]) := fun t_ k_ => R0 t_ (XS.aloadN X0.here hx rfl (hb hby d6_0) rfl rfl k_)
  obtain ⟨T156, X156, e156, st156⟩ := initO X0 hx hZ hown (hw _ (List.mem_of_getElem? (i := 39) rfl)) (hw _ (List.mem_of_getElem? (i := 23) rfl)) (hw _ (List.mem_of_getElem? (i := 24) rfl)) e0 (g := (mkF m 1 #[.val (.ref a), .val (.ref k), .val (.ref s_), .val (.int q)] [(.ref a)])) rfl (by rw [hml]; rfl) rfl (hb hby d6_1) (by decide) (W := 0) (by show 2 * 0 + _ ≤ _; exact Nat.le_of_eq rfl) (by decide)
  have R157 : Go p e below P T156 (mkF m 4 #[.val (.ref a), .val (.ref k), .val (.ref s_), .val (.int q)] []) := fun t_ k_ => R155 t_ (st156 t_ k_)
  have R158 : Go p e below P T156 (mkF m 5 #[.val (.ref a), .val (.ref k), .val (.ref s_), .val (.int q)] [(.ref a)]) := fun t_ k_ => R157 t_ (XS.aloadN X156.here hx rfl (hb hby d6_4) rfl rfl k_)
  have R159 : Go p e below P T156 (mkF m 6 #[.val (.ref a), .val (.ref k), .val (.ref s_), .val (.int q)] [(.ref k), (.ref a)]) := fun t_ k_ => R158 t_ (XS.aloadN X156.here hx rfl (hb hby d6_5) rfl rfl k_)
  obtain ⟨T160, h160, X160, e160, W160, st160⟩ := putF X156 hx hZ hown (host := "") (Or.inl (hw _ (List.mem_of_getElem? (i := 40) rfl))) Via.refl e156 P1 P0 (Or.inr ⟨(hw _ (List.mem_of_getElem? (i := 41) rfl)), rfl, hnm⟩) (hw _ (List.mem_of_getElem? (i := 34) rfl)) (ty := (.object "com/example/covrage/covrage/model/Lexer$Kind")) (by decide) rfl rfl (g := (mkF m 6 #[.val (.ref a), .val (.ref k), .val (.ref s_), .val (.int q)] [(.ref k), (.ref a)])) rfl rfl (hb hby d6_6)
  have N160 := Fr.snoc X160 N0 P4
  have Fw160 := P1.same W160
  have O160 := O0.wr W160 P4
  have R161 : Go p e below P T160 (mkF m 9 #[.val (.ref a), .val (.ref k), .val (.ref s_), .val (.int q)] []) := fun t_ k_ => R159 t_ (st160 t_ k_)
  have R162 : Go p e below P T160 (mkF m 10 #[.val (.ref a), .val (.ref k), .val (.ref s_), .val (.int q)] [(.ref a)]) := fun t_ k_ => R161 t_ (XS.aloadN X160.here hx rfl (hb hby d6_9) rfl rfl k_)
  have R163 : Go p e below P T160 (mkF m 11 #[.val (.ref a), .val (.ref k), .val (.ref s_), .val (.int q)] [(.ref s_), (.ref a)]) := fun t_ k_ => R162 t_ (XS.aloadN X160.here hx rfl (hb hby d6_10) rfl rfl k_)
  have f164 := (P0.wr W160)
  have f165 := (P2.other W160 (Or.inr (slot_ne (Or.inr (hw _ (List.mem_of_getElem? (i := 43) rfl))) (Or.inr (hw _ (List.mem_of_getElem? (i := 41) rfl))) (by decide) (t := (.object "java/lang/String")) (t' := (.object "com/example/covrage/covrage/model/Lexer$Kind")) (by decide) (by decide))))
  obtain ⟨T166, h166, X166, e166, W166, st166⟩ := putF X160 hx hZ hown (host := "") (Or.inl (hw _ (List.mem_of_getElem? (i := 42) rfl))) Via.refl e160 f165 f164 (Or.inr ⟨(hw _ (List.mem_of_getElem? (i := 43) rfl)), rfl, hnm⟩) (hw _ (List.mem_of_getElem? (i := 34) rfl)) (ty := (.object "java/lang/String")) (by decide) rfl rfl (g := (mkF m 11 #[.val (.ref a), .val (.ref k), .val (.ref s_), .val (.int q)] [(.ref s_), (.ref a)])) rfl rfl (hb hby d6_11)
  have N166 := Fr.snoc X166 N160 P4
  have Fw166 := f165.same W166
  have O166 := O160.wr W166 P4
  have R167 : Go p e below P T166 (mkF m 14 #[.val (.ref a), .val (.ref k), .val (.ref s_), .val (.int q)] []) := fun t_ k_ => R163 t_ (st166 t_ k_)
  have R168 : Go p e below P T166 (mkF m 15 #[.val (.ref a), .val (.ref k), .val (.ref s_), .val (.int q)] [(.ref a)]) := fun t_ k_ => R167 t_ (XS.aloadN X166.here hx rfl (hb hby d6_14) rfl rfl k_)
  have R169 : Go p e below P T166 (mkF m 16 #[.val (.ref a), .val (.ref k), .val (.ref s_), .val (.int q)] [(.int q), (.ref a)]) := fun t_ k_ => R168 t_ (XS.iloadN X166.here hx rfl (hb hby d6_15) rfl k_)
  have f170 := (f164.wr W166)
  have f171 := ((P3.other W160 (Or.inr (slot_ne (Or.inr (hw _ (List.mem_of_getElem? (i := 45) rfl))) (Or.inr (hw _ (List.mem_of_getElem? (i := 41) rfl))) (by decide) (t := .int) (t' := (.object "com/example/covrage/covrage/model/Lexer$Kind")) (by decide) (by decide)))).other W166 (Or.inr (slot_ne (Or.inr (hw _ (List.mem_of_getElem? (i := 45) rfl))) (Or.inr (hw _ (List.mem_of_getElem? (i := 43) rfl))) (by decide) (t := .int) (t' := (.object "java/lang/String")) (by decide) (by decide))))
  obtain ⟨T172, h172, X172, e172, W172, st172⟩ := putF X166 hx hZ hown (host := "") (Or.inl (hw _ (List.mem_of_getElem? (i := 44) rfl))) Via.refl e166 f171 f170 (Or.inr ⟨(hw _ (List.mem_of_getElem? (i := 45) rfl)), rfl, hnm⟩) (hw _ (List.mem_of_getElem? (i := 34) rfl)) (ty := .int) (by decide) rfl rfl (g := (mkF m 16 #[.val (.ref a), .val (.ref k), .val (.ref s_), .val (.int q)] [(.int q), (.ref a)])) rfl rfl (hb hby d6_16)
  have N172 := Fr.snoc X172 N166 P4
  have Fw172 := f171.same W172
  have O172 := O166.wr W172 P4
  have R173 : Go p e below P T172 (mkF m 19 #[.val (.ref a), .val (.ref k), .val (.ref s_), .val (.int q)] []) := fun t_ k_ => R169 t_ (st172 t_ k_)
  obtain ⟨fs, hr, hrun, hended, hW, hsame⟩ := X172.leave (v := none) (fun _ => rfl)
  have f174 := (f170.wr W172)
  have f175 := ((Fw160.other W166 (Or.inr (slot_ne (Or.inr (hw _ (List.mem_of_getElem? (i := 41) rfl))) (Or.inr (hw _ (List.mem_of_getElem? (i := 43) rfl))) (by decide) (t := (.object "com/example/covrage/covrage/model/Lexer$Kind")) (t' := (.object "java/lang/String")) (by decide) (by decide)))).other W172 (Or.inr (slot_ne (Or.inr (hw _ (List.mem_of_getElem? (i := 41) rfl))) (Or.inr (hw _ (List.mem_of_getElem? (i := 45) rfl))) (by decide) (t := (.object "com/example/covrage/covrage/model/Lexer$Kind")) (t' := .int) (by decide) (by decide))))
  have f176 := (Fw166.other W172 (Or.inr (slot_ne (Or.inr (hw _ (List.mem_of_getElem? (i := 43) rfl))) (Or.inr (hw _ (List.mem_of_getElem? (i := 45) rfl))) (by decide) (t := (.object "java/lang/String")) (t' := .int) (by decide) (by decide))))
  exact ⟨_, _, hP _ (R173 _ (X172.returnOut hx Bd.returns (hb hby d6_19) hr)), hrun, hended, _, _, rfl, ⟨rfl, N172, (e172.symm ▸ ((((Keep.refl h0 [a]).wr W160 (Or.inl (List.mem_of_getElem? (i := 0) rfl))).wr W166 (Or.inl (List.mem_of_getElem? (i := 0) rfl))).wr W172 (Or.inl (List.mem_of_getElem? (i := 0) rfl)))), (e172.symm ▸ f174), (e172.symm ▸ f175), (e172.symm ▸ f176), (e172.symm ▸ Fw172)⟩, ⟨_, rfl⟩, hW, hsame.mono (by decide) (by decide)⟩
theorem ef_isName_ (m : MethodId) (x0 : Addr) (x1 : Addr) : entryFrame m #[(.ref x0), (.ref x1)] 2 = mkF m 0 #[.val (.ref x0), .val (.ref x1)] [] := by first | (simp [entryFrame, mkF, argsToLocals, Value.category]; done) | rfl
theorem d7_0 : decode prog_30_method_8_code 0 = .ok (.aload_n 0, 1) := by decide +kernel
theorem d7_1 : decode prog_30_method_8_code 1 = .ok (.getfield 7, 3) := by decide +kernel
theorem d7_4 : decode prog_30_method_8_code 4 = .ok (.getstatic 49, 3) := by decide +kernel
theorem d7_7 : decode prog_30_method_8_code 7 = .ok (.if_acmp .ne 18, 3) := by decide +kernel
theorem d7_10 : decode prog_30_method_8_code 10 = .ok (.aload_n 0, 1) := by decide +kernel
theorem d7_11 : decode prog_30_method_8_code 11 = .ok (.getfield 13, 3) := by decide +kernel
theorem d7_14 : decode prog_30_method_8_code 14 = .ok (.aload_n 1, 1) := by decide +kernel
theorem d7_15 : decode prog_30_method_8_code 15 = .ok (.invokevirtual 43, 3) := by decide +kernel
theorem pd_90185814 : parseMethodDescriptor "(Ljava/lang/Object;)Z" = some ⟨[(.object "java/lang/Object")], some .boolean⟩ := by decide +kernel
theorem d7_18 : decode prog_30_method_8_code 18 = .ok (.ifCond .eq 7, 3) := by decide +kernel
theorem d7_25 : decode prog_30_method_8_code 25 = .ok (.iconst 0, 1) := by decide +kernel
theorem d7_26 : decode prog_30_method_8_code 26 = .ok (.ireturn, 1) := by decide +kernel
theorem d7_21 : decode prog_30_method_8_code 21 = .ok (.iconst 1, 1) := by decide +kernel
theorem d7_22 : decode prog_30_method_8_code 22 = .ok (.goto 4, 3) := by decide +kernel
def Q_isName_ (Z : State) (a : Addr) (k : Addr) (u : Addr) (ut : Addr) (uk : ClassId) (cs : List Int32) (y : Addr) (yt : Addr) (yk : ClassId) (ds : List Int32) (wN : Addr) (zc : Int32) (h0 : Heap) (n0 : Nat) (rv_ : Option Value) (rh_ : Heap) (rL_ : List Loc) : Prop := (rv_ = some (.int (isNm k wN cs ds))) ∧ (Fr n0 rL_) ∧ (rh_ = h0)
set_option maxRecDepth 65536 in
set_option maxHeartbeats 40000000 in
theorem isName_ (l : Launch) (Z : State) (a0 : Array Value) (hw : ∀ d ∈ tables_1, d.before a0 Z = true) (ws : List Jvm.Cond) (a : Addr) (k : Addr) (u : Addr) (ut : Addr) (uk : ClassId) (cs : List Int32) (y : Addr) (yt : Addr) (yk : ClassId) (ds : List Int32) (wN : Addr) (zc : Int32) (h0 : Heap) (n0 : Nat) (O0 : Old Z n0 h0) (P0 : Fld Z h0 a "com/example/covrage/covrage/model/Lexer$Token" "kind" "Lcom/example/covrage/covrage/model/Lexer$Kind;" (.ref k)) (P1 : Fld Z h0 a "com/example/covrage/covrage/model/Lexer$Token" "text" "Ljava/lang/String;" (.ref u)) (P2 : Exa Z h0 u "java/lang/String") (P3 : Fld Z h0 u "java/lang/String" "coder" "B" (.int (0 : Int32))) (P4 : Fld Z h0 u "java/lang/String" "value" "[B" (.ref ut)) (P5 : Arv Z h0 ut uk .byte (Int32.ofNat cs.length) ((cs.map StrChars.lo8).map Value.int) (.int (0 : Int32))) (P6 : Exa Z h0 y "java/lang/String") (P7 : Fld Z h0 y "java/lang/String" "coder" "B" (.int (0 : Int32))) (P8 : Fld Z h0 y "java/lang/String" "value" "[B" (.ref yt)) (P9 : Arv Z h0 yt yk .byte (Int32.ofNat ds.length) ((ds.map StrChars.lo8).map Value.int) (.int (0 : Int32))) (P10 : Sta Z Z.heap "com/example/covrage/covrage/model/Lexer$Kind" "NAME" "Lcom/example/covrage/covrage/model/Lexer$Kind;" (.ref wN)) (P11 : Sta Z Z.heap "java/lang/String" "COMPACT_STRINGS" "Z" (.int zc)) (P12 : ¬ zc = 0) (P13 : ∀ c ∈ cs, ¬ c < 0 ∧ ¬ (255 : Int32) < c) (P14 : ∀ c ∈ ds, ¬ c < 0 ∧ ¬ (255 : Int32) < c) (P15 : cs.length ≤ 4000) (P16 : ds.length ≤ 4000) :
    MetFree l (⟨"com/example/covrage/covrage/model/Lexer$Token", "isName", "(Ljava/lang/String;)Z"⟩ : MethodName) (head1 (Jvm.Cond.code (⟨"com/example/covrage/covrage/model/Lexer$Token", "isName", "(Ljava/lang/String;)Z"⟩ : MethodName) prog_30_method_8_code 2 (some .boolean) :: ws) ({ frames := 2, cells := 0, slots := 0, locals := 28 } : Room)) (fun a_ U_ => a_ = #[(.ref a), (.ref y)] ∧ Z.Warmed39 U_.vm ∧ U_.heap = h0) (fun _ _ _ _ _ => True) (fun _ U_ o_ U_' => ∃ v_ L_, o_ = .returned v_ ∧ Q_isName_ Z a k u ut uk cs y yt yk ds wN zc h0 n0 v_ U_'.heap L_ ∧ FrameEnd U_ o_ U_' L_ ({ frames := 2, cells := 0, slots := 0, locals := 28 } : Room).cells ({ frames := 2, cells := 0, slots := 0, locals := 28 } : Room).slots) := by
  have hzc := P12
  have hcs := P13
  have hds := P14
  have lcs := P15
  have lds := P16
  refine MetFree.of_bodySF (plainFor_of_name pn_52442089) hisR ?_
  intro p e s m args below meth c s₁ Bd hml0 hP0 hK
  obtain ⟨rfl, hZ, hh⟩ := hP0
  have hx := Bd.exec
  have hby := Bd.bytes
  have hml : c.maxLocals = 2 := hml0
  have hown : s.vm.findClass "com/example/covrage/covrage/model/Lexer$Token" = some m.cls := findClass_of_methodNamed Bd.named
  have hnm := (name_of_methodNamed Bd.named Bd.method).1
  have X0 : Stand p l e ({ frames := 2, cells := 0, slots := 0, locals := 28 } : Room) s m #[(.ref a), (.ref y)] below meth c s₁ [] 0 0 := Stand.of_body Bd
  have e0 : s₁.heap = h0 := by rw [← hh, Bd.state]; rfl
  have N0 := Fr.nil n0
  obtain ⟨P, hP, R0⟩ : ∃ P : State → Prop, (∀ t_, P t_ → Steps p.tables e below (s₁.setTop (entryFrame m #[(.ref a), (.ref y)] 2)) t_) ∧ Go p e below P s₁ (mkF m 0 #[.val (.ref a), .val (.ref y)] []) := ⟨_, fun _ h => h, fun t_ k_ => castTop (ef_isName_ m a y) k_⟩
  have R177 : Go p e below P s₁ (mkF m 1 #[.val (.ref a), .val (.ref y)] [(.ref a)]) := fun t_ k_ => R0 t_ (XS.aloadN X0.here hx rfl (hb hby d7_0) rfl rfl k_)
  obtain ⟨T178, X178, e178, st178⟩ := getF X0 hx hZ hown (host := "") (Or.inl (hw _ (List.mem_of_getElem? (i := 40) rfl))) Via.refl e0 P0 (g := (mkF m 1 #[.val (.ref a), .val (.ref y)] [(.ref a)])) rfl rfl (hb hby d7_1)
  have R179 : Go p e below P T178 (mkF m 4 #[.val (.ref a), .val (.ref y)] [(.ref k)]) := fun t_ k_ => R177 t_ (st178 t_ k_)
  obtain ⟨T180, X180, e180, st180⟩ := getS2 X178 hx hZ hown (host := "") (Or.inl (hw _ (List.mem_of_getElem? (i := 51) rfl))) Via.refl e178 (P10.ext O0.2) (g := (mkF m 4 #[.val (.ref a), .val (.ref y)] [(.ref k)])) rfl (hb hby d7_4)
  have R181 : Go p e below P T180 (mkF m 7 #[.val (.ref a), .val (.ref y)] [(.ref wN), (.ref k)]) := fun t_ k_ => R179 t_ (st180 t_ k_)
  by_cases hc182 : k = wN
  · have R183 : Go p e below P T180 (mkF m 10 #[.val (.ref a), .val (.ref y)] []) := fun t_ k_ => R181 t_ (Jvm.RoadKit.acmp (g := (mkF m 7 #[.val (.ref a), .val (.ref y)] [(.ref wN), (.ref k)])) X180 hx rfl rfl rfl (pc0 := 7) (pc' := 10) (same := true) rfl (hb hby d7_7) rfl (decide_eq_true (congrArg Value.ref hc182)) (by decide) (by decide) k_)
    have R184 : Go p e below P T180 (mkF m 11 #[.val (.ref a), .val (.ref y)] [(.ref a)]) := fun t_ k_ => R183 t_ (XS.aloadN X180.here hx rfl (hb hby d7_10) rfl rfl k_)
    obtain ⟨T185, X185, e185, st185⟩ := getF X180 hx hZ hown (host := "") (Or.inl (hw _ (List.mem_of_getElem? (i := 42) rfl))) Via.refl e180 P1 (g := (mkF m 11 #[.val (.ref a), .val (.ref y)] [(.ref a)])) rfl rfl (hb hby d7_11)
    have R186 : Go p e below P T185 (mkF m 14 #[.val (.ref a), .val (.ref y)] [(.ref u)]) := fun t_ k_ => R184 t_ (st185 t_ k_)
    have R187 : Go p e below P T185 (mkF m 15 #[.val (.ref a), .val (.ref y)] [(.ref y), (.ref u)]) := fun t_ k_ => R186 t_ (XS.aloadN X185.here hx rfl (hb hby d7_14) rfl rfl k_)
    obtain ⟨cq188, kq188, q188a, q188b, q188c⟩ := isOf hZ e185 P2
    obtain ⟨rv188, _, ⟨T188, L188, k188, n188⟩, -, X188, ⟨Lc188, hQ188, l188, y188, z188⟩, st188⟩ := X185.virtualBack hx (y := (⟨"java/lang/String", "equals", "(Ljava/lang/Object;)Z"⟩ : MethodName)) (z := (⟨"java/lang/String", "equals", "(Ljava/lang/Object;)Z"⟩ : MethodName)) hown (mvT hZ (hw _ (List.mem_of_getElem? (i := 52) rfl))) (mvT hZ (hw _ (List.mem_of_getElem? (i := 53) rfl))) (notFace_of_selects (args := #[]) (mvT hZ (hw _ (List.mem_of_getElem? (i := 55) rfl)))) (mvT hZ (hw _ (List.mem_of_getElem? (i := 55) rfl))) (mvT hZ (hw _ (List.mem_of_getElem? (i := 54) rfl))) (by decide) (StrChars.Road.eqW (W := 0) hZ (w_eqW hw) (kI := 4) (hw _ (List.mem_of_getElem? (i := 12) rfl)) P2 P4 P3 P5 (hcod hcs) (upC hcs) lcs P6 P8 P7 P9 (hcod hds) (upC hds) lds (P11.ext O0.2) hzc (by decide) (by decide)) q188a q188c (g := (mkF m 15 #[.val (.ref a), .val (.ref y)] [(.ref y), (.ref u)])) rfl (by rw [hml]; rfl) (Steps.refl _) (argsL := [(.ref y)]) (rest := []) (lenOf pd_90185814 rfl) rfl (by show 2 * 0 + _ ≤ _; exact Nat.le_of_eq rfl) (hb hby d7_15) (fun _ _ => ⟨rfl, e185, (by decide : 0 + 0 ≤ _), (by decide : 0 + 0 ≤ _)⟩)
    dsimp only [Pt.U, Pt.locs, Pt.cells, Pt.slots] at X188 l188 y188 z188 st188 hQ188
    subst l188 y188 z188
    obtain ⟨hv188, rfl, K188⟩ := hQ188
    obtain rfl : rv188 = some (Value.int (eqI cs ds)) := by rcases hv188 with ⟨q1, q2⟩ | ⟨q1, q2⟩ <;> rw [q1] <;> simp [eqI, q2]
    try rw [List.append_nil] at X188
    have R189 : Go p e below P T188 (mkF m 18 #[.val (.ref a), .val (.ref y)] [(.int (eqI cs ds))]) := fun t_ k_ => R187 t_ (st188.trans k_)
    by_cases hc190 : (eqI cs ds) = (0 : Int32)
    · have R191 : Go p e below P T188 (mkF m 25 #[.val (.ref a), .val (.ref y)] []) := fun t_ k_ => R189 t_ (XS.ifYes X188.here hx rfl (pc0 := 18) (pc' := 25) rfl (hb hby d7_18) rfl ((if0 _ _).trans (teq hc190).1) (by decide) (by decide) k_)
      have R192 : Go p e below P T188 (mkF m 26 #[.val (.ref a), .val (.ref y)] [(.int (0 : Int32))]) := fun t_ k_ => R191 t_ (XS.iconst X188.here hx rfl (hb hby d7_25) k_)
      obtain ⟨fs, hr, hrun, hended, hW, hsame⟩ := X188.leave (v := some (.int (nar .boolean (0 : Int32)))) (fun h => by rw [Bd.returns] at h; cases h)
      exact ⟨_, _, hP _ (R192 _ (retN X188 hx (t := .boolean) Bd.returns (by simp) (hb hby d7_26) hr)), hrun, hended, _, _, rfl, ⟨(by first | (have := hc190; simp [isNm, nar_b0, nar_b1, hc182, hc190]; done) | (have h := hc190; by_cases q : cs = ds <;> simp [isNm, eqI, nar_b0, nar_b1, q, hc182] at h ⊢)), N0, K188⟩, ⟨_, rfl⟩, hW, hsame.mono (by decide) (by decide)⟩
    · have R193 : Go p e below P T188 (mkF m 21 #[.val (.ref a), .val (.ref y)] []) := fun t_ k_ => R189 t_ (XS.ifNo X188.here hx rfl (hb hby d7_18) rfl ((if0 _ _).trans (feq hc190).1) k_)
      have R194 : Go p e below P T188 (mkF m 22 #[.val (.ref a), .val (.ref y)] [(.int (1 : Int32))]) := fun t_ k_ => R193 t_ (XS.iconst X188.here hx rfl (hb hby d7_21) k_)
      have R195 : Go p e below P T188 (mkF m 26 #[.val (.ref a), .val (.ref y)] [(.int (1 : Int32))]) := fun t_ k_ => R194 t_ (XS.goto X188.here hx rfl (pc0 := 22) (pc' := 26) rfl (hb hby d7_22) (by decide) (by decide) k_)
      obtain ⟨fs, hr, hrun, hended, hW, hsame⟩ := X188.leave (v := some (.int (nar .boolean (1 : Int32)))) (fun h => by rw [Bd.returns] at h; cases h)
      exact ⟨_, _, hP _ (R195 _ (retN X188 hx (t := .boolean) Bd.returns (by simp) (hb hby d7_26) hr)), hrun, hended, _, _, rfl, ⟨(by first | (have := hc190; simp [isNm, nar_b0, nar_b1, hc182, hc190]; done) | (have h := hc190; by_cases q : cs = ds <;> simp [isNm, eqI, nar_b0, nar_b1, q, hc182] at h ⊢)), N0, K188⟩, ⟨_, rfl⟩, hW, hsame.mono (by decide) (by decide)⟩
  · have R196 : Go p e below P T180 (mkF m 25 #[.val (.ref a), .val (.ref y)] []) := fun t_ k_ => R181 t_ (Jvm.RoadKit.acmp (g := (mkF m 7 #[.val (.ref a), .val (.ref y)] [(.ref wN), (.ref k)])) X180 hx rfl rfl rfl (pc0 := 7) (pc' := 25) (same := false) rfl (hb hby d7_7) rfl (decide_eq_false fun q => hc182 (Value.ref.inj q)) (by decide) (by decide) k_)
    have R197 : Go p e below P T180 (mkF m 26 #[.val (.ref a), .val (.ref y)] [(.int (0 : Int32))]) := fun t_ k_ => R196 t_ (XS.iconst X180.here hx rfl (hb hby d7_25) k_)
    obtain ⟨fs, hr, hrun, hended, hW, hsame⟩ := X180.leave (v := some (.int (nar .boolean (0 : Int32)))) (fun h => by rw [Bd.returns] at h; cases h)
    exact ⟨_, _, hP _ (R197 _ (retN X180 hx (t := .boolean) Bd.returns (by simp) (hb hby d7_26) hr)), hrun, hended, _, _, rfl, ⟨(by first | (have := hc182; simp [isNm, nar_b0, nar_b1, hc182]; done) | (have h := hc182; by_cases q : cs = ds <;> simp [isNm, eqI, nar_b0, nar_b1, q, ] at h ⊢)), N0, e180⟩, ⟨_, rfl⟩, hW, hsame.mono (by decide) (by decide)⟩
theorem ef_law_ (m : MethodId) (x0 : Int32) (x1 : Int32) (x2 : Int32) (x3 : Int32) (x4 : Int32) : entryFrame m #[(.int x0), (.int x1), (.int x2), (.int x3), (.int x4)] maxLocals = mkF m 0 #[.val (.int x0), .val (.int x1), .val (.int x2), .val (.int x3), .val (.int x4), .unset, .unset, .unset, .unset, .unset, .unset, .unset, .unset, .unset, .unset, .unset, .unset, .unset] [] := by first | (simp [entryFrame, mkF, argsToLocals, Value.category, maxLocals]; done) | rfl
theorem pd_90166931 : parseMethodDescriptor "(I)Lcom/example/covrage/covrage/model/Lexer$Kind;" = some ⟨[.int], some (.object "com/example/covrage/covrage/model/Lexer$Kind")⟩ := by decide +kernel
theorem pd_30170099 : parseMethodDescriptor "(ICC)Ljava/lang/String;" = some ⟨[.int, .char, .char], some (.object "java/lang/String")⟩ := by decide +kernel
theorem pd_64371217 : parseMethodDescriptor "(Lcom/example/covrage/covrage/model/Lexer$Kind;Ljava/lang/String;I)V" = some ⟨[(.object "com/example/covrage/covrage/model/Lexer$Kind"), (.object "java/lang/String"), .int], none⟩ := by decide +kernel
theorem pd_80118224 : parseMethodDescriptor "(Ljava/lang/String;)Z" = some ⟨[(.object "java/lang/String")], some .boolean⟩ := by decide +kernel
def Q_law_ (Z : State) (i0 : Int32) (i1 : Int32) (i2 : Int32) (i3 : Int32) (i4 : Int32) (w0 : Addr) (w1 : Addr) (w2 : Addr) (w3 : Addr) (w4 : Addr) (zc : Int32) (h0 : Heap) (n0 : Nat) (rv_ : Option Value) (rh_ : Heap) (rL_ : List Loc) : Prop := (rv_ = some (.int (1 : Int32))) ∧ (Fr n0 rL_) ∧ (Keep h0 rh_ [])
set_option maxRecDepth 65536 in
set_option maxHeartbeats 40000000 in
theorem law_ (l : Launch) (Z : State) (a0 : Array Value) (hw : ∀ d ∈ tables_1, d.before a0 Z = true) (ws : List Jvm.Cond) (i0 : Int32) (i1 : Int32) (i2 : Int32) (i3 : Int32) (i4 : Int32) (w0 : Addr) (w1 : Addr) (w2 : Addr) (w3 : Addr) (w4 : Addr) (zc : Int32) (h0 : Heap) (n0 : Nat) (O0 : Old Z n0 h0) (hEL : EW Z a0 EL0) (P0 : Sta Z Z.heap "com/example/covrage/covrage/model/Lexer$Kind" "NAME" "Lcom/example/covrage/covrage/model/Lexer$Kind;" (.ref w0)) (P1 : Sta Z Z.heap "com/example/covrage/covrage/model/Lexer$Kind" "QUOTED_NAME" "Lcom/example/covrage/covrage/model/Lexer$Kind;" (.ref w1)) (P2 : Sta Z Z.heap "com/example/covrage/covrage/model/Lexer$Kind" "NUMBER" "Lcom/example/covrage/covrage/model/Lexer$Kind;" (.ref w2)) (P3 : Sta Z Z.heap "com/example/covrage/covrage/model/Lexer$Kind" "SYMBOL" "Lcom/example/covrage/covrage/model/Lexer$Kind;" (.ref w3)) (P4 : Sta Z Z.heap "com/example/covrage/covrage/model/Lexer$Kind" "END" "Lcom/example/covrage/covrage/model/Lexer$Kind;" (.ref w4)) (P5 : Sta Z Z.heap "java/lang/String" "COMPACT_STRINGS" "Z" (.int zc)) (P6 : w1 ≠ w0) (P7 : w2 ≠ w0) (P8 : w3 ≠ w0) (P9 : w4 ≠ w0) (P10 : ¬ zc = 0) :
    MetFree l x (head1 (Jvm.Cond.code x code maxLocals ret :: ws) room_1) (fun a_ U_ => a_ = #[(.int i0), (.int i1), (.int i2), (.int i3), (.int i4)] ∧ Z.Warmed39 U_.vm ∧ U_.heap = h0 ∧ CHv Z EL0 U_.vm h0) (fun _ _ _ _ _ => True) (fun _ U_ o_ U_' => ∃ v_ L_, o_ = .returned v_ ∧ Q_law_ Z i0 i1 i2 i3 i4 w0 w1 w2 w3 w4 zc h0 n0 v_ U_'.heap L_ ∧ CHr Z EL0 U_.vm U_.heap U_'.vm U_'.heap ∧ ReturnedEndW U_ o_ U_' L_ room_1.cells room_1.slots) := by
  have hzc := P10
  refine MetFree.of_bodySF (plainFor_of_name pn_95334719) hisR ?_
  intro p e s m args below meth c s₁ Bd hml0 hP0 hK
  obtain ⟨rfl, hZ, hh, hCH⟩ := hP0
  have hx := Bd.exec
  have hby := Bd.bytes
  have hml : c.maxLocals = 18 := hml0
  have hown : s.vm.findClass "com/example/covrage/covrage/model/TokenIsNamePinLaw" = some m.cls := findClass_of_methodNamed Bd.named
  have hnm := (name_of_methodNamed Bd.named Bd.method).1
  have hS0 : s.Since s.vm 0 := (State.WarmedH.refl s).since 0
  have hk0 : 0 ≤ h0.size := Nat.zero_le _
  have C0 : CHr Z EL0 s.vm h0 s.vm h0 := CHr.refl hCH
  have X0 : Stand p l e room_1 (s.setVm s.vm) m #[(.int i0), (.int i1), (.int i2), (.int i3), (.int i4)] below meth c s₁ [] 0 0 := Stand.of_body Bd
  have e0 : s₁.heap = h0 := by rw [← hh, Bd.state]; rfl
  have N0 := Fr.nil n0
  obtain ⟨P, hP, R0⟩ : ∃ P : State → Prop, (∀ t_, P t_ → Steps p.tables e below (s₁.setTop (entryFrame m #[(.int i0), (.int i1), (.int i2), (.int i3), (.int i4)] maxLocals)) t_) ∧ Go p e below P s₁ (mkF m 0 #[.val (.int i0), .val (.int i1), .val (.int i2), .val (.int i3), .val (.int i4), .unset, .unset, .unset, .unset, .unset, .unset, .unset, .unset, .unset, .unset, .unset, .unset, .unset] []) := ⟨_, fun _ h => h, fun t_ k_ => castTop (ef_law_ m i0 i1 i2 i3 i4) k_⟩
  have R198 : Go p e below P s₁ (mkF m 1 #[.val (.int i0), .val (.int i1), .val (.int i2), .val (.int i3), .val (.int i4), .unset, .unset, .unset, .unset, .unset, .unset, .unset, .unset, .unset, .unset, .unset, .unset, .unset] [(.int i0)]) := fun t_ k_ => R0 t_ (XS.iloadN X0.here hx rfl (hb hby at_0) rfl k_)
  have R199 : Go p e below P s₁ (mkF m 3 #[.val (.int i0), .val (.int i1), .val (.int i2), .val (.int i3), .val (.int i4), .unset, .unset, .unset, .unset, .unset, .unset, .unset, .unset, .unset, .unset, .unset, .unset, .unset] [(.int (2147483647 : Int32)), (.int i0)]) := fun t_ k_ => R198 t_ (X0.ldcInt hx hown (mvT hZ (hw _ (List.mem_of_getElem? (i := 0) rfl))) (g := (mkF m 1 #[.val (.int i0), .val (.int i1), .val (.int i2), .val (.int i3), .val (.int i4), .unset, .unset, .unset, .unset, .unset, .unset, .unset, .unset, .unset, .unset, .unset, .unset, .unset] [(.int i0)])) rfl (hb hby at_1) _ k_)
  have R200 : Go p e below P s₁ (mkF m 4 #[.val (.int i0), .val (.int i1), .val (.int i2), .val (.int i3), .val (.int i4), .unset, .unset, .unset, .unset, .unset, .unset, .unset, .unset, .unset, .unset, .unset, .unset, .unset] [(.int (i0 &&& (2147483647 : Int32)))]) := fun t_ k_ => R199 t_ (XS.iand X0.here hx rfl (hb hby at_3) rfl k_)
  have R201 : Go p e below P s₁ (mkF m 5 #[.val (.int i0), .val (.int i1), .val (.int i2), .val (.int i3), .val (.int i4), .unset, .unset, .unset, .unset, .unset, .unset, .unset, .unset, .unset, .unset, .unset, .unset, .unset] [(.int (5 : Int32)), (.int (i0 &&& (2147483647 : Int32)))]) := fun t_ k_ => R200 t_ (XS.iconst X0.here hx rfl (hb hby at_4) k_)
  have R202 : Go p e below P s₁ (mkF m 6 #[.val (.int i0), .val (.int i1), .val (.int i2), .val (.int i3), .val (.int i4), .unset, .unset, .unset, .unset, .unset, .unset, .unset, .unset, .unset, .unset, .unset, .unset, .unset] [(.int ((i0 &&& (2147483647 : Int32)) % (5 : Int32)))]) := fun t_ k_ => R201 t_ (iremM X0 hx rfl (hb hby at_5) rfl (by decide) k_)
  obtain ⟨ks, hks⟩ : ∃ z : Int32, z = ((i0 &&& (2147483647 : Int32)) % (5 : Int32)) := ⟨_, rfl⟩
  have R203 : Go p e below P s₁ (mkF m 6 #[.val (.int i0), .val (.int i1), .val (.int i2), .val (.int i3), .val (.int i4), .unset, .unset, .unset, .unset, .unset, .unset, .unset, .unset, .unset, .unset, .unset, .unset, .unset] [(.int ks)]) := by rw [hks]; exact R202
  have R204 : Go p e below P s₁ (mkF m 8 #[.val (.int i0), .val (.int i1), .val (.int i2), .val (.int i3), .val (.int i4), .val (.int ks), .unset, .unset, .unset, .unset, .unset, .unset, .unset, .unset, .unset, .unset, .unset, .unset] []) := fun t_ k_ => R203 t_ (XS.istore X0.here hx rfl (hb hby at_6) rfl (l' := #[.val (.int i0), .val (.int i1), .val (.int i2), .val (.int i3), .val (.int i4), .val (.int ks), .unset, .unset, .unset, .unset, .unset, .unset, .unset, .unset, .unset, .unset, .unset, .unset]) rfl k_)
  have R205 : Go p e below P s₁ (mkF m 10 #[.val (.int i0), .val (.int i1), .val (.int i2), .val (.int i3), .val (.int i4), .val (.int ks), .unset, .unset, .unset, .unset, .unset, .unset, .unset, .unset, .unset, .unset, .unset, .unset] [(.int ks)]) := fun t_ k_ => R204 t_ (XS.iload X0.here hx rfl (hb hby at_8) rfl k_)
  obtain ⟨rv206, _, ⟨T206, L206, k206, n206⟩, -, X206, ⟨Lc206, hQ206, l206, y206, z206⟩, st206⟩ := Jvm.LawKit.callS X0 hx (y := (⟨"com/example/covrage/covrage/model/TokenIsNamePinLaw", "kindOf", "(I)Lcom/example/covrage/covrage/model/Lexer$Kind;"⟩ : MethodName)) hown (mvT hZ (hw _ (List.mem_of_getElem? (i := 1) rfl))) (mvT hZ (hw _ (List.mem_of_getElem? (i := 2) rfl))) (mvT hZ (hw _ (List.mem_of_getElem? (i := 3) rfl))) (mvT hZ (hw _ (List.mem_of_getElem? (i := 4) rfl))) (by decide) (backOf (W := 0) (kindOf_ l Z a0 hw [] ks w0 w1 w2 w3 w4 h0 n0 O0 P0 P1 P2 P3 P4) hZ (hw _ (List.mem_of_getElem? (i := 4) rfl)) (hw _ (List.mem_of_getElem? (i := 3) rfl)) (by decide) (by decide)) (g := (mkF m 10 #[.val (.int i0), .val (.int i1), .val (.int i2), .val (.int i3), .val (.int i4), .val (.int ks), .unset, .unset, .unset, .unset, .unset, .unset, .unset, .unset, .unset, .unset, .unset, .unset] [(.int ks)])) rfl (by rw [hml]; rfl) (argsL := [(.int ks)]) (rest := []) (lenOf pd_90166931 rfl) rfl (by show 2 * 0 + _ ≤ _; exact Nat.le_of_eq rfl) (hb hby at_10) (fun _ _ => ⟨rfl, e0, (by decide : 0 + 0 ≤ _), (by decide : 0 + 0 ≤ _)⟩)
  dsimp only [Pt.U, Pt.locs, Pt.cells, Pt.slots] at X206 l206 y206 z206 st206 hQ206
  subst l206 y206 z206
  obtain ⟨rfl, N206q, K206⟩ := hQ206
  have N206 := Fr.app N0 N206q
  have R207 : Go p e below P T206 (mkF m 13 #[.val (.int i0), .val (.int i1), .val (.int i2), .val (.int i3), .val (.int i4), .val (.int ks), .unset, .unset, .unset, .unset, .unset, .unset, .unset, .unset, .unset, .unset, .unset, .unset] [(.ref (kindW w0 w1 w2 w3 w4 ks))]) := fun t_ k_ => R205 t_ (st206 t_ k_)
  have R208 : Go p e below P T206 (mkF m 15 #[.val (.int i0), .val (.int i1), .val (.int i2), .val (.int i3), .val (.int i4), .val (.int ks), .val (.ref (kindW w0 w1 w2 w3 w4 ks)), .unset, .unset, .unset, .unset, .unset, .unset, .unset, .unset, .unset, .unset, .unset] []) := fun t_ k_ => R207 t_ (XS.astore X206.here hx rfl (hb hby at_13) rfl rfl (l' := #[.val (.int i0), .val (.int i1), .val (.int i2), .val (.int i3), .val (.int i4), .val (.int ks), .val (.ref (kindW w0 w1 w2 w3 w4 ks)), .unset, .unset, .unset, .unset, .unset, .unset, .unset, .unset, .unset, .unset, .unset]) rfl k_)
  have R209 : Go p e below P T206 (mkF m 16 #[.val (.int i0), .val (.int i1), .val (.int i2), .val (.int i3), .val (.int i4), .val (.int ks), .val (.ref (kindW w0 w1 w2 w3 w4 ks)), .unset, .unset, .unset, .unset, .unset, .unset, .unset, .unset, .unset, .unset, .unset] [(.int i1)]) := fun t_ k_ => R208 t_ (XS.iloadN X206.here hx rfl (hb hby at_15) rfl k_)
  have R210 : Go p e below P T206 (mkF m 19 #[.val (.int i0), .val (.int i1), .val (.int i2), .val (.int i3), .val (.int i4), .val (.int ks), .val (.ref (kindW w0 w1 w2 w3 w4 ks)), .unset, .unset, .unset, .unset, .unset, .unset, .unset, .unset, .unset, .unset, .unset] [(.int (255 : Int32)), (.int i1)]) := fun t_ k_ => R209 t_ (XS.sipush X206.here hx rfl (hb hby at_16) k_)
  have R211 : Go p e below P T206 (mkF m 20 #[.val (.int i0), .val (.int i1), .val (.int i2), .val (.int i3), .val (.int i4), .val (.int ks), .val (.ref (kindW w0 w1 w2 w3 w4 ks)), .unset, .unset, .unset, .unset, .unset, .unset, .unset, .unset, .unset, .unset, .unset] [(.int (i1 &&& (255 : Int32)))]) := fun t_ k_ => R210 t_ (XS.iand X206.here hx rfl (hb hby at_19) rfl k_)
  have R212 : Go p e below P T206 (mkF m 21 #[.val (.int i0), .val (.int i1), .val (.int i2), .val (.int i3), .val (.int i4), .val (.int ks), .val (.ref (kindW w0 w1 w2 w3 w4 ks)), .unset, .unset, .unset, .unset, .unset, .unset, .unset, .unset, .unset, .unset, .unset] [(.int ((i1 &&& (255 : Int32)).toUInt32.toUInt16.toUInt32.toInt32))]) := fun t_ k_ => R211 t_ (XS.i2c X206.here hx rfl (hb hby at_20) rfl k_)
  obtain ⟨t0, ht0⟩ : ∃ z : Int32, z = ((i1 &&& (255 : Int32)).toUInt32.toUInt16.toUInt32.toInt32) := ⟨_, rfl⟩
  have R213 : Go p e below P T206 (mkF m 21 #[.val (.int i0), .val (.int i1), .val (.int i2), .val (.int i3), .val (.int i4), .val (.int ks), .val (.ref (kindW w0 w1 w2 w3 w4 ks)), .unset, .unset, .unset, .unset, .unset, .unset, .unset, .unset, .unset, .unset, .unset] [(.int t0)]) := by rw [ht0]; exact R212
  have ct0 : nar .char t0 = t0 ∧ ¬ t0 < 0 ∧ ¬ (255 : Int32) < t0 := by rw [ht0]; exact chr255 _
  have R214 : Go p e below P T206 (mkF m 23 #[.val (.int i0), .val (.int i1), .val (.int i2), .val (.int i3), .val (.int i4), .val (.int ks), .val (.ref (kindW w0 w1 w2 w3 w4 ks)), .val (.int t0), .unset, .unset, .unset, .unset, .unset, .unset, .unset, .unset, .unset, .unset] []) := fun t_ k_ => R213 t_ (XS.istore X206.here hx rfl (hb hby at_21) rfl (l' := #[.val (.int i0), .val (.int i1), .val (.int i2), .val (.int i3), .val (.int i4), .val (.int ks), .val (.ref (kindW w0 w1 w2 w3 w4 ks)), .val (.int t0), .unset, .unset, .unset, .unset, .unset, .unset, .unset, .unset, .unset, .unset]) rfl k_)
  have R215 : Go p e below P T206 (mkF m 24 #[.val (.int i0), .val (.int i1), .val (.int i2), .val (.int i3), .val (.int i4), .val (.int ks), .val (.ref (kindW w0 w1 w2 w3 w4 ks)), .val (.int t0), .unset, .unset, .unset, .unset, .unset, .unset, .unset, .unset, .unset, .unset] [(.int i1)]) := fun t_ k_ => R214 t_ (XS.iloadN X206.here hx rfl (hb hby at_23) rfl k_)
  have R216 : Go p e below P T206 (mkF m 26 #[.val (.int i0), .val (.int i1), .val (.int i2), .val (.int i3), .val (.int i4), .val (.int ks), .val (.ref (kindW w0 w1 w2 w3 w4 ks)), .val (.int t0), .unset, .unset, .unset, .unset, .unset, .unset, .unset, .unset, .unset, .unset] [(.int (8 : Int32)), (.int i1)]) := fun t_ k_ => R215 t_ (XS.bipush X206.here hx rfl (hb hby at_24) k_)
  have R217 : Go p e below P T206 (mkF m 27 #[.val (.int i0), .val (.int i1), .val (.int i2), .val (.int i3), .val (.int i4), .val (.int ks), .val (.ref (kindW w0 w1 w2 w3 w4 ks)), .val (.int t0), .unset, .unset, .unset, .unset, .unset, .unset, .unset, .unset, .unset, .unset] [(.int ((i1.toUInt32 >>> ((8 : Int32) &&& 31).toUInt32).toInt32))]) := fun t_ k_ => R216 t_ (XS.iushr X206.here hx rfl (hb hby at_26) rfl k_)
  have R218 : Go p e below P T206 (mkF m 30 #[.val (.int i0), .val (.int i1), .val (.int i2), .val (.int i3), .val (.int i4), .val (.int ks), .val (.ref (kindW w0 w1 w2 w3 w4 ks)), .val (.int t0), .unset, .unset, .unset, .unset, .unset, .unset, .unset, .unset, .unset, .unset] [(.int (255 : Int32)), (.int ((i1.toUInt32 >>> ((8 : Int32) &&& 31).toUInt32).toInt32))]) := fun t_ k_ => R217 t_ (XS.sipush X206.here hx rfl (hb hby at_27) k_)
  have R219 : Go p e below P T206 (mkF m 31 #[.val (.int i0), .val (.int i1), .val (.int i2), .val (.int i3), .val (.int i4), .val (.int ks), .val (.ref (kindW w0 w1 w2 w3 w4 ks)), .val (.int t0), .unset, .unset, .unset, .unset, .unset, .unset, .unset, .unset, .unset, .unset] [(.int (((i1.toUInt32 >>> ((8 : Int32) &&& 31).toUInt32).toInt32) &&& (255 : Int32)))]) := fun t_ k_ => R218 t_ (XS.iand X206.here hx rfl (hb hby at_30) rfl k_)
  have R220 : Go p e below P T206 (mkF m 32 #[.val (.int i0), .val (.int i1), .val (.int i2), .val (.int i3), .val (.int i4), .val (.int ks), .val (.ref (kindW w0 w1 w2 w3 w4 ks)), .val (.int t0), .unset, .unset, .unset, .unset, .unset, .unset, .unset, .unset, .unset, .unset] [(.int ((((i1.toUInt32 >>> ((8 : Int32) &&& 31).toUInt32).toInt32) &&& (255 : Int32)).toUInt32.toUInt16.toUInt32.toInt32))]) := fun t_ k_ => R219 t_ (XS.i2c X206.here hx rfl (hb hby at_31) rfl k_)
  obtain ⟨t1, ht1⟩ : ∃ z : Int32, z = ((((i1.toUInt32 >>> ((8 : Int32) &&& 31).toUInt32).toInt32) &&& (255 : Int32)).toUInt32.toUInt16.toUInt32.toInt32) := ⟨_, rfl⟩
  have R221 : Go p e below P T206 (mkF m 32 #[.val (.int i0), .val (.int i1), .val (.int i2), .val (.int i3), .val (.int i4), .val (.int ks), .val (.ref (kindW w0 w1 w2 w3 w4 ks)), .val (.int t0), .unset, .unset, .unset, .unset, .unset, .unset, .unset, .unset, .unset, .unset] [(.int t1)]) := by rw [ht1]; exact R220
  have ct1 : nar .char t1 = t1 ∧ ¬ t1 < 0 ∧ ¬ (255 : Int32) < t1 := by rw [ht1]; exact chr255 _
  have R222 : Go p e below P T206 (mkF m 34 #[.val (.int i0), .val (.int i1), .val (.int i2), .val (.int i3), .val (.int i4), .val (.int ks), .val (.ref (kindW w0 w1 w2 w3 w4 ks)), .val (.int t0), .val (.int t1), .unset, .unset, .unset, .unset, .unset, .unset, .unset, .unset, .unset] []) := fun t_ k_ => R221 t_ (XS.istore X206.here hx rfl (hb hby at_32) rfl (l' := #[.val (.int i0), .val (.int i1), .val (.int i2), .val (.int i3), .val (.int i4), .val (.int ks), .val (.ref (kindW w0 w1 w2 w3 w4 ks)), .val (.int t0), .val (.int t1), .unset, .unset, .unset, .unset, .unset, .unset, .unset, .unset, .unset]) rfl k_)
  have R223 : Go p e below P T206 (mkF m 35 #[.val (.int i0), .val (.int i1), .val (.int i2), .val (.int i3), .val (.int i4), .val (.int ks), .val (.ref (kindW w0 w1 w2 w3 w4 ks)), .val (.int t0), .val (.int t1), .unset, .unset, .unset, .unset, .unset, .unset, .unset, .unset, .unset] [(.int i1)]) := fun t_ k_ => R222 t_ (XS.iloadN X206.here hx rfl (hb hby at_34) rfl k_)
  have R224 : Go p e below P T206 (mkF m 37 #[.val (.int i0), .val (.int i1), .val (.int i2), .val (.int i3), .val (.int i4), .val (.int ks), .val (.ref (kindW w0 w1 w2 w3 w4 ks)), .val (.int t0), .val (.int t1), .unset, .unset, .unset, .unset, .unset, .unset, .unset, .unset, .unset] [(.int (16 : Int32)), (.int i1)]) := fun t_ k_ => R223 t_ (XS.bipush X206.here hx rfl (hb hby at_35) k_)
  have R225 : Go p e below P T206 (mkF m 38 #[.val (.int i0), .val (.int i1), .val (.int i2), .val (.int i3), .val (.int i4), .val (.int ks), .val (.ref (kindW w0 w1 w2 w3 w4 ks)), .val (.int t0), .val (.int t1), .unset, .unset, .unset, .unset, .unset, .unset, .unset, .unset, .unset] [(.int ((i1.toUInt32 >>> ((16 : Int32) &&& 31).toUInt32).toInt32))]) := fun t_ k_ => R224 t_ (XS.iushr X206.here hx rfl (hb hby at_37) rfl k_)
  have R226 : Go p e below P T206 (mkF m 39 #[.val (.int i0), .val (.int i1), .val (.int i2), .val (.int i3), .val (.int i4), .val (.int ks), .val (.ref (kindW w0 w1 w2 w3 w4 ks)), .val (.int t0), .val (.int t1), .unset, .unset, .unset, .unset, .unset, .unset, .unset, .unset, .unset] [(.int (3 : Int32)), (.int ((i1.toUInt32 >>> ((16 : Int32) &&& 31).toUInt32).toInt32))]) := fun t_ k_ => R225 t_ (XS.iconst X206.here hx rfl (hb hby at_38) k_)
  have R227 : Go p e below P T206 (mkF m 40 #[.val (.int i0), .val (.int i1), .val (.int i2), .val (.int i3), .val (.int i4), .val (.int ks), .val (.ref (kindW w0 w1 w2 w3 w4 ks)), .val (.int t0), .val (.int t1), .unset, .unset, .unset, .unset, .unset, .unset, .unset, .unset, .unset] [(.int (((i1.toUInt32 >>> ((16 : Int32) &&& 31).toUInt32).toInt32) &&& (3 : Int32)))]) := fun t_ k_ => R226 t_ (XS.iand X206.here hx rfl (hb hby at_39) rfl k_)
  have R228 : Go p e below P T206 (mkF m 41 #[.val (.int i0), .val (.int i1), .val (.int i2), .val (.int i3), .val (.int i4), .val (.int ks), .val (.ref (kindW w0 w1 w2 w3 w4 ks)), .val (.int t0), .val (.int t1), .unset, .unset, .unset, .unset, .unset, .unset, .unset, .unset, .unset] [(.int (3 : Int32)), (.int (((i1.toUInt32 >>> ((16 : Int32) &&& 31).toUInt32).toInt32) &&& (3 : Int32)))]) := fun t_ k_ => R227 t_ (XS.iconst X206.here hx rfl (hb hby at_40) k_)
  have R229 : Go p e below P T206 (mkF m 42 #[.val (.int i0), .val (.int i1), .val (.int i2), .val (.int i3), .val (.int i4), .val (.int ks), .val (.ref (kindW w0 w1 w2 w3 w4 ks)), .val (.int t0), .val (.int t1), .unset, .unset, .unset, .unset, .unset, .unset, .unset, .unset, .unset] [(.int ((((i1.toUInt32 >>> ((16 : Int32) &&& 31).toUInt32).toInt32) &&& (3 : Int32)) % (3 : Int32)))]) := fun t_ k_ => R228 t_ (iremM X206 hx rfl (hb hby at_41) rfl (by decide) k_)
  obtain ⟨tl, htl⟩ : ∃ z : Int32, z = ((((i1.toUInt32 >>> ((16 : Int32) &&& 31).toUInt32).toInt32) &&& (3 : Int32)) % (3 : Int32)) := ⟨_, rfl⟩
  have R230 : Go p e below P T206 (mkF m 42 #[.val (.int i0), .val (.int i1), .val (.int i2), .val (.int i3), .val (.int i4), .val (.int ks), .val (.ref (kindW w0 w1 w2 w3 w4 ks)), .val (.int t0), .val (.int t1), .unset, .unset, .unset, .unset, .unset, .unset, .unset, .unset, .unset] [(.int tl)]) := by rw [htl]; exact R229
  have rtl : 0 ≤ tl.toInt ∧ tl.toInt < 3 := by rw [htl]; exact len3 _
  have R231 : Go p e below P T206 (mkF m 44 #[.val (.int i0), .val (.int i1), .val (.int i2), .val (.int i3), .val (.int i4), .val (.int ks), .val (.ref (kindW w0 w1 w2 w3 w4 ks)), .val (.int t0), .val (.int t1), .val (.int tl), .unset, .unset, .unset, .unset, .unset, .unset, .unset, .unset] []) := fun t_ k_ => R230 t_ (XS.istore X206.here hx rfl (hb hby at_42) rfl (l' := #[.val (.int i0), .val (.int i1), .val (.int i2), .val (.int i3), .val (.int i4), .val (.int ks), .val (.ref (kindW w0 w1 w2 w3 w4 ks)), .val (.int t0), .val (.int t1), .val (.int tl), .unset, .unset, .unset, .unset, .unset, .unset, .unset, .unset]) rfl k_)
  obtain ⟨n0_, hj233, R232⟩ : ∃ n0_ : Int32, (nar .char n0_ = n0_ ∧ ¬ n0_ < 0 ∧ ¬ (255 : Int32) < n0_) ∧ Go p e below P T206 (mkF m 61 #[.val (.int i0), .val (.int i1), .val (.int i2), .val (.int i3), .val (.int i4), .val (.int ks), .val (.ref (kindW w0 w1 w2 w3 w4 ks)), .val (.int t0), .val (.int t1), .val (.int tl), .unset, .unset, .unset, .unset, .unset, .unset, .unset, .unset] [(.int n0_)]) := by
    have R234 : Go p e below P T206 (mkF m 45 #[.val (.int i0), .val (.int i1), .val (.int i2), .val (.int i3), .val (.int i4), .val (.int ks), .val (.ref (kindW w0 w1 w2 w3 w4 ks)), .val (.int t0), .val (.int t1), .val (.int tl), .unset, .unset, .unset, .unset, .unset, .unset, .unset, .unset] [(.int i3)]) := fun t_ k_ => R231 t_ (XS.iloadN X206.here hx rfl (hb hby at_44) rfl k_)
    have R235 : Go p e below P T206 (mkF m 46 #[.val (.int i0), .val (.int i1), .val (.int i2), .val (.int i3), .val (.int i4), .val (.int ks), .val (.ref (kindW w0 w1 w2 w3 w4 ks)), .val (.int t0), .val (.int t1), .val (.int tl), .unset, .unset, .unset, .unset, .unset, .unset, .unset, .unset] [(.int (1 : Int32)), (.int i3)]) := fun t_ k_ => R234 t_ (XS.iconst X206.here hx rfl (hb hby at_45) k_)
    have R236 : Go p e below P T206 (mkF m 47 #[.val (.int i0), .val (.int i1), .val (.int i2), .val (.int i3), .val (.int i4), .val (.int ks), .val (.ref (kindW w0 w1 w2 w3 w4 ks)), .val (.int t0), .val (.int t1), .val (.int tl), .unset, .unset, .unset, .unset, .unset, .unset, .unset, .unset] [(.int (i3 &&& (1 : Int32)))]) := fun t_ k_ => R235 t_ (XS.iand X206.here hx rfl (hb hby at_46) rfl k_)
    by_cases hc237 : (i3 &&& (1 : Int32)) = (0 : Int32)
    · have R238 : Go p e below P T206 (mkF m 55 #[.val (.int i0), .val (.int i1), .val (.int i2), .val (.int i3), .val (.int i4), .val (.int ks), .val (.ref (kindW w0 w1 w2 w3 w4 ks)), .val (.int t0), .val (.int t1), .val (.int tl), .unset, .unset, .unset, .unset, .unset, .unset, .unset, .unset] []) := fun t_ k_ => R236 t_ (XS.ifYes X206.here hx rfl (pc0 := 47) (pc' := 55) rfl (hb hby at_47) rfl ((if0 _ _).trans (teq hc237).1) (by decide) (by decide) k_)
      have R239 : Go p e below P T206 (mkF m 56 #[.val (.int i0), .val (.int i1), .val (.int i2), .val (.int i3), .val (.int i4), .val (.int ks), .val (.ref (kindW w0 w1 w2 w3 w4 ks)), .val (.int t0), .val (.int t1), .val (.int tl), .unset, .unset, .unset, .unset, .unset, .unset, .unset, .unset] [(.int i2)]) := fun t_ k_ => R238 t_ (XS.iloadN X206.here hx rfl (hb hby at_55) rfl k_)
      have R240 : Go p e below P T206 (mkF m 59 #[.val (.int i0), .val (.int i1), .val (.int i2), .val (.int i3), .val (.int i4), .val (.int ks), .val (.ref (kindW w0 w1 w2 w3 w4 ks)), .val (.int t0), .val (.int t1), .val (.int tl), .unset, .unset, .unset, .unset, .unset, .unset, .unset, .unset] [(.int (255 : Int32)), (.int i2)]) := fun t_ k_ => R239 t_ (XS.sipush X206.here hx rfl (hb hby at_56) k_)
      have R241 : Go p e below P T206 (mkF m 60 #[.val (.int i0), .val (.int i1), .val (.int i2), .val (.int i3), .val (.int i4), .val (.int ks), .val (.ref (kindW w0 w1 w2 w3 w4 ks)), .val (.int t0), .val (.int t1), .val (.int tl), .unset, .unset, .unset, .unset, .unset, .unset, .unset, .unset] [(.int (i2 &&& (255 : Int32)))]) := fun t_ k_ => R240 t_ (XS.iand X206.here hx rfl (hb hby at_59) rfl k_)
      have R242 : Go p e below P T206 (mkF m 61 #[.val (.int i0), .val (.int i1), .val (.int i2), .val (.int i3), .val (.int i4), .val (.int ks), .val (.ref (kindW w0 w1 w2 w3 w4 ks)), .val (.int t0), .val (.int t1), .val (.int tl), .unset, .unset, .unset, .unset, .unset, .unset, .unset, .unset] [(.int ((i2 &&& (255 : Int32)).toUInt32.toUInt16.toUInt32.toInt32))]) := fun t_ k_ => R241 t_ (XS.i2c X206.here hx rfl (hb hby at_60) rfl k_)
      exact ⟨((i2 &&& (255 : Int32)).toUInt32.toUInt16.toUInt32.toInt32), (chr255 _), R242⟩
    · have R243 : Go p e below P T206 (mkF m 50 #[.val (.int i0), .val (.int i1), .val (.int i2), .val (.int i3), .val (.int i4), .val (.int ks), .val (.ref (kindW w0 w1 w2 w3 w4 ks)), .val (.int t0), .val (.int t1), .val (.int tl), .unset, .unset, .unset, .unset, .unset, .unset, .unset, .unset] []) := fun t_ k_ => R236 t_ (XS.ifNo X206.here hx rfl (hb hby at_47) rfl ((if0 _ _).trans (feq hc237).1) k_)
      have R244 : Go p e below P T206 (mkF m 52 #[.val (.int i0), .val (.int i1), .val (.int i2), .val (.int i3), .val (.int i4), .val (.int ks), .val (.ref (kindW w0 w1 w2 w3 w4 ks)), .val (.int t0), .val (.int t1), .val (.int tl), .unset, .unset, .unset, .unset, .unset, .unset, .unset, .unset] [(.int t0)]) := fun t_ k_ => R243 t_ (XS.iload X206.here hx rfl (hb hby at_50) rfl k_)
      have R245 : Go p e below P T206 (mkF m 61 #[.val (.int i0), .val (.int i1), .val (.int i2), .val (.int i3), .val (.int i4), .val (.int ks), .val (.ref (kindW w0 w1 w2 w3 w4 ks)), .val (.int t0), .val (.int t1), .val (.int tl), .unset, .unset, .unset, .unset, .unset, .unset, .unset, .unset] [(.int t0)]) := fun t_ k_ => R244 t_ (XS.goto X206.here hx rfl (pc0 := 52) (pc' := 61) rfl (hb hby at_52) (by decide) (by decide) k_)
      exact ⟨t0, ct0, R245⟩
  have R246 : Go p e below P T206 (mkF m 63 #[.val (.int i0), .val (.int i1), .val (.int i2), .val (.int i3), .val (.int i4), .val (.int ks), .val (.ref (kindW w0 w1 w2 w3 w4 ks)), .val (.int t0), .val (.int t1), .val (.int tl), .val (.int n0_), .unset, .unset, .unset, .unset, .unset, .unset, .unset] []) := fun t_ k_ => R232 t_ (XS.istore X206.here hx rfl (hb hby at_61) rfl (l' := #[.val (.int i0), .val (.int i1), .val (.int i2), .val (.int i3), .val (.int i4), .val (.int ks), .val (.ref (kindW w0 w1 w2 w3 w4 ks)), .val (.int t0), .val (.int t1), .val (.int tl), .val (.int n0_), .unset, .unset, .unset, .unset, .unset, .unset, .unset]) rfl k_)
  obtain ⟨n1_, hj248, R247⟩ : ∃ n1_ : Int32, (nar .char n1_ = n1_ ∧ ¬ n1_ < 0 ∧ ¬ (255 : Int32) < n1_) ∧ Go p e below P T206 (mkF m 83 #[.val (.int i0), .val (.int i1), .val (.int i2), .val (.int i3), .val (.int i4), .val (.int ks), .val (.ref (kindW w0 w1 w2 w3 w4 ks)), .val (.int t0), .val (.int t1), .val (.int tl), .val (.int n0_), .unset, .unset, .unset, .unset, .unset, .unset, .unset] [(.int n1_)]) := by
    have R249 : Go p e below P T206 (mkF m 64 #[.val (.int i0), .val (.int i1), .val (.int i2), .val (.int i3), .val (.int i4), .val (.int ks), .val (.ref (kindW w0 w1 w2 w3 w4 ks)), .val (.int t0), .val (.int t1), .val (.int tl), .val (.int n0_), .unset, .unset, .unset, .unset, .unset, .unset, .unset] [(.int i3)]) := fun t_ k_ => R246 t_ (XS.iloadN X206.here hx rfl (hb hby at_63) rfl k_)
    have R250 : Go p e below P T206 (mkF m 65 #[.val (.int i0), .val (.int i1), .val (.int i2), .val (.int i3), .val (.int i4), .val (.int ks), .val (.ref (kindW w0 w1 w2 w3 w4 ks)), .val (.int t0), .val (.int t1), .val (.int tl), .val (.int n0_), .unset, .unset, .unset, .unset, .unset, .unset, .unset] [(.int (2 : Int32)), (.int i3)]) := fun t_ k_ => R249 t_ (XS.iconst X206.here hx rfl (hb hby at_64) k_)
    have R251 : Go p e below P T206 (mkF m 66 #[.val (.int i0), .val (.int i1), .val (.int i2), .val (.int i3), .val (.int i4), .val (.int ks), .val (.ref (kindW w0 w1 w2 w3 w4 ks)), .val (.int t0), .val (.int t1), .val (.int tl), .val (.int n0_), .unset, .unset, .unset, .unset, .unset, .unset, .unset] [(.int (i3 &&& (2 : Int32)))]) := fun t_ k_ => R250 t_ (XS.iand X206.here hx rfl (hb hby at_65) rfl k_)
    by_cases hc252 : (i3 &&& (2 : Int32)) = (0 : Int32)
    · have R253 : Go p e below P T206 (mkF m 74 #[.val (.int i0), .val (.int i1), .val (.int i2), .val (.int i3), .val (.int i4), .val (.int ks), .val (.ref (kindW w0 w1 w2 w3 w4 ks)), .val (.int t0), .val (.int t1), .val (.int tl), .val (.int n0_), .unset, .unset, .unset, .unset, .unset, .unset, .unset] []) := fun t_ k_ => R251 t_ (XS.ifYes X206.here hx rfl (pc0 := 66) (pc' := 74) rfl (hb hby at_66) rfl ((if0 _ _).trans (teq hc252).1) (by decide) (by decide) k_)
      have R254 : Go p e below P T206 (mkF m 75 #[.val (.int i0), .val (.int i1), .val (.int i2), .val (.int i3), .val (.int i4), .val (.int ks), .val (.ref (kindW w0 w1 w2 w3 w4 ks)), .val (.int t0), .val (.int t1), .val (.int tl), .val (.int n0_), .unset, .unset, .unset, .unset, .unset, .unset, .unset] [(.int i2)]) := fun t_ k_ => R253 t_ (XS.iloadN X206.here hx rfl (hb hby at_74) rfl k_)
      have R255 : Go p e below P T206 (mkF m 77 #[.val (.int i0), .val (.int i1), .val (.int i2), .val (.int i3), .val (.int i4), .val (.int ks), .val (.ref (kindW w0 w1 w2 w3 w4 ks)), .val (.int t0), .val (.int t1), .val (.int tl), .val (.int n0_), .unset, .unset, .unset, .unset, .unset, .unset, .unset] [(.int (8 : Int32)), (.int i2)]) := fun t_ k_ => R254 t_ (XS.bipush X206.here hx rfl (hb hby at_75) k_)
      have R256 : Go p e below P T206 (mkF m 78 #[.val (.int i0), .val (.int i1), .val (.int i2), .val (.int i3), .val (.int i4), .val (.int ks), .val (.ref (kindW w0 w1 w2 w3 w4 ks)), .val (.int t0), .val (.int t1), .val (.int tl), .val (.int n0_), .unset, .unset, .unset, .unset, .unset, .unset, .unset] [(.int ((i2.toUInt32 >>> ((8 : Int32) &&& 31).toUInt32).toInt32))]) := fun t_ k_ => R255 t_ (XS.iushr X206.here hx rfl (hb hby at_77) rfl k_)
      have R257 : Go p e below P T206 (mkF m 81 #[.val (.int i0), .val (.int i1), .val (.int i2), .val (.int i3), .val (.int i4), .val (.int ks), .val (.ref (kindW w0 w1 w2 w3 w4 ks)), .val (.int t0), .val (.int t1), .val (.int tl), .val (.int n0_), .unset, .unset, .unset, .unset, .unset, .unset, .unset] [(.int (255 : Int32)), (.int ((i2.toUInt32 >>> ((8 : Int32) &&& 31).toUInt32).toInt32))]) := fun t_ k_ => R256 t_ (XS.sipush X206.here hx rfl (hb hby at_78) k_)
      have R258 : Go p e below P T206 (mkF m 82 #[.val (.int i0), .val (.int i1), .val (.int i2), .val (.int i3), .val (.int i4), .val (.int ks), .val (.ref (kindW w0 w1 w2 w3 w4 ks)), .val (.int t0), .val (.int t1), .val (.int tl), .val (.int n0_), .unset, .unset, .unset, .unset, .unset, .unset, .unset] [(.int (((i2.toUInt32 >>> ((8 : Int32) &&& 31).toUInt32).toInt32) &&& (255 : Int32)))]) := fun t_ k_ => R257 t_ (XS.iand X206.here hx rfl (hb hby at_81) rfl k_)
      have R259 : Go p e below P T206 (mkF m 83 #[.val (.int i0), .val (.int i1), .val (.int i2), .val (.int i3), .val (.int i4), .val (.int ks), .val (.ref (kindW w0 w1 w2 w3 w4 ks)), .val (.int t0), .val (.int t1), .val (.int tl), .val (.int n0_), .unset, .unset, .unset, .unset, .unset, .unset, .unset] [(.int ((((i2.toUInt32 >>> ((8 : Int32) &&& 31).toUInt32).toInt32) &&& (255 : Int32)).toUInt32.toUInt16.toUInt32.toInt32))]) := fun t_ k_ => R258 t_ (XS.i2c X206.here hx rfl (hb hby at_82) rfl k_)
      exact ⟨((((i2.toUInt32 >>> ((8 : Int32) &&& 31).toUInt32).toInt32) &&& (255 : Int32)).toUInt32.toUInt16.toUInt32.toInt32), (chr255 _), R259⟩
    · have R260 : Go p e below P T206 (mkF m 69 #[.val (.int i0), .val (.int i1), .val (.int i2), .val (.int i3), .val (.int i4), .val (.int ks), .val (.ref (kindW w0 w1 w2 w3 w4 ks)), .val (.int t0), .val (.int t1), .val (.int tl), .val (.int n0_), .unset, .unset, .unset, .unset, .unset, .unset, .unset] []) := fun t_ k_ => R251 t_ (XS.ifNo X206.here hx rfl (hb hby at_66) rfl ((if0 _ _).trans (feq hc252).1) k_)
      have R261 : Go p e below P T206 (mkF m 71 #[.val (.int i0), .val (.int i1), .val (.int i2), .val (.int i3), .val (.int i4), .val (.int ks), .val (.ref (kindW w0 w1 w2 w3 w4 ks)), .val (.int t0), .val (.int t1), .val (.int tl), .val (.int n0_), .unset, .unset, .unset, .unset, .unset, .unset, .unset] [(.int t1)]) := fun t_ k_ => R260 t_ (XS.iload X206.here hx rfl (hb hby at_69) rfl k_)
      have R262 : Go p e below P T206 (mkF m 83 #[.val (.int i0), .val (.int i1), .val (.int i2), .val (.int i3), .val (.int i4), .val (.int ks), .val (.ref (kindW w0 w1 w2 w3 w4 ks)), .val (.int t0), .val (.int t1), .val (.int tl), .val (.int n0_), .unset, .unset, .unset, .unset, .unset, .unset, .unset] [(.int t1)]) := fun t_ k_ => R261 t_ (XS.goto X206.here hx rfl (pc0 := 71) (pc' := 83) rfl (hb hby at_71) (by decide) (by decide) k_)
      exact ⟨t1, ct1, R262⟩
  have R263 : Go p e below P T206 (mkF m 85 #[.val (.int i0), .val (.int i1), .val (.int i2), .val (.int i3), .val (.int i4), .val (.int ks), .val (.ref (kindW w0 w1 w2 w3 w4 ks)), .val (.int t0), .val (.int t1), .val (.int tl), .val (.int n0_), .val (.int n1_), .unset, .unset, .unset, .unset, .unset, .unset] []) := fun t_ k_ => R247 t_ (XS.istore X206.here hx rfl (hb hby at_83) rfl (l' := #[.val (.int i0), .val (.int i1), .val (.int i2), .val (.int i3), .val (.int i4), .val (.int ks), .val (.ref (kindW w0 w1 w2 w3 w4 ks)), .val (.int t0), .val (.int t1), .val (.int tl), .val (.int n0_), .val (.int n1_), .unset, .unset, .unset, .unset, .unset, .unset]) rfl k_)
  obtain ⟨nl, hj265, R264⟩ : ∃ nl : Int32, (0 ≤ nl.toInt ∧ nl.toInt < 3) ∧ Go p e below P T206 (mkF m 104 #[.val (.int i0), .val (.int i1), .val (.int i2), .val (.int i3), .val (.int i4), .val (.int ks), .val (.ref (kindW w0 w1 w2 w3 w4 ks)), .val (.int t0), .val (.int t1), .val (.int tl), .val (.int n0_), .val (.int n1_), .unset, .unset, .unset, .unset, .unset, .unset] [(.int nl)]) := by
    have R266 : Go p e below P T206 (mkF m 86 #[.val (.int i0), .val (.int i1), .val (.int i2), .val (.int i3), .val (.int i4), .val (.int ks), .val (.ref (kindW w0 w1 w2 w3 w4 ks)), .val (.int t0), .val (.int t1), .val (.int tl), .val (.int n0_), .val (.int n1_), .unset, .unset, .unset, .unset, .unset, .unset] [(.int i3)]) := fun t_ k_ => R263 t_ (XS.iloadN X206.here hx rfl (hb hby at_85) rfl k_)
    have R267 : Go p e below P T206 (mkF m 87 #[.val (.int i0), .val (.int i1), .val (.int i2), .val (.int i3), .val (.int i4), .val (.int ks), .val (.ref (kindW w0 w1 w2 w3 w4 ks)), .val (.int t0), .val (.int t1), .val (.int tl), .val (.int n0_), .val (.int n1_), .unset, .unset, .unset, .unset, .unset, .unset] [(.int (4 : Int32)), (.int i3)]) := fun t_ k_ => R266 t_ (XS.iconst X206.here hx rfl (hb hby at_86) k_)
    have R268 : Go p e below P T206 (mkF m 88 #[.val (.int i0), .val (.int i1), .val (.int i2), .val (.int i3), .val (.int i4), .val (.int ks), .val (.ref (kindW w0 w1 w2 w3 w4 ks)), .val (.int t0), .val (.int t1), .val (.int tl), .val (.int n0_), .val (.int n1_), .unset, .unset, .unset, .unset, .unset, .unset] [(.int (i3 &&& (4 : Int32)))]) := fun t_ k_ => R267 t_ (XS.iand X206.here hx rfl (hb hby at_87) rfl k_)
    by_cases hc269 : (i3 &&& (4 : Int32)) = (0 : Int32)
    · have R270 : Go p e below P T206 (mkF m 96 #[.val (.int i0), .val (.int i1), .val (.int i2), .val (.int i3), .val (.int i4), .val (.int ks), .val (.ref (kindW w0 w1 w2 w3 w4 ks)), .val (.int t0), .val (.int t1), .val (.int tl), .val (.int n0_), .val (.int n1_), .unset, .unset, .unset, .unset, .unset, .unset] []) := fun t_ k_ => R268 t_ (XS.ifYes X206.here hx rfl (pc0 := 88) (pc' := 96) rfl (hb hby at_88) rfl ((if0 _ _).trans (teq hc269).1) (by decide) (by decide) k_)
      have R271 : Go p e below P T206 (mkF m 97 #[.val (.int i0), .val (.int i1), .val (.int i2), .val (.int i3), .val (.int i4), .val (.int ks), .val (.ref (kindW w0 w1 w2 w3 w4 ks)), .val (.int t0), .val (.int t1), .val (.int tl), .val (.int n0_), .val (.int n1_), .unset, .unset, .unset, .unset, .unset, .unset] [(.int i2)]) := fun t_ k_ => R270 t_ (XS.iloadN X206.here hx rfl (hb hby at_96) rfl k_)
      have R272 : Go p e below P T206 (mkF m 99 #[.val (.int i0), .val (.int i1), .val (.int i2), .val (.int i3), .val (.int i4), .val (.int ks), .val (.ref (kindW w0 w1 w2 w3 w4 ks)), .val (.int t0), .val (.int t1), .val (.int tl), .val (.int n0_), .val (.int n1_), .unset, .unset, .unset, .unset, .unset, .unset] [(.int (16 : Int32)), (.int i2)]) := fun t_ k_ => R271 t_ (XS.bipush X206.here hx rfl (hb hby at_97) k_)
      have R273 : Go p e below P T206 (mkF m 100 #[.val (.int i0), .val (.int i1), .val (.int i2), .val (.int i3), .val (.int i4), .val (.int ks), .val (.ref (kindW w0 w1 w2 w3 w4 ks)), .val (.int t0), .val (.int t1), .val (.int tl), .val (.int n0_), .val (.int n1_), .unset, .unset, .unset, .unset, .unset, .unset] [(.int ((i2.toUInt32 >>> ((16 : Int32) &&& 31).toUInt32).toInt32))]) := fun t_ k_ => R272 t_ (XS.iushr X206.here hx rfl (hb hby at_99) rfl k_)
      have R274 : Go p e below P T206 (mkF m 101 #[.val (.int i0), .val (.int i1), .val (.int i2), .val (.int i3), .val (.int i4), .val (.int ks), .val (.ref (kindW w0 w1 w2 w3 w4 ks)), .val (.int t0), .val (.int t1), .val (.int tl), .val (.int n0_), .val (.int n1_), .unset, .unset, .unset, .unset, .unset, .unset] [(.int (3 : Int32)), (.int ((i2.toUInt32 >>> ((16 : Int32) &&& 31).toUInt32).toInt32))]) := fun t_ k_ => R273 t_ (XS.iconst X206.here hx rfl (hb hby at_100) k_)
      have R275 : Go p e below P T206 (mkF m 102 #[.val (.int i0), .val (.int i1), .val (.int i2), .val (.int i3), .val (.int i4), .val (.int ks), .val (.ref (kindW w0 w1 w2 w3 w4 ks)), .val (.int t0), .val (.int t1), .val (.int tl), .val (.int n0_), .val (.int n1_), .unset, .unset, .unset, .unset, .unset, .unset] [(.int (((i2.toUInt32 >>> ((16 : Int32) &&& 31).toUInt32).toInt32) &&& (3 : Int32)))]) := fun t_ k_ => R274 t_ (XS.iand X206.here hx rfl (hb hby at_101) rfl k_)
      have R276 : Go p e below P T206 (mkF m 103 #[.val (.int i0), .val (.int i1), .val (.int i2), .val (.int i3), .val (.int i4), .val (.int ks), .val (.ref (kindW w0 w1 w2 w3 w4 ks)), .val (.int t0), .val (.int t1), .val (.int tl), .val (.int n0_), .val (.int n1_), .unset, .unset, .unset, .unset, .unset, .unset] [(.int (3 : Int32)), (.int (((i2.toUInt32 >>> ((16 : Int32) &&& 31).toUInt32).toInt32) &&& (3 : Int32)))]) := fun t_ k_ => R275 t_ (XS.iconst X206.here hx rfl (hb hby at_102) k_)
      have R277 : Go p e below P T206 (mkF m 104 #[.val (.int i0), .val (.int i1), .val (.int i2), .val (.int i3), .val (.int i4), .val (.int ks), .val (.ref (kindW w0 w1 w2 w3 w4 ks)), .val (.int t0), .val (.int t1), .val (.int tl), .val (.int n0_), .val (.int n1_), .unset, .unset, .unset, .unset, .unset, .unset] [(.int ((((i2.toUInt32 >>> ((16 : Int32) &&& 31).toUInt32).toInt32) &&& (3 : Int32)) % (3 : Int32)))]) := fun t_ k_ => R276 t_ (iremM X206 hx rfl (hb hby at_103) rfl (by decide) k_)
      exact ⟨((((i2.toUInt32 >>> ((16 : Int32) &&& 31).toUInt32).toInt32) &&& (3 : Int32)) % (3 : Int32)), (len3 _), R277⟩
    · have R278 : Go p e below P T206 (mkF m 91 #[.val (.int i0), .val (.int i1), .val (.int i2), .val (.int i3), .val (.int i4), .val (.int ks), .val (.ref (kindW w0 w1 w2 w3 w4 ks)), .val (.int t0), .val (.int t1), .val (.int tl), .val (.int n0_), .val (.int n1_), .unset, .unset, .unset, .unset, .unset, .unset] []) := fun t_ k_ => R268 t_ (XS.ifNo X206.here hx rfl (hb hby at_88) rfl ((if0 _ _).trans (feq hc269).1) k_)
      have R279 : Go p e below P T206 (mkF m 93 #[.val (.int i0), .val (.int i1), .val (.int i2), .val (.int i3), .val (.int i4), .val (.int ks), .val (.ref (kindW w0 w1 w2 w3 w4 ks)), .val (.int t0), .val (.int t1), .val (.int tl), .val (.int n0_), .val (.int n1_), .unset, .unset, .unset, .unset, .unset, .unset] [(.int tl)]) := fun t_ k_ => R278 t_ (XS.iload X206.here hx rfl (hb hby at_91) rfl k_)
      have R280 : Go p e below P T206 (mkF m 104 #[.val (.int i0), .val (.int i1), .val (.int i2), .val (.int i3), .val (.int i4), .val (.int ks), .val (.ref (kindW w0 w1 w2 w3 w4 ks)), .val (.int t0), .val (.int t1), .val (.int tl), .val (.int n0_), .val (.int n1_), .unset, .unset, .unset, .unset, .unset, .unset] [(.int tl)]) := fun t_ k_ => R279 t_ (XS.goto X206.here hx rfl (pc0 := 93) (pc' := 104) rfl (hb hby at_93) (by decide) (by decide) k_)
      exact ⟨tl, rtl, R280⟩
  have R281 : Go p e below P T206 (mkF m 106 #[.val (.int i0), .val (.int i1), .val (.int i2), .val (.int i3), .val (.int i4), .val (.int ks), .val (.ref (kindW w0 w1 w2 w3 w4 ks)), .val (.int t0), .val (.int t1), .val (.int tl), .val (.int n0_), .val (.int n1_), .val (.int nl), .unset, .unset, .unset, .unset, .unset] []) := fun t_ k_ => R264 t_ (XS.istore X206.here hx rfl (hb hby at_104) rfl (l' := #[.val (.int i0), .val (.int i1), .val (.int i2), .val (.int i3), .val (.int i4), .val (.int ks), .val (.ref (kindW w0 w1 w2 w3 w4 ks)), .val (.int t0), .val (.int t1), .val (.int tl), .val (.int n0_), .val (.int n1_), .val (.int nl), .unset, .unset, .unset, .unset, .unset]) rfl k_)
  have R282 : Go p e below P T206 (mkF m 108 #[.val (.int i0), .val (.int i1), .val (.int i2), .val (.int i3), .val (.int i4), .val (.int ks), .val (.ref (kindW w0 w1 w2 w3 w4 ks)), .val (.int t0), .val (.int t1), .val (.int tl), .val (.int n0_), .val (.int n1_), .val (.int nl), .unset, .unset, .unset, .unset, .unset] [(.int tl)]) := fun t_ k_ => R281 t_ (XS.iload X206.here hx rfl (hb hby at_106) rfl k_)
  have R283 : Go p e below P T206 (mkF m 110 #[.val (.int i0), .val (.int i1), .val (.int i2), .val (.int i3), .val (.int i4), .val (.int ks), .val (.ref (kindW w0 w1 w2 w3 w4 ks)), .val (.int t0), .val (.int t1), .val (.int tl), .val (.int n0_), .val (.int n1_), .val (.int nl), .unset, .unset, .unset, .unset, .unset] [(.int t0), (.int tl)]) := fun t_ k_ => R282 t_ (XS.iload X206.here hx rfl (hb hby at_108) rfl k_)
  have R284 : Go p e below P T206 (mkF m 112 #[.val (.int i0), .val (.int i1), .val (.int i2), .val (.int i3), .val (.int i4), .val (.int ks), .val (.ref (kindW w0 w1 w2 w3 w4 ks)), .val (.int t0), .val (.int t1), .val (.int tl), .val (.int n0_), .val (.int n1_), .val (.int nl), .unset, .unset, .unset, .unset, .unset] [(.int t1), (.int t0), (.int tl)]) := fun t_ k_ => R283 t_ (XS.iload X206.here hx rfl (hb hby at_110) rfl k_)
  obtain ⟨rv285, _, ⟨T285, L285, k285, n285⟩, -, X285, hT285, hG285, ⟨Lc285, hQ285, l285, y285, z285, hC285⟩, st285⟩ := callSS X206 hx (y := (⟨"com/example/covrage/covrage/model/TokenIsNamePinLaw", "str", "(ICC)Ljava/lang/String;"⟩ : MethodName)) hown (mvT hZ (hw _ (List.mem_of_getElem? (i := 8) rfl))) (mvT hZ (hw _ (List.mem_of_getElem? (i := 9) rfl))) (mvT hZ (hw _ (List.mem_of_getElem? (i := 3) rfl))) (mvT hZ (hw _ (List.mem_of_getElem? (i := 10) rfl))) (by decide) (backOfSH (W := 0) (str_ l Z a0 hw [] tl t0 t1 zc h0 n0 O0 hEL P5 hzc ct0 ct1) hZ (hw _ (List.mem_of_getElem? (i := 10) rfl)) (hw _ (List.mem_of_getElem? (i := 3) rfl)) (by decide) (by decide) hEL C0.1) (g := (mkF m 112 #[.val (.int i0), .val (.int i1), .val (.int i2), .val (.int i3), .val (.int i4), .val (.int ks), .val (.ref (kindW w0 w1 w2 w3 w4 ks)), .val (.int t0), .val (.int t1), .val (.int tl), .val (.int n0_), .val (.int n1_), .val (.int nl), .unset, .unset, .unset, .unset, .unset] [(.int t1), (.int t0), (.int tl)])) rfl (by rw [hml]; rfl) (argsL := [(.int tl), (.int t0), (.int t1)]) (rest := []) (lenOf pd_30170099 rfl) rfl (by show 2 * 0 + _ ≤ _; exact Nat.le_of_eq rfl) (hb hby at_112) (fun _ _ => ⟨rfl, K206, (by decide : 0 + 6 ≤ _), (by decide : 0 + 12 ≤ _)⟩)
  dsimp only [Pt.U, Pt.locs, Pt.cells, Pt.slots] at X285 hT285 hG285 l285 y285 z285 hC285 st285 hQ285
  subst l285 y285 z285
  obtain ⟨X285, hS285, hZ, hown⟩ := rebS hS0 (by rw [K206]; exact hk0) X285 hT285 hG285 hZ hown
  have hk285 : T285.heap.size ≤ T285.heap.size := Nat.le_refl _
  obtain ⟨x_285, t_285, kb_285, rfl, N285q, K285, p285_0, p285_1, p285_2, p285_3, p285_4⟩ := hQ285
  have N285 := Fr.app N206 N285q
  have O285 := O0.keep K285 all0
  have C286 := C0.trans hC285
  have R287 : Go p e below P T285 (mkF m 115 #[.val (.int i0), .val (.int i1), .val (.int i2), .val (.int i3), .val (.int i4), .val (.int ks), .val (.ref (kindW w0 w1 w2 w3 w4 ks)), .val (.int t0), .val (.int t1), .val (.int tl), .val (.int n0_), .val (.int n1_), .val (.int nl), .unset, .unset, .unset, .unset, .unset] [(.ref x_285)]) := fun t_ k_ => R284 t_ (st285.trans k_)
  have R288 : Go p e below P T285 (mkF m 117 #[.val (.int i0), .val (.int i1), .val (.int i2), .val (.int i3), .val (.int i4), .val (.int ks), .val (.ref (kindW w0 w1 w2 w3 w4 ks)), .val (.int t0), .val (.int t1), .val (.int tl), .val (.int n0_), .val (.int n1_), .val (.int nl), .val (.ref x_285), .unset, .unset, .unset, .unset] []) := fun t_ k_ => R287 t_ (XS.astore X285.here hx rfl (hb hby at_115) rfl rfl (l' := #[.val (.int i0), .val (.int i1), .val (.int i2), .val (.int i3), .val (.int i4), .val (.int ks), .val (.ref (kindW w0 w1 w2 w3 w4 ks)), .val (.int t0), .val (.int t1), .val (.int tl), .val (.int n0_), .val (.int n1_), .val (.int nl), .val (.ref x_285), .unset, .unset, .unset, .unset]) rfl k_)
  have R289 : Go p e below P T285 (mkF m 119 #[.val (.int i0), .val (.int i1), .val (.int i2), .val (.int i3), .val (.int i4), .val (.int ks), .val (.ref (kindW w0 w1 w2 w3 w4 ks)), .val (.int t0), .val (.int t1), .val (.int tl), .val (.int n0_), .val (.int n1_), .val (.int nl), .val (.ref x_285), .unset, .unset, .unset, .unset] [(.int nl)]) := fun t_ k_ => R288 t_ (XS.iload X285.here hx rfl (hb hby at_117) rfl k_)
  have R290 : Go p e below P T285 (mkF m 121 #[.val (.int i0), .val (.int i1), .val (.int i2), .val (.int i3), .val (.int i4), .val (.int ks), .val (.ref (kindW w0 w1 w2 w3 w4 ks)), .val (.int t0), .val (.int t1), .val (.int tl), .val (.int n0_), .val (.int n1_), .val (.int nl), .val (.ref x_285), .unset, .unset, .unset, .unset] [(.int n0_), (.int nl)]) := fun t_ k_ => R289 t_ (XS.iload X285.here hx rfl (hb hby at_119) rfl k_)
  have R291 : Go p e below P T285 (mkF m 123 #[.val (.int i0), .val (.int i1), .val (.int i2), .val (.int i3), .val (.int i4), .val (.int ks), .val (.ref (kindW w0 w1 w2 w3 w4 ks)), .val (.int t0), .val (.int t1), .val (.int tl), .val (.int n0_), .val (.int n1_), .val (.int nl), .val (.ref x_285), .unset, .unset, .unset, .unset] [(.int n1_), (.int n0_), (.int nl)]) := fun t_ k_ => R290 t_ (XS.iload X285.here hx rfl (hb hby at_121) rfl k_)
  obtain ⟨rv292, _, ⟨T292, L292, k292, n292⟩, -, X292, hT292, hG292, ⟨Lc292, hQ292, l292, y292, z292, hC292⟩, st292⟩ := callSS X285 hx (y := (⟨"com/example/covrage/covrage/model/TokenIsNamePinLaw", "str", "(ICC)Ljava/lang/String;"⟩ : MethodName)) hown (mvT hZ (hw _ (List.mem_of_getElem? (i := 8) rfl))) (mvT hZ (hw _ (List.mem_of_getElem? (i := 9) rfl))) (mvT hZ (hw _ (List.mem_of_getElem? (i := 3) rfl))) (mvT hZ (hw _ (List.mem_of_getElem? (i := 10) rfl))) (by decide) (backOfSH (W := 0) (str_ l Z a0 hw [] nl n0_ n1_ zc T285.heap n0 O285 hEL P5 hzc hj233 hj248) hZ (hw _ (List.mem_of_getElem? (i := 10) rfl)) (hw _ (List.mem_of_getElem? (i := 3) rfl)) (by decide) (by decide) hEL C286.1) (g := (mkF m 123 #[.val (.int i0), .val (.int i1), .val (.int i2), .val (.int i3), .val (.int i4), .val (.int ks), .val (.ref (kindW w0 w1 w2 w3 w4 ks)), .val (.int t0), .val (.int t1), .val (.int tl), .val (.int n0_), .val (.int n1_), .val (.int nl), .val (.ref x_285), .unset, .unset, .unset, .unset] [(.int n1_), (.int n0_), (.int nl)])) rfl (by rw [hml]; rfl) (argsL := [(.int nl), (.int n0_), (.int n1_)]) (rest := []) (lenOf pd_30170099 rfl) rfl (by show 2 * 0 + _ ≤ _; exact Nat.le_of_eq rfl) (hb hby at_123) (fun _ _ => ⟨rfl, (rfl : T285.heap = T285.heap), (by decide : 6 + 6 ≤ _), (by decide : 12 + 12 ≤ _)⟩)
  dsimp only [Pt.U, Pt.locs, Pt.cells, Pt.slots] at X292 hT292 hG292 l292 y292 z292 hC292 st292 hQ292
  subst l292 y292 z292
  obtain ⟨X292, hS292, hZ, hown⟩ := rebS hS285 (by rw [(rfl : T285.heap = T285.heap)]; exact hk285) X292 hT292 hG292 hZ hown
  have hk292 : T292.heap.size ≤ T292.heap.size := Nat.le_refl _
  obtain ⟨x_292, t_292, kb_292, rfl, N292q, K292, p292_0, p292_1, p292_2, p292_3, p292_4⟩ := hQ292
  have N292 := Fr.app N285 N292q
  have O292 := O285.keep K292 all0
  have C293 := C286.trans hC292
  have R294 : Go p e below P T292 (mkF m 126 #[.val (.int i0), .val (.int i1), .val (.int i2), .val (.int i3), .val (.int i4), .val (.int ks), .val (.ref (kindW w0 w1 w2 w3 w4 ks)), .val (.int t0), .val (.int t1), .val (.int tl), .val (.int n0_), .val (.int n1_), .val (.int nl), .val (.ref x_285), .unset, .unset, .unset, .unset] [(.ref x_292)]) := fun t_ k_ => R291 t_ (st292.trans k_)
  have R295 : Go p e below P T292 (mkF m 128 #[.val (.int i0), .val (.int i1), .val (.int i2), .val (.int i3), .val (.int i4), .val (.int ks), .val (.ref (kindW w0 w1 w2 w3 w4 ks)), .val (.int t0), .val (.int t1), .val (.int tl), .val (.int n0_), .val (.int n1_), .val (.int nl), .val (.ref x_285), .val (.ref x_292), .unset, .unset, .unset] []) := fun t_ k_ => R294 t_ (XS.astore X292.here hx rfl (hb hby at_126) rfl rfl (l' := #[.val (.int i0), .val (.int i1), .val (.int i2), .val (.int i3), .val (.int i4), .val (.int ks), .val (.ref (kindW w0 w1 w2 w3 w4 ks)), .val (.int t0), .val (.int t1), .val (.int tl), .val (.int n0_), .val (.int n1_), .val (.int nl), .val (.ref x_285), .val (.ref x_292), .unset, .unset, .unset]) rfl k_)
  obtain ⟨T296, h296, X296, e296, E296, A296, D296, -, st296⟩ := newO X292 hx hZ hown (hw _ (List.mem_of_getElem? (i := 33) rfl)) (hw _ (List.mem_of_getElem? (i := 34) rfl)) (hw _ (List.mem_of_getElem? (i := 35) rfl)) (rfl : T292.heap = T292.heap) (g := (mkF m 128 #[.val (.int i0), .val (.int i1), .val (.int i2), .val (.int i3), .val (.int i4), .val (.int ks), .val (.ref (kindW w0 w1 w2 w3 w4 ks)), .val (.int t0), .val (.int t1), .val (.int tl), .val (.int n0_), .val (.int n1_), .val (.int nl), .val (.ref x_285), .val (.ref x_292), .unset, .unset, .unset] [])) rfl (hb hby at_128) (by decide) (by decide)
  obtain ⟨b296, g296⟩ : ∃ z, z = T292.heap.size := ⟨_, rfl⟩
  rw [← g296] at A296 D296 st296
  have O296 := O292.ext E296
  have C297 := C293.trans (CHr.ext E296 C293.1)
  have hk297 := Nat.le_trans hk292 E296.1
  have Sb296 : Safe Z EL0 _ _ _ := Safe.ext E296 C293.1 (Safe.new (Nat.le_of_eq g296.symm))
  have F296_41 : Fld Z h296 b296 "com/example/covrage/covrage/model/Lexer$Token" "kind" "Lcom/example/covrage/covrage/model/Lexer$Kind;" .null := D296 (Or.inr (hw _ (List.mem_of_getElem? (i := 41) rfl))) (ty := (.object "com/example/covrage/covrage/model/Lexer$Kind")) (by decide)
  have F296_43 : Fld Z h296 b296 "com/example/covrage/covrage/model/Lexer$Token" "text" "Ljava/lang/String;" .null := D296 (Or.inr (hw _ (List.mem_of_getElem? (i := 43) rfl))) (ty := (.object "java/lang/String")) (by decide)
  have F296_45 : Fld Z h296 b296 "com/example/covrage/covrage/model/Lexer$Token" "line" "I" (.int (0 : Int32)) := D296 (Or.inr (hw _ (List.mem_of_getElem? (i := 45) rfl))) (ty := .int) (by decide)
  have R298 : Go p e below P T296 (mkF m 131 #[.val (.int i0), .val (.int i1), .val (.int i2), .val (.int i3), .val (.int i4), .val (.int ks), .val (.ref (kindW w0 w1 w2 w3 w4 ks)), .val (.int t0), .val (.int t1), .val (.int tl), .val (.int n0_), .val (.int n1_), .val (.int nl), .val (.ref x_285), .val (.ref x_292), .unset, .unset, .unset] [(.ref b296)]) := fun t_ k_ => R295 t_ (st296 t_ k_)
  have R299 : Go p e below P T296 (mkF m 132 #[.val (.int i0), .val (.int i1), .val (.int i2), .val (.int i3), .val (.int i4), .val (.int ks), .val (.ref (kindW w0 w1 w2 w3 w4 ks)), .val (.int t0), .val (.int t1), .val (.int tl), .val (.int n0_), .val (.int n1_), .val (.int nl), .val (.ref x_285), .val (.ref x_292), .unset, .unset, .unset] [(.ref b296), (.ref b296)]) := fun t_ k_ => R298 t_ (XS.dup X296.here hx rfl (hb hby at_131) rfl rfl k_)
  have R300 : Go p e below P T296 (mkF m 134 #[.val (.int i0), .val (.int i1), .val (.int i2), .val (.int i3), .val (.int i4), .val (.int ks), .val (.ref (kindW w0 w1 w2 w3 w4 ks)), .val (.int t0), .val (.int t1), .val (.int tl), .val (.int n0_), .val (.int n1_), .val (.int nl), .val (.ref x_285), .val (.ref x_292), .unset, .unset, .unset] [(.ref (kindW w0 w1 w2 w3 w4 ks)), (.ref b296), (.ref b296)]) := fun t_ k_ => R299 t_ (XS.aload X296.here hx rfl (hb hby at_132) rfl rfl k_)
  have R301 : Go p e below P T296 (mkF m 136 #[.val (.int i0), .val (.int i1), .val (.int i2), .val (.int i3), .val (.int i4), .val (.int ks), .val (.ref (kindW w0 w1 w2 w3 w4 ks)), .val (.int t0), .val (.int t1), .val (.int tl), .val (.int n0_), .val (.int n1_), .val (.int nl), .val (.ref x_285), .val (.ref x_292), .unset, .unset, .unset] [(.ref x_285), (.ref (kindW w0 w1 w2 w3 w4 ks)), (.ref b296), (.ref b296)]) := fun t_ k_ => R300 t_ (XS.aload X296.here hx rfl (hb hby at_134) rfl rfl k_)
  have R302 : Go p e below P T296 (mkF m 138 #[.val (.int i0), .val (.int i1), .val (.int i2), .val (.int i3), .val (.int i4), .val (.int ks), .val (.ref (kindW w0 w1 w2 w3 w4 ks)), .val (.int t0), .val (.int t1), .val (.int tl), .val (.int n0_), .val (.int n1_), .val (.int nl), .val (.ref x_285), .val (.ref x_292), .unset, .unset, .unset] [(.int i4), (.ref x_285), (.ref (kindW w0 w1 w2 w3 w4 ks)), (.ref b296), (.ref b296)]) := fun t_ k_ => R301 t_ (XS.iload X296.here hx rfl (hb hby at_136) rfl k_)
  have Sw303 : Safe Z EL0 _ _ b296 := Sb296
  obtain ⟨rv304, _, ⟨T304, L304, k304, n304⟩, -, X304, ⟨Lc304, hQ304, l304, y304, z304⟩, st304⟩ := X296.specialBack hx (y := (⟨"com/example/covrage/covrage/model/Lexer$Token", "<init>", "(Lcom/example/covrage/covrage/model/Lexer$Kind;Ljava/lang/String;I)V"⟩ : MethodName)) rfl hown (mvT hZ (hw _ (List.mem_of_getElem? (i := 36) rfl))) (mvT hZ (hw _ (List.mem_of_getElem? (i := 37) rfl))) (mvT hZ (hw _ (List.mem_of_getElem? (i := 38) rfl))) (by decide) (backOf (W := 1) (tokInit_ l Z a0 hw [] b296 (kindW w0 w1 w2 w3 w4 ks) x_285 i4 h296 n0 O296 A296 F296_41 F296_43 F296_45 (Nat.le_trans (oldLe O292) (Nat.le_of_eq g296.symm))) hZ (hw _ (List.mem_of_getElem? (i := 38) rfl)) (hw _ (List.mem_of_getElem? (i := 35) rfl)) (by decide) (by decide)) (g := (mkF m 138 #[.val (.int i0), .val (.int i1), .val (.int i2), .val (.int i3), .val (.int i4), .val (.int ks), .val (.ref (kindW w0 w1 w2 w3 w4 ks)), .val (.int t0), .val (.int t1), .val (.int tl), .val (.int n0_), .val (.int n1_), .val (.int nl), .val (.ref x_285), .val (.ref x_292), .unset, .unset, .unset] [(.int i4), (.ref x_285), (.ref (kindW w0 w1 w2 w3 w4 ks)), (.ref b296), (.ref b296)])) rfl (by rw [hml]; rfl) (Steps.refl _) (a := b296) (argsL := [(.ref (kindW w0 w1 w2 w3 w4 ks)), (.ref x_285), (.int i4)]) (rest := [(.ref b296)]) (lenOf pd_64371217 rfl) rfl (by show 2 * 0 + _ ≤ _; exact Nat.le_of_eq rfl) (hb hby at_138) (fun _ _ => ⟨rfl, e296, (by decide : 13 + 0 ≤ _), (by decide : 27 + 0 ≤ _)⟩)
  dsimp only [Pt.U, Pt.locs, Pt.cells, Pt.slots] at X304 l304 y304 z304 st304 hQ304
  subst l304 y304 z304
  obtain ⟨rfl, N304q, K304, p304_0, p304_1, p304_2, p304_3⟩ := hQ304
  have N304 := Fr.app N292 N304q
  have O304 := O296.keep K304 (allS (Nat.le_trans (oldLe O292) (Nat.le_of_eq g296.symm)) all0)
  have C305 := C297.trans (CHr.keep K304 (sfS Sw303 sf0) C297.1)
  have hk305 := Nat.le_trans hk297 K304.1
  have R306 : Go p e below P T304 (mkF m 141 #[.val (.int i0), .val (.int i1), .val (.int i2), .val (.int i3), .val (.int i4), .val (.int ks), .val (.ref (kindW w0 w1 w2 w3 w4 ks)), .val (.int t0), .val (.int t1), .val (.int tl), .val (.int n0_), .val (.int n1_), .val (.int nl), .val (.ref x_285), .val (.ref x_292), .unset, .unset, .unset] [(.ref b296)]) := fun t_ k_ => R302 t_ (st304.trans k_)
  have R307 : Go p e below P T304 (mkF m 143 #[.val (.int i0), .val (.int i1), .val (.int i2), .val (.int i3), .val (.int i4), .val (.int ks), .val (.ref (kindW w0 w1 w2 w3 w4 ks)), .val (.int t0), .val (.int t1), .val (.int tl), .val (.int n0_), .val (.int n1_), .val (.int nl), .val (.ref x_285), .val (.ref x_292), .val (.ref b296), .unset, .unset] []) := fun t_ k_ => R306 t_ (XS.astore X304.here hx rfl (hb hby at_141) rfl rfl (l' := #[.val (.int i0), .val (.int i1), .val (.int i2), .val (.int i3), .val (.int i4), .val (.int ks), .val (.ref (kindW w0 w1 w2 w3 w4 ks)), .val (.int t0), .val (.int t1), .val (.int tl), .val (.int n0_), .val (.int n1_), .val (.int nl), .val (.ref x_285), .val (.ref x_292), .val (.ref b296), .unset, .unset]) rfl k_)
  obtain ⟨sm, hj309, R308⟩ : ∃ sm : Int32, (sm = sameI tl nl t0 t1 n0_ n1_) ∧ Go p e below P T304 (mkF m 181 #[.val (.int i0), .val (.int i1), .val (.int i2), .val (.int i3), .val (.int i4), .val (.int ks), .val (.ref (kindW w0 w1 w2 w3 w4 ks)), .val (.int t0), .val (.int t1), .val (.int tl), .val (.int n0_), .val (.int n1_), .val (.int nl), .val (.ref x_285), .val (.ref x_292), .val (.ref b296), .unset, .unset] [(.int sm)]) := by
    have R310 : Go p e below P T304 (mkF m 145 #[.val (.int i0), .val (.int i1), .val (.int i2), .val (.int i3), .val (.int i4), .val (.int ks), .val (.ref (kindW w0 w1 w2 w3 w4 ks)), .val (.int t0), .val (.int t1), .val (.int tl), .val (.int n0_), .val (.int n1_), .val (.int nl), .val (.ref x_285), .val (.ref x_292), .val (.ref b296), .unset, .unset] [(.int tl)]) := fun t_ k_ => R307 t_ (XS.iload X304.here hx rfl (hb hby at_143) rfl k_)
    have R311 : Go p e below P T304 (mkF m 147 #[.val (.int i0), .val (.int i1), .val (.int i2), .val (.int i3), .val (.int i4), .val (.int ks), .val (.ref (kindW w0 w1 w2 w3 w4 ks)), .val (.int t0), .val (.int t1), .val (.int tl), .val (.int n0_), .val (.int n1_), .val (.int nl), .val (.ref x_285), .val (.ref x_292), .val (.ref b296), .unset, .unset] [(.int nl), (.int tl)]) := fun t_ k_ => R310 t_ (XS.iload X304.here hx rfl (hb hby at_145) rfl k_)
    by_cases hc312 : tl = nl
    · have R313 : Go p e below P T304 (mkF m 150 #[.val (.int i0), .val (.int i1), .val (.int i2), .val (.int i3), .val (.int i4), .val (.int ks), .val (.ref (kindW w0 w1 w2 w3 w4 ks)), .val (.int t0), .val (.int t1), .val (.int tl), .val (.int n0_), .val (.int n1_), .val (.int nl), .val (.ref x_285), .val (.ref x_292), .val (.ref b296), .unset, .unset] []) := fun t_ k_ => R311 t_ (XS.icmpNo X304.here hx rfl (hb hby at_147) rfl (teq hc312).2 k_)
      have R314 : Go p e below P T304 (mkF m 152 #[.val (.int i0), .val (.int i1), .val (.int i2), .val (.int i3), .val (.int i4), .val (.int ks), .val (.ref (kindW w0 w1 w2 w3 w4 ks)), .val (.int t0), .val (.int t1), .val (.int tl), .val (.int n0_), .val (.int n1_), .val (.int nl), .val (.ref x_285), .val (.ref x_292), .val (.ref b296), .unset, .unset] [(.int tl)]) := fun t_ k_ => R313 t_ (XS.iload X304.here hx rfl (hb hby at_150) rfl k_)
      have R315 : Go p e below P T304 (mkF m 153 #[.val (.int i0), .val (.int i1), .val (.int i2), .val (.int i3), .val (.int i4), .val (.int ks), .val (.ref (kindW w0 w1 w2 w3 w4 ks)), .val (.int t0), .val (.int t1), .val (.int tl), .val (.int n0_), .val (.int n1_), .val (.int nl), .val (.ref x_285), .val (.ref x_292), .val (.ref b296), .unset, .unset] [(.int (1 : Int32)), (.int tl)]) := fun t_ k_ => R314 t_ (XS.iconst X304.here hx rfl (hb hby at_152) k_)
      by_cases hc316 : tl < (1 : Int32)
      · have R317 : Go p e below P T304 (mkF m 163 #[.val (.int i0), .val (.int i1), .val (.int i2), .val (.int i3), .val (.int i4), .val (.int ks), .val (.ref (kindW w0 w1 w2 w3 w4 ks)), .val (.int t0), .val (.int t1), .val (.int tl), .val (.int n0_), .val (.int n1_), .val (.int nl), .val (.ref x_285), .val (.ref x_292), .val (.ref b296), .unset, .unset] []) := fun t_ k_ => R315 t_ (XS.icmpYes X304.here hx rfl (pc0 := 153) (pc' := 163) rfl (hb hby at_153) rfl (tlt hc316).1 (by decide) (by decide) k_)
        have R318 : Go p e below P T304 (mkF m 165 #[.val (.int i0), .val (.int i1), .val (.int i2), .val (.int i3), .val (.int i4), .val (.int ks), .val (.ref (kindW w0 w1 w2 w3 w4 ks)), .val (.int t0), .val (.int t1), .val (.int tl), .val (.int n0_), .val (.int n1_), .val (.int nl), .val (.ref x_285), .val (.ref x_292), .val (.ref b296), .unset, .unset] [(.int tl)]) := fun t_ k_ => R317 t_ (XS.iload X304.here hx rfl (hb hby at_163) rfl k_)
        have R319 : Go p e below P T304 (mkF m 166 #[.val (.int i0), .val (.int i1), .val (.int i2), .val (.int i3), .val (.int i4), .val (.int ks), .val (.ref (kindW w0 w1 w2 w3 w4 ks)), .val (.int t0), .val (.int t1), .val (.int tl), .val (.int n0_), .val (.int n1_), .val (.int nl), .val (.ref x_285), .val (.ref x_292), .val (.ref b296), .unset, .unset] [(.int (2 : Int32)), (.int tl)]) := fun t_ k_ => R318 t_ (XS.iconst X304.here hx rfl (hb hby at_165) k_)
        by_cases hc320 : tl < (2 : Int32)
        · have R321 : Go p e below P T304 (mkF m 176 #[.val (.int i0), .val (.int i1), .val (.int i2), .val (.int i3), .val (.int i4), .val (.int ks), .val (.ref (kindW w0 w1 w2 w3 w4 ks)), .val (.int t0), .val (.int t1), .val (.int tl), .val (.int n0_), .val (.int n1_), .val (.int nl), .val (.ref x_285), .val (.ref x_292), .val (.ref b296), .unset, .unset] []) := fun t_ k_ => R319 t_ (XS.icmpYes X304.here hx rfl (pc0 := 166) (pc' := 176) rfl (hb hby at_166) rfl (tlt hc320).1 (by decide) (by decide) k_)
          have R322 : Go p e below P T304 (mkF m 177 #[.val (.int i0), .val (.int i1), .val (.int i2), .val (.int i3), .val (.int i4), .val (.int ks), .val (.ref (kindW w0 w1 w2 w3 w4 ks)), .val (.int t0), .val (.int t1), .val (.int tl), .val (.int n0_), .val (.int n1_), .val (.int nl), .val (.ref x_285), .val (.ref x_292), .val (.ref b296), .unset, .unset] [(.int (1 : Int32))]) := fun t_ k_ => R321 t_ (XS.iconst X304.here hx rfl (hb hby at_176) k_)
          have R323 : Go p e below P T304 (mkF m 181 #[.val (.int i0), .val (.int i1), .val (.int i2), .val (.int i3), .val (.int i4), .val (.int ks), .val (.ref (kindW w0 w1 w2 w3 w4 ks)), .val (.int t0), .val (.int t1), .val (.int tl), .val (.int n0_), .val (.int n1_), .val (.int nl), .val (.ref x_285), .val (.ref x_292), .val (.ref b296), .unset, .unset] [(.int (1 : Int32))]) := fun t_ k_ => R322 t_ (XS.goto X304.here hx rfl (pc0 := 177) (pc' := 181) rfl (hb hby at_177) (by decide) (by decide) k_)
          exact ⟨(1 : Int32), (by first | (simp only [sameI, eq_true hc312, eq_true hc316, eq_true hc320, true_and, and_true, false_and, and_false, true_or, or_true, false_or, or_false, not_true_eq_false, not_false_eq_true, ↓reduceIte, nar_b0, nar_b1]; done) | simp [sameI, nar_b0, nar_b1, hc312, hc316, hc320]), R323⟩
        · have R324 : Go p e below P T304 (mkF m 169 #[.val (.int i0), .val (.int i1), .val (.int i2), .val (.int i3), .val (.int i4), .val (.int ks), .val (.ref (kindW w0 w1 w2 w3 w4 ks)), .val (.int t0), .val (.int t1), .val (.int tl), .val (.int n0_), .val (.int n1_), .val (.int nl), .val (.ref x_285), .val (.ref x_292), .val (.ref b296), .unset, .unset] []) := fun t_ k_ => R319 t_ (XS.icmpNo X304.here hx rfl (hb hby at_166) rfl (flt hc320).1 k_)
          have R325 : Go p e below P T304 (mkF m 171 #[.val (.int i0), .val (.int i1), .val (.int i2), .val (.int i3), .val (.int i4), .val (.int ks), .val (.ref (kindW w0 w1 w2 w3 w4 ks)), .val (.int t0), .val (.int t1), .val (.int tl), .val (.int n0_), .val (.int n1_), .val (.int nl), .val (.ref x_285), .val (.ref x_292), .val (.ref b296), .unset, .unset] [(.int t1)]) := fun t_ k_ => R324 t_ (XS.iload X304.here hx rfl (hb hby at_169) rfl k_)
          have R326 : Go p e below P T304 (mkF m 173 #[.val (.int i0), .val (.int i1), .val (.int i2), .val (.int i3), .val (.int i4), .val (.int ks), .val (.ref (kindW w0 w1 w2 w3 w4 ks)), .val (.int t0), .val (.int t1), .val (.int tl), .val (.int n0_), .val (.int n1_), .val (.int nl), .val (.ref x_285), .val (.ref x_292), .val (.ref b296), .unset, .unset] [(.int n1_), (.int t1)]) := fun t_ k_ => R325 t_ (XS.iload X304.here hx rfl (hb hby at_171) rfl k_)
          by_cases hc327 : t1 = n1_
          · have R328 : Go p e below P T304 (mkF m 176 #[.val (.int i0), .val (.int i1), .val (.int i2), .val (.int i3), .val (.int i4), .val (.int ks), .val (.ref (kindW w0 w1 w2 w3 w4 ks)), .val (.int t0), .val (.int t1), .val (.int tl), .val (.int n0_), .val (.int n1_), .val (.int nl), .val (.ref x_285), .val (.ref x_292), .val (.ref b296), .unset, .unset] []) := fun t_ k_ => R326 t_ (XS.icmpNo X304.here hx rfl (hb hby at_173) rfl (teq hc327).2 k_)
            have R329 : Go p e below P T304 (mkF m 177 #[.val (.int i0), .val (.int i1), .val (.int i2), .val (.int i3), .val (.int i4), .val (.int ks), .val (.ref (kindW w0 w1 w2 w3 w4 ks)), .val (.int t0), .val (.int t1), .val (.int tl), .val (.int n0_), .val (.int n1_), .val (.int nl), .val (.ref x_285), .val (.ref x_292), .val (.ref b296), .unset, .unset] [(.int (1 : Int32))]) := fun t_ k_ => R328 t_ (XS.iconst X304.here hx rfl (hb hby at_176) k_)
            have R330 : Go p e below P T304 (mkF m 181 #[.val (.int i0), .val (.int i1), .val (.int i2), .val (.int i3), .val (.int i4), .val (.int ks), .val (.ref (kindW w0 w1 w2 w3 w4 ks)), .val (.int t0), .val (.int t1), .val (.int tl), .val (.int n0_), .val (.int n1_), .val (.int nl), .val (.ref x_285), .val (.ref x_292), .val (.ref b296), .unset, .unset] [(.int (1 : Int32))]) := fun t_ k_ => R329 t_ (XS.goto X304.here hx rfl (pc0 := 177) (pc' := 181) rfl (hb hby at_177) (by decide) (by decide) k_)
            exact ⟨(1 : Int32), (by first | (simp only [sameI, eq_true hc312, eq_true hc316, eq_false hc320, eq_true hc327, true_and, and_true, false_and, and_false, true_or, or_true, false_or, or_false, not_true_eq_false, not_false_eq_true, ↓reduceIte, nar_b0, nar_b1]; done) | simp [sameI, nar_b0, nar_b1, hc312, hc316, hc320, hc327]), R330⟩
          · have R331 : Go p e below P T304 (mkF m 180 #[.val (.int i0), .val (.int i1), .val (.int i2), .val (.int i3), .val (.int i4), .val (.int ks), .val (.ref (kindW w0 w1 w2 w3 w4 ks)), .val (.int t0), .val (.int t1), .val (.int tl), .val (.int n0_), .val (.int n1_), .val (.int nl), .val (.ref x_285), .val (.ref x_292), .val (.ref b296), .unset, .unset] []) := fun t_ k_ => R326 t_ (XS.icmpYes X304.here hx rfl (pc0 := 173) (pc' := 180) rfl (hb hby at_173) rfl (feq hc327).2 (by decide) (by decide) k_)
            have R332 : Go p e below P T304 (mkF m 181 #[.val (.int i0), .val (.int i1), .val (.int i2), .val (.int i3), .val (.int i4), .val (.int ks), .val (.ref (kindW w0 w1 w2 w3 w4 ks)), .val (.int t0), .val (.int t1), .val (.int tl), .val (.int n0_), .val (.int n1_), .val (.int nl), .val (.ref x_285), .val (.ref x_292), .val (.ref b296), .unset, .unset] [(.int (0 : Int32))]) := fun t_ k_ => R331 t_ (XS.iconst X304.here hx rfl (hb hby at_180) k_)
            exact ⟨(0 : Int32), (by first | (simp only [sameI, eq_true hc312, eq_true hc316, eq_false hc320, eq_false hc327, true_and, and_true, false_and, and_false, true_or, or_true, false_or, or_false, not_true_eq_false, not_false_eq_true, ↓reduceIte, nar_b0, nar_b1]; done) | simp [sameI, nar_b0, nar_b1, hc312, hc316, hc320, hc327]), R332⟩
      · have R333 : Go p e below P T304 (mkF m 156 #[.val (.int i0), .val (.int i1), .val (.int i2), .val (.int i3), .val (.int i4), .val (.int ks), .val (.ref (kindW w0 w1 w2 w3 w4 ks)), .val (.int t0), .val (.int t1), .val (.int tl), .val (.int n0_), .val (.int n1_), .val (.int nl), .val (.ref x_285), .val (.ref x_292), .val (.ref b296), .unset, .unset] []) := fun t_ k_ => R315 t_ (XS.icmpNo X304.here hx rfl (hb hby at_153) rfl (flt hc316).1 k_)
        have R334 : Go p e below P T304 (mkF m 158 #[.val (.int i0), .val (.int i1), .val (.int i2), .val (.int i3), .val (.int i4), .val (.int ks), .val (.ref (kindW w0 w1 w2 w3 w4 ks)), .val (.int t0), .val (.int t1), .val (.int tl), .val (.int n0_), .val (.int n1_), .val (.int nl), .val (.ref x_285), .val (.ref x_292), .val (.ref b296), .unset, .unset] [(.int t0)]) := fun t_ k_ => R333 t_ (XS.iload X304.here hx rfl (hb hby at_156) rfl k_)
        have R335 : Go p e below P T304 (mkF m 160 #[.val (.int i0), .val (.int i1), .val (.int i2), .val (.int i3), .val (.int i4), .val (.int ks), .val (.ref (kindW w0 w1 w2 w3 w4 ks)), .val (.int t0), .val (.int t1), .val (.int tl), .val (.int n0_), .val (.int n1_), .val (.int nl), .val (.ref x_285), .val (.ref x_292), .val (.ref b296), .unset, .unset] [(.int n0_), (.int t0)]) := fun t_ k_ => R334 t_ (XS.iload X304.here hx rfl (hb hby at_158) rfl k_)
        by_cases hc336 : t0 = n0_
        · have R337 : Go p e below P T304 (mkF m 163 #[.val (.int i0), .val (.int i1), .val (.int i2), .val (.int i3), .val (.int i4), .val (.int ks), .val (.ref (kindW w0 w1 w2 w3 w4 ks)), .val (.int t0), .val (.int t1), .val (.int tl), .val (.int n0_), .val (.int n1_), .val (.int nl), .val (.ref x_285), .val (.ref x_292), .val (.ref b296), .unset, .unset] []) := fun t_ k_ => R335 t_ (XS.icmpNo X304.here hx rfl (hb hby at_160) rfl (teq hc336).2 k_)
          have R338 : Go p e below P T304 (mkF m 165 #[.val (.int i0), .val (.int i1), .val (.int i2), .val (.int i3), .val (.int i4), .val (.int ks), .val (.ref (kindW w0 w1 w2 w3 w4 ks)), .val (.int t0), .val (.int t1), .val (.int tl), .val (.int n0_), .val (.int n1_), .val (.int nl), .val (.ref x_285), .val (.ref x_292), .val (.ref b296), .unset, .unset] [(.int tl)]) := fun t_ k_ => R337 t_ (XS.iload X304.here hx rfl (hb hby at_163) rfl k_)
          have R339 : Go p e below P T304 (mkF m 166 #[.val (.int i0), .val (.int i1), .val (.int i2), .val (.int i3), .val (.int i4), .val (.int ks), .val (.ref (kindW w0 w1 w2 w3 w4 ks)), .val (.int t0), .val (.int t1), .val (.int tl), .val (.int n0_), .val (.int n1_), .val (.int nl), .val (.ref x_285), .val (.ref x_292), .val (.ref b296), .unset, .unset] [(.int (2 : Int32)), (.int tl)]) := fun t_ k_ => R338 t_ (XS.iconst X304.here hx rfl (hb hby at_165) k_)
          by_cases hc340 : tl < (2 : Int32)
          · have R341 : Go p e below P T304 (mkF m 176 #[.val (.int i0), .val (.int i1), .val (.int i2), .val (.int i3), .val (.int i4), .val (.int ks), .val (.ref (kindW w0 w1 w2 w3 w4 ks)), .val (.int t0), .val (.int t1), .val (.int tl), .val (.int n0_), .val (.int n1_), .val (.int nl), .val (.ref x_285), .val (.ref x_292), .val (.ref b296), .unset, .unset] []) := fun t_ k_ => R339 t_ (XS.icmpYes X304.here hx rfl (pc0 := 166) (pc' := 176) rfl (hb hby at_166) rfl (tlt hc340).1 (by decide) (by decide) k_)
            have R342 : Go p e below P T304 (mkF m 177 #[.val (.int i0), .val (.int i1), .val (.int i2), .val (.int i3), .val (.int i4), .val (.int ks), .val (.ref (kindW w0 w1 w2 w3 w4 ks)), .val (.int t0), .val (.int t1), .val (.int tl), .val (.int n0_), .val (.int n1_), .val (.int nl), .val (.ref x_285), .val (.ref x_292), .val (.ref b296), .unset, .unset] [(.int (1 : Int32))]) := fun t_ k_ => R341 t_ (XS.iconst X304.here hx rfl (hb hby at_176) k_)
            have R343 : Go p e below P T304 (mkF m 181 #[.val (.int i0), .val (.int i1), .val (.int i2), .val (.int i3), .val (.int i4), .val (.int ks), .val (.ref (kindW w0 w1 w2 w3 w4 ks)), .val (.int t0), .val (.int t1), .val (.int tl), .val (.int n0_), .val (.int n1_), .val (.int nl), .val (.ref x_285), .val (.ref x_292), .val (.ref b296), .unset, .unset] [(.int (1 : Int32))]) := fun t_ k_ => R342 t_ (XS.goto X304.here hx rfl (pc0 := 177) (pc' := 181) rfl (hb hby at_177) (by decide) (by decide) k_)
            exact ⟨(1 : Int32), (by first | (simp only [sameI, eq_true hc312, eq_false hc316, eq_true hc336, eq_true hc340, true_and, and_true, false_and, and_false, true_or, or_true, false_or, or_false, not_true_eq_false, not_false_eq_true, ↓reduceIte, nar_b0, nar_b1]; done) | simp [sameI, nar_b0, nar_b1, hc312, hc316, hc336, hc340]), R343⟩
          · have R344 : Go p e below P T304 (mkF m 169 #[.val (.int i0), .val (.int i1), .val (.int i2), .val (.int i3), .val (.int i4), .val (.int ks), .val (.ref (kindW w0 w1 w2 w3 w4 ks)), .val (.int t0), .val (.int t1), .val (.int tl), .val (.int n0_), .val (.int n1_), .val (.int nl), .val (.ref x_285), .val (.ref x_292), .val (.ref b296), .unset, .unset] []) := fun t_ k_ => R339 t_ (XS.icmpNo X304.here hx rfl (hb hby at_166) rfl (flt hc340).1 k_)
            have R345 : Go p e below P T304 (mkF m 171 #[.val (.int i0), .val (.int i1), .val (.int i2), .val (.int i3), .val (.int i4), .val (.int ks), .val (.ref (kindW w0 w1 w2 w3 w4 ks)), .val (.int t0), .val (.int t1), .val (.int tl), .val (.int n0_), .val (.int n1_), .val (.int nl), .val (.ref x_285), .val (.ref x_292), .val (.ref b296), .unset, .unset] [(.int t1)]) := fun t_ k_ => R344 t_ (XS.iload X304.here hx rfl (hb hby at_169) rfl k_)
            have R346 : Go p e below P T304 (mkF m 173 #[.val (.int i0), .val (.int i1), .val (.int i2), .val (.int i3), .val (.int i4), .val (.int ks), .val (.ref (kindW w0 w1 w2 w3 w4 ks)), .val (.int t0), .val (.int t1), .val (.int tl), .val (.int n0_), .val (.int n1_), .val (.int nl), .val (.ref x_285), .val (.ref x_292), .val (.ref b296), .unset, .unset] [(.int n1_), (.int t1)]) := fun t_ k_ => R345 t_ (XS.iload X304.here hx rfl (hb hby at_171) rfl k_)
            by_cases hc347 : t1 = n1_
            · have R348 : Go p e below P T304 (mkF m 176 #[.val (.int i0), .val (.int i1), .val (.int i2), .val (.int i3), .val (.int i4), .val (.int ks), .val (.ref (kindW w0 w1 w2 w3 w4 ks)), .val (.int t0), .val (.int t1), .val (.int tl), .val (.int n0_), .val (.int n1_), .val (.int nl), .val (.ref x_285), .val (.ref x_292), .val (.ref b296), .unset, .unset] []) := fun t_ k_ => R346 t_ (XS.icmpNo X304.here hx rfl (hb hby at_173) rfl (teq hc347).2 k_)
              have R349 : Go p e below P T304 (mkF m 177 #[.val (.int i0), .val (.int i1), .val (.int i2), .val (.int i3), .val (.int i4), .val (.int ks), .val (.ref (kindW w0 w1 w2 w3 w4 ks)), .val (.int t0), .val (.int t1), .val (.int tl), .val (.int n0_), .val (.int n1_), .val (.int nl), .val (.ref x_285), .val (.ref x_292), .val (.ref b296), .unset, .unset] [(.int (1 : Int32))]) := fun t_ k_ => R348 t_ (XS.iconst X304.here hx rfl (hb hby at_176) k_)
              have R350 : Go p e below P T304 (mkF m 181 #[.val (.int i0), .val (.int i1), .val (.int i2), .val (.int i3), .val (.int i4), .val (.int ks), .val (.ref (kindW w0 w1 w2 w3 w4 ks)), .val (.int t0), .val (.int t1), .val (.int tl), .val (.int n0_), .val (.int n1_), .val (.int nl), .val (.ref x_285), .val (.ref x_292), .val (.ref b296), .unset, .unset] [(.int (1 : Int32))]) := fun t_ k_ => R349 t_ (XS.goto X304.here hx rfl (pc0 := 177) (pc' := 181) rfl (hb hby at_177) (by decide) (by decide) k_)
              exact ⟨(1 : Int32), (by first | (simp only [sameI, eq_true hc312, eq_false hc316, eq_true hc336, eq_false hc340, eq_true hc347, true_and, and_true, false_and, and_false, true_or, or_true, false_or, or_false, not_true_eq_false, not_false_eq_true, ↓reduceIte, nar_b0, nar_b1]; done) | simp [sameI, nar_b0, nar_b1, hc312, hc316, hc336, hc340, hc347]), R350⟩
            · have R351 : Go p e below P T304 (mkF m 180 #[.val (.int i0), .val (.int i1), .val (.int i2), .val (.int i3), .val (.int i4), .val (.int ks), .val (.ref (kindW w0 w1 w2 w3 w4 ks)), .val (.int t0), .val (.int t1), .val (.int tl), .val (.int n0_), .val (.int n1_), .val (.int nl), .val (.ref x_285), .val (.ref x_292), .val (.ref b296), .unset, .unset] []) := fun t_ k_ => R346 t_ (XS.icmpYes X304.here hx rfl (pc0 := 173) (pc' := 180) rfl (hb hby at_173) rfl (feq hc347).2 (by decide) (by decide) k_)
              have R352 : Go p e below P T304 (mkF m 181 #[.val (.int i0), .val (.int i1), .val (.int i2), .val (.int i3), .val (.int i4), .val (.int ks), .val (.ref (kindW w0 w1 w2 w3 w4 ks)), .val (.int t0), .val (.int t1), .val (.int tl), .val (.int n0_), .val (.int n1_), .val (.int nl), .val (.ref x_285), .val (.ref x_292), .val (.ref b296), .unset, .unset] [(.int (0 : Int32))]) := fun t_ k_ => R351 t_ (XS.iconst X304.here hx rfl (hb hby at_180) k_)
              exact ⟨(0 : Int32), (by first | (simp only [sameI, eq_true hc312, eq_false hc316, eq_true hc336, eq_false hc340, eq_false hc347, true_and, and_true, false_and, and_false, true_or, or_true, false_or, or_false, not_true_eq_false, not_false_eq_true, ↓reduceIte, nar_b0, nar_b1]; done) | simp [sameI, nar_b0, nar_b1, hc312, hc316, hc336, hc340, hc347]), R352⟩
        · have R353 : Go p e below P T304 (mkF m 180 #[.val (.int i0), .val (.int i1), .val (.int i2), .val (.int i3), .val (.int i4), .val (.int ks), .val (.ref (kindW w0 w1 w2 w3 w4 ks)), .val (.int t0), .val (.int t1), .val (.int tl), .val (.int n0_), .val (.int n1_), .val (.int nl), .val (.ref x_285), .val (.ref x_292), .val (.ref b296), .unset, .unset] []) := fun t_ k_ => R335 t_ (XS.icmpYes X304.here hx rfl (pc0 := 160) (pc' := 180) rfl (hb hby at_160) rfl (feq hc336).2 (by decide) (by decide) k_)
          have R354 : Go p e below P T304 (mkF m 181 #[.val (.int i0), .val (.int i1), .val (.int i2), .val (.int i3), .val (.int i4), .val (.int ks), .val (.ref (kindW w0 w1 w2 w3 w4 ks)), .val (.int t0), .val (.int t1), .val (.int tl), .val (.int n0_), .val (.int n1_), .val (.int nl), .val (.ref x_285), .val (.ref x_292), .val (.ref b296), .unset, .unset] [(.int (0 : Int32))]) := fun t_ k_ => R353 t_ (XS.iconst X304.here hx rfl (hb hby at_180) k_)
          exact ⟨(0 : Int32), (by first | (simp only [sameI, eq_true hc312, eq_false hc316, eq_false hc336, true_and, and_true, false_and, and_false, true_or, or_true, false_or, or_false, not_true_eq_false, not_false_eq_true, ↓reduceIte, nar_b0, nar_b1]; done) | simp [sameI, nar_b0, nar_b1, hc312, hc316, hc336]), R354⟩
    · have R355 : Go p e below P T304 (mkF m 180 #[.val (.int i0), .val (.int i1), .val (.int i2), .val (.int i3), .val (.int i4), .val (.int ks), .val (.ref (kindW w0 w1 w2 w3 w4 ks)), .val (.int t0), .val (.int t1), .val (.int tl), .val (.int n0_), .val (.int n1_), .val (.int nl), .val (.ref x_285), .val (.ref x_292), .val (.ref b296), .unset, .unset] []) := fun t_ k_ => R311 t_ (XS.icmpYes X304.here hx rfl (pc0 := 147) (pc' := 180) rfl (hb hby at_147) rfl (feq hc312).2 (by decide) (by decide) k_)
      have R356 : Go p e below P T304 (mkF m 181 #[.val (.int i0), .val (.int i1), .val (.int i2), .val (.int i3), .val (.int i4), .val (.int ks), .val (.ref (kindW w0 w1 w2 w3 w4 ks)), .val (.int t0), .val (.int t1), .val (.int tl), .val (.int n0_), .val (.int n1_), .val (.int nl), .val (.ref x_285), .val (.ref x_292), .val (.ref b296), .unset, .unset] [(.int (0 : Int32))]) := fun t_ k_ => R355 t_ (XS.iconst X304.here hx rfl (hb hby at_180) k_)
      exact ⟨(0 : Int32), (by first | (simp only [sameI, eq_false hc312, true_and, and_true, false_and, and_false, true_or, or_true, false_or, or_false, not_true_eq_false, not_false_eq_true, ↓reduceIte, nar_b0, nar_b1]; done) | simp [sameI, nar_b0, nar_b1, hc312]), R356⟩
  have R357 : Go p e below P T304 (mkF m 183 #[.val (.int i0), .val (.int i1), .val (.int i2), .val (.int i3), .val (.int i4), .val (.int ks), .val (.ref (kindW w0 w1 w2 w3 w4 ks)), .val (.int t0), .val (.int t1), .val (.int tl), .val (.int n0_), .val (.int n1_), .val (.int nl), .val (.ref x_285), .val (.ref x_292), .val (.ref b296), .val (.int sm), .unset] []) := fun t_ k_ => R308 t_ (XS.istore X304.here hx rfl (hb hby at_181) rfl (l' := #[.val (.int i0), .val (.int i1), .val (.int i2), .val (.int i3), .val (.int i4), .val (.int ks), .val (.ref (kindW w0 w1 w2 w3 w4 ks)), .val (.int t0), .val (.int t1), .val (.int tl), .val (.int n0_), .val (.int n1_), .val (.int nl), .val (.ref x_285), .val (.ref x_292), .val (.ref b296), .val (.int sm), .unset]) rfl k_)
  obtain ⟨ex, hj359, R358⟩ : ∃ ex : Int32, (ex = expI ks sm) ∧ Go p e below P T304 (mkF m 198 #[.val (.int i0), .val (.int i1), .val (.int i2), .val (.int i3), .val (.int i4), .val (.int ks), .val (.ref (kindW w0 w1 w2 w3 w4 ks)), .val (.int t0), .val (.int t1), .val (.int tl), .val (.int n0_), .val (.int n1_), .val (.int nl), .val (.ref x_285), .val (.ref x_292), .val (.ref b296), .val (.int sm), .unset] [(.int ex)]) := by
    have R360 : Go p e below P T304 (mkF m 185 #[.val (.int i0), .val (.int i1), .val (.int i2), .val (.int i3), .val (.int i4), .val (.int ks), .val (.ref (kindW w0 w1 w2 w3 w4 ks)), .val (.int t0), .val (.int t1), .val (.int tl), .val (.int n0_), .val (.int n1_), .val (.int nl), .val (.ref x_285), .val (.ref x_292), .val (.ref b296), .val (.int sm), .unset] [(.int ks)]) := fun t_ k_ => R357 t_ (XS.iload X304.here hx rfl (hb hby at_183) rfl k_)
    by_cases hc361 : ks = (0 : Int32)
    · have R362 : Go p e below P T304 (mkF m 188 #[.val (.int i0), .val (.int i1), .val (.int i2), .val (.int i3), .val (.int i4), .val (.int ks), .val (.ref (kindW w0 w1 w2 w3 w4 ks)), .val (.int t0), .val (.int t1), .val (.int tl), .val (.int n0_), .val (.int n1_), .val (.int nl), .val (.ref x_285), .val (.ref x_292), .val (.ref b296), .val (.int sm), .unset] []) := fun t_ k_ => R360 t_ (XS.ifNo X304.here hx rfl (hb hby at_185) rfl ((if0 _ _).trans (teq hc361).2) k_)
      have R363 : Go p e below P T304 (mkF m 190 #[.val (.int i0), .val (.int i1), .val (.int i2), .val (.int i3), .val (.int i4), .val (.int ks), .val (.ref (kindW w0 w1 w2 w3 w4 ks)), .val (.int t0), .val (.int t1), .val (.int tl), .val (.int n0_), .val (.int n1_), .val (.int nl), .val (.ref x_285), .val (.ref x_292), .val (.ref b296), .val (.int sm), .unset] [(.int sm)]) := fun t_ k_ => R362 t_ (XS.iload X304.here hx rfl (hb hby at_188) rfl k_)
      by_cases hc364 : sm = (0 : Int32)
      · have R365 : Go p e below P T304 (mkF m 197 #[.val (.int i0), .val (.int i1), .val (.int i2), .val (.int i3), .val (.int i4), .val (.int ks), .val (.ref (kindW w0 w1 w2 w3 w4 ks)), .val (.int t0), .val (.int t1), .val (.int tl), .val (.int n0_), .val (.int n1_), .val (.int nl), .val (.ref x_285), .val (.ref x_292), .val (.ref b296), .val (.int sm), .unset] []) := fun t_ k_ => R363 t_ (XS.ifYes X304.here hx rfl (pc0 := 190) (pc' := 197) rfl (hb hby at_190) rfl ((if0 _ _).trans (teq hc364).1) (by decide) (by decide) k_)
        have R366 : Go p e below P T304 (mkF m 198 #[.val (.int i0), .val (.int i1), .val (.int i2), .val (.int i3), .val (.int i4), .val (.int ks), .val (.ref (kindW w0 w1 w2 w3 w4 ks)), .val (.int t0), .val (.int t1), .val (.int tl), .val (.int n0_), .val (.int n1_), .val (.int nl), .val (.ref x_285), .val (.ref x_292), .val (.ref b296), .val (.int sm), .unset] [(.int (0 : Int32))]) := fun t_ k_ => R365 t_ (XS.iconst X304.here hx rfl (hb hby at_197) k_)
        exact ⟨(0 : Int32), (by first | (simp only [expI, eq_true hc361, eq_true hc364, true_and, and_true, false_and, and_false, true_or, or_true, false_or, or_false, not_true_eq_false, not_false_eq_true, ↓reduceIte, nar_b0, nar_b1]; done) | simp [expI, nar_b0, nar_b1, hc361, hc364]), R366⟩
      · have R367 : Go p e below P T304 (mkF m 193 #[.val (.int i0), .val (.int i1), .val (.int i2), .val (.int i3), .val (.int i4), .val (.int ks), .val (.ref (kindW w0 w1 w2 w3 w4 ks)), .val (.int t0), .val (.int t1), .val (.int tl), .val (.int n0_), .val (.int n1_), .val (.int nl), .val (.ref x_285), .val (.ref x_292), .val (.ref b296), .val (.int sm), .unset] []) := fun t_ k_ => R363 t_ (XS.ifNo X304.here hx rfl (hb hby at_190) rfl ((if0 _ _).trans (feq hc364).1) k_)
        have R368 : Go p e below P T304 (mkF m 194 #[.val (.int i0), .val (.int i1), .val (.int i2), .val (.int i3), .val (.int i4), .val (.int ks), .val (.ref (kindW w0 w1 w2 w3 w4 ks)), .val (.int t0), .val (.int t1), .val (.int tl), .val (.int n0_), .val (.int n1_), .val (.int nl), .val (.ref x_285), .val (.ref x_292), .val (.ref b296), .val (.int sm), .unset] [(.int (1 : Int32))]) := fun t_ k_ => R367 t_ (XS.iconst X304.here hx rfl (hb hby at_193) k_)
        have R369 : Go p e below P T304 (mkF m 198 #[.val (.int i0), .val (.int i1), .val (.int i2), .val (.int i3), .val (.int i4), .val (.int ks), .val (.ref (kindW w0 w1 w2 w3 w4 ks)), .val (.int t0), .val (.int t1), .val (.int tl), .val (.int n0_), .val (.int n1_), .val (.int nl), .val (.ref x_285), .val (.ref x_292), .val (.ref b296), .val (.int sm), .unset] [(.int (1 : Int32))]) := fun t_ k_ => R368 t_ (XS.goto X304.here hx rfl (pc0 := 194) (pc' := 198) rfl (hb hby at_194) (by decide) (by decide) k_)
        exact ⟨(1 : Int32), (by first | (simp only [expI, eq_true hc361, eq_false hc364, true_and, and_true, false_and, and_false, true_or, or_true, false_or, or_false, not_true_eq_false, not_false_eq_true, ↓reduceIte, nar_b0, nar_b1]; done) | simp [expI, nar_b0, nar_b1, hc361, hc364]), R369⟩
    · have R370 : Go p e below P T304 (mkF m 197 #[.val (.int i0), .val (.int i1), .val (.int i2), .val (.int i3), .val (.int i4), .val (.int ks), .val (.ref (kindW w0 w1 w2 w3 w4 ks)), .val (.int t0), .val (.int t1), .val (.int tl), .val (.int n0_), .val (.int n1_), .val (.int nl), .val (.ref x_285), .val (.ref x_292), .val (.ref b296), .val (.int sm), .unset] []) := fun t_ k_ => R360 t_ (XS.ifYes X304.here hx rfl (pc0 := 185) (pc' := 197) rfl (hb hby at_185) rfl ((if0 _ _).trans (feq hc361).2) (by decide) (by decide) k_)
      have R371 : Go p e below P T304 (mkF m 198 #[.val (.int i0), .val (.int i1), .val (.int i2), .val (.int i3), .val (.int i4), .val (.int ks), .val (.ref (kindW w0 w1 w2 w3 w4 ks)), .val (.int t0), .val (.int t1), .val (.int tl), .val (.int n0_), .val (.int n1_), .val (.int nl), .val (.ref x_285), .val (.ref x_292), .val (.ref b296), .val (.int sm), .unset] [(.int (0 : Int32))]) := fun t_ k_ => R370 t_ (XS.iconst X304.here hx rfl (hb hby at_197) k_)
      exact ⟨(0 : Int32), (by first | (simp only [expI, eq_false hc361, true_and, and_true, false_and, and_false, true_or, or_true, false_or, or_false, not_true_eq_false, not_false_eq_true, ↓reduceIte, nar_b0, nar_b1]; done) | simp [expI, nar_b0, nar_b1, hc361]), R371⟩
  have R372 : Go p e below P T304 (mkF m 200 #[.val (.int i0), .val (.int i1), .val (.int i2), .val (.int i3), .val (.int i4), .val (.int ks), .val (.ref (kindW w0 w1 w2 w3 w4 ks)), .val (.int t0), .val (.int t1), .val (.int tl), .val (.int n0_), .val (.int n1_), .val (.int nl), .val (.ref x_285), .val (.ref x_292), .val (.ref b296), .val (.int sm), .val (.int ex)] []) := fun t_ k_ => R358 t_ (XS.istore X304.here hx rfl (hb hby at_198) rfl (l' := #[.val (.int i0), .val (.int i1), .val (.int i2), .val (.int i3), .val (.int i4), .val (.int ks), .val (.ref (kindW w0 w1 w2 w3 w4 ks)), .val (.int t0), .val (.int t1), .val (.int tl), .val (.int n0_), .val (.int n1_), .val (.int nl), .val (.ref x_285), .val (.ref x_292), .val (.ref b296), .val (.int sm), .val (.int ex)]) rfl k_)
  have R373 : Go p e below P T304 (mkF m 202 #[.val (.int i0), .val (.int i1), .val (.int i2), .val (.int i3), .val (.int i4), .val (.int ks), .val (.ref (kindW w0 w1 w2 w3 w4 ks)), .val (.int t0), .val (.int t1), .val (.int tl), .val (.int n0_), .val (.int n1_), .val (.int nl), .val (.ref x_285), .val (.ref x_292), .val (.ref b296), .val (.int sm), .val (.int ex)] [(.ref b296)]) := fun t_ k_ => R372 t_ (XS.aload X304.here hx rfl (hb hby at_200) rfl rfl k_)
  have R374 : Go p e below P T304 (mkF m 204 #[.val (.int i0), .val (.int i1), .val (.int i2), .val (.int i3), .val (.int i4), .val (.int ks), .val (.ref (kindW w0 w1 w2 w3 w4 ks)), .val (.int t0), .val (.int t1), .val (.int tl), .val (.int n0_), .val (.int n1_), .val (.int nl), .val (.ref x_285), .val (.ref x_292), .val (.ref b296), .val (.int sm), .val (.int ex)] [(.ref x_292), (.ref b296)]) := fun t_ k_ => R373 t_ (XS.aload X304.here hx rfl (hb hby at_202) rfl rfl k_)
  have f375 := (((p285_1.keep K292).ext E296).keep K304)
  have f376 := (((p285_2.keep K292 nin0).ext E296).keep K304 (ninS (Nat.ne_of_lt (Nat.lt_of_lt_of_le (p285_1.keep K292).lt (Nat.le_of_eq g296.symm))) nin0))
  have f377 := (((p285_3.keep K292 nin0).ext E296).keep K304 (ninS (Nat.ne_of_lt (Nat.lt_of_lt_of_le (p285_1.keep K292).lt (Nat.le_of_eq g296.symm))) nin0))
  have f378 := (((p285_4.keep K292 nin0).ext E296).keep K304 (ninS (Nat.ne_of_lt (Nat.lt_of_lt_of_le (p285_4.keep K292 nin0).lt (Nat.le_of_eq g296.symm))) nin0))
  have f379 := ((p292_1.ext E296).keep K304)
  have f380 := ((p292_2.ext E296).keep K304 (ninS (Nat.ne_of_lt (Nat.lt_of_lt_of_le p292_1.lt (Nat.le_of_eq g296.symm))) nin0))
  have f381 := ((p292_3.ext E296).keep K304 (ninS (Nat.ne_of_lt (Nat.lt_of_lt_of_le p292_1.lt (Nat.le_of_eq g296.symm))) nin0))
  have f382 := ((p292_4.ext E296).keep K304 (ninS (Nat.ne_of_lt (Nat.lt_of_lt_of_le p292_4.lt (Nat.le_of_eq g296.symm))) nin0))
  obtain ⟨cq383, kq383, q383a, q383b, q383c⟩ := isOf hZ (rfl : T304.heap = T304.heap) p304_0
  obtain ⟨rv383, _, ⟨T383, L383, k383, n383⟩, -, X383, ⟨Lc383, hQ383, l383, y383, z383⟩, st383⟩ := X304.virtualBack hx (y := (⟨"com/example/covrage/covrage/model/Lexer$Token", "isName", "(Ljava/lang/String;)Z"⟩ : MethodName)) (z := (⟨"com/example/covrage/covrage/model/Lexer$Token", "isName", "(Ljava/lang/String;)Z"⟩ : MethodName)) hown (mvT hZ (hw _ (List.mem_of_getElem? (i := 46) rfl))) (mvT hZ (hw _ (List.mem_of_getElem? (i := 47) rfl))) (notFace_of_selects (args := #[]) (mvT hZ (hw _ (List.mem_of_getElem? (i := 49) rfl)))) (mvT hZ (hw _ (List.mem_of_getElem? (i := 49) rfl))) (mvT hZ (hw _ (List.mem_of_getElem? (i := 48) rfl))) (by decide) (backOf (W := 0) (isName_ l Z a0 hw [] b296 (kindW w0 w1 w2 w3 w4 ks) x_285 t_285 kb_285 (strL tl t0 t1) x_292 t_292 kb_292 (strL nl n0_ n1_) w0 zc T304.heap n0 O304 p304_1 p304_2 f375 f376 f377 f378 f379 f380 f381 f382 P0 P5 hzc (strL_ok ct0 ct1) (strL_ok hj233 hj248) strL_len strL_len) hZ (hw _ (List.mem_of_getElem? (i := 50) rfl)) (hw _ (List.mem_of_getElem? (i := 35) rfl)) (by decide) (by decide)) q383a q383c (g := (mkF m 204 #[.val (.int i0), .val (.int i1), .val (.int i2), .val (.int i3), .val (.int i4), .val (.int ks), .val (.ref (kindW w0 w1 w2 w3 w4 ks)), .val (.int t0), .val (.int t1), .val (.int tl), .val (.int n0_), .val (.int n1_), .val (.int nl), .val (.ref x_285), .val (.ref x_292), .val (.ref b296), .val (.int sm), .val (.int ex)] [(.ref x_292), (.ref b296)])) rfl (by rw [hml]; rfl) (Steps.refl _) (argsL := [(.ref x_292)]) (rest := []) (lenOf pd_80118224 rfl) rfl (by show 2 * 0 + _ ≤ _; exact Nat.le_of_eq rfl) (hb hby at_204) (fun _ _ => ⟨rfl, (rfl : T304.heap = T304.heap), (by decide : 13 + 0 ≤ _), (by decide : 27 + 0 ≤ _)⟩)
  dsimp only [Pt.U, Pt.locs, Pt.cells, Pt.slots] at X383 l383 y383 z383 st383 hQ383
  subst l383 y383 z383
  obtain ⟨rfl, N383q, K383⟩ := hQ383
  have N383 := Fr.app N304 N383q
  have R384 : Go p e below P T383 (mkF m 207 #[.val (.int i0), .val (.int i1), .val (.int i2), .val (.int i3), .val (.int i4), .val (.int ks), .val (.ref (kindW w0 w1 w2 w3 w4 ks)), .val (.int t0), .val (.int t1), .val (.int tl), .val (.int n0_), .val (.int n1_), .val (.int nl), .val (.ref x_285), .val (.ref x_292), .val (.ref b296), .val (.int sm), .val (.int ex)] [(.int (isNm (kindW w0 w1 w2 w3 w4 ks) w0 (strL tl t0 t1) (strL nl n0_ n1_)))]) := fun t_ k_ => R374 t_ (st383.trans k_)
  have R385 : Go p e below P T383 (mkF m 209 #[.val (.int i0), .val (.int i1), .val (.int i2), .val (.int i3), .val (.int i4), .val (.int ks), .val (.ref (kindW w0 w1 w2 w3 w4 ks)), .val (.int t0), .val (.int t1), .val (.int tl), .val (.int n0_), .val (.int n1_), .val (.int nl), .val (.ref x_285), .val (.ref x_292), .val (.ref b296), .val (.int sm), .val (.int ex)] [(.int ex), (.int (isNm (kindW w0 w1 w2 w3 w4 ks) w0 (strL tl t0 t1) (strL nl n0_ n1_)))]) := fun t_ k_ => R384 t_ (XS.iload X383.here hx rfl (hb hby at_207) rfl k_)
  have R386 : Go p e below P T383 (mkF m 212 #[.val (.int i0), .val (.int i1), .val (.int i2), .val (.int i3), .val (.int i4), .val (.int ks), .val (.ref (kindW w0 w1 w2 w3 w4 ks)), .val (.int t0), .val (.int t1), .val (.int tl), .val (.int n0_), .val (.int n1_), .val (.int nl), .val (.ref x_285), .val (.ref x_292), .val (.ref b296), .val (.int sm), .val (.int ex)] []) := fun t_ k_ => R385 t_ (XS.icmpNo X383.here hx rfl (hb hby at_209) rfl (teq (by rw [hj359]; exact own_final (by rw [hj309]; exact own_same rtl hj265) P6 P7 P8 P9)).2 k_)
  have R387 : Go p e below P T383 (mkF m 213 #[.val (.int i0), .val (.int i1), .val (.int i2), .val (.int i3), .val (.int i4), .val (.int ks), .val (.ref (kindW w0 w1 w2 w3 w4 ks)), .val (.int t0), .val (.int t1), .val (.int tl), .val (.int n0_), .val (.int n1_), .val (.int nl), .val (.ref x_285), .val (.ref x_292), .val (.ref b296), .val (.int sm), .val (.int ex)] [(.int (1 : Int32))]) := fun t_ k_ => R386 t_ (XS.iconst X383.here hx rfl (hb hby at_212) k_)
  have R388 : Go p e below P T383 (mkF m 217 #[.val (.int i0), .val (.int i1), .val (.int i2), .val (.int i3), .val (.int i4), .val (.int ks), .val (.ref (kindW w0 w1 w2 w3 w4 ks)), .val (.int t0), .val (.int t1), .val (.int tl), .val (.int n0_), .val (.int n1_), .val (.int nl), .val (.ref x_285), .val (.ref x_292), .val (.ref b296), .val (.int sm), .val (.int ex)] [(.int (1 : Int32))]) := fun t_ k_ => R387 t_ (XS.goto X383.here hx rfl (pc0 := 213) (pc' := 217) rfl (hb hby at_213) (by decide) (by decide) k_)
  obtain ⟨fs, hr, hrun, hended, hend⟩ := X383.leaveW hS292 (by rw [K383]; exact hk305 : _ ≤ T383.heap.size) (v := some (.int (nar .boolean (1 : Int32)))) (fun h => by rw [Bd.returns] at h; cases h)
  have hCe := C305.trans (CHv.at X383 hZ hEL C305.1)
  exact ⟨_, _, hP _ (R388 _ (retN X383 hx (t := .boolean) Bd.returns (by simp) (hb hby at_217) hr)), hrun, hended, _, _, rfl, ⟨rfl, N383, (K383.symm ▸ (((((Keep.refl h0 []).trans K285 all0).trans K292 all0).ext E296).trans K304 (allS (Or.inr (Nat.le_trans (((Keep.refl h0 []).trans K285 all0).trans K292 all0).1 (Nat.le_of_eq g296.symm))) all0)))⟩, (by show CHr Z EL0 s.vm s.heap T383.vm T383.heap; rw [hh, K383]; exact hCe), ⟨hend.1, hend.2.1, hend.2.2.1, hend.2.2.2.mono (by decide) (by decide)⟩⟩
set_option maxRecDepth 65536 in
set_option maxHeartbeats 40000000 in
theorem comes_1 {Post : Tables → Env → Array Value → State → Outcome → State → Prop} (hpost : ∀ tb e args s v u, (limb_1_1.after args s (.returned v) u = true ∧ limb_1_2.after args s (.returned v) u = true ∧ True) → ReturnedEndW s (.returned v) u (Jvm.fieldLocs frame_1_writes args s ++ Jvm.arrayLocs frame_1_arrays args s ++ Jvm.staticLocs frame_1_statics s) 24 1152 → Post tb e args s (.returned v) u) :
    ArmFor flags0 classFile x code maxLocals ret World_1 tables_1 room_1 Calls_1 rest_1 Pre_1 Post := by
  intro l hfl _ _ p e ha hc hk s m args below hf hA hF happ hP
  obtain ⟨hcalls, hrest, hpre⟩ := hP
  obtain ⟨-, -, -, hnamed, -, -, -, hat⟩ := (Spec.applies_iff hf).mp happ
  obtain ⟨hg, hn⟩ := and_e (Cond.before_iff.mp (show (Jvm.Cond.and given_1 narrow_1).before args s = true from hpre))
  obtain ⟨g1, g2⟩ := and_e hg
  obtain ⟨g3, g4⟩ := and_e g2
  obtain ⟨g5, g6⟩ := and_e g4
  obtain ⟨g7, g8⟩ := and_e g6
  obtain ⟨g9, g10⟩ := and_e g8
  obtain ⟨w0, w1, w2, w3, w4, rfl⟩ : ∃ w0 w1 w2 w3 w4 : Value, args = #[w0, w1, w2, w3, w4] := by
    have hs : args.size = 5 := by simpa [Cond.value, given_1] using g1
    obtain ⟨L⟩ := args
    match L, hs with
    | [w0, w1, w2, w3, w4], _ => exact ⟨w0, w1, w2, w3, w4, rfl⟩
  have hw := fun d (hd : d ∈ tables_1) => atoms_spec (ws := Jvm.Cond.code x code maxLocals ret :: tables_1) hat d (List.mem_cons_of_mem _ hd)
  have hfit : Fit s := fun {y c} hc i hi => by
    obtain ⟨ha, rfl⟩ := Array.getElem?_eq_some_iff.mp hc
    have q := List.all_eq_true.mp ((Array.all_eq_true_iff_forall_mem.mp hF) _ (Array.getElem_mem ha)) i (List.mem_range.mpr hi)
    simpa [Array.getElem?_eq_getElem hi] using q
  obtain ⟨hsets, hown0⟩ := atoms_of _ (rest_1_c_eq ▸ (show rest_1_c.before _ s = true from hrest))
  obtain ⟨i0, ei0⟩ := is_v g3
  obtain rfl : w0 = (.int i0) := Option.some.inj ei0
  obtain ⟨i1, ei1⟩ := is_v g5
  obtain rfl : w1 = (.int i1) := Option.some.inj ei1
  obtain ⟨i2, ei2⟩ := is_v g7
  obtain rfl : w2 = (.int i2) := Option.some.inj ei2
  obtain ⟨i3, ei3⟩ := is_v g9
  obtain rfl : w3 = (.int i3) := Option.some.inj ei3
  obtain ⟨i4, ei4⟩ := is_v g10
  obtain rfl : w4 = (.int i4) := Option.some.inj ei4
  obtain ⟨g11, g12⟩ := and_e hn
  obtain ⟨g13, g14⟩ := and_e g12
  obtain ⟨g15, g16⟩ := and_e g14
  obtain ⟨g17, g18⟩ := and_e g16
  obtain ⟨g19, g20⟩ := and_e g18
  obtain ⟨g21, g22⟩ := and_e g20
  obtain ⟨g23, g24⟩ := and_e g22
  obtain ⟨g25, g26⟩ := and_e g24
  obtain ⟨g27, g28⟩ := and_e g26
  have hEL : EW s (#[.int i0, .int i1, .int i2, .int i3, .int i4] : Array Value) EL0 := (EW.cons (hw _ (List.mem_of_getElem? (i := 25) rfl)) (by decide) EW.nil)
  have hCH : CHv s EL0 s.vm s.heap := CHv.start hEL (fun p hp => hcalls.1 p hp) (hsets _ (List.mem_of_getElem? (i := 2) rfl)) (hw _ (List.mem_of_getElem? (i := 26) rfl)) (hw _ (List.mem_of_getElem? (i := 12) rfl))
  obtain ⟨w_NAME, ev_NAME⟩ := exa_v g11
  have S_NAME := Sta.start ev_NAME (Or.inr ⟨(hw _ (List.mem_of_getElem? (i := 6) rfl)), (hw _ (List.mem_of_getElem? (i := 7) rfl))⟩)
  have E_NAME := Exa.start ev_NAME g11
  obtain ⟨w_SYMBOL, ev_SYMBOL⟩ := exa_v g13
  have S_SYMBOL := Sta.start ev_SYMBOL (Or.inr ⟨(hw _ (List.mem_of_getElem? (i := 6) rfl)), (hw _ (List.mem_of_getElem? (i := 64) rfl))⟩)
  have E_SYMBOL := Exa.start ev_SYMBOL g13
  obtain ⟨w_NUMBER, ev_NUMBER⟩ := exa_v g19
  have S_NUMBER := Sta.start ev_NUMBER (Or.inr ⟨(hw _ (List.mem_of_getElem? (i := 6) rfl)), (hw _ (List.mem_of_getElem? (i := 66) rfl))⟩)
  have E_NUMBER := Exa.start ev_NUMBER g19
  obtain ⟨w_QUOTED_NAME, ev_QUOTED_NAME⟩ := exa_v g23
  have S_QUOTED_NAME := Sta.start ev_QUOTED_NAME (Or.inr ⟨(hw _ (List.mem_of_getElem? (i := 6) rfl)), (hw _ (List.mem_of_getElem? (i := 78) rfl))⟩)
  have E_QUOTED_NAME := Exa.start ev_QUOTED_NAME g23
  obtain ⟨w_END, ev_END⟩ := exa_v g27
  have S_END := Sta.start ev_END (Or.inr ⟨(hw _ (List.mem_of_getElem? (i := 6) rfl)), (hw _ (List.mem_of_getElem? (i := 80) rfl))⟩)
  have E_END := Exa.start ev_END g27
  have F_SYMBOL_ordinal : Fld s s.heap w_SYMBOL "java/lang/Enum" "ordinal" "I" (.int (3 : Int32)) := by
    obtain ⟨x, y, e1, e2, -, -⟩ := cmp_v (Or.inl g15)
    exact Fld.start ((fld_at ev_SYMBOL).symm.trans (e1.trans (congrArg some (eq_int e1 (Term.int_eval (3)) g15))))
  have F_NAME_ordinal : Fld s s.heap w_NAME "java/lang/Enum" "ordinal" "I" (.int (0 : Int32)) := by
    obtain ⟨x, y, e1, e2, -, -⟩ := cmp_v (Or.inl g17)
    exact Fld.start ((fld_at ev_NAME).symm.trans (e1.trans (congrArg some (eq_int e1 (Term.int_eval (0)) g17))))
  have F_NUMBER_ordinal : Fld s s.heap w_NUMBER "java/lang/Enum" "ordinal" "I" (.int (2 : Int32)) := by
    obtain ⟨x, y, e1, e2, -, -⟩ := cmp_v (Or.inl g21)
    exact Fld.start ((fld_at ev_NUMBER).symm.trans (e1.trans (congrArg some (eq_int e1 (Term.int_eval (2)) g21))))
  have F_QUOTED_NAME_ordinal : Fld s s.heap w_QUOTED_NAME "java/lang/Enum" "ordinal" "I" (.int (1 : Int32)) := by
    obtain ⟨x, y, e1, e2, -, -⟩ := cmp_v (Or.inl g25)
    exact Fld.start ((fld_at ev_QUOTED_NAME).symm.trans (e1.trans (congrArg some (eq_int e1 (Term.int_eval (1)) g25))))
  have F_END_ordinal : Fld s s.heap w_END "java/lang/Enum" "ordinal" "I" (.int (4 : Int32)) := by
    obtain ⟨x, y, e1, e2, -, -⟩ := cmp_v (Or.inl g28)
    exact Fld.start ((fld_at ev_END).symm.trans (e1.trans (congrArg some (eq_int e1 (Term.int_eval (4)) g28))))
  obtain ⟨z_cs, ev_cs⟩ := is_v (Cond.before_iff.mp (hsets _ (List.mem_of_getElem? (i := 1) rfl)))
  have S_cs := Sta.start ev_cs (Or.inl (hsets _ (List.mem_of_getElem? (i := 0) rfl)))
  have hz_cs : ¬ z_cs = 0 := fun q => by
    have h := not_v (Cond.before_iff.mp (hsets _ (List.mem_of_getElem? (i := 2) rfl)))
    have h' := gotF (eq_I ev_cs (Term.int_eval (0))) h
    exact h' q
  obtain ⟨n, o, h1, h2, h3, _, L, rfl, ⟨rfl, N, _⟩, -, hq⟩ := law_ l s _ hw tables_1 i0 i1 i2 i3 i4 w_NAME w_QUOTED_NAME w_NUMBER w_SYMBOL w_END z_cs s.heap s.heap.size (Old.start s) hEL S_NAME S_QUOTED_NAME S_NUMBER S_SYMBOL S_END S_cs (Fld.ne F_QUOTED_NAME_ordinal F_NAME_ordinal (by decide)) (Fld.ne F_NUMBER_ordinal F_NAME_ordinal (by decide)) (Fld.ne F_SYMBOL_ordinal F_NAME_ordinal (by decide)) (Fld.ne F_END_ordinal F_NAME_ordinal (by decide)) hz_cs p e ha hc hk s m _ below hf ((Spec.applies_iff_loose hf).mp happ).1 ⟨rfl, State.Warmed39.refl s, rfl, hCH⟩ trivial
  refine ⟨n, _, h1, h2, h3, hpost _ _ _ _ _ _ ⟨Cond.after_iff.mpr rfl, Cond.after_iff.mpr (eq_i res_at (Term.int_eval (1)) rfl), trivial⟩ ⟨hq.1, hq.2.1, hq.2.2.1, (hq.2.2.2.sift fun y hy => Or.inr (N y hy)).mono (by decide) (by decide)⟩⟩
theorem main_1_1 : Claimed_1_1 := comes_1 fun _ _ _ _ _ _ h hF => ⟨h.1, hF⟩
theorem main_1_2 : Claimed_1_2 := comes_1 fun _ _ _ _ _ _ h hF => ⟨h.2.1, hF⟩
end Jvm.Pilot.@@N@@
namespace Jvm.Pilot.@@N@@
open Jvm Jvm.ClassFile Sem Op Lib Jvm.Free Jvm.Stand Jvm.Pilot.@@N@@.Jvm.D
/-! MADE BY PROGRAM (witnessworld.py) out of the Statement's table words and the real class files: 22 classes; the members and pool entries that the words name. The judged class is class 1, her method 3. -/
namespace start1
open Jvm.ClassFile
def u (s : String) : CpInfo := .utf8 (stringToUtf16 s)
/-- a pool by its gaps: so many unusable entries, then the entry; so many at the end -/
def gap : Nat → List CpInfo → List CpInfo
  | 0, r => r
  | n + 1, r => .unusable :: gap n r
def poolList (es : List (Nat × CpInfo)) (last : Nat) : List CpInfo := es.foldr (fun e r => gap e.1 (e.2 :: r)) (gap last [])
def pool (es : List (Nat × CpInfo)) (last : Nat) : Array CpInfo := ⟨poolList es last⟩
def fileOf (pool : Array CpInfo) (this : Nat) (attrs : Array Attribute := #[]) (ms : Array MethodInfo := #[]) (fl : Nat := 33) (sup : Nat := 0) (ifs : Array Nat := #[]) (fds : Array FieldInfo := #[]) : ClassFile where
  minorVersion := 0
  majorVersion := 65
  constantPool := pool
  accessFlags := fl
  thisClass := this
  superClass := sup
  interfaces := ifs
  fields := fds
  methods := ms
  attributes := attrs
def plain (name : String) (sup : Option ClassId) : Class where
  name := name
  kind := .ordinary
  loader := none
  accessFlags := 33
  super := sup
  interfaces := #[]
  cf := none
  fields := #[]
  methods := #[]
  instanceTypes := #[]
  staticTypes := #[]
  resolved := #[]
  callSites := []
  init := .initialized
  statics := none
  mirror := none

def pool0 : Array CpInfo := pool [(5, u "<init>"), (0, u "()V"), (1, .class_ 10), (1, u "java/lang/Object")] 113

def k0c0 : Code := { maxStack := 0, maxLocals := 1, code := object_method_1_code, exceptionTable := #[], attributes := #[] }
def k0m0 : Method := { name := "<init>", desc := "()V", sig := { parameters := [], returnType := none }, accessFlags := 1, code := some k0c0 }
/-- java/lang/Object -/
def k0 : Class := { plain "java/lang/Object" none with
  accessFlags := 33
  interfaces := #[]
  cf := some (fileOf pool0 8 #[] #[{ accessFlags := 1, nameIndex := 5, descriptorIndex := 6, attributes := #[] }] 33 0 #[] #[])
  fields := #[]
  methods := #[k0m0]
  instanceTypes := #[]
  staticTypes := #[]
  resolved := Array.replicate 124 none
  statics := none }

def pool1 : Array CpInfo := pool [(2, .class_ 4), (1, u "java/lang/Object"), (0, u "<init>"), (0, u "()V"), (0, .fieldref 8 9), (0, .class_ 10), (0, .nameAndType 11 12), (0, u "com/example/covrage/covrage/model/Lexer$Kind"), (0, u "NAME"), (0, u "Lcom/example/covrage/covrage/model/Lexer$Kind;"), (0, .fieldref 8 14), (0, .nameAndType 15 12), (0, u "QUOTED_NAME"), (0, .fieldref 8 17), (0, .nameAndType 18 12), (0, u "NUMBER"), (0, .fieldref 8 20), (0, .nameAndType 21 12), (0, u "SYMBOL"), (0, .fieldref 8 23), (0, .nameAndType 24 12), (0, u "END"), (0, .class_ 26), (0, u "java/lang/String"), (0, .methodref 25 28), (0, .nameAndType 5 29), (0, u "([C)V"), (0, .integer 2147483647), (0, .methodref 32 33), (0, .class_ 34), (0, .nameAndType 35 36), (0, u "com/example/covrage/covrage/model/TokenIsNamePinLaw"), (0, u "kindOf"), (0, u "(I)Lcom/example/covrage/covrage/model/Lexer$Kind;"), (0, .methodref 32 38), (0, .nameAndType 39 40), (0, u "str"), (0, u "(ICC)Ljava/lang/String;"), (0, .class_ 42), (0, u "com/example/covrage/covrage/model/Lexer$Token"), (0, .methodref 41 44), (0, .nameAndType 5 45), (0, u "(Lcom/example/covrage/covrage/model/Lexer$Kind;Ljava/lang/String;I)V"), (0, .methodref 41 47), (0, .nameAndType 48 49), (0, u "isName"), (0, u "(Ljava/lang/String;)Z"), (3, u "law"), (0, u "(IIIII)Z")] 7

def k1m0 : Method := { name := "<init>", desc := "()V", sig := { parameters := [], returnType := none }, accessFlags := 1, code := none }
def k1c1 : Code := { maxStack := 2, maxLocals := 1, code := method_2_code, exceptionTable := #[], attributes := #[] }
def k1m1 : Method := { name := "kindOf", desc := "(I)Lcom/example/covrage/covrage/model/Lexer$Kind;", sig := { parameters := [.int], returnType := some (.object "com/example/covrage/covrage/model/Lexer$Kind") }, accessFlags := 10, code := some k1c1 }
def k1c2 : Code := { maxStack := 6, maxLocals := 3, code := method_3_code, exceptionTable := #[], attributes := #[] }
def k1m2 : Method := { name := "str", desc := "(ICC)Ljava/lang/String;", sig := { parameters := [.int, .char, .char], returnType := some (.object "java/lang/String") }, accessFlags := 10, code := some k1c2 }
def k1c3 : Code := { maxStack := 5, maxLocals := 18, code := code, exceptionTable := #[], attributes := #[] }
def k1m3 : Method := { name := "law", desc := "(IIIII)Z", sig := { parameters := [.int, .int, .int, .int, .int], returnType := some .boolean }, accessFlags := 9, code := some k1c3 }
/-- com/example/covrage/covrage/model/TokenIsNamePinLaw -/
def k1 : Class := { plain "com/example/covrage/covrage/model/TokenIsNamePinLaw" (some 0) with
  accessFlags := 49
  interfaces := #[]
  cf := some (fileOf pool1 32 #[] #[{ accessFlags := 1, nameIndex := 5, descriptorIndex := 6, attributes := #[] }, { accessFlags := 10, nameIndex := 35, descriptorIndex := 36, attributes := #[] }, { accessFlags := 10, nameIndex := 39, descriptorIndex := 40, attributes := #[] }, { accessFlags := 9, nameIndex := 53, descriptorIndex := 54, attributes := #[] }] 49 2 #[] #[])
  fields := #[]
  methods := #[k1m0, k1m1, k1m2, k1m3]
  instanceTypes := #[]
  staticTypes := #[]
  resolved := Array.replicate 62 none
  statics := none }

def pool2 : Array CpInfo := pool [(1, .class_ 2), (0, u "java/lang/constant/Constable"), (0, .class_ 4), (0, u "java/lang/Object")] 6

/-- java/lang/constant/Constable -/
def k2 : Class := { plain "java/lang/constant/Constable" (some 0) with
  accessFlags := 1537
  interfaces := #[]
  cf := some (fileOf pool2 1 #[] #[] 1537 3 #[] #[])
  fields := #[]
  methods := #[]
  instanceTypes := #[]
  staticTypes := #[]
  resolved := Array.replicate 11 none
  statics := none }

def pool3 : Array CpInfo := pool [(1, .class_ 2), (0, u "java/lang/Comparable"), (0, .class_ 4), (0, u "java/lang/Object")] 7

/-- java/lang/Comparable -/
def k3 : Class := { plain "java/lang/Comparable" (some 0) with
  accessFlags := 1537
  interfaces := #[]
  cf := some (fileOf pool3 1 #[] #[] 1537 3 #[] #[])
  fields := #[]
  methods := #[]
  instanceTypes := #[]
  staticTypes := #[]
  resolved := Array.replicate 12 none
  statics := none }

def pool4 : Array CpInfo := pool [(1, .class_ 2), (0, u "java/io/Serializable"), (0, .class_ 4), (0, u "java/lang/Object")] 2

/-- java/io/Serializable -/
def k4 : Class := { plain "java/io/Serializable" (some 0) with
  accessFlags := 1537
  interfaces := #[]
  cf := some (fileOf pool4 1 #[] #[] 1537 3 #[] #[])
  fields := #[]
  methods := #[]
  instanceTypes := #[]
  staticTypes := #[]
  resolved := Array.replicate 7 none
  statics := none }

def pool5 : Array CpInfo := pool [(2, .class_ 4), (1, u "java/lang/Enum"), (0, u "name"), (0, u "Ljava/lang/String;"), (2, u "ordinal"), (0, u "I"), (1, .class_ 14), (1, u "java/lang/Object"), (4, u "hash"), (86, .class_ 108), (1, u "java/lang/Enum$EnumDesc"), (2, .class_ 112), (0, u "java/lang/constant/Constable"), (0, .class_ 114), (0, u "java/lang/Comparable"), (0, .class_ 116), (0, u "java/io/Serializable")] 87

/-- java/lang/Enum -/
def k5 : Class := { plain "java/lang/Enum" (some 0) with
  accessFlags := 1057
  interfaces := #[2, 3, 4]
  cf := some (fileOf pool5 2 #[.nestMembers #[106]] #[] 1057 12 #[111, 113, 115] #[{ accessFlags := 18, nameIndex := 5, descriptorIndex := 6, attributes := #[] }, { accessFlags := 18, nameIndex := 9, descriptorIndex := 10, attributes := #[] }, { accessFlags := 2, nameIndex := 19, descriptorIndex := 10, attributes := #[] }])
  fields := #[{ name := "name", type := (.object "java/lang/String"), accessFlags := 18, slot := 0, constantValue := 0 }, { name := "ordinal", type := .int, accessFlags := 18, slot := 1, constantValue := 0 }, { name := "hash", type := .int, accessFlags := 2, slot := 2, constantValue := 0 }]
  methods := #[]
  instanceTypes := #[(.object "java/lang/String"), .int, .int]
  staticTypes := #[]
  resolved := Array.replicate 204 none
  statics := none }

def pool6 : Array CpInfo := pool [(1, .class_ 2), (0, u "com/example/covrage/covrage/model/Lexer$Kind"), (2, u "NAME"), (0, u "Lcom/example/covrage/covrage/model/Lexer$Kind;"), (2, u "QUOTED_NAME"), (2, u "NUMBER"), (2, u "SYMBOL"), (2, u "END"), (2, u "$VALUES"), (0, u "[Lcom/example/covrage/covrage/model/Lexer$Kind;"), (6, .class_ 31), (1, u "java/lang/Enum"), (28, .class_ 61), (0, u "com/example/covrage/covrage/model/Lexer")] 2

/-- com/example/covrage/covrage/model/Lexer$Kind -/
def k6 : Class := { plain "com/example/covrage/covrage/model/Lexer$Kind" (some 5) with
  accessFlags := 16432
  interfaces := #[]
  cf := some (fileOf pool6 1 #[.nestHost 60] #[] 16432 29 #[] #[{ accessFlags := 16409, nameIndex := 5, descriptorIndex := 6, attributes := #[] }, { accessFlags := 16409, nameIndex := 9, descriptorIndex := 6, attributes := #[] }, { accessFlags := 16409, nameIndex := 12, descriptorIndex := 6, attributes := #[] }, { accessFlags := 16409, nameIndex := 15, descriptorIndex := 6, attributes := #[] }, { accessFlags := 16409, nameIndex := 18, descriptorIndex := 6, attributes := #[] }, { accessFlags := 4122, nameIndex := 21, descriptorIndex := 22, attributes := #[] }])
  fields := #[{ name := "NAME", type := (.object "com/example/covrage/covrage/model/Lexer$Kind"), accessFlags := 16409, slot := 0, constantValue := 0 }, { name := "QUOTED_NAME", type := (.object "com/example/covrage/covrage/model/Lexer$Kind"), accessFlags := 16409, slot := 1, constantValue := 0 }, { name := "NUMBER", type := (.object "com/example/covrage/covrage/model/Lexer$Kind"), accessFlags := 16409, slot := 2, constantValue := 0 }, { name := "SYMBOL", type := (.object "com/example/covrage/covrage/model/Lexer$Kind"), accessFlags := 16409, slot := 3, constantValue := 0 }, { name := "END", type := (.object "com/example/covrage/covrage/model/Lexer$Kind"), accessFlags := 16409, slot := 4, constantValue := 0 }, { name := "$VALUES", type := (.array (.object "com/example/covrage/covrage/model/Lexer$Kind")), accessFlags := 4122, slot := 5, constantValue := 0 }]
  methods := #[]
  instanceTypes := #[(.object "java/lang/String"), .int, .int]
  staticTypes := #[(.object "com/example/covrage/covrage/model/Lexer$Kind"), (.object "com/example/covrage/covrage/model/Lexer$Kind"), (.object "com/example/covrage/covrage/model/Lexer$Kind"), (.object "com/example/covrage/covrage/model/Lexer$Kind"), (.object "com/example/covrage/covrage/model/Lexer$Kind"), (.array (.object "com/example/covrage/covrage/model/Lexer$Kind"))]
  resolved := Array.replicate 64 none
  statics := some 0 }

def pool7 : Array CpInfo := pool [(2, .class_ 4), (1, u "java/lang/CharSequence"), (42, .class_ 48), (0, u "java/lang/CharSequence$1CodePointIterator"), (10, .class_ 60), (0, u "java/lang/CharSequence$1CharIterator"), (5, .class_ 67), (0, u "java/lang/Object")] 63

/-- java/lang/CharSequence -/
def k7 : Class := { plain "java/lang/CharSequence" (some 0) with
  accessFlags := 1537
  interfaces := #[]
  cf := some (fileOf pool7 2 #[.nestMembers #[47, 59]] #[] 1537 66 #[] #[])
  fields := #[]
  methods := #[]
  instanceTypes := #[]
  staticTypes := #[]
  resolved := Array.replicate 131 none
  statics := none }

def pool8 : Array CpInfo := pool [(1, .class_ 2), (0, u "java/lang/constant/ConstantDesc"), (0, .class_ 4), (0, u "java/lang/Object")] 32

/-- java/lang/constant/ConstantDesc -/
def k8 : Class := { plain "java/lang/constant/ConstantDesc" (some 0) with
  accessFlags := 1537
  interfaces := #[]
  cf := some (fileOf pool8 1 #[] #[] 1537 3 #[] #[])
  fields := #[]
  methods := #[]
  instanceTypes := #[]
  staticTypes := #[]
  resolved := Array.replicate 37 none
  statics := none }

def pool9 : Array CpInfo := pool [(1, .methodref 2 3), (0, .class_ 4), (0, .nameAndType 5 6), (0, u "java/lang/Object"), (0, u "<init>"), (0, u "()V"), (0, .string 8), (0, u ""), (0, .fieldref 10 11), (0, .class_ 12), (0, .nameAndType 13 14), (0, u "java/lang/String"), (0, u "value"), (0, u "[B"), (0, .fieldref 10 16), (0, .nameAndType 17 18), (0, u "coder"), (0, u "B"), (2, u "hash"), (0, u "I"), (2, u "hashIsZero"), (0, u "Z"), (0, .methodref 10 28), (0, .nameAndType 5 29), (0, u "([CIILjava/lang/Void;)V"), (8, .fieldref 10 39), (0, .nameAndType 40 26), (0, u "COMPACT_STRINGS"), (1, .class_ 44), (1, u "java/lang/StringUTF16"), (0, u "compress"), (1, .methodref 42 48), (0, .nameAndType 49 50), (0, u "coderFromArrayLen"), (0, u "([BI)B"), (56, .class_ 109), (1, u "java/lang/StringLatin1"), (67, .methodref 42 178), (0, .nameAndType 45 179), (0, u "([CII)[B"), (361, .methodref 107 542), (0, .nameAndType 543 544), (0, u "equals"), (0, u "([B[B)Z"), (28, u "(Ljava/lang/Object;)Z"), (1, .class_ 576), (0, u "java/lang/CharSequence"), (22, u "CASE_INSENSITIVE_ORDER"), (0, u "Ljava/util/Comparator;"), (409, u "([C)V"), (90, u "serialPersistentFields"), (0, u "[Ljava/io/ObjectStreamField;"), (0, .class_ 1104), (0, u "java/lang/String$CaseInsensitiveComparator"), (1, .class_ 1107), (0, u "java/io/Serializable"), (0, .class_ 1109), (0, u "java/lang/Comparable"), (0, .class_ 1111), (0, u "java/lang/constant/Constable"), (0, .class_ 1113), (0, u "java/lang/constant/ConstantDesc"), (2, u "serialVersionUID"), (0, u "J"), (3, u "REPL"), (0, u "C"), (2, u "LATIN1"), (1, u "UTF16")] 323

def k9m0 : Method := { name := "<init>", desc := "()V", sig := { parameters := [], returnType := none }, accessFlags := 1, code := none }
def k9c1 : Code := { maxStack := 5, maxLocals := 2, code := jdk_42_method_3_code, exceptionTable := #[], attributes := #[] }
def k9m1 : Method := { name := "<init>", desc := "([C)V", sig := { parameters := [(.array .char)], returnType := none }, accessFlags := 1, code := some k9c1 }
def k9c2 : Code := { maxStack := 2, maxLocals := 3, code := jdk_42_method_66_code, exceptionTable := #[], attributes := #[] }
def k9m2 : Method := { name := "equals", desc := "(Ljava/lang/Object;)Z", sig := { parameters := [(.object "java/lang/Object")], returnType := some .boolean }, accessFlags := 1, code := some k9c2 }
def k9c3 : Code := { maxStack := 4, maxLocals := 6, code := jdk_42_method_149_code, exceptionTable := #[], attributes := #[] }
def k9m3 : Method := { name := "<init>", desc := "([CIILjava/lang/Void;)V", sig := { parameters := [(.array .char), .int, .int, (.object "java/lang/Void")], returnType := none }, accessFlags := 2, code := some k9c3 }
/-- java/lang/String -/
def k9 : Class := { plain "java/lang/String" (some 0) with
  accessFlags := 49
  interfaces := #[4, 3, 7, 2, 8]
  cf := some (fileOf pool9 10 #[.nestMembers #[1103]] #[{ accessFlags := 1, nameIndex := 5, descriptorIndex := 6, attributes := #[] }, { accessFlags := 1, nameIndex := 5, descriptorIndex := 1010, attributes := #[] }, { accessFlags := 1, nameIndex := 543, descriptorIndex := 573, attributes := #[] }, { accessFlags := 2, nameIndex := 5, descriptorIndex := 29, attributes := #[] }] 49 2 #[1106, 1108, 575, 1110, 1112] #[{ accessFlags := 18, nameIndex := 13, descriptorIndex := 14, attributes := #[] }, { accessFlags := 18, nameIndex := 17, descriptorIndex := 18, attributes := #[] }, { accessFlags := 2, nameIndex := 21, descriptorIndex := 22, attributes := #[] }, { accessFlags := 2, nameIndex := 25, descriptorIndex := 26, attributes := #[] }, { accessFlags := 26, nameIndex := 1116, descriptorIndex := 1117, attributes := #[] }, { accessFlags := 24, nameIndex := 40, descriptorIndex := 26, attributes := #[] }, { accessFlags := 26, nameIndex := 1101, descriptorIndex := 1102, attributes := #[] }, { accessFlags := 26, nameIndex := 1121, descriptorIndex := 1122, attributes := #[] }, { accessFlags := 25, nameIndex := 599, descriptorIndex := 600, attributes := #[] }, { accessFlags := 24, nameIndex := 1125, descriptorIndex := 18, attributes := #[] }, { accessFlags := 24, nameIndex := 1127, descriptorIndex := 18, attributes := #[] }])
  fields := #[{ name := "value", type := (.array .byte), accessFlags := 18, slot := 0, constantValue := 0 }, { name := "coder", type := .byte, accessFlags := 18, slot := 1, constantValue := 0 }, { name := "hash", type := .int, accessFlags := 2, slot := 2, constantValue := 0 }, { name := "hashIsZero", type := .boolean, accessFlags := 2, slot := 3, constantValue := 0 }, { name := "serialVersionUID", type := .long, accessFlags := 26, slot := 0, constantValue := 0 }, { name := "COMPACT_STRINGS", type := .boolean, accessFlags := 24, slot := 1, constantValue := 0 }, { name := "serialPersistentFields", type := (.array (.object "java/io/ObjectStreamField")), accessFlags := 26, slot := 2, constantValue := 0 }, { name := "REPL", type := .char, accessFlags := 26, slot := 3, constantValue := 0 }, { name := "CASE_INSENSITIVE_ORDER", type := (.object "java/util/Comparator"), accessFlags := 25, slot := 4, constantValue := 0 }, { name := "LATIN1", type := .byte, accessFlags := 24, slot := 5, constantValue := 0 }, { name := "UTF16", type := .byte, accessFlags := 24, slot := 6, constantValue := 0 }]
  methods := #[k9m0, k9m1, k9m2, k9m3]
  instanceTypes := #[(.array .byte), .byte, .int, .boolean]
  staticTypes := #[.long, .boolean, (.array (.object "java/io/ObjectStreamField")), .char, (.object "java/util/Comparator"), .byte, .byte]
  resolved := Array.replicate 1451 none
  statics := some 1 }

def pool10 : Array CpInfo := pool [(1, .methodref 2 3), (0, .class_ 4), (0, .nameAndType 5 6), (0, u "java/lang/Object"), (0, u "<init>"), (0, u "()V"), (0, .fieldref 8 9), (0, .class_ 10), (0, .nameAndType 11 12), (0, u "com/example/covrage/covrage/model/Lexer$Token"), (0, u "kind"), (0, u "Lcom/example/covrage/covrage/model/Lexer$Kind;"), (0, .fieldref 8 14), (0, .nameAndType 15 16), (0, u "text"), (0, u "Ljava/lang/String;"), (0, .fieldref 8 18), (0, .nameAndType 19 20), (0, u "line"), (0, u "I"), (12, .class_ 35), (1, u "com/example/covrage/covrage/model/Lexer$Kind"), (7, .methodref 44 45), (0, .class_ 46), (0, .nameAndType 47 48), (0, u "java/lang/String"), (0, u "equals"), (0, u "(Ljava/lang/Object;)Z"), (0, .fieldref 33 50), (0, .nameAndType 51 12), (0, u "NAME"), (0, u "(Lcom/example/covrage/covrage/model/Lexer$Kind;Ljava/lang/String;I)V"), (13, u "(Ljava/lang/String;)Z"), (0, u "isName"), (3, .class_ 72), (0, u "com/example/covrage/covrage/model/Lexer")] 17

def k10c0 : Code := { maxStack := 2, maxLocals := 4, code := prog_30_method_1_code, exceptionTable := #[], attributes := #[] }
def k10m0 : Method := { name := "<init>", desc := "(Lcom/example/covrage/covrage/model/Lexer$Kind;Ljava/lang/String;I)V", sig := { parameters := [(.object "com/example/covrage/covrage/model/Lexer$Kind"), (.object "java/lang/String"), .int], returnType := none }, accessFlags := 0, code := some k10c0 }
def k10c1 : Code := { maxStack := 2, maxLocals := 2, code := prog_30_method_8_code, exceptionTable := #[], attributes := #[] }
def k10m1 : Method := { name := "isName", desc := "(Ljava/lang/String;)Z", sig := { parameters := [(.object "java/lang/String")], returnType := some .boolean }, accessFlags := 0, code := some k10c1 }
/-- com/example/covrage/covrage/model/Lexer$Token -/
def k10 : Class := { plain "com/example/covrage/covrage/model/Lexer$Token" (some 0) with
  accessFlags := 32
  interfaces := #[]
  cf := some (fileOf pool10 8 #[.nestHost 71] #[{ accessFlags := 0, nameIndex := 5, descriptorIndex := 52, attributes := #[] }, { accessFlags := 0, nameIndex := 67, descriptorIndex := 66, attributes := #[] }] 32 2 #[] #[{ accessFlags := 18, nameIndex := 11, descriptorIndex := 12, attributes := #[] }, { accessFlags := 18, nameIndex := 15, descriptorIndex := 16, attributes := #[] }, { accessFlags := 18, nameIndex := 19, descriptorIndex := 20, attributes := #[] }])
  fields := #[{ name := "kind", type := (.object "com/example/covrage/covrage/model/Lexer$Kind"), accessFlags := 18, slot := 0, constantValue := 0 }, { name := "text", type := (.object "java/lang/String"), accessFlags := 18, slot := 1, constantValue := 0 }, { name := "line", type := .int, accessFlags := 18, slot := 2, constantValue := 0 }]
  methods := #[k10m0, k10m1]
  instanceTypes := #[(.object "com/example/covrage/covrage/model/Lexer$Kind"), (.object "java/lang/String"), .int]
  staticTypes := #[]
  resolved := Array.replicate 90 none
  statics := none }

def pool11 : Array CpInfo := pool [(4, .class_ 6), (1, u "java/lang/Object"), (0, u "<init>"), (0, u "()V"), (5, .class_ 16), (1, u "java/lang/StringLatin1"), (104, u "$assertionsDisabled"), (0, u "Z"), (98, .class_ 223), (1, u "java/lang/StringLatin1$LinesSpliterator"), (57, u "equals"), (0, u "([B[B)Z"), (107, .class_ 391), (0, u "java/lang/StringLatin1$CharsSpliterator")] 3

def k11m0 : Method := { name := "<init>", desc := "()V", sig := { parameters := [], returnType := none }, accessFlags := 0, code := none }
def k11c1 : Code := { maxStack := 3, maxLocals := 3, code := jdk_43_method_13_code, exceptionTable := #[], attributes := #[] }
def k11m1 : Method := { name := "equals", desc := "([B[B)Z", sig := { parameters := [(.array .byte), (.array .byte)], returnType := some .boolean }, accessFlags := 9, code := some k11c1 }
/-- java/lang/StringLatin1 -/
def k11 : Class := { plain "java/lang/StringLatin1" (some 0) with
  accessFlags := 48
  interfaces := #[]
  cf := some (fileOf pool11 14 #[.nestMembers #[390, 221]] #[{ accessFlags := 0, nameIndex := 7, descriptorIndex := 8, attributes := #[] }, { accessFlags := 9, nameIndex := 281, descriptorIndex := 282, attributes := #[] }] 48 4 #[] #[{ accessFlags := 4120, nameIndex := 121, descriptorIndex := 122, attributes := #[] }])
  fields := #[{ name := "$assertionsDisabled", type := .boolean, accessFlags := 4120, slot := 0, constantValue := 0 }]
  methods := #[k11m0, k11m1]
  instanceTypes := #[]
  staticTypes := #[.boolean]
  resolved := Array.replicate 395 none
  statics := none }

def pool12 : Array CpInfo := pool [(6, .class_ 8), (1, u "java/lang/Object"), (0, u "<init>"), (0, u "()V"), (1, .class_ 14), (1, u "java/lang/StringUTF16"), (31, u "$assertionsDisabled"), (0, u "Z"), (13, u "HI_BYTE_SHIFT"), (0, u "I"), (2, u "LO_BYTE_SHIFT"), (49, .methodref 12 116), (0, .nameAndType 117 118), (0, u "compress"), (0, u "([CI[BII)I"), (3, u "([CII)[B"), (138, u "coderFromArrayLen"), (0, u "([BI)B"), (106, .class_ 371), (1, u "java/lang/StringUTF16$LinesSpliterator"), (58, u "MAX_LENGTH"), (196, .class_ 628), (0, u "java/lang/StringUTF16$CodePointsSpliterator"), (0, .class_ 630), (0, u "java/lang/StringUTF16$CharsSpliterator")] 4

def k12m0 : Method := { name := "<init>", desc := "()V", sig := { parameters := [], returnType := none }, accessFlags := 0, code := none }
def k12c1 : Code := { maxStack := 2, maxLocals := 2, code := jdk_52_method_15_code, exceptionTable := #[], attributes := #[] }
def k12m1 : Method := { name := "coderFromArrayLen", desc := "([BI)B", sig := { parameters := [(.array .byte), .int], returnType := some .byte }, accessFlags := 8, code := some k12c1 }
def k12c2 : Code := { maxStack := 5, maxLocals := 6, code := jdk_52_method_16_code, exceptionTable := #[], attributes := #[] }
def k12m2 : Method := { name := "compress", desc := "([CII)[B", sig := { parameters := [(.array .char), .int, .int], returnType := some (.array .byte) }, accessFlags := 9, code := some k12c2 }
def k12c3 : Code := { maxStack := 3, maxLocals := 7, code := jdk_52_method_21_code, exceptionTable := #[], attributes := #[] }
def k12m3 : Method := { name := "compress", desc := "([CI[BII)I", sig := { parameters := [(.array .char), .int, (.array .byte), .int, .int], returnType := some .int }, accessFlags := 9, code := some k12c3 }
/-- java/lang/StringUTF16 -/
def k12 : Class := { plain "java/lang/StringUTF16" (some 0) with
  accessFlags := 48
  interfaces := #[]
  cf := some (fileOf pool12 12 #[.nestMembers #[627, 629, 369]] #[{ accessFlags := 0, nameIndex := 9, descriptorIndex := 10, attributes := #[] }, { accessFlags := 8, nameIndex := 261, descriptorIndex := 262, attributes := #[] }, { accessFlags := 9, nameIndex := 117, descriptorIndex := 122, attributes := #[] }, { accessFlags := 9, nameIndex := 117, descriptorIndex := 118, attributes := #[] }] 48 6 #[] #[{ accessFlags := 26, nameIndex := 61, descriptorIndex := 62, attributes := #[] }, { accessFlags := 26, nameIndex := 65, descriptorIndex := 62, attributes := #[] }, { accessFlags := 24, nameIndex := 430, descriptorIndex := 62, attributes := #[] }, { accessFlags := 4120, nameIndex := 46, descriptorIndex := 47, attributes := #[] }])
  fields := #[{ name := "HI_BYTE_SHIFT", type := .int, accessFlags := 26, slot := 0, constantValue := 0 }, { name := "LO_BYTE_SHIFT", type := .int, accessFlags := 26, slot := 1, constantValue := 0 }, { name := "MAX_LENGTH", type := .int, accessFlags := 24, slot := 2, constantValue := 0 }, { name := "$assertionsDisabled", type := .boolean, accessFlags := 4120, slot := 3, constantValue := 0 }]
  methods := #[k12m0, k12m1, k12m2, k12m3]
  instanceTypes := #[]
  staticTypes := #[.int, .int, .int, .boolean]
  resolved := Array.replicate 635 none
  statics := none }

def pool13 : Array CpInfo := pool [(2, .class_ 4), (1, u "java/lang/Object"), (0, u "<init>"), (0, u "()V"), (17, .class_ 26), (1, u "jdk/internal/util/Preconditions"), (28, .class_ 56), (0, u "jdk/internal/util/Preconditions$4"), (57, .class_ 115), (0, u "jdk/internal/util/Preconditions$1"), (7, u "SIOOBE_FORMATTER"), (0, u "Ljava/util/function/BiFunction;"), (0, .class_ 126), (0, u "jdk/internal/util/Preconditions$2"), (3, u "AIOOBE_FORMATTER"), (0, .class_ 132), (0, u "jdk/internal/util/Preconditions$3"), (3, u "IOOBE_FORMATTER")] 57

def k13m0 : Method := { name := "<init>", desc := "()V", sig := { parameters := [], returnType := none }, accessFlags := 1, code := none }
/-- jdk/internal/util/Preconditions -/
def k13 : Class := { plain "jdk/internal/util/Preconditions" (some 0) with
  accessFlags := 33
  interfaces := #[]
  cf := some (fileOf pool13 24 #[.nestMembers #[55, 131, 125, 114]] #[{ accessFlags := 1, nameIndex := 5, descriptorIndex := 6, attributes := #[] }] 33 2 #[] #[{ accessFlags := 25, nameIndex := 123, descriptorIndex := 124, attributes := #[] }, { accessFlags := 25, nameIndex := 130, descriptorIndex := 124, attributes := #[] }, { accessFlags := 25, nameIndex := 136, descriptorIndex := 124, attributes := #[] }])
  fields := #[{ name := "SIOOBE_FORMATTER", type := (.object "java/util/function/BiFunction"), accessFlags := 25, slot := 0, constantValue := 0 }, { name := "AIOOBE_FORMATTER", type := (.object "java/util/function/BiFunction"), accessFlags := 25, slot := 1, constantValue := 0 }, { name := "IOOBE_FORMATTER", type := (.object "java/util/function/BiFunction"), accessFlags := 25, slot := 2, constantValue := 0 }]
  methods := #[k13m0]
  instanceTypes := #[]
  staticTypes := #[(.object "java/util/function/BiFunction"), (.object "java/util/function/BiFunction"), (.object "java/util/function/BiFunction")]
  resolved := Array.replicate 194 none
  statics := some 2 }

def pool14 : Array CpInfo := pool [(9, u "<init>"), (6, .class_ 18), (1, u "java/lang/Object"), (0, u "()V"), (1, .class_ 23), (1, u "jdk/internal/util/ArraysSupport"), (0, u "LOG2_ARRAY_LONG_INDEX_SCALE"), (0, u "I"), (2, u "U"), (0, u "Ljdk/internal/misc/Unsafe;"), (8, u "BIG_ENDIAN"), (0, u "Z"), (8, u "LOG2_BYTE_BIT_SIZE"), (4, u "LOG2_ARRAY_INT_INDEX_SCALE"), (54, u "JLA"), (0, u "Ljdk/internal/access/JavaLangAccess;"), (11, u "LOG2_ARRAY_BOOLEAN_INDEX_SCALE"), (9, u "LOG2_ARRAY_BYTE_INDEX_SCALE"), (5, u "LOG2_ARRAY_CHAR_INDEX_SCALE"), (5, u "LOG2_ARRAY_SHORT_INDEX_SCALE"), (18, u "LOG2_ARRAY_FLOAT_INDEX_SCALE"), (24, u "LOG2_ARRAY_DOUBLE_INDEX_SCALE"), (89, u "T_BOOLEAN"), (2, u "T_CHAR"), (1, u "T_FLOAT"), (1, u "T_DOUBLE"), (1, u "T_BYTE"), (1, u "T_SHORT"), (1, u "T_INT"), (1, u "T_LONG"), (1, u "SOFT_MAX_ARRAY_LENGTH")] 83

def k14m0 : Method := { name := "<init>", desc := "()V", sig := { parameters := [], returnType := none }, accessFlags := 2, code := none }
/-- jdk/internal/util/ArraysSupport -/
def k14 : Class := { plain "jdk/internal/util/ArraysSupport" (some 0) with
  accessFlags := 33
  interfaces := #[]
  cf := some (fileOf pool14 21 #[] #[{ accessFlags := 2, nameIndex := 9, descriptorIndex := 19, attributes := #[] }] 33 16 #[] #[{ accessFlags := 24, nameIndex := 28, descriptorIndex := 29, attributes := #[] }, { accessFlags := 26, nameIndex := 38, descriptorIndex := 39, attributes := #[] }, { accessFlags := 25, nameIndex := 121, descriptorIndex := 25, attributes := #[] }, { accessFlags := 25, nameIndex := 131, descriptorIndex := 25, attributes := #[] }, { accessFlags := 25, nameIndex := 137, descriptorIndex := 25, attributes := #[] }, { accessFlags := 25, nameIndex := 143, descriptorIndex := 25, attributes := #[] }, { accessFlags := 25, nameIndex := 53, descriptorIndex := 25, attributes := #[] }, { accessFlags := 25, nameIndex := 24, descriptorIndex := 25, attributes := #[] }, { accessFlags := 25, nameIndex := 162, descriptorIndex := 25, attributes := #[] }, { accessFlags := 25, nameIndex := 187, descriptorIndex := 25, attributes := #[] }, { accessFlags := 26, nameIndex := 48, descriptorIndex := 25, attributes := #[] }, { accessFlags := 25, nameIndex := 277, descriptorIndex := 25, attributes := #[] }, { accessFlags := 25, nameIndex := 280, descriptorIndex := 25, attributes := #[] }, { accessFlags := 25, nameIndex := 282, descriptorIndex := 25, attributes := #[] }, { accessFlags := 25, nameIndex := 284, descriptorIndex := 25, attributes := #[] }, { accessFlags := 25, nameIndex := 286, descriptorIndex := 25, attributes := #[] }, { accessFlags := 25, nameIndex := 288, descriptorIndex := 25, attributes := #[] }, { accessFlags := 25, nameIndex := 290, descriptorIndex := 25, attributes := #[] }, { accessFlags := 25, nameIndex := 292, descriptorIndex := 25, attributes := #[] }, { accessFlags := 26, nameIndex := 108, descriptorIndex := 109, attributes := #[] }, { accessFlags := 25, nameIndex := 294, descriptorIndex := 25, attributes := #[] }])
  fields := #[{ name := "U", type := (.object "jdk/internal/misc/Unsafe"), accessFlags := 24, slot := 0, constantValue := 0 }, { name := "BIG_ENDIAN", type := .boolean, accessFlags := 26, slot := 1, constantValue := 0 }, { name := "LOG2_ARRAY_BOOLEAN_INDEX_SCALE", type := .int, accessFlags := 25, slot := 2, constantValue := 0 }, { name := "LOG2_ARRAY_BYTE_INDEX_SCALE", type := .int, accessFlags := 25, slot := 3, constantValue := 0 }, { name := "LOG2_ARRAY_CHAR_INDEX_SCALE", type := .int, accessFlags := 25, slot := 4, constantValue := 0 }, { name := "LOG2_ARRAY_SHORT_INDEX_SCALE", type := .int, accessFlags := 25, slot := 5, constantValue := 0 }, { name := "LOG2_ARRAY_INT_INDEX_SCALE", type := .int, accessFlags := 25, slot := 6, constantValue := 0 }, { name := "LOG2_ARRAY_LONG_INDEX_SCALE", type := .int, accessFlags := 25, slot := 7, constantValue := 0 }, { name := "LOG2_ARRAY_FLOAT_INDEX_SCALE", type := .int, accessFlags := 25, slot := 8, constantValue := 0 }, { name := "LOG2_ARRAY_DOUBLE_INDEX_SCALE", type := .int, accessFlags := 25, slot := 9, constantValue := 0 }, { name := "LOG2_BYTE_BIT_SIZE", type := .int, accessFlags := 26, slot := 10, constantValue := 0 }, { name := "T_BOOLEAN", type := .int, accessFlags := 25, slot := 11, constantValue := 0 }, { name := "T_CHAR", type := .int, accessFlags := 25, slot := 12, constantValue := 0 }, { name := "T_FLOAT", type := .int, accessFlags := 25, slot := 13, constantValue := 0 }, { name := "T_DOUBLE", type := .int, accessFlags := 25, slot := 14, constantValue := 0 }, { name := "T_BYTE", type := .int, accessFlags := 25, slot := 15, constantValue := 0 }, { name := "T_SHORT", type := .int, accessFlags := 25, slot := 16, constantValue := 0 }, { name := "T_INT", type := .int, accessFlags := 25, slot := 17, constantValue := 0 }, { name := "T_LONG", type := .int, accessFlags := 25, slot := 18, constantValue := 0 }, { name := "JLA", type := (.object "jdk/internal/access/JavaLangAccess"), accessFlags := 26, slot := 19, constantValue := 0 }, { name := "SOFT_MAX_ARRAY_LENGTH", type := .int, accessFlags := 25, slot := 20, constantValue := 0 }]
  methods := #[k14m0]
  instanceTypes := #[]
  staticTypes := #[(.object "jdk/internal/misc/Unsafe"), .boolean, .int, .int, .int, .int, .int, .int, .int, .int, .int, .int, .int, .int, .int, .int, .int, .int, .int, (.object "jdk/internal/access/JavaLangAccess"), .int]
  resolved := Array.replicate 378 none
  statics := none }

def pool15 : Array CpInfo := pool [(1, u "java/lang/Cloneable"), (0, .class_ 1), (0, u "java/lang/Object"), (0, .class_ 3)] 3

/-- java/lang/Cloneable -/
def k15 : Class := { plain "java/lang/Cloneable" (some 0) with
  accessFlags := 1537
  interfaces := #[]
  cf := some (fileOf pool15 2 #[] #[] 1537 4 #[] #[])
  fields := #[]
  methods := #[]
  instanceTypes := #[]
  staticTypes := #[]
  resolved := Array.replicate 8 none
  statics := none }

/-- the primitive byte -/
def k16 : Class := { plain "byte" none with kind := .primitive 'B', accessFlags := 0x411 }
/-- [B -/
def k17 : Class := { plain "[B" (some 0) with kind := .array 16 .byte, interfaces := #[15, 4], accessFlags := 1041 }

/-- the primitive char -/
def k18 : Class := { plain "char" none with kind := .primitive 'C', accessFlags := 0x411 }
/-- [C -/
def k19 : Class := { plain "[C" (some 0) with kind := .array 18 .char, interfaces := #[15, 4], accessFlags := 1041 }

/-- the primitive int -/
def k20 : Class := { plain "int" none with kind := .primitive 'I', accessFlags := 0x411 }
/-- [I -/
def k21 : Class := { plain "[I" (some 0) with kind := .array 20 .int, interfaces := #[15, 4], accessFlags := 1041 }

def heap : Heap := #[{ cls := 6, slots := #[.ref 3, .ref 4, .ref 5, .ref 6, .ref 7, .null], vm := .statics 6 },
  { cls := 9, slots := #[.long 0, .int 1, .null, .int 0, .null, .int 0, .int 0], vm := .statics 9 },
  { cls := 13, slots := #[.null, .null, .null], vm := .statics 13 },
  { cls := 6, slots := #[.null, .int 0, .int 0], vm := .none },
  { cls := 6, slots := #[.null, .int 1, .int 0], vm := .none },
  { cls := 6, slots := #[.null, .int 2, .int 0], vm := .none },
  { cls := 6, slots := #[.null, .int 3, .int 0], vm := .none },
  { cls := 6, slots := #[.null, .int 4, .int 0], vm := .none }]
def classes : Array Class := #[k0, k1, k2, k3, k4, k5, k6, k7, k8, k9, k10, k11, k12, k13, k14, k15, k16, k17, k18, k19, k20, k21]
def interned : List (Array UInt16 × Addr) := []
def slotsUsed : Nat := 31
def theMethod : MethodId := ⟨1, 3⟩
def args0 : Array Value := #[.int 5, .int 5, .int 5, .int 5, .int 5]
def aboutOver (below : List Frame) : State where
  vm := { classes := classes, interned := interned.toArray }
  heap := heap
  slotsUsed := slotsUsed
  threads := #[{ frames := .invoking theMethod args0 :: below }]
def below0 : List Frame := [.native { method := ⟨0, 0⟩, args := #[] }]
def about1 : State := aboutOver below0
def p0 : Program := .bare "" "" ""
def e0 : Env := launch0.env 0 0 0
theorem w_frames : about1.frames = Frame.invoking theMethod args0 :: below0 := rfl
set_option maxRecDepth 65536 in
theorem w_args : argsFit about1.vm theMethod args0 = true := by decide +kernel
set_option maxRecDepth 65536 in
theorem w_heap : heapFits about1 = true := by decide +kernel
set_option maxRecDepth 65536 in
theorem w_runnable : about1.curStatus? = some .runnable := by decide +kernel
set_option maxRecDepth 65536 in
theorem w_alone : about1.alone = true := by decide +kernel
set_option maxRecDepth 65536 in
theorem w_named : about1.methodNamed? x = some theMethod := by decide +kernel
set_option maxRecDepth 65536 in
theorem w_hears : about1.hears theMethod below0 = true := by decide +kernel
set_option maxRecDepth 65536 in
theorem w_ripe : about1.ripe theMethod args0 below0 = true := by decide +kernel
theorem w_running : about1.status = .running := rfl
set_option maxRecDepth 65536 in
theorem w_room : about1.hasRoom e0.platform room_1 = true :=
  launch0.hasRoom_least _ room_1 (by decide +kernel) (by decide +kernel) (by decide +kernel) (by decide +kernel) (by decide +kernel) (by decide +kernel)
theorem allAtoms_all (ts : List Jvm.Cond) (a : Array Jvm.Value) (st : Jvm.State) : (allAtoms ts).before a st = ts.all (fun c => c.before a st) := by
  induction ts with
  | nil => rfl
  | cons c t ih =>
    show (Jvm.Cond.and c (allAtoms t)).before a st = _
    rw [Jvm.Cond.before_and, ih, List.all_cons]
def words1 : List Jvm.Cond := Jvm.Cond.code x code maxLocals ret :: tables_1
/-- a 'code' word, met by the world's own term for the bytes: nothing is compared byte by byte -/
theorem code_word {y : MethodName} {bytes : ByteArray} {mx : Nat} {rt : Option FieldType} {a : Array Value} {s : State} {m : MethodId} {meth : Method} {c : Code} (h1 : s.methodNamed? y = some m) (h2 : s.vm.method? m = some meth) (h3 : meth.code = some c) (h4 : c.code = bytes)
    (h5 : (c.maxLocals == mx && c.exceptionTable.isEmpty && decide (c.maxStack ≤ mostOperands) && decide (meth.sig.returnType = rt) && !meth.locks && decide (parseMethodDescriptor y.desc = some meth.sig)) = true) : (Jvm.Cond.code y bytes mx rt).before a s = true := by
  simp only [Bool.and_eq_true, beq_iff_eq, Bool.not_eq_true', decide_eq_true_eq] at h5
  obtain ⟨⟨⟨⟨⟨g1, g2⟩, g3⟩, g4⟩, g5⟩, g6⟩ := h5
  simp [Cond.before, Cond.holds, Cond.value, h1, h2, h3, h4, g1, g2, g3, g4, g5, g6]
def isCode : Jvm.Cond → Bool
  | .code _ _ _ _ => true
  | _ => false
theorem all_split {L : List Jvm.Cond} {P : Jvm.Cond → Bool} (h1 : L.all (fun c => isCode c || P c) = true) (h2 : ∀ c ∈ L.filter isCode, P c = true) : L.all P = true := by
  refine List.all_eq_true.mpr fun c hc => ?_
  have h := List.all_eq_true.mp h1 c hc
  rcases Bool.eq_false_or_eq_true (isCode c) with hi | hi
  · exact h2 c (List.mem_filter.mpr ⟨hc, hi⟩)
  · simpa [hi] using h
set_option maxRecDepth 65536 in
theorem w_c0 : (Jvm.Cond.code x code maxLocals ret).before args0 about1 = true := code_word (m := ⟨1, 3⟩) (meth := k1m3) (c := k1c3) (by decide +kernel) rfl rfl rfl (by decide +kernel)
set_option maxRecDepth 65536 in
theorem w_c1 : (Jvm.Cond.code ({ cls := "com/example/covrage/covrage/model/TokenIsNamePinLaw", name := "kindOf", desc := "(I)Lcom/example/covrage/covrage/model/Lexer$Kind;" } : Jvm.MethodName) method_2_code (1 : Nat) (Option.some (Jvm.ClassFile.FieldType.object "com/example/covrage/covrage/model/Lexer$Kind"))).before args0 about1 = true := code_word (m := ⟨1, 1⟩) (meth := k1m1) (c := k1c1) (by decide +kernel) rfl rfl rfl (by decide +kernel)
set_option maxRecDepth 65536 in
theorem w_c2 : (Jvm.Cond.code ({ cls := "com/example/covrage/covrage/model/TokenIsNamePinLaw", name := "str", desc := "(ICC)Ljava/lang/String;" } : Jvm.MethodName) method_3_code (3 : Nat) (Option.some (Jvm.ClassFile.FieldType.object "java/lang/String"))).before args0 about1 = true := code_word (m := ⟨1, 2⟩) (meth := k1m2) (c := k1c2) (by decide +kernel) rfl rfl rfl (by decide +kernel)
set_option maxRecDepth 65536 in
theorem w_c3 : (Jvm.Cond.code ({ cls := "java/lang/String", name := "<init>", desc := "([C)V" } : Jvm.MethodName) jdk_42_method_3_code (2 : Nat) (Option.none : Option Jvm.ClassFile.FieldType)).before args0 about1 = true := code_word (m := ⟨9, 1⟩) (meth := k9m1) (c := k9c1) (by decide +kernel) rfl rfl rfl (by decide +kernel)
set_option maxRecDepth 65536 in
theorem w_c4 : (Jvm.Cond.code ({ cls := "java/lang/String", name := "<init>", desc := "([CIILjava/lang/Void;)V" } : Jvm.MethodName) jdk_42_method_149_code (6 : Nat) (Option.none : Option Jvm.ClassFile.FieldType)).before args0 about1 = true := code_word (m := ⟨9, 3⟩) (meth := k9m3) (c := k9c3) (by decide +kernel) rfl rfl rfl (by decide +kernel)
set_option maxRecDepth 65536 in
theorem w_c5 : (Jvm.Cond.code ({ cls := "java/lang/Object", name := "<init>", desc := "()V" } : Jvm.MethodName) object_method_1_code (1 : Nat) (Option.none : Option Jvm.ClassFile.FieldType)).before args0 about1 = true := code_word (m := ⟨0, 0⟩) (meth := k0m0) (c := k0c0) (by decide +kernel) rfl rfl rfl (by decide +kernel)
set_option maxRecDepth 65536 in
theorem w_c6 : (Jvm.Cond.code ({ cls := "com/example/covrage/covrage/model/Lexer$Token", name := "<init>", desc := "(Lcom/example/covrage/covrage/model/Lexer$Kind;Ljava/lang/String;I)V" } : Jvm.MethodName) prog_30_method_1_code (4 : Nat) (Option.none : Option Jvm.ClassFile.FieldType)).before args0 about1 = true := code_word (m := ⟨10, 0⟩) (meth := k10m0) (c := k10c0) (by decide +kernel) rfl rfl rfl (by decide +kernel)
set_option maxRecDepth 65536 in
theorem w_c7 : (Jvm.Cond.code ({ cls := "com/example/covrage/covrage/model/Lexer$Token", name := "isName", desc := "(Ljava/lang/String;)Z" } : Jvm.MethodName) prog_30_method_8_code (2 : Nat) (Option.some Jvm.ClassFile.FieldType.boolean)).before args0 about1 = true := code_word (m := ⟨10, 1⟩) (meth := k10m1) (c := k10c1) (by decide +kernel) rfl rfl rfl (by decide +kernel)
set_option maxRecDepth 65536 in
theorem w_c8 : (Jvm.Cond.code ({ cls := "java/lang/String", name := "equals", desc := "(Ljava/lang/Object;)Z" } : Jvm.MethodName) jdk_42_method_66_code (3 : Nat) (Option.some Jvm.ClassFile.FieldType.boolean)).before args0 about1 = true := code_word (m := ⟨9, 2⟩) (meth := k9m2) (c := k9c2) (by decide +kernel) rfl rfl rfl (by decide +kernel)
set_option maxRecDepth 65536 in
theorem w_c9 : (Jvm.Cond.code ({ cls := "java/lang/StringLatin1", name := "equals", desc := "([B[B)Z" } : Jvm.MethodName) jdk_43_method_13_code (3 : Nat) (Option.some Jvm.ClassFile.FieldType.boolean)).before args0 about1 = true := code_word (m := ⟨11, 1⟩) (meth := k11m1) (c := k11c1) (by decide +kernel) rfl rfl rfl (by decide +kernel)
set_option maxRecDepth 65536 in
theorem w_c10 : (Jvm.Cond.code ({ cls := "java/lang/StringUTF16", name := "compress", desc := "([CII)[B" } : Jvm.MethodName) jdk_52_method_16_code (6 : Nat) (Option.some (Jvm.ClassFile.FieldType.array Jvm.ClassFile.FieldType.byte))).before args0 about1 = true := code_word (m := ⟨12, 2⟩) (meth := k12m2) (c := k12c2) (by decide +kernel) rfl rfl rfl (by decide +kernel)
set_option maxRecDepth 65536 in
theorem w_c11 : (Jvm.Cond.code ({ cls := "java/lang/StringUTF16", name := "compress", desc := "([CI[BII)I" } : Jvm.MethodName) jdk_52_method_21_code (7 : Nat) (Option.some Jvm.ClassFile.FieldType.int)).before args0 about1 = true := code_word (m := ⟨12, 3⟩) (meth := k12m3) (c := k12c3) (by decide +kernel) rfl rfl rfl (by decide +kernel)
set_option maxRecDepth 65536 in
theorem w_c12 : (Jvm.Cond.code ({ cls := "java/lang/StringUTF16", name := "coderFromArrayLen", desc := "([BI)B" } : Jvm.MethodName) jdk_52_method_15_code (2 : Nat) (Option.some Jvm.ClassFile.FieldType.byte)).before args0 about1 = true := code_word (m := ⟨12, 1⟩) (meth := k12m1) (c := k12c1) (by decide +kernel) rfl rfl rfl (by decide +kernel)
def codes1 : List Jvm.Cond := [Jvm.Cond.code x code maxLocals ret, Jvm.Cond.code ({ cls := "com/example/covrage/covrage/model/TokenIsNamePinLaw", name := "kindOf", desc := "(I)Lcom/example/covrage/covrage/model/Lexer$Kind;" } : Jvm.MethodName) method_2_code (1 : Nat) (Option.some (Jvm.ClassFile.FieldType.object "com/example/covrage/covrage/model/Lexer$Kind")), Jvm.Cond.code ({ cls := "com/example/covrage/covrage/model/TokenIsNamePinLaw", name := "str", desc := "(ICC)Ljava/lang/String;" } : Jvm.MethodName) method_3_code (3 : Nat) (Option.some (Jvm.ClassFile.FieldType.object "java/lang/String")), Jvm.Cond.code ({ cls := "java/lang/String", name := "<init>", desc := "([C)V" } : Jvm.MethodName) jdk_42_method_3_code (2 : Nat) (Option.none : Option Jvm.ClassFile.FieldType), Jvm.Cond.code ({ cls := "java/lang/String", name := "<init>", desc := "([CIILjava/lang/Void;)V" } : Jvm.MethodName) jdk_42_method_149_code (6 : Nat) (Option.none : Option Jvm.ClassFile.FieldType), Jvm.Cond.code ({ cls := "java/lang/Object", name := "<init>", desc := "()V" } : Jvm.MethodName) object_method_1_code (1 : Nat) (Option.none : Option Jvm.ClassFile.FieldType), Jvm.Cond.code ({ cls := "com/example/covrage/covrage/model/Lexer$Token", name := "<init>", desc := "(Lcom/example/covrage/covrage/model/Lexer$Kind;Ljava/lang/String;I)V" } : Jvm.MethodName) prog_30_method_1_code (4 : Nat) (Option.none : Option Jvm.ClassFile.FieldType), Jvm.Cond.code ({ cls := "com/example/covrage/covrage/model/Lexer$Token", name := "isName", desc := "(Ljava/lang/String;)Z" } : Jvm.MethodName) prog_30_method_8_code (2 : Nat) (Option.some Jvm.ClassFile.FieldType.boolean), Jvm.Cond.code ({ cls := "java/lang/String", name := "equals", desc := "(Ljava/lang/Object;)Z" } : Jvm.MethodName) jdk_42_method_66_code (3 : Nat) (Option.some Jvm.ClassFile.FieldType.boolean), Jvm.Cond.code ({ cls := "java/lang/StringLatin1", name := "equals", desc := "([B[B)Z" } : Jvm.MethodName) jdk_43_method_13_code (3 : Nat) (Option.some Jvm.ClassFile.FieldType.boolean), Jvm.Cond.code ({ cls := "java/lang/StringUTF16", name := "compress", desc := "([CII)[B" } : Jvm.MethodName) jdk_52_method_16_code (6 : Nat) (Option.some (Jvm.ClassFile.FieldType.array Jvm.ClassFile.FieldType.byte)), Jvm.Cond.code ({ cls := "java/lang/StringUTF16", name := "compress", desc := "([CI[BII)I" } : Jvm.MethodName) jdk_52_method_21_code (7 : Nat) (Option.some Jvm.ClassFile.FieldType.int), Jvm.Cond.code ({ cls := "java/lang/StringUTF16", name := "coderFromArrayLen", desc := "([BI)B" } : Jvm.MethodName) jdk_52_method_15_code (2 : Nat) (Option.some Jvm.ClassFile.FieldType.byte)]
set_option maxRecDepth 65536 in
theorem codes_eq : words1.filter isCode = codes1 := rfl
theorem w_codes : ∀ c ∈ words1.filter isCode, c.before args0 about1 = true := by
  rw [codes_eq]
  intro c hc
  simp only [codes1, List.mem_cons, List.not_mem_nil, or_false] at hc
  rcases hc with rfl | rfl | rfl | rfl | rfl | rfl | rfl | rfl | rfl | rfl | rfl | rfl | rfl
  · exact w_c0
  · exact w_c1
  · exact w_c2
  · exact w_c3
  · exact w_c4
  · exact w_c5
  · exact w_c6
  · exact w_c7
  · exact w_c8
  · exact w_c9
  · exact w_c10
  · exact w_c11
  · exact w_c12
set_option maxRecDepth 65536 in
theorem w_t1 : (words1.take 24).all (fun c => isCode c || c.before args0 about1) = true := by decide +kernel
set_option maxRecDepth 65536 in
theorem w_t2 : ((words1.drop 24).take 24).all (fun c => isCode c || c.before args0 about1) = true := by decide +kernel
set_option maxRecDepth 65536 in
theorem w_t3 : (((words1.drop 24).drop 24).take 24).all (fun c => isCode c || c.before args0 about1) = true := by decide +kernel
set_option maxRecDepth 65536 in
theorem w_t4 : (((words1.drop 24).drop 24).drop 24).all (fun c => isCode c || c.before args0 about1) = true := by decide +kernel
theorem w_tables : (allAtoms (Jvm.Cond.code x code maxLocals ret :: tables_1)).before args0 about1 = true := by
  rw [allAtoms_all]
  show words1.all (fun c => c.before args0 about1) = true
  refine all_split ?_ w_codes
  rw [← List.take_append_drop 24 words1, List.all_append, w_t1, ← List.take_append_drop 24 (words1.drop 24), List.all_append, w_t2, ← List.take_append_drop 24 ((words1.drop 24).drop 24), List.all_append, w_t3, w_t4]
  rfl
set_option maxRecDepth 65536 in
theorem w_rest : rest_1_c.before args0 about1 = true := by decide +kernel
set_option maxRecDepth 65536 in
theorem w_case : (Jvm.Cond.and given_1 narrow_1).before args0 about1 = true := by decide +kernel
set_option maxRecDepth 65536 in
theorem w_consts : constsHeld consts_1 about1 := Jvm.Lit.constsHeldB_iff.mp (by decide +kernel)
theorem w_applies : (headSpec (Jvm.Cond.code x code maxLocals ret :: tables_1) room_1).applies x e0.platform about1 = true :=
  (Spec.applies_iff w_frames).mpr ⟨w_running, w_runnable, w_alone, w_named, w_hears, w_ripe, w_room, w_tables⟩
theorem atStart : AtStart classFile x code maxLocals ret World_1 tables_1 room_1 Calls_1 rest_1 Pre_1 launch0 p0 e0 about1 theMethod args0 below0 :=
  ⟨lists_1, trivial, launch0.admits_env _ _ _, launch0.least_env, fairChoices_fair.cas, fairChoices_fair.clock, w_frames, w_args, w_heap, w_applies, ⟨w_consts, trivial⟩, w_rest, w_case⟩
end start1
theorem witness_1 : WitnessClaimed_1 := ⟨start1.p0, start1.e0, start1.about1, start1.theMethod, start1.args0, start1.below0, start1.atStart⟩
end Jvm.Pilot.@@N@@
